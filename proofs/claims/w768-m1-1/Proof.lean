import JvmDerived
import JvmDerived.Pilot.@@N@@Statement
import JvmDerived.Pilot.@@N@@Code
set_option linter.unusedVariables false
set_option linter.unusedSimpArgs false

namespace Jvm.Own
open Jvm Jvm.ClassFile Sem Op Lib Jvm.Free Jvm.Stand Jvm.LawKit Jvm.RoadKit
/-! the heap as a law knows it: its own objects (address, class, fields) and arrays (address, kind, values) -/
abbrev OFld := String × String × String × Value
abbrev OObj := Addr × String × List OFld
abbrev OArr := Addr × FieldType × List Value
abbrev HD := List OObj × List OArr
def FldOk (Z : State) (a0 : Array Value) (h : Heap) (a : Addr) (C : String) (x : OFld) : Prop := Fld Z h a x.1 x.2.1 x.2.2.1 x.2.2.2 ∧ Laid Z a0 C x.1 x.2.1 x.2.2.1 ∧ ∃ t, parseFieldDescriptor x.2.2.1 = some t
def ObjOk (Z : State) (a0 : Array Value) (n0 : Nat) (h : Heap) (o : OObj) : Prop := n0 ≤ o.1 ∧ Exa Z h o.1 o.2.1 ∧ (∀ x ∈ o.2.2, FldOk Z a0 h o.1 o.2.1 x) ∧ (o.2.2.map fun x => x.2.1).Nodup
def ArrOk (Z : State) (n0 : Nat) (h : Heap) (r : OArr) : Prop := n0 ≤ r.1 ∧ ∃ c : Cell, Arr Z h r.1 c r.2.1 ∧ c.slots = r.2.2.toArray ∧ r.2.2.length < 2 ^ 31 ∧ ∀ v ∈ r.2.2, fits r.2.1 v = true
def adrs (D : HD) : List Addr := D.1.map (fun o => o.1) ++ D.2.map (fun r => r.1)
def Heaped (Z : State) (a0 : Array Value) (n0 : Nat) (h : Heap) (D : HD) : Prop := Old Z n0 h ∧ (∀ o ∈ D.1, ObjOk Z a0 n0 h o) ∧ (∀ r ∈ D.2, ArrOk Z n0 h r) ∧ (adrs D).Nodup
section HeapFacts
variable {Z : State} {a0 : Array Value} {n0 : Nat} {h h' : Heap} {D : HD}
theorem FldOk.ext {a : Addr} {C : String} {x : OFld} (F : FldOk Z a0 h a C x) (E : Ext h h') : FldOk Z a0 h' a C x := ⟨F.1.ext E, F.2⟩
theorem ObjOk.ext {o : OObj} (F : ObjOk Z a0 n0 h o) (E : Ext h h') : ObjOk Z a0 n0 h' o := ⟨F.1, F.2.1.ext E, fun x hx => (F.2.2.1 x hx).ext E, F.2.2.2⟩
theorem ArrOk.ext {r : OArr} (F : ArrOk Z n0 h r) (E : Ext h h') : ArrOk Z n0 h' r := by
  obtain ⟨g, c, A, q⟩ := F
  exact ⟨g, c, A.ext E, q⟩
theorem ObjOk.lt {o : OObj} (F : ObjOk Z a0 n0 h o) : o.1 < h.size := F.2.1.lt
theorem ArrOk.lt {r : OArr} (F : ArrOk Z n0 h r) : r.1 < h.size := by
  obtain ⟨g, c, A, q⟩ := F
  exact A.lt
theorem Heaped.lt (H : Heaped Z a0 n0 h D) : ∀ a ∈ adrs D, a < h.size := by
  intro a ha
  rcases List.mem_append.mp ha with q | q
  · obtain ⟨o, ho, rfl⟩ := List.mem_map.mp q
    exact (H.2.1 o ho).lt
  · obtain ⟨o, ho, rfl⟩ := List.mem_map.mp q
    exact (H.2.2.1 o ho).lt
theorem Heaped.fresh (H : Heaped Z a0 n0 h D) : h.size ∉ adrs D := fun q => Nat.lt_irrefl _ (H.lt _ q)
theorem Heaped.base (H : Heaped Z a0 n0 h D) : n0 ≤ h.size := by
  have := H.1.1
  have := H.1.2.1
  omega
theorem ObjOk.other {o : OObj} {a : Addr} {sl : Nat} {v : Value} (F : ObjOk Z a0 n0 h o) (W : Wr h h' a sl v) (q : o.1 ≠ a) : ObjOk Z a0 n0 h' o := ⟨F.1, F.2.1.wr W, fun x hx => ⟨(F.2.2.1 x hx).1.other W (Or.inl q), (F.2.2.1 x hx).2⟩, F.2.2.2⟩
theorem ArrOk.other {r : OArr} {a : Addr} {sl : Nat} {v : Value} (F : ArrOk Z n0 h r) (W : Wr h h' a sl v) (q : r.1 ≠ a) : ArrOk Z n0 h' r := by
  obtain ⟨g, c, A, z⟩ := F
  exact ⟨g, c, A.other W q, z⟩
theorem nodup_of {β γ : Type} {L : List β} {f : β → γ} (N : (L.map f).Nodup) {i j : Nat} {x z : β} (hi : L[i]? = some x) (hj : L[j]? = some z) (e : f x = f z) : i = j := by
  have P := List.pairwise_iff_getElem.mp N
  obtain ⟨li, ei⟩ := List.getElem?_eq_some_iff.mp hi
  obtain ⟨lj, ej⟩ := List.getElem?_eq_some_iff.mp hj
  rcases Nat.lt_trichotomy i j with q | q | q
  · exact absurd (by rw [List.getElem_map, List.getElem_map, ei, ej]; exact e) (P i j (by simpa using li) (by simpa using lj) q)
  · exact q
  · exact absurd (by rw [List.getElem_map, List.getElem_map, ei, ej]; exact e.symm) (P j i (by simpa using lj) (by simpa using li) q)
theorem map_set_same {β γ : Type} (L : List β) (f : β → γ) {i : Nat} {x z : β} (hi : L[i]? = some x) (e : f z = f x) : (L.set i z).map f = L.map f := by
  rw [List.map_set, e]
  obtain ⟨li, rfl⟩ := List.getElem?_eq_some_iff.mp hi
  apply List.ext_getElem?
  intro j
  by_cases q : i = j
  · subst q; simp [li]
  · simp [List.getElem?_set, q]
theorem mem_set_cases {β : Type} {L : List β} {i : Nat} {z w : β} (hw : w ∈ L.set i z) : w = z ∨ ∃ j, j ≠ i ∧ L[j]? = some w := by
  obtain ⟨j, hj⟩ := List.mem_iff_getElem?.mp hw
  rw [List.getElem?_set] at hj
  by_cases q : i = j
  · subst q
    by_cases lt : i < L.length
    · simp [lt] at hj; exact Or.inl hj.symm
    · simp [lt] at hj
  · rw [if_neg q] at hj
    exact Or.inr ⟨j, fun e => q e.symm, hj⟩
theorem Heaped.put {i j : Nat} {a : Addr} {C O n d : String} {fs : List OFld} {v w : Value} (H : Heaped Z a0 n0 h D) (hi : D.1[i]? = some (a, C, fs)) (hj : fs[j]? = some (O, n, d, w)) (W : Wr h h' a (RoadKit.slotOf Z O n d) v) :
    Heaped Z a0 n0 h' (D.1.set i (a, C, fs.set j (O, n, d, v)), D.2) := by
  have HO := H.2.1 _ (List.mem_of_getElem? hi)
  have ND := H.2.2.2
  refine ⟨H.1.wr W HO.1, fun o ho => ?_, fun r hr => ?_, ?_⟩
  · rcases mem_set_cases ho with rfl | ⟨k, hk, ek⟩
    · refine ⟨HO.1, HO.2.1.wr W, fun x hx => ?_, ?_⟩
      · rcases mem_set_cases hx with rfl | ⟨q, hq, eq⟩
        · have F := HO.2.2.1 _ (List.mem_of_getElem? hj)
          exact ⟨F.1.same W, F.2⟩
        · have F := HO.2.2.1 _ (List.mem_of_getElem? eq)
          have G := HO.2.2.1 _ (List.mem_of_getElem? hj)
          refine ⟨F.1.other W (Or.inr ?_), F.2⟩
          obtain ⟨t1, e1⟩ := F.2.2
          obtain ⟨t2, e2⟩ := G.2.2
          exact slot_ne F.2.1 G.2.1 (fun e => hq (nodup_of HO.2.2.2 eq hj e)) e1 e2
      · show ((fs.set j (O, n, d, v)).map fun x => x.2.1).Nodup
        rw [map_set_same fs (fun x => x.2.1) (z := (O, n, d, v)) hj rfl]; exact HO.2.2.2
    · refine (H.2.1 o (List.mem_of_getElem? ek)).other W fun e => hk ?_
      exact nodup_of (List.nodup_append.mp ND).1 ek hi e
  · refine (H.2.2.1 r hr).other W fun e => ?_
    exact (List.nodup_append.mp ND).2.2 a (List.mem_map.mpr ⟨_, List.mem_of_getElem? hi, rfl⟩) r.1 (List.mem_map.mpr ⟨_, hr, rfl⟩) e.symm
  · show (adrs (D.1.set i (a, C, fs.set j (O, n, d, v)), D.2)).Nodup
    have q : adrs (D.1.set i (a, C, fs.set j (O, n, d, v)), D.2) = adrs D := congrArg (fun q => q ++ D.2.map (fun r => r.1)) (map_set_same D.1 (fun o => o.1) (z := (a, C, fs.set j (O, n, d, v))) hi rfl)
    rw [q]; exact ND
theorem Heaped.store {i k : Nat} {a : Addr} {ty : FieldType} {vs : List Value} {v : Value} (H : Heaped Z a0 n0 h D) (hi : D.2[i]? = some (a, ty, vs)) (hv : fits ty v = true) (W : Wr h h' a k v) :
    Heaped Z a0 n0 h' (D.1, D.2.set i (a, ty, vs.set k v)) := by
  have HA := H.2.2.1 _ (List.mem_of_getElem? hi)
  have ND := H.2.2.2
  refine ⟨H.1.wr W HA.1, fun o ho => ?_, fun r hr => ?_, ?_⟩
  · refine (H.2.1 o ho).other W fun e => ?_
    exact (List.nodup_append.mp ND).2.2 o.1 (List.mem_map.mpr ⟨_, ho, rfl⟩) a (List.mem_map.mpr ⟨_, List.mem_of_getElem? hi, rfl⟩) e
  · rcases mem_set_cases hr with rfl | ⟨q, hq, eq⟩
    · obtain ⟨g, c, A, e1, e2, e3⟩ := HA
      refine ⟨g, _, A.same W, ?_, ?_, fun w hw => ?_⟩
      · show c.slots.setIfInBounds k v = _
        rw [e1]; simp
      · show (vs.set k v).length < _
        rw [List.length_set]; exact e2
      · rcases List.mem_or_eq_of_mem_set hw with q | q
        · exact e3 w q
        · rw [q]; exact hv
    · refine (H.2.2.1 r (List.mem_of_getElem? eq)).other W fun e => hq ?_
      exact nodup_of (List.nodup_append.mp ND).2.1 eq hi e
  · show (adrs (D.1, D.2.set i (a, ty, vs.set k v))).Nodup
    have q : adrs (D.1, D.2.set i (a, ty, vs.set k v)) = adrs D := congrArg (fun q => D.1.map (fun r => r.1) ++ q) (map_set_same D.2 (fun o => o.1) (z := (a, ty, vs.set k v)) hi rfl)
    rw [q]; exact ND
theorem Old.ext' {n0 : Nat} (X : Old Z n0 h) (E : Ext h h') : Old Z n0 h' := X.ext E
def FieldsOk (Z : State) (a0 : Array Value) (C : String) (fs : List OFld) : Prop := (∀ x ∈ fs, Laid Z a0 C x.1 x.2.1 x.2.2.1 ∧ ∃ ty, parseFieldDescriptor x.2.2.1 = some ty ∧ x.2.2.2 = defaultValue ty) ∧ (fs.map fun x => x.2.1).Nodup
theorem FieldsOk.nil (C : String) : FieldsOk Z a0 C [] := ⟨fun _ h => (nomatch h), List.nodup_nil⟩
theorem FieldsOk.cons {C O n d : String} {v : Value} {fs : List OFld} {ty : FieldType} (L : Laid Z a0 C O n d) (hty : parseFieldDescriptor d = some ty) (hv : v = defaultValue ty) (hn : n ∉ fs.map fun x => x.2.1) (F : FieldsOk Z a0 C fs) : FieldsOk Z a0 C ((O, n, d, v) :: fs) := by
  refine ⟨fun x hx => ?_, ?_⟩
  · rcases List.mem_cons.mp hx with rfl | hx
    · exact ⟨L, ty, hty, hv⟩
    · exact F.1 x hx
  · rw [List.map_cons]; exact List.nodup_cons.mpr ⟨hn, F.2⟩
theorem Heaped.new {C : String} {fs : List OFld} (H : Heaped Z a0 n0 h D) (E : Ext h h') (A : Exa Z h' h.size C) (F : FieldsOk Z a0 C fs)
    (Dv : ∀ {O nm d : String} {ty : FieldType}, Laid Z a0 C O nm d → parseFieldDescriptor d = some ty → Fld Z h' h.size O nm d (defaultValue ty)) : Heaped Z a0 n0 h' ((h.size, C, fs) :: D.1, D.2) := by
  refine ⟨H.1.ext E, fun o ho => ?_, fun r hr => (H.2.2.1 r hr).ext E, ?_⟩
  · rcases List.mem_cons.mp ho with rfl | ho
    · refine ⟨H.base, A, fun x hx => ?_, F.2⟩
      obtain ⟨L, ty, h1, h2⟩ := F.1 x hx
      exact ⟨by rw [h2]; exact Dv L h1, L, ty, h1⟩
    · exact (H.2.1 o ho).ext E
  · exact List.nodup_cons.mpr ⟨H.fresh, H.2.2.2⟩
theorem Heaped.newArr {ty : FieldType} {c : Cell} {vs : List Value} (H : Heaped Z a0 n0 h D) (E : Ext h h') (A : Arr Z h' h.size c ty) (e1 : c.slots = vs.toArray) (e2 : vs.length < 2 ^ 31) (e3 : ∀ v ∈ vs, fits ty v = true) : Heaped Z a0 n0 h' (D.1, (h.size, ty, vs) :: D.2) := by
  refine ⟨H.1.ext E, fun o ho => (H.2.1 o ho).ext E, fun r hr => ?_, ?_⟩
  · rcases List.mem_cons.mp hr with rfl | hr
    · exact ⟨H.base, c, A, e1, e2, e3⟩
    · exact (H.2.2.1 r hr).ext E
  · have q : (adrs (D.1, (h.size, ty, vs) :: D.2)).Perm (h.size :: adrs D) := by
      unfold adrs; simp only [List.map_cons]; exact List.perm_middle
    exact q.nodup_iff.mpr (List.nodup_cons.mpr ⟨H.fresh, H.2.2.2⟩)
theorem Heaped.perm {D' : HD} (H : Heaped Z a0 n0 h D) (q1 : D'.1.Perm D.1) (q2 : D'.2.Perm D.2) : Heaped Z a0 n0 h D' := by
  refine ⟨H.1, fun o ho => H.2.1 o (q1.mem_iff.mp ho), fun o ho => H.2.2.1 o (q2.mem_iff.mp ho), ?_⟩
  exact ((q1.map _).append (q2.map _)).nodup_iff.mpr H.2.2.2
def bringL {β : Type} (i : Nat) (L : List β) : List β := match L[i]? with
  | some x => x :: (L.take i ++ L.drop (i + 1))
  | none => L
theorem bringL_perm {β : Type} (i : Nat) (L : List β) : (bringL i L).Perm L := by
  unfold bringL
  split
  · rename_i x hx
    obtain ⟨li, rfl⟩ := List.getElem?_eq_some_iff.mp hx
    have q : L = L.take i ++ L[i] :: L.drop (i + 1) := by rw [← List.drop_eq_getElem_cons li, List.take_append_drop]
    have p := (List.perm_middle (a := L[i]) (l₁ := L.take i) (l₂ := L.drop (i + 1))).symm
    rw [← q] at p
    exact p
  · exact List.Perm.refl _
end HeapFacts
/-! a contract, and a run from a point of a body to its end -/
def Con (l : Launch) (Z : State) (a0 : Array Value) (n0 : Nat) (ws : List Jvm.Cond) (y : MethodName) (bytes : ByteArray) (maxL : Nat) (ret : Option FieldType) (rm : Room) (as' : Array Value) (D : HD) (Ψ : Option Value → HD → Prop) : Prop :=
  ∀ h, Heaped Z a0 n0 h D → MetFree l y (head1 (Jvm.Cond.code y bytes maxL ret :: ws) rm) (fun a U => a = as' ∧ Z.Warmed39 U.vm ∧ U.heap = h) (fun _ _ _ _ _ => True) (fun _ U o U' => ∃ v L, o = .returned v ∧ (Fr n0 L ∧ ∃ D', Ψ v D' ∧ Heaped Z a0 n0 U'.heap D') ∧ FrameEnd U o U' L rm.cells rm.slots)
def Run (Z : State) (a0 : Array Value) (n0 : Nat) (p : Program) (l : Launch) (e : Env) (R : Room) (s : State) (m : MethodId) (args : Array Value) (below : List Frame) (meth : Method) (c : Code) (Ψ : Option Value → HD → Prop) (D : HD) (cells slots pc : Nat) (L : Array Slot) (S : List Value) : Prop :=
  ∀ (T : State) (locs : List Loc), Stand p l e R s m args below meth c T locs cells slots → Fr n0 locs → Heaped Z a0 n0 T.heap D →
    ∃ t o, Steps p.tables e below (T.setTop (mkF m pc L S)) t ∧ t.status = .running ∧ Ended t below o ∧ ∃ v L', o = .returned v ∧ (Fr n0 L' ∧ ∃ D', Ψ v D' ∧ Heaped Z a0 n0 t.heap D') ∧ FrameEnd s o t L' R.cells R.slots
def Ctx (Z : State) (y : MethodName) (bytes : ByteArray) (maxL : Nat) (ret : Option FieldType) (p : Program) (s : State) (m : MethodId) (meth : Method) (c : Code) : Prop :=
  p.tables.exec = Jvm.exec ∧ Z.Warmed39 s.vm ∧ c.code = bytes ∧ c.maxLocals = maxL ∧ s.vm.findClass y.cls = some m.cls ∧ meth.name = y.name ∧ meth.sig.returnType = ret ∧ meth.locks = false
def Ret (v : Option Value) (D : HD) (w : Option Value) (E : HD) : Prop := w = v ∧ E = D
theorem Con.of_run {l : Launch} {Z : State} {a0 : Array Value} {n0 : Nat} {ws : List Jvm.Cond} {y : MethodName} {bytes : ByteArray} {maxL : Nat} {ret : Option FieldType} {rm : Room} {as' : Array Value} {D : HD} {Ψ : Option Value → HD → Prop} (hp : plainFor y = true) {L0 : Array Slot} (hL : ∀ m, entryFrame m as' maxL = mkF m 0 L0 [])
    (B : ∀ p e s m below meth c, Ctx Z y bytes maxL ret p s m meth c → Run Z a0 n0 p l e rm s m as' below meth c Ψ D 0 0 0 L0 []) : Con l Z a0 n0 ws y bytes maxL ret rm as' D Ψ := by
  intro h H
  refine MetFree.of_bodySF hp hisR ?_
  intro p e s m args below meth c s₁ Bd hml0 hP hK
  obtain ⟨rfl, hZ, hh⟩ := hP
  have e0 : s₁.heap = h := by rw [← hh, Bd.state]; rfl
  have X0 : Stand p l e rm s m args below meth c s₁ [] 0 0 := Stand.of_body Bd
  obtain ⟨t, o, st, r⟩ := B p e s m below meth c ⟨Bd.exec, hZ, Bd.bytes, hml0, findClass_of_methodNamed Bd.named, (name_of_methodNamed Bd.named Bd.method).1, Bd.returns, Bd.notSynchronized⟩ s₁ [] X0 (Fr.nil n0) (by rw [e0]; exact H)
  exact ⟨t, o, castTop (hL m) st, r⟩
def rel (cd : ClassFile.Cond) (x y : Int32) : Prop := match cd with
  | .eq => x = y
  | .ne => x ≠ y
  | .lt => x < y
  | .ge => y ≤ x
  | .gt => y < x
  | .le => x ≤ y
def relL (cd : ClassFile.Cond) (x y : Int64) : Prop := match cd with
  | .eq => x = y
  | .ne => x ≠ y
  | .lt => x < y
  | .ge => y ≤ x
  | .gt => y < x
  | .le => x ≤ y
theorem rel_iff (cd : ClassFile.Cond) (x y : Int32) : if_icmp.holds cd x y = true ↔ rel cd x y := by
  cases cd
  · show _ ↔ x = y
    by_cases q : x = y
    · rw [(teq q).1]; exact ⟨fun _ => q, fun _ => rfl⟩
    · rw [(feq q).1]; exact ⟨fun h => (Bool.noConfusion h), fun h => absurd h q⟩
  · show _ ↔ x ≠ y
    by_cases q : x = y
    · rw [(teq q).2]; exact ⟨fun h => (Bool.noConfusion h), fun h => absurd q h⟩
    · rw [(feq q).2]; exact ⟨fun _ => q, fun _ => rfl⟩
  · show _ ↔ x < y
    by_cases q : x < y
    · rw [(tlt q).1]; exact ⟨fun _ => q, fun _ => rfl⟩
    · rw [(flt q).1]; exact ⟨fun h => (Bool.noConfusion h), fun h => absurd h q⟩
  · show _ ↔ y ≤ x
    by_cases q : x < y
    · rw [(tlt q).2.1]; exact ⟨fun h => (Bool.noConfusion h), fun h => absurd q (Int32.not_lt.mpr h)⟩
    · rw [(flt q).2.1]; exact ⟨fun _ => Int32.not_lt.mp q, fun _ => rfl⟩
  · show _ ↔ y < x
    by_cases q : y < x
    · rw [(tlt q).2.2.1]; exact ⟨fun _ => q, fun _ => rfl⟩
    · rw [(flt q).2.2.1]; exact ⟨fun h => (Bool.noConfusion h), fun h => absurd h q⟩
  · show _ ↔ x ≤ y
    by_cases q : y < x
    · rw [(tlt q).2.2.2]; exact ⟨fun h => (Bool.noConfusion h), fun h => absurd q (Int32.not_lt.mpr h)⟩
    · rw [(flt q).2.2.2]; exact ⟨fun _ => Int32.not_lt.mp q, fun _ => rfl⟩
theorem relL_iff (cd : ClassFile.Cond) (x y : Int64) : if_icmp.holds cd (lcmpW x y) 0 = true ↔ relL cd x y := by
  rw [rel_iff, lcW]
  cases cd
  · exact lc_eq x y
  · exact not_congr (lc_eq x y)
  · exact lc_lt x y
  · exact lc_ge x y
  · exact lc_gt x y
  · exact lc_le x y
section Runs
variable {Z : State} {a0 : Array Value} {n0 : Nat} {p : Program} {l : Launch} {e : Env} {R : Room} {s : State} {m : MethodId} {args : Array Value} {below : List Frame} {meth : Method} {c : Code} {Ψ : Option Value → HD → Prop} {D : HD} {cells slots pc : Nat} {L : Array Slot} {S : List Value} {y : MethodName} {bytes : ByteArray} {maxL : Nat} {ret : Option FieldType}

theorem Run.iconst (K : Ctx Z y bytes maxL ret p s m meth c) {i : Int} {v : Int32} {pc' : Nat} (hd : decode bytes pc = .ok (.iconst i, 1)) (hp : pc + 1 = pc') (hv : Int32.ofInt i = v) (k : Run Z a0 n0 p l e R s m args below meth c Ψ D cells slots pc' L (.int v :: S)) : Run Z a0 n0 p l e R s m args below meth c Ψ D cells slots pc L S := by
  subst hp hv
  intro T locs X N H
  obtain ⟨t, o, st, r⟩ := k T locs X N H
  exact ⟨t, o, XS.iconst X.here K.1 rfl (hb K.2.2.1 hd) st, r⟩
theorem Run.bipush (K : Ctx Z y bytes maxL ret p s m meth c) {i : Int} {v : Int32} {pc' : Nat} (hd : decode bytes pc = .ok (.bipush i, 2)) (hp : pc + 2 = pc') (hv : (Int8.ofInt i).toInt32 = v) (k : Run Z a0 n0 p l e R s m args below meth c Ψ D cells slots pc' L (.int v :: S)) : Run Z a0 n0 p l e R s m args below meth c Ψ D cells slots pc L S := by
  subst hp hv
  intro T locs X N H
  obtain ⟨t, o, st, r⟩ := k T locs X N H
  exact ⟨t, o, XS.bipush X.here K.1 rfl (hb K.2.2.1 hd) st, r⟩
theorem Run.sipush (K : Ctx Z y bytes maxL ret p s m meth c) {i : Int} {v : Int32} {pc' : Nat} (hd : decode bytes pc = .ok (.sipush i, 3)) (hp : pc + 3 = pc') (hv : (Int16.ofInt i).toInt32 = v) (k : Run Z a0 n0 p l e R s m args below meth c Ψ D cells slots pc' L (.int v :: S)) : Run Z a0 n0 p l e R s m args below meth c Ψ D cells slots pc L S := by
  subst hp hv
  intro T locs X N H
  obtain ⟨t, o, st, r⟩ := k T locs X N H
  exact ⟨t, o, XS.sipush X.here K.1 rfl (hb K.2.2.1 hd) st, r⟩
theorem Run.lconst (K : Ctx Z y bytes maxL ret p s m meth c) {i : Fin 2} {v : Int64} {pc' : Nat} (hd : decode bytes pc = .ok (.lconst i, 1)) (hp : pc + 1 = pc') (hv : Int64.ofNat i = v) (k : Run Z a0 n0 p l e R s m args below meth c Ψ D cells slots pc' L (.long v :: S)) : Run Z a0 n0 p l e R s m args below meth c Ψ D cells slots pc L S := by
  subst hp hv
  intro T locs X N H
  obtain ⟨t, o, st, r⟩ := k T locs X N H
  exact ⟨t, o, XS.lconst X.here K.1 rfl (hb K.2.2.1 hd) st, r⟩
theorem Run.aconstNull (K : Ctx Z y bytes maxL ret p s m meth c) {pc' : Nat} (hd : decode bytes pc = .ok (.aconst_null, 1)) (hp : pc + 1 = pc') (k : Run Z a0 n0 p l e R s m args below meth c Ψ D cells slots pc' L (.null :: S)) : Run Z a0 n0 p l e R s m args below meth c Ψ D cells slots pc L S := by
  subst hp
  intro T locs X N H
  obtain ⟨t, o, st, r⟩ := k T locs X N H
  exact ⟨t, o, XS.aconstNull X.here K.1 rfl (hb K.2.2.1 hd) st, r⟩
theorem Run.iadd (K : Ctx Z y bytes maxL ret p s m meth c) {x z : Int32} {pc' : Nat} (hd : decode bytes pc = .ok (.iadd, 1)) (hp : pc + 1 = pc') (k : Run Z a0 n0 p l e R s m args below meth c Ψ D cells slots pc' L (.int (x + z) :: S)) : Run Z a0 n0 p l e R s m args below meth c Ψ D cells slots pc L (.int z :: .int x :: S) := by
  subst hp
  intro T locs X N H
  obtain ⟨t, o, st, r⟩ := k T locs X N H
  exact ⟨t, o, XS.iadd X.here K.1 rfl (hb K.2.2.1 hd) rfl st, r⟩
theorem Run.isub (K : Ctx Z y bytes maxL ret p s m meth c) {x z : Int32} {pc' : Nat} (hd : decode bytes pc = .ok (.isub, 1)) (hp : pc + 1 = pc') (k : Run Z a0 n0 p l e R s m args below meth c Ψ D cells slots pc' L (.int (x - z) :: S)) : Run Z a0 n0 p l e R s m args below meth c Ψ D cells slots pc L (.int z :: .int x :: S) := by
  subst hp
  intro T locs X N H
  obtain ⟨t, o, st, r⟩ := k T locs X N H
  exact ⟨t, o, XS.isub X.here K.1 rfl (hb K.2.2.1 hd) rfl st, r⟩
theorem Run.imul (K : Ctx Z y bytes maxL ret p s m meth c) {x z : Int32} {pc' : Nat} (hd : decode bytes pc = .ok (.imul, 1)) (hp : pc + 1 = pc') (k : Run Z a0 n0 p l e R s m args below meth c Ψ D cells slots pc' L (.int (x * z) :: S)) : Run Z a0 n0 p l e R s m args below meth c Ψ D cells slots pc L (.int z :: .int x :: S) := by
  subst hp
  intro T locs X N H
  obtain ⟨t, o, st, r⟩ := k T locs X N H
  exact ⟨t, o, XS.imul X.here K.1 rfl (hb K.2.2.1 hd) rfl st, r⟩
theorem Run.iand (K : Ctx Z y bytes maxL ret p s m meth c) {x z : Int32} {pc' : Nat} (hd : decode bytes pc = .ok (.iand, 1)) (hp : pc + 1 = pc') (k : Run Z a0 n0 p l e R s m args below meth c Ψ D cells slots pc' L (.int (x &&& z) :: S)) : Run Z a0 n0 p l e R s m args below meth c Ψ D cells slots pc L (.int z :: .int x :: S) := by
  subst hp
  intro T locs X N H
  obtain ⟨t, o, st, r⟩ := k T locs X N H
  exact ⟨t, o, XS.iand X.here K.1 rfl (hb K.2.2.1 hd) rfl st, r⟩
theorem Run.ior (K : Ctx Z y bytes maxL ret p s m meth c) {x z : Int32} {pc' : Nat} (hd : decode bytes pc = .ok (.ior, 1)) (hp : pc + 1 = pc') (k : Run Z a0 n0 p l e R s m args below meth c Ψ D cells slots pc' L (.int (x ||| z) :: S)) : Run Z a0 n0 p l e R s m args below meth c Ψ D cells slots pc L (.int z :: .int x :: S) := by
  subst hp
  intro T locs X N H
  obtain ⟨t, o, st, r⟩ := k T locs X N H
  exact ⟨t, o, XS.ior X.here K.1 rfl (hb K.2.2.1 hd) rfl st, r⟩
theorem Run.ixor (K : Ctx Z y bytes maxL ret p s m meth c) {x z : Int32} {pc' : Nat} (hd : decode bytes pc = .ok (.ixor, 1)) (hp : pc + 1 = pc') (k : Run Z a0 n0 p l e R s m args below meth c Ψ D cells slots pc' L (.int (x ^^^ z) :: S)) : Run Z a0 n0 p l e R s m args below meth c Ψ D cells slots pc L (.int z :: .int x :: S) := by
  subst hp
  intro T locs X N H
  obtain ⟨t, o, st, r⟩ := k T locs X N H
  exact ⟨t, o, XS.ixor X.here K.1 rfl (hb K.2.2.1 hd) rfl st, r⟩
theorem Run.ishl (K : Ctx Z y bytes maxL ret p s m meth c) {x z : Int32} {pc' : Nat} (hd : decode bytes pc = .ok (.ishl, 1)) (hp : pc + 1 = pc') (k : Run Z a0 n0 p l e R s m args below meth c Ψ D cells slots pc' L (.int (x <<< (z &&& 31)) :: S)) : Run Z a0 n0 p l e R s m args below meth c Ψ D cells slots pc L (.int z :: .int x :: S) := by
  subst hp
  intro T locs X N H
  obtain ⟨t, o, st, r⟩ := k T locs X N H
  exact ⟨t, o, XS.ishl X.here K.1 rfl (hb K.2.2.1 hd) rfl st, r⟩
theorem Run.ishr (K : Ctx Z y bytes maxL ret p s m meth c) {x z : Int32} {pc' : Nat} (hd : decode bytes pc = .ok (.ishr, 1)) (hp : pc + 1 = pc') (k : Run Z a0 n0 p l e R s m args below meth c Ψ D cells slots pc' L (.int (x >>> (z &&& 31)) :: S)) : Run Z a0 n0 p l e R s m args below meth c Ψ D cells slots pc L (.int z :: .int x :: S) := by
  subst hp
  intro T locs X N H
  obtain ⟨t, o, st, r⟩ := k T locs X N H
  exact ⟨t, o, XS.ishr X.here K.1 rfl (hb K.2.2.1 hd) rfl st, r⟩
theorem Run.iushr (K : Ctx Z y bytes maxL ret p s m meth c) {x z : Int32} {pc' : Nat} (hd : decode bytes pc = .ok (.iushr, 1)) (hp : pc + 1 = pc') (k : Run Z a0 n0 p l e R s m args below meth c Ψ D cells slots pc' L (.int ((x.toUInt32 >>> (z &&& 31).toUInt32).toInt32) :: S)) : Run Z a0 n0 p l e R s m args below meth c Ψ D cells slots pc L (.int z :: .int x :: S) := by
  subst hp
  intro T locs X N H
  obtain ⟨t, o, st, r⟩ := k T locs X N H
  exact ⟨t, o, XS.iushr X.here K.1 rfl (hb K.2.2.1 hd) rfl st, r⟩
theorem Run.idiv (K : Ctx Z y bytes maxL ret p s m meth c) {x z : Int32} {pc' : Nat} (hd : decode bytes pc = .ok (.idiv, 1)) (hp : pc + 1 = pc') (hz : z ≠ 0) (k : Run Z a0 n0 p l e R s m args below meth c Ψ D cells slots pc' L (.int (x / z) :: S)) : Run Z a0 n0 p l e R s m args below meth c Ψ D cells slots pc L (.int z :: .int x :: S) := by
  subst hp
  intro T locs X N H
  obtain ⟨t, o, st, r⟩ := k T locs X N H
  exact ⟨t, o, XS.idiv X.here K.1 rfl (hb K.2.2.1 hd) rfl hz st, r⟩
theorem Run.irem (K : Ctx Z y bytes maxL ret p s m meth c) {x z : Int32} {pc' : Nat} (hd : decode bytes pc = .ok (.irem, 1)) (hp : pc + 1 = pc') (hz : z ≠ 0) (k : Run Z a0 n0 p l e R s m args below meth c Ψ D cells slots pc' L (.int (x % z) :: S)) : Run Z a0 n0 p l e R s m args below meth c Ψ D cells slots pc L (.int z :: .int x :: S) := by
  subst hp
  intro T locs X N H
  obtain ⟨t, o, st, r⟩ := k T locs X N H
  exact ⟨t, o, iremM X K.1 rfl (hb K.2.2.1 hd) rfl hz st, r⟩
theorem Run.ineg (K : Ctx Z y bytes maxL ret p s m meth c) {x : Int32} {pc' : Nat} (hd : decode bytes pc = .ok (.ineg, 1)) (hp : pc + 1 = pc') (k : Run Z a0 n0 p l e R s m args below meth c Ψ D cells slots pc' L (.int (-x) :: S)) : Run Z a0 n0 p l e R s m args below meth c Ψ D cells slots pc L (.int x :: S) := by
  subst hp
  intro T locs X N H
  obtain ⟨t, o, st, r⟩ := k T locs X N H
  exact ⟨t, o, XS.ineg X.here K.1 rfl (hb K.2.2.1 hd) rfl st, r⟩
theorem Run.ladd (K : Ctx Z y bytes maxL ret p s m meth c) {x z : Int64} {pc' : Nat} (hd : decode bytes pc = .ok (.ladd, 1)) (hp : pc + 1 = pc') (k : Run Z a0 n0 p l e R s m args below meth c Ψ D cells slots pc' L (.long (x + z) :: S)) : Run Z a0 n0 p l e R s m args below meth c Ψ D cells slots pc L (.long z :: .long x :: S) := by
  subst hp
  intro T locs X N H
  obtain ⟨t, o, st, r⟩ := k T locs X N H
  exact ⟨t, o, XS.ladd X.here K.1 rfl (hb K.2.2.1 hd) rfl st, r⟩
theorem Run.lsub (K : Ctx Z y bytes maxL ret p s m meth c) {x z : Int64} {pc' : Nat} (hd : decode bytes pc = .ok (.lsub, 1)) (hp : pc + 1 = pc') (k : Run Z a0 n0 p l e R s m args below meth c Ψ D cells slots pc' L (.long (x - z) :: S)) : Run Z a0 n0 p l e R s m args below meth c Ψ D cells slots pc L (.long z :: .long x :: S) := by
  subst hp
  intro T locs X N H
  obtain ⟨t, o, st, r⟩ := k T locs X N H
  exact ⟨t, o, XS.lsub X.here K.1 rfl (hb K.2.2.1 hd) rfl st, r⟩
theorem Run.lmul (K : Ctx Z y bytes maxL ret p s m meth c) {x z : Int64} {pc' : Nat} (hd : decode bytes pc = .ok (.lmul, 1)) (hp : pc + 1 = pc') (k : Run Z a0 n0 p l e R s m args below meth c Ψ D cells slots pc' L (.long (x * z) :: S)) : Run Z a0 n0 p l e R s m args below meth c Ψ D cells slots pc L (.long z :: .long x :: S) := by
  subst hp
  intro T locs X N H
  obtain ⟨t, o, st, r⟩ := k T locs X N H
  exact ⟨t, o, XS.lmul X.here K.1 rfl (hb K.2.2.1 hd) rfl st, r⟩
theorem Run.land (K : Ctx Z y bytes maxL ret p s m meth c) {x z : Int64} {pc' : Nat} (hd : decode bytes pc = .ok (.land, 1)) (hp : pc + 1 = pc') (k : Run Z a0 n0 p l e R s m args below meth c Ψ D cells slots pc' L (.long (x &&& z) :: S)) : Run Z a0 n0 p l e R s m args below meth c Ψ D cells slots pc L (.long z :: .long x :: S) := by
  subst hp
  intro T locs X N H
  obtain ⟨t, o, st, r⟩ := k T locs X N H
  exact ⟨t, o, XS.land X.here K.1 rfl (hb K.2.2.1 hd) rfl st, r⟩
theorem Run.lor (K : Ctx Z y bytes maxL ret p s m meth c) {x z : Int64} {pc' : Nat} (hd : decode bytes pc = .ok (.lor, 1)) (hp : pc + 1 = pc') (k : Run Z a0 n0 p l e R s m args below meth c Ψ D cells slots pc' L (.long (x ||| z) :: S)) : Run Z a0 n0 p l e R s m args below meth c Ψ D cells slots pc L (.long z :: .long x :: S) := by
  subst hp
  intro T locs X N H
  obtain ⟨t, o, st, r⟩ := k T locs X N H
  exact ⟨t, o, XS.lor X.here K.1 rfl (hb K.2.2.1 hd) rfl st, r⟩
theorem Run.lxor (K : Ctx Z y bytes maxL ret p s m meth c) {x z : Int64} {pc' : Nat} (hd : decode bytes pc = .ok (.lxor, 1)) (hp : pc + 1 = pc') (k : Run Z a0 n0 p l e R s m args below meth c Ψ D cells slots pc' L (.long (x ^^^ z) :: S)) : Run Z a0 n0 p l e R s m args below meth c Ψ D cells slots pc L (.long z :: .long x :: S) := by
  subst hp
  intro T locs X N H
  obtain ⟨t, o, st, r⟩ := k T locs X N H
  exact ⟨t, o, XS.lxor X.here K.1 rfl (hb K.2.2.1 hd) rfl st, r⟩
theorem Run.ldiv (K : Ctx Z y bytes maxL ret p s m meth c) {x z : Int64} {pc' : Nat} (hd : decode bytes pc = .ok (.ldiv, 1)) (hp : pc + 1 = pc') (hz : z ≠ 0) (k : Run Z a0 n0 p l e R s m args below meth c Ψ D cells slots pc' L (.long (x / z) :: S)) : Run Z a0 n0 p l e R s m args below meth c Ψ D cells slots pc L (.long z :: .long x :: S) := by
  subst hp
  intro T locs X N H
  obtain ⟨t, o, st, r⟩ := k T locs X N H
  exact ⟨t, o, XS.ldiv X.here K.1 rfl (hb K.2.2.1 hd) rfl hz st, r⟩
theorem Run.lrem (K : Ctx Z y bytes maxL ret p s m meth c) {x z : Int64} {pc' : Nat} (hd : decode bytes pc = .ok (.lrem, 1)) (hp : pc + 1 = pc') (hz : z ≠ 0) (k : Run Z a0 n0 p l e R s m args below meth c Ψ D cells slots pc' L (.long (x % z) :: S)) : Run Z a0 n0 p l e R s m args below meth c Ψ D cells slots pc L (.long z :: .long x :: S) := by
  subst hp
  rw [← lrem_mod] at k
  intro T locs X N H
  obtain ⟨t, o, st, r⟩ := k T locs X N H
  exact ⟨t, o, XS.lrem X.here K.1 rfl (hb K.2.2.1 hd) rfl hz st, r⟩
theorem Run.lneg (K : Ctx Z y bytes maxL ret p s m meth c) {x : Int64} {pc' : Nat} (hd : decode bytes pc = .ok (.lneg, 1)) (hp : pc + 1 = pc') (k : Run Z a0 n0 p l e R s m args below meth c Ψ D cells slots pc' L (.long (-x) :: S)) : Run Z a0 n0 p l e R s m args below meth c Ψ D cells slots pc L (.long x :: S) := by
  subst hp
  intro T locs X N H
  obtain ⟨t, o, st, r⟩ := k T locs X N H
  exact ⟨t, o, XS.lneg X.here K.1 rfl (hb K.2.2.1 hd) rfl st, r⟩
theorem Run.lshl (K : Ctx Z y bytes maxL ret p s m meth c) {x : Int64} {z : Int32} {pc' : Nat} (hd : decode bytes pc = .ok (.lshl, 1)) (hp : pc + 1 = pc') (k : Run Z a0 n0 p l e R s m args below meth c Ψ D cells slots pc' L (.long (x <<< (z &&& 0x3f).toInt64) :: S)) : Run Z a0 n0 p l e R s m args below meth c Ψ D cells slots pc L (.int z :: .long x :: S) := by
  subst hp
  intro T locs X N H
  obtain ⟨t, o, st, r⟩ := k T locs X N H
  exact ⟨t, o, XS.lshl X.here K.1 rfl (hb K.2.2.1 hd) rfl st, r⟩
theorem Run.lshr (K : Ctx Z y bytes maxL ret p s m meth c) {x : Int64} {z : Int32} {pc' : Nat} (hd : decode bytes pc = .ok (.lshr, 1)) (hp : pc + 1 = pc') (k : Run Z a0 n0 p l e R s m args below meth c Ψ D cells slots pc' L (.long (x >>> (z &&& 0x3f).toInt64) :: S)) : Run Z a0 n0 p l e R s m args below meth c Ψ D cells slots pc L (.int z :: .long x :: S) := by
  subst hp
  intro T locs X N H
  obtain ⟨t, o, st, r⟩ := k T locs X N H
  exact ⟨t, o, XS.lshr X.here K.1 rfl (hb K.2.2.1 hd) rfl st, r⟩
theorem Run.lushr (K : Ctx Z y bytes maxL ret p s m meth c) {x : Int64} {z : Int32} {pc' : Nat} (hd : decode bytes pc = .ok (.lushr, 1)) (hp : pc + 1 = pc') (k : Run Z a0 n0 p l e R s m args below meth c Ψ D cells slots pc' L (.long ((x.toUInt64 >>> (z &&& 0x3f).toInt64.toUInt64).toInt64) :: S)) : Run Z a0 n0 p l e R s m args below meth c Ψ D cells slots pc L (.int z :: .long x :: S) := by
  subst hp
  intro T locs X N H
  obtain ⟨t, o, st, r⟩ := k T locs X N H
  exact ⟨t, o, XS.lushr X.here K.1 rfl (hb K.2.2.1 hd) rfl st, r⟩
theorem Run.i2l (K : Ctx Z y bytes maxL ret p s m meth c) {x : Int32} {pc' : Nat} (hd : decode bytes pc = .ok (.i2l, 1)) (hp : pc + 1 = pc') (k : Run Z a0 n0 p l e R s m args below meth c Ψ D cells slots pc' L (.long (x.toInt64) :: S)) : Run Z a0 n0 p l e R s m args below meth c Ψ D cells slots pc L (.int x :: S) := by
  subst hp
  intro T locs X N H
  obtain ⟨t, o, st, r⟩ := k T locs X N H
  exact ⟨t, o, XS.i2l X.here K.1 rfl (hb K.2.2.1 hd) rfl st, r⟩
theorem Run.l2i (K : Ctx Z y bytes maxL ret p s m meth c) {x : Int64} {pc' : Nat} (hd : decode bytes pc = .ok (.l2i, 1)) (hp : pc + 1 = pc') (k : Run Z a0 n0 p l e R s m args below meth c Ψ D cells slots pc' L (.int (x.toInt32) :: S)) : Run Z a0 n0 p l e R s m args below meth c Ψ D cells slots pc L (.long x :: S) := by
  subst hp
  intro T locs X N H
  obtain ⟨t, o, st, r⟩ := k T locs X N H
  exact ⟨t, o, XS.l2i X.here K.1 rfl (hb K.2.2.1 hd) rfl st, r⟩
theorem Run.i2b (K : Ctx Z y bytes maxL ret p s m meth c) {x : Int32} {pc' : Nat} (hd : decode bytes pc = .ok (.i2b, 1)) (hp : pc + 1 = pc') (k : Run Z a0 n0 p l e R s m args below meth c Ψ D cells slots pc' L (.int (x.toInt8.toInt32) :: S)) : Run Z a0 n0 p l e R s m args below meth c Ψ D cells slots pc L (.int x :: S) := by
  subst hp
  intro T locs X N H
  obtain ⟨t, o, st, r⟩ := k T locs X N H
  exact ⟨t, o, XS.i2b X.here K.1 rfl (hb K.2.2.1 hd) rfl st, r⟩
theorem Run.i2c (K : Ctx Z y bytes maxL ret p s m meth c) {x : Int32} {pc' : Nat} (hd : decode bytes pc = .ok (.i2c, 1)) (hp : pc + 1 = pc') (k : Run Z a0 n0 p l e R s m args below meth c Ψ D cells slots pc' L (.int (x.toUInt32.toUInt16.toUInt32.toInt32) :: S)) : Run Z a0 n0 p l e R s m args below meth c Ψ D cells slots pc L (.int x :: S) := by
  subst hp
  intro T locs X N H
  obtain ⟨t, o, st, r⟩ := k T locs X N H
  exact ⟨t, o, XS.i2c X.here K.1 rfl (hb K.2.2.1 hd) rfl st, r⟩
theorem Run.i2s (K : Ctx Z y bytes maxL ret p s m meth c) {x : Int32} {pc' : Nat} (hd : decode bytes pc = .ok (.i2s, 1)) (hp : pc + 1 = pc') (k : Run Z a0 n0 p l e R s m args below meth c Ψ D cells slots pc' L (.int (x.toInt16.toInt32) :: S)) : Run Z a0 n0 p l e R s m args below meth c Ψ D cells slots pc L (.int x :: S) := by
  subst hp
  intro T locs X N H
  obtain ⟨t, o, st, r⟩ := k T locs X N H
  exact ⟨t, o, XS.i2s X.here K.1 rfl (hb K.2.2.1 hd) rfl st, r⟩
theorem Run.lcmp (K : Ctx Z y bytes maxL ret p s m meth c) {x z : Int64} {pc' : Nat} (hd : decode bytes pc = .ok (.lcmp, 1)) (hp : pc + 1 = pc') (k : Run Z a0 n0 p l e R s m args below meth c Ψ D cells slots pc' L (.int (lcmpW x z) :: S)) : Run Z a0 n0 p l e R s m args below meth c Ψ D cells slots pc L (.long z :: .long x :: S) := by
  subst hp
  intro T locs X N H
  obtain ⟨t, o, st, r⟩ := k T locs X N H
  exact ⟨t, o, XS.lcmp X.here K.1 rfl (hb K.2.2.1 hd) rfl st, r⟩
theorem Run.dup (K : Ctx Z y bytes maxL ret p s m meth c) {v : Value} {pc' : Nat} (hd : decode bytes pc = .ok (.dup, 1)) (hp : pc + 1 = pc') (hc : v.category = 1) (k : Run Z a0 n0 p l e R s m args below meth c Ψ D cells slots pc' L (v :: v :: S)) : Run Z a0 n0 p l e R s m args below meth c Ψ D cells slots pc L (v :: S) := by
  subst hp
  intro T locs X N H
  obtain ⟨t, o, st, r⟩ := k T locs X N H
  exact ⟨t, o, XS.dup X.here K.1 rfl (hb K.2.2.1 hd) rfl hc st, r⟩
theorem Run.pop (K : Ctx Z y bytes maxL ret p s m meth c) {v : Value} {pc' : Nat} (hd : decode bytes pc = .ok (.pop, 1)) (hp : pc + 1 = pc') (hc : v.category = 1) (k : Run Z a0 n0 p l e R s m args below meth c Ψ D cells slots pc' L S) : Run Z a0 n0 p l e R s m args below meth c Ψ D cells slots pc L (v :: S) := by
  subst hp
  intro T locs X N H
  obtain ⟨t, o, st, r⟩ := k T locs X N H
  exact ⟨t, o, XS.pop X.here K.1 rfl (hb K.2.2.1 hd) rfl hc st, r⟩
theorem Run.dupX1 (K : Ctx Z y bytes maxL ret p s m meth c) {v w : Value} {pc' : Nat} (hd : decode bytes pc = .ok (.dup_x1, 1)) (hp : pc + 1 = pc') (hc : v.category = 1) (hc2 : w.category = 1) (k : Run Z a0 n0 p l e R s m args below meth c Ψ D cells slots pc' L (v :: w :: v :: S)) : Run Z a0 n0 p l e R s m args below meth c Ψ D cells slots pc L (v :: w :: S) := by
  subst hp
  intro T locs X N H
  obtain ⟨t, o, st, r⟩ := k T locs X N H
  exact ⟨t, o, XS.dupX1 X.here K.1 rfl (hb K.2.2.1 hd) rfl hc hc2 st, r⟩
theorem Run.iload (K : Ctx Z y bytes maxL ret p s m meth c) {j : Nat} {v : Int32} {pc' : Nat} (hd : decode bytes pc = .ok (.iload j, 2)) (hp : pc + 2 = pc') (hl : L[j]? = some (.val (.int v))) (k : Run Z a0 n0 p l e R s m args below meth c Ψ D cells slots pc' L (.int v :: S)) : Run Z a0 n0 p l e R s m args below meth c Ψ D cells slots pc L S := by
  subst hp
  intro T locs X N H
  obtain ⟨t, o, st, r⟩ := k T locs X N H
  exact ⟨t, o, XS.iload X.here K.1 rfl (hb K.2.2.1 hd) hl st, r⟩
theorem Run.iloadN (K : Ctx Z y bytes maxL ret p s m meth c) {j : Fin 4} {v : Int32} {pc' : Nat} (hd : decode bytes pc = .ok (.iload_n j, 1)) (hp : pc + 1 = pc') (hl : L[j.val]? = some (.val (.int v))) (k : Run Z a0 n0 p l e R s m args below meth c Ψ D cells slots pc' L (.int v :: S)) : Run Z a0 n0 p l e R s m args below meth c Ψ D cells slots pc L S := by
  subst hp
  intro T locs X N H
  obtain ⟨t, o, st, r⟩ := k T locs X N H
  exact ⟨t, o, XS.iloadN X.here K.1 rfl (hb K.2.2.1 hd) hl st, r⟩
theorem Run.istore (K : Ctx Z y bytes maxL ret p s m meth c) {j : Nat} {v : Int32} {L' : Array Slot} {pc' : Nat} (hd : decode bytes pc = .ok (.istore j, 2)) (hp : pc + 2 = pc') (hl : storeLocals L j (.int v) = some L') (k : Run Z a0 n0 p l e R s m args below meth c Ψ D cells slots pc' L' S) : Run Z a0 n0 p l e R s m args below meth c Ψ D cells slots pc L (.int v :: S) := by
  subst hp
  intro T locs X N H
  obtain ⟨t, o, st, r⟩ := k T locs X N H
  exact ⟨t, o, XS.istore X.here K.1 rfl (hb K.2.2.1 hd) rfl hl st, r⟩
theorem Run.istoreN (K : Ctx Z y bytes maxL ret p s m meth c) {j : Fin 4} {v : Int32} {L' : Array Slot} {pc' : Nat} (hd : decode bytes pc = .ok (.istore_n j, 1)) (hp : pc + 1 = pc') (hl : storeLocals L j.val (.int v) = some L') (k : Run Z a0 n0 p l e R s m args below meth c Ψ D cells slots pc' L' S) : Run Z a0 n0 p l e R s m args below meth c Ψ D cells slots pc L (.int v :: S) := by
  subst hp
  intro T locs X N H
  obtain ⟨t, o, st, r⟩ := k T locs X N H
  exact ⟨t, o, XS.istoreN X.here K.1 rfl (hb K.2.2.1 hd) rfl hl st, r⟩
theorem Run.lload (K : Ctx Z y bytes maxL ret p s m meth c) {j : Nat} {v : Int64} {pc' : Nat} (hd : decode bytes pc = .ok (.lload j, 2)) (hp : pc + 2 = pc') (hl : L[j]? = some (.val (.long v))) (k : Run Z a0 n0 p l e R s m args below meth c Ψ D cells slots pc' L (.long v :: S)) : Run Z a0 n0 p l e R s m args below meth c Ψ D cells slots pc L S := by
  subst hp
  intro T locs X N H
  obtain ⟨t, o, st, r⟩ := k T locs X N H
  exact ⟨t, o, XS.lload X.here K.1 rfl (hb K.2.2.1 hd) hl st, r⟩
theorem Run.lloadN (K : Ctx Z y bytes maxL ret p s m meth c) {j : Fin 4} {v : Int64} {pc' : Nat} (hd : decode bytes pc = .ok (.lload_n j, 1)) (hp : pc + 1 = pc') (hl : L[j.val]? = some (.val (.long v))) (k : Run Z a0 n0 p l e R s m args below meth c Ψ D cells slots pc' L (.long v :: S)) : Run Z a0 n0 p l e R s m args below meth c Ψ D cells slots pc L S := by
  subst hp
  intro T locs X N H
  obtain ⟨t, o, st, r⟩ := k T locs X N H
  exact ⟨t, o, XS.lloadN X.here K.1 rfl (hb K.2.2.1 hd) hl st, r⟩
theorem Run.lstore (K : Ctx Z y bytes maxL ret p s m meth c) {j : Nat} {v : Int64} {L' : Array Slot} {pc' : Nat} (hd : decode bytes pc = .ok (.lstore j, 2)) (hp : pc + 2 = pc') (hl : storeLocals L j (.long v) = some L') (k : Run Z a0 n0 p l e R s m args below meth c Ψ D cells slots pc' L' S) : Run Z a0 n0 p l e R s m args below meth c Ψ D cells slots pc L (.long v :: S) := by
  subst hp
  intro T locs X N H
  obtain ⟨t, o, st, r⟩ := k T locs X N H
  exact ⟨t, o, XS.lstore X.here K.1 rfl (hb K.2.2.1 hd) rfl hl st, r⟩
theorem Run.lstoreN (K : Ctx Z y bytes maxL ret p s m meth c) {j : Fin 4} {v : Int64} {L' : Array Slot} {pc' : Nat} (hd : decode bytes pc = .ok (.lstore_n j, 1)) (hp : pc + 1 = pc') (hl : storeLocals L j.val (.long v) = some L') (k : Run Z a0 n0 p l e R s m args below meth c Ψ D cells slots pc' L' S) : Run Z a0 n0 p l e R s m args below meth c Ψ D cells slots pc L (.long v :: S) := by
  subst hp
  intro T locs X N H
  obtain ⟨t, o, st, r⟩ := k T locs X N H
  exact ⟨t, o, XS.lstoreN X.here K.1 rfl (hb K.2.2.1 hd) rfl hl st, r⟩
theorem Run.aload (K : Ctx Z y bytes maxL ret p s m meth c) {j : Nat} {v : Value} {pc' : Nat} (hd : decode bytes pc = .ok (.aload j, 2)) (hp : pc + 2 = pc') (hl : L[j]? = some (.val v)) (hv : v.isRef = true) (k : Run Z a0 n0 p l e R s m args below meth c Ψ D cells slots pc' L (v :: S)) : Run Z a0 n0 p l e R s m args below meth c Ψ D cells slots pc L S := by
  subst hp
  intro T locs X N H
  obtain ⟨t, o, st, r⟩ := k T locs X N H
  exact ⟨t, o, XS.aload X.here K.1 rfl (hb K.2.2.1 hd) hl hv st, r⟩
theorem Run.aloadN (K : Ctx Z y bytes maxL ret p s m meth c) {j : Fin 4} {v : Value} {pc' : Nat} (hd : decode bytes pc = .ok (.aload_n j, 1)) (hp : pc + 1 = pc') (hl : L[j.val]? = some (.val v)) (hv : v.isRef = true) (k : Run Z a0 n0 p l e R s m args below meth c Ψ D cells slots pc' L (v :: S)) : Run Z a0 n0 p l e R s m args below meth c Ψ D cells slots pc L S := by
  subst hp
  intro T locs X N H
  obtain ⟨t, o, st, r⟩ := k T locs X N H
  exact ⟨t, o, XS.aloadN X.here K.1 rfl (hb K.2.2.1 hd) hl hv st, r⟩
theorem Run.astore (K : Ctx Z y bytes maxL ret p s m meth c) {j : Nat} {v : Value} {L' : Array Slot} {pc' : Nat} (hd : decode bytes pc = .ok (.astore j, 2)) (hp : pc + 2 = pc') (hv : v.isRef = true) (hl : storeLocals L j v = some L') (k : Run Z a0 n0 p l e R s m args below meth c Ψ D cells slots pc' L' S) : Run Z a0 n0 p l e R s m args below meth c Ψ D cells slots pc L (v :: S) := by
  subst hp
  intro T locs X N H
  obtain ⟨t, o, st, r⟩ := k T locs X N H
  exact ⟨t, o, XS.astore X.here K.1 rfl (hb K.2.2.1 hd) rfl hv hl st, r⟩
theorem Run.astoreN (K : Ctx Z y bytes maxL ret p s m meth c) {j : Fin 4} {v : Value} {L' : Array Slot} {pc' : Nat} (hd : decode bytes pc = .ok (.astore_n j, 1)) (hp : pc + 1 = pc') (hv : v.isRef = true) (hl : storeLocals L j.val v = some L') (k : Run Z a0 n0 p l e R s m args below meth c Ψ D cells slots pc' L' S) : Run Z a0 n0 p l e R s m args below meth c Ψ D cells slots pc L (v :: S) := by
  subst hp
  intro T locs X N H
  obtain ⟨t, o, st, r⟩ := k T locs X N H
  exact ⟨t, o, XS.astoreN X.here K.1 rfl (hb K.2.2.1 hd) rfl hv hl st, r⟩
theorem Run.dup2 (K : Ctx Z y bytes maxL ret p s m meth c) {v w : Value} {pc' : Nat} (hd : decode bytes pc = .ok (.dup2, 1)) (hp : pc + 1 = pc') (hc : v.category = 1) (hc2 : w.category = 1) (k : Run Z a0 n0 p l e R s m args below meth c Ψ D cells slots pc' L (v :: w :: v :: w :: S)) : Run Z a0 n0 p l e R s m args below meth c Ψ D cells slots pc L (v :: w :: S) := by
  subst hp
  intro T locs X N H
  obtain ⟨t, o, st, r⟩ := k T locs X N H
  exact ⟨t, o, Jvm.Free.XT.dup2 X.here K.1 rfl (hb K.2.2.1 hd) rfl hc hc2 st, r⟩
theorem Run.dup2L (K : Ctx Z y bytes maxL ret p s m meth c) {x : Int64} {pc' : Nat} (hd : decode bytes pc = .ok (.dup2, 1)) (hp : pc + 1 = pc') (k : Run Z a0 n0 p l e R s m args below meth c Ψ D cells slots pc' L (.long x :: .long x :: S)) : Run Z a0 n0 p l e R s m args below meth c Ψ D cells slots pc L (.long x :: S) := by
  subst hp
  intro T locs X N H
  obtain ⟨t, o, st, r⟩ := k T locs X N H
  exact ⟨t, o, Jvm.Free.XT.dup2L X.here K.1 rfl (hb K.2.2.1 hd) rfl st, r⟩
theorem Run.iinc (K : Ctx Z y bytes maxL ret p s m meth c) {j : Nat} {i : Int} {v : Int32} {L' : Array Slot} {pc' : Nat} (hd : decode bytes pc = .ok (.iinc j i, 3)) (hp : pc + 3 = pc') (hl : L[j]? = some (.val (.int v))) (hl' : storeLocals L j (.int (v + Int32.ofInt i)) = some L') (k : Run Z a0 n0 p l e R s m args below meth c Ψ D cells slots pc' L' S) : Run Z a0 n0 p l e R s m args below meth c Ψ D cells slots pc L S := by
  subst hp
  intro T locs X N H
  obtain ⟨t, o, st, r⟩ := k T locs X N H
  exact ⟨t, o, XS.iinc X.here K.1 rfl (hb K.2.2.1 hd) hl hl' st, r⟩
theorem Run.iaddV (K : Ctx Z y bytes maxL ret p s m meth c) {x z : Int32} {v : Int32} {pc' : Nat} (hd : decode bytes pc = .ok (.iadd, 1)) (hp : pc + 1 = pc') (hv : x + z = v) (k : Run Z a0 n0 p l e R s m args below meth c Ψ D cells slots pc' L (.int v :: S)) : Run Z a0 n0 p l e R s m args below meth c Ψ D cells slots pc L (.int z :: .int x :: S) := Run.iadd K hd hp (by rw [hv]; exact k)
theorem Run.isubV (K : Ctx Z y bytes maxL ret p s m meth c) {x z : Int32} {v : Int32} {pc' : Nat} (hd : decode bytes pc = .ok (.isub, 1)) (hp : pc + 1 = pc') (hv : x - z = v) (k : Run Z a0 n0 p l e R s m args below meth c Ψ D cells slots pc' L (.int v :: S)) : Run Z a0 n0 p l e R s m args below meth c Ψ D cells slots pc L (.int z :: .int x :: S) := Run.isub K hd hp (by rw [hv]; exact k)
theorem Run.imulV (K : Ctx Z y bytes maxL ret p s m meth c) {x z : Int32} {v : Int32} {pc' : Nat} (hd : decode bytes pc = .ok (.imul, 1)) (hp : pc + 1 = pc') (hv : x * z = v) (k : Run Z a0 n0 p l e R s m args below meth c Ψ D cells slots pc' L (.int v :: S)) : Run Z a0 n0 p l e R s m args below meth c Ψ D cells slots pc L (.int z :: .int x :: S) := Run.imul K hd hp (by rw [hv]; exact k)
theorem Run.iandV (K : Ctx Z y bytes maxL ret p s m meth c) {x z : Int32} {v : Int32} {pc' : Nat} (hd : decode bytes pc = .ok (.iand, 1)) (hp : pc + 1 = pc') (hv : x &&& z = v) (k : Run Z a0 n0 p l e R s m args below meth c Ψ D cells slots pc' L (.int v :: S)) : Run Z a0 n0 p l e R s m args below meth c Ψ D cells slots pc L (.int z :: .int x :: S) := Run.iand K hd hp (by rw [hv]; exact k)
theorem Run.iorV (K : Ctx Z y bytes maxL ret p s m meth c) {x z : Int32} {v : Int32} {pc' : Nat} (hd : decode bytes pc = .ok (.ior, 1)) (hp : pc + 1 = pc') (hv : x ||| z = v) (k : Run Z a0 n0 p l e R s m args below meth c Ψ D cells slots pc' L (.int v :: S)) : Run Z a0 n0 p l e R s m args below meth c Ψ D cells slots pc L (.int z :: .int x :: S) := Run.ior K hd hp (by rw [hv]; exact k)
theorem Run.ixorV (K : Ctx Z y bytes maxL ret p s m meth c) {x z : Int32} {v : Int32} {pc' : Nat} (hd : decode bytes pc = .ok (.ixor, 1)) (hp : pc + 1 = pc') (hv : x ^^^ z = v) (k : Run Z a0 n0 p l e R s m args below meth c Ψ D cells slots pc' L (.int v :: S)) : Run Z a0 n0 p l e R s m args below meth c Ψ D cells slots pc L (.int z :: .int x :: S) := Run.ixor K hd hp (by rw [hv]; exact k)
theorem Run.ishlV (K : Ctx Z y bytes maxL ret p s m meth c) {x z : Int32} {v : Int32} {pc' : Nat} (hd : decode bytes pc = .ok (.ishl, 1)) (hp : pc + 1 = pc') (hv : x <<< (z &&& 31) = v) (k : Run Z a0 n0 p l e R s m args below meth c Ψ D cells slots pc' L (.int v :: S)) : Run Z a0 n0 p l e R s m args below meth c Ψ D cells slots pc L (.int z :: .int x :: S) := Run.ishl K hd hp (by rw [hv]; exact k)
theorem Run.ishrV (K : Ctx Z y bytes maxL ret p s m meth c) {x z : Int32} {v : Int32} {pc' : Nat} (hd : decode bytes pc = .ok (.ishr, 1)) (hp : pc + 1 = pc') (hv : x >>> (z &&& 31) = v) (k : Run Z a0 n0 p l e R s m args below meth c Ψ D cells slots pc' L (.int v :: S)) : Run Z a0 n0 p l e R s m args below meth c Ψ D cells slots pc L (.int z :: .int x :: S) := Run.ishr K hd hp (by rw [hv]; exact k)
theorem Run.iushrV (K : Ctx Z y bytes maxL ret p s m meth c) {x z : Int32} {v : Int32} {pc' : Nat} (hd : decode bytes pc = .ok (.iushr, 1)) (hp : pc + 1 = pc') (hv : (x.toUInt32 >>> (z &&& 31).toUInt32).toInt32 = v) (k : Run Z a0 n0 p l e R s m args below meth c Ψ D cells slots pc' L (.int v :: S)) : Run Z a0 n0 p l e R s m args below meth c Ψ D cells slots pc L (.int z :: .int x :: S) := Run.iushr K hd hp (by rw [hv]; exact k)
theorem Run.inegV (K : Ctx Z y bytes maxL ret p s m meth c) {x : Int32} {v : Int32} {pc' : Nat} (hd : decode bytes pc = .ok (.ineg, 1)) (hp : pc + 1 = pc') (hv : -x = v) (k : Run Z a0 n0 p l e R s m args below meth c Ψ D cells slots pc' L (.int v :: S)) : Run Z a0 n0 p l e R s m args below meth c Ψ D cells slots pc L (.int x :: S) := Run.ineg K hd hp (by rw [hv]; exact k)
theorem Run.laddV (K : Ctx Z y bytes maxL ret p s m meth c) {x z : Int64} {v : Int64} {pc' : Nat} (hd : decode bytes pc = .ok (.ladd, 1)) (hp : pc + 1 = pc') (hv : x + z = v) (k : Run Z a0 n0 p l e R s m args below meth c Ψ D cells slots pc' L (.long v :: S)) : Run Z a0 n0 p l e R s m args below meth c Ψ D cells slots pc L (.long z :: .long x :: S) := Run.ladd K hd hp (by rw [hv]; exact k)
theorem Run.lsubV (K : Ctx Z y bytes maxL ret p s m meth c) {x z : Int64} {v : Int64} {pc' : Nat} (hd : decode bytes pc = .ok (.lsub, 1)) (hp : pc + 1 = pc') (hv : x - z = v) (k : Run Z a0 n0 p l e R s m args below meth c Ψ D cells slots pc' L (.long v :: S)) : Run Z a0 n0 p l e R s m args below meth c Ψ D cells slots pc L (.long z :: .long x :: S) := Run.lsub K hd hp (by rw [hv]; exact k)
theorem Run.lmulV (K : Ctx Z y bytes maxL ret p s m meth c) {x z : Int64} {v : Int64} {pc' : Nat} (hd : decode bytes pc = .ok (.lmul, 1)) (hp : pc + 1 = pc') (hv : x * z = v) (k : Run Z a0 n0 p l e R s m args below meth c Ψ D cells slots pc' L (.long v :: S)) : Run Z a0 n0 p l e R s m args below meth c Ψ D cells slots pc L (.long z :: .long x :: S) := Run.lmul K hd hp (by rw [hv]; exact k)
theorem Run.landV (K : Ctx Z y bytes maxL ret p s m meth c) {x z : Int64} {v : Int64} {pc' : Nat} (hd : decode bytes pc = .ok (.land, 1)) (hp : pc + 1 = pc') (hv : x &&& z = v) (k : Run Z a0 n0 p l e R s m args below meth c Ψ D cells slots pc' L (.long v :: S)) : Run Z a0 n0 p l e R s m args below meth c Ψ D cells slots pc L (.long z :: .long x :: S) := Run.land K hd hp (by rw [hv]; exact k)
theorem Run.lorV (K : Ctx Z y bytes maxL ret p s m meth c) {x z : Int64} {v : Int64} {pc' : Nat} (hd : decode bytes pc = .ok (.lor, 1)) (hp : pc + 1 = pc') (hv : x ||| z = v) (k : Run Z a0 n0 p l e R s m args below meth c Ψ D cells slots pc' L (.long v :: S)) : Run Z a0 n0 p l e R s m args below meth c Ψ D cells slots pc L (.long z :: .long x :: S) := Run.lor K hd hp (by rw [hv]; exact k)
theorem Run.lxorV (K : Ctx Z y bytes maxL ret p s m meth c) {x z : Int64} {v : Int64} {pc' : Nat} (hd : decode bytes pc = .ok (.lxor, 1)) (hp : pc + 1 = pc') (hv : x ^^^ z = v) (k : Run Z a0 n0 p l e R s m args below meth c Ψ D cells slots pc' L (.long v :: S)) : Run Z a0 n0 p l e R s m args below meth c Ψ D cells slots pc L (.long z :: .long x :: S) := Run.lxor K hd hp (by rw [hv]; exact k)
theorem Run.lnegV (K : Ctx Z y bytes maxL ret p s m meth c) {x : Int64} {v : Int64} {pc' : Nat} (hd : decode bytes pc = .ok (.lneg, 1)) (hp : pc + 1 = pc') (hv : -x = v) (k : Run Z a0 n0 p l e R s m args below meth c Ψ D cells slots pc' L (.long v :: S)) : Run Z a0 n0 p l e R s m args below meth c Ψ D cells slots pc L (.long x :: S) := Run.lneg K hd hp (by rw [hv]; exact k)
theorem Run.lshlV (K : Ctx Z y bytes maxL ret p s m meth c) {x : Int64} {z : Int32} {v : Int64} {pc' : Nat} (hd : decode bytes pc = .ok (.lshl, 1)) (hp : pc + 1 = pc') (hv : x <<< (z &&& 0x3f).toInt64 = v) (k : Run Z a0 n0 p l e R s m args below meth c Ψ D cells slots pc' L (.long v :: S)) : Run Z a0 n0 p l e R s m args below meth c Ψ D cells slots pc L (.int z :: .long x :: S) := Run.lshl K hd hp (by rw [hv]; exact k)
theorem Run.lshrV (K : Ctx Z y bytes maxL ret p s m meth c) {x : Int64} {z : Int32} {v : Int64} {pc' : Nat} (hd : decode bytes pc = .ok (.lshr, 1)) (hp : pc + 1 = pc') (hv : x >>> (z &&& 0x3f).toInt64 = v) (k : Run Z a0 n0 p l e R s m args below meth c Ψ D cells slots pc' L (.long v :: S)) : Run Z a0 n0 p l e R s m args below meth c Ψ D cells slots pc L (.int z :: .long x :: S) := Run.lshr K hd hp (by rw [hv]; exact k)
theorem Run.lushrV (K : Ctx Z y bytes maxL ret p s m meth c) {x : Int64} {z : Int32} {v : Int64} {pc' : Nat} (hd : decode bytes pc = .ok (.lushr, 1)) (hp : pc + 1 = pc') (hv : (x.toUInt64 >>> (z &&& 0x3f).toInt64.toUInt64).toInt64 = v) (k : Run Z a0 n0 p l e R s m args below meth c Ψ D cells slots pc' L (.long v :: S)) : Run Z a0 n0 p l e R s m args below meth c Ψ D cells slots pc L (.int z :: .long x :: S) := Run.lushr K hd hp (by rw [hv]; exact k)
theorem Run.i2lV (K : Ctx Z y bytes maxL ret p s m meth c) {x : Int32} {v : Int64} {pc' : Nat} (hd : decode bytes pc = .ok (.i2l, 1)) (hp : pc + 1 = pc') (hv : x.toInt64 = v) (k : Run Z a0 n0 p l e R s m args below meth c Ψ D cells slots pc' L (.long v :: S)) : Run Z a0 n0 p l e R s m args below meth c Ψ D cells slots pc L (.int x :: S) := Run.i2l K hd hp (by rw [hv]; exact k)
theorem Run.l2iV (K : Ctx Z y bytes maxL ret p s m meth c) {x : Int64} {v : Int32} {pc' : Nat} (hd : decode bytes pc = .ok (.l2i, 1)) (hp : pc + 1 = pc') (hv : x.toInt32 = v) (k : Run Z a0 n0 p l e R s m args below meth c Ψ D cells slots pc' L (.int v :: S)) : Run Z a0 n0 p l e R s m args below meth c Ψ D cells slots pc L (.long x :: S) := Run.l2i K hd hp (by rw [hv]; exact k)
theorem Run.i2bV (K : Ctx Z y bytes maxL ret p s m meth c) {x : Int32} {v : Int32} {pc' : Nat} (hd : decode bytes pc = .ok (.i2b, 1)) (hp : pc + 1 = pc') (hv : x.toInt8.toInt32 = v) (k : Run Z a0 n0 p l e R s m args below meth c Ψ D cells slots pc' L (.int v :: S)) : Run Z a0 n0 p l e R s m args below meth c Ψ D cells slots pc L (.int x :: S) := Run.i2b K hd hp (by rw [hv]; exact k)
theorem Run.i2cV (K : Ctx Z y bytes maxL ret p s m meth c) {x : Int32} {v : Int32} {pc' : Nat} (hd : decode bytes pc = .ok (.i2c, 1)) (hp : pc + 1 = pc') (hv : x.toUInt32.toUInt16.toUInt32.toInt32 = v) (k : Run Z a0 n0 p l e R s m args below meth c Ψ D cells slots pc' L (.int v :: S)) : Run Z a0 n0 p l e R s m args below meth c Ψ D cells slots pc L (.int x :: S) := Run.i2c K hd hp (by rw [hv]; exact k)
theorem Run.i2sV (K : Ctx Z y bytes maxL ret p s m meth c) {x : Int32} {v : Int32} {pc' : Nat} (hd : decode bytes pc = .ok (.i2s, 1)) (hp : pc + 1 = pc') (hv : x.toInt16.toInt32 = v) (k : Run Z a0 n0 p l e R s m args below meth c Ψ D cells slots pc' L (.int v :: S)) : Run Z a0 n0 p l e R s m args below meth c Ψ D cells slots pc L (.int x :: S) := Run.i2s K hd hp (by rw [hv]; exact k)
theorem Run.lcmpV (K : Ctx Z y bytes maxL ret p s m meth c) {x z : Int64} {v : Int32} {pc' : Nat} (hd : decode bytes pc = .ok (.lcmp, 1)) (hp : pc + 1 = pc') (hv : lcmpW x z = v) (k : Run Z a0 n0 p l e R s m args below meth c Ψ D cells slots pc' L (.int v :: S)) : Run Z a0 n0 p l e R s m args below meth c Ψ D cells slots pc L (.long z :: .long x :: S) := Run.lcmp K hd hp (by rw [hv]; exact k)
theorem Run.goto (K : Ctx Z y bytes maxL ret p s m meth c) {i : Int} {pc' : Nat} (hd : decode bytes pc = .ok (.goto i, 3)) (ho : 0 ≤ (pc : Int) + i) (hp : ((pc : Int) + i).toNat = pc') (k : Run Z a0 n0 p l e R s m args below meth c Ψ D cells slots pc' L S) : Run Z a0 n0 p l e R s m args below meth c Ψ D cells slots pc L S := by
  intro T locs X N H
  obtain ⟨t, o, st, r⟩ := k T locs X N H
  exact ⟨t, o, XS.goto X.here K.1 rfl rfl (hb K.2.2.1 hd) ho hp st, r⟩
theorem Run.icmp (K : Ctx Z y bytes maxL ret p s m meth c) {x z : Int32} {cd : ClassFile.Cond} {i : Int} {pT pF : Nat} (hd : decode bytes pc = .ok (.if_icmp cd i, 3)) (ho : 0 ≤ (pc : Int) + i) (hT : ((pc : Int) + i).toNat = pT) (hF : pc + 3 = pF) (kT : rel cd x z → Run Z a0 n0 p l e R s m args below meth c Ψ D cells slots pT L S) (kF : ¬ rel cd x z → Run Z a0 n0 p l e R s m args below meth c Ψ D cells slots pF L S) : Run Z a0 n0 p l e R s m args below meth c Ψ D cells slots pc L (.int z :: .int x :: S) := by
  subst hF
  intro T locs X N H
  by_cases q : rel cd x z
  · obtain ⟨t, o, st, r⟩ := kT q T locs X N H
    exact ⟨t, o, XS.icmpYes X.here K.1 rfl rfl (hb K.2.2.1 hd) rfl ((rel_iff cd x z).mpr q) ho hT st, r⟩
  · obtain ⟨t, o, st, r⟩ := kF q T locs X N H
    exact ⟨t, o, XS.icmpNo X.here K.1 rfl (hb K.2.2.1 hd) rfl (Bool.eq_false_iff.mpr fun h => q ((rel_iff cd x z).mp h)) st, r⟩
theorem Run.ifc (K : Ctx Z y bytes maxL ret p s m meth c) {x : Int32} {cd : ClassFile.Cond} {i : Int} {pT pF : Nat} (hd : decode bytes pc = .ok (.ifCond cd i, 3)) (ho : 0 ≤ (pc : Int) + i) (hT : ((pc : Int) + i).toNat = pT) (hF : pc + 3 = pF) (kT : rel cd x 0 → Run Z a0 n0 p l e R s m args below meth c Ψ D cells slots pT L S) (kF : ¬ rel cd x 0 → Run Z a0 n0 p l e R s m args below meth c Ψ D cells slots pF L S) : Run Z a0 n0 p l e R s m args below meth c Ψ D cells slots pc L (.int x :: S) := by
  subst hF
  intro T locs X N H
  by_cases q : rel cd x 0
  · obtain ⟨t, o, st, r⟩ := kT q T locs X N H
    exact ⟨t, o, XS.ifYes X.here K.1 rfl rfl (hb K.2.2.1 hd) rfl ((if0 cd x).trans ((rel_iff cd x 0).mpr q)) ho hT st, r⟩
  · obtain ⟨t, o, st, r⟩ := kF q T locs X N H
    exact ⟨t, o, XS.ifNo X.here K.1 rfl (hb K.2.2.1 hd) rfl (Bool.eq_false_iff.mpr fun h => q ((rel_iff cd x 0).mp ((if0 cd x).symm.trans h))) st, r⟩
theorem Run.ifL (K : Ctx Z y bytes maxL ret p s m meth c) {x z : Int64} {cd : ClassFile.Cond} {i : Int} {pT pF : Nat} (hd : decode bytes pc = .ok (.ifCond cd i, 3)) (ho : 0 ≤ (pc : Int) + i) (hT : ((pc : Int) + i).toNat = pT) (hF : pc + 3 = pF) (kT : relL cd x z → Run Z a0 n0 p l e R s m args below meth c Ψ D cells slots pT L S) (kF : ¬ relL cd x z → Run Z a0 n0 p l e R s m args below meth c Ψ D cells slots pF L S) : Run Z a0 n0 p l e R s m args below meth c Ψ D cells slots pc L (.int (lcmpW x z) :: S) := by
  subst hF
  intro T locs X N H
  by_cases q : relL cd x z
  · obtain ⟨t, o, st, r⟩ := kT q T locs X N H
    exact ⟨t, o, XS.ifYes X.here K.1 rfl rfl (hb K.2.2.1 hd) rfl ((if0 cd _).trans ((relL_iff cd x z).mpr q)) ho hT st, r⟩
  · obtain ⟨t, o, st, r⟩ := kF q T locs X N H
    exact ⟨t, o, XS.ifNo X.here K.1 rfl (hb K.2.2.1 hd) rfl (Bool.eq_false_iff.mpr fun h => q ((relL_iff cd x z).mp ((if0 cd _).symm.trans h))) st, r⟩
theorem Run.icmpT (K : Ctx Z y bytes maxL ret p s m meth c) {x z : Int32} {cd : ClassFile.Cond} {i : Int} {pT pF : Nat} (hd : decode bytes pc = .ok (.if_icmp cd i, 3)) (ho : 0 ≤ (pc : Int) + i) (hT : ((pc : Int) + i).toNat = pT) (hF : pc + 3 = pF) (q : rel cd x z) (kT : Run Z a0 n0 p l e R s m args below meth c Ψ D cells slots pT L S) : Run Z a0 n0 p l e R s m args below meth c Ψ D cells slots pc L (.int z :: .int x :: S) := Run.icmp K hd ho hT hF (fun _ => kT) (fun h => absurd q h)
theorem Run.icmpF (K : Ctx Z y bytes maxL ret p s m meth c) {x z : Int32} {cd : ClassFile.Cond} {i : Int} {pT pF : Nat} (hd : decode bytes pc = .ok (.if_icmp cd i, 3)) (ho : 0 ≤ (pc : Int) + i) (hT : ((pc : Int) + i).toNat = pT) (hF : pc + 3 = pF) (q : ¬ rel cd x z) (kF : Run Z a0 n0 p l e R s m args below meth c Ψ D cells slots pF L S) : Run Z a0 n0 p l e R s m args below meth c Ψ D cells slots pc L (.int z :: .int x :: S) := Run.icmp K hd ho hT hF (fun h => absurd h q) (fun _ => kF)
theorem Run.ifcT (K : Ctx Z y bytes maxL ret p s m meth c) {x : Int32} {cd : ClassFile.Cond} {i : Int} {pT pF : Nat} (hd : decode bytes pc = .ok (.ifCond cd i, 3)) (ho : 0 ≤ (pc : Int) + i) (hT : ((pc : Int) + i).toNat = pT) (hF : pc + 3 = pF) (q : rel cd x 0) (kT : Run Z a0 n0 p l e R s m args below meth c Ψ D cells slots pT L S) : Run Z a0 n0 p l e R s m args below meth c Ψ D cells slots pc L (.int x :: S) := Run.ifc K hd ho hT hF (fun _ => kT) (fun h => absurd q h)
theorem Run.ifcF (K : Ctx Z y bytes maxL ret p s m meth c) {x : Int32} {cd : ClassFile.Cond} {i : Int} {pT pF : Nat} (hd : decode bytes pc = .ok (.ifCond cd i, 3)) (ho : 0 ≤ (pc : Int) + i) (hT : ((pc : Int) + i).toNat = pT) (hF : pc + 3 = pF) (q : ¬ rel cd x 0) (kF : Run Z a0 n0 p l e R s m args below meth c Ψ D cells slots pF L S) : Run Z a0 n0 p l e R s m args below meth c Ψ D cells slots pc L (.int x :: S) := Run.ifc K hd ho hT hF (fun h => absurd h q) (fun _ => kF)
theorem Run.ifLT (K : Ctx Z y bytes maxL ret p s m meth c) {x z : Int64} {cd : ClassFile.Cond} {i : Int} {pT pF : Nat} (hd : decode bytes pc = .ok (.ifCond cd i, 3)) (ho : 0 ≤ (pc : Int) + i) (hT : ((pc : Int) + i).toNat = pT) (hF : pc + 3 = pF) (q : relL cd x z) (kT : Run Z a0 n0 p l e R s m args below meth c Ψ D cells slots pT L S) : Run Z a0 n0 p l e R s m args below meth c Ψ D cells slots pc L (.int (lcmpW x z) :: S) := Run.ifL K hd ho hT hF (fun _ => kT) (fun h => absurd q h)
theorem Run.ifLF (K : Ctx Z y bytes maxL ret p s m meth c) {x z : Int64} {cd : ClassFile.Cond} {i : Int} {pT pF : Nat} (hd : decode bytes pc = .ok (.ifCond cd i, 3)) (ho : 0 ≤ (pc : Int) + i) (hT : ((pc : Int) + i).toNat = pT) (hF : pc + 3 = pF) (q : ¬ relL cd x z) (kF : Run Z a0 n0 p l e R s m args below meth c Ψ D cells slots pF L S) : Run Z a0 n0 p l e R s m args below meth c Ψ D cells slots pc L (.int (lcmpW x z) :: S) := Run.ifL K hd ho hT hF (fun h => absurd h q) (fun _ => kF)
theorem Run.ifnonnullT (K : Ctx Z y bytes maxL ret p s m meth c) {a : Addr} {i : Int} {pT : Nat} (hd : decode bytes pc = .ok (.ifnonnull i, 3)) (ho : 0 ≤ (pc : Int) + i) (hT : ((pc : Int) + i).toNat = pT) (k : Run Z a0 n0 p l e R s m args below meth c Ψ D cells slots pT L S) : Run Z a0 n0 p l e R s m args below meth c Ψ D cells slots pc L (.ref a :: S) := by
  intro T locs X N H
  obtain ⟨t, o, st, r⟩ := k T locs X N H
  exact ⟨t, o, XS.ifnonnullYes X.here K.1 rfl rfl (hb K.2.2.1 hd) rfl ho hT st, r⟩
theorem Run.as {D' : HD} (hD : D' = D) (k : Run Z a0 n0 p l e R s m args below meth c Ψ D' cells slots pc L S) : Run Z a0 n0 p l e R s m args below meth c Ψ D cells slots pc L S := by subst hD; exact k
theorem Run.as2 {D' : HD} {S' : List Value} (hD : D' = D) (hS : S' = S) (k : Run Z a0 n0 p l e R s m args below meth c Ψ D' cells slots pc L S') : Run Z a0 n0 p l e R s m args below meth c Ψ D cells slots pc L S := by subst hD hS; exact k
theorem Ret.k {v : Option Value} {D1 : HD} {S' rest : List Value} {cells' slots' pc' : Nat} (hS : S' = v.toList ++ rest) (k : Run Z a0 n0 p l e R s m args below meth c Ψ D1 cells' slots' pc' L S') : ∀ (w : Option Value) (D' : HD), Ret v D1 w D' → Run Z a0 n0 p l e R s m args below meth c Ψ D' cells' slots' pc' L (w.toList ++ rest) := by rintro w D' ⟨rfl, rfl⟩; subst hS; exact k
theorem Run.join0 {D' : HD} {cells' slots' pc' : Nat} {L' : Array Slot} {S' : List Value} (k : Run Z a0 n0 p l e R s m args below meth c Ψ D' cells' slots' pc' L' S') (b : Run Z a0 n0 p l e R s m args below meth c Ψ D' cells' slots' pc' L' S' → Run Z a0 n0 p l e R s m args below meth c Ψ D cells slots pc L S) : Run Z a0 n0 p l e R s m args below meth c Ψ D cells slots pc L S := b k
theorem Run.join1 {α0 : Type} {F : α0 → Prop} {D' : α0 → HD} {cells' slots' pc' : Nat} {L' : α0 → Array Slot} {S' : α0 → List Value} (k : (∀ w0, F w0 → Run Z a0 n0 p l e R s m args below meth c Ψ (D' w0) cells' slots' pc' (L' w0) (S' w0))) (b : (∀ w0, F w0 → Run Z a0 n0 p l e R s m args below meth c Ψ (D' w0) cells' slots' pc' (L' w0) (S' w0)) → Run Z a0 n0 p l e R s m args below meth c Ψ D cells slots pc L S) : Run Z a0 n0 p l e R s m args below meth c Ψ D cells slots pc L S := b k
theorem Run.join2 {α0 : Type} {α1 : Type} {F : α0 → α1 → Prop} {D' : α0 → α1 → HD} {cells' slots' pc' : Nat} {L' : α0 → α1 → Array Slot} {S' : α0 → α1 → List Value} (k : (∀ w0 w1, F w0 w1 → Run Z a0 n0 p l e R s m args below meth c Ψ (D' w0 w1) cells' slots' pc' (L' w0 w1) (S' w0 w1))) (b : (∀ w0 w1, F w0 w1 → Run Z a0 n0 p l e R s m args below meth c Ψ (D' w0 w1) cells' slots' pc' (L' w0 w1) (S' w0 w1)) → Run Z a0 n0 p l e R s m args below meth c Ψ D cells slots pc L S) : Run Z a0 n0 p l e R s m args below meth c Ψ D cells slots pc L S := b k
theorem Run.join3 {α0 : Type} {α1 : Type} {α2 : Type} {F : α0 → α1 → α2 → Prop} {D' : α0 → α1 → α2 → HD} {cells' slots' pc' : Nat} {L' : α0 → α1 → α2 → Array Slot} {S' : α0 → α1 → α2 → List Value} (k : (∀ w0 w1 w2, F w0 w1 w2 → Run Z a0 n0 p l e R s m args below meth c Ψ (D' w0 w1 w2) cells' slots' pc' (L' w0 w1 w2) (S' w0 w1 w2))) (b : (∀ w0 w1 w2, F w0 w1 w2 → Run Z a0 n0 p l e R s m args below meth c Ψ (D' w0 w1 w2) cells' slots' pc' (L' w0 w1 w2) (S' w0 w1 w2)) → Run Z a0 n0 p l e R s m args below meth c Ψ D cells slots pc L S) : Run Z a0 n0 p l e R s m args below meth c Ψ D cells slots pc L S := b k
theorem Run.join4 {α0 : Type} {α1 : Type} {α2 : Type} {α3 : Type} {F : α0 → α1 → α2 → α3 → Prop} {D' : α0 → α1 → α2 → α3 → HD} {cells' slots' pc' : Nat} {L' : α0 → α1 → α2 → α3 → Array Slot} {S' : α0 → α1 → α2 → α3 → List Value} (k : (∀ w0 w1 w2 w3, F w0 w1 w2 w3 → Run Z a0 n0 p l e R s m args below meth c Ψ (D' w0 w1 w2 w3) cells' slots' pc' (L' w0 w1 w2 w3) (S' w0 w1 w2 w3))) (b : (∀ w0 w1 w2 w3, F w0 w1 w2 w3 → Run Z a0 n0 p l e R s m args below meth c Ψ (D' w0 w1 w2 w3) cells' slots' pc' (L' w0 w1 w2 w3) (S' w0 w1 w2 w3)) → Run Z a0 n0 p l e R s m args below meth c Ψ D cells slots pc L S) : Run Z a0 n0 p l e R s m args below meth c Ψ D cells slots pc L S := b k
theorem Run.join5 {α0 : Type} {α1 : Type} {α2 : Type} {α3 : Type} {α4 : Type} {F : α0 → α1 → α2 → α3 → α4 → Prop} {D' : α0 → α1 → α2 → α3 → α4 → HD} {cells' slots' pc' : Nat} {L' : α0 → α1 → α2 → α3 → α4 → Array Slot} {S' : α0 → α1 → α2 → α3 → α4 → List Value} (k : (∀ w0 w1 w2 w3 w4, F w0 w1 w2 w3 w4 → Run Z a0 n0 p l e R s m args below meth c Ψ (D' w0 w1 w2 w3 w4) cells' slots' pc' (L' w0 w1 w2 w3 w4) (S' w0 w1 w2 w3 w4))) (b : (∀ w0 w1 w2 w3 w4, F w0 w1 w2 w3 w4 → Run Z a0 n0 p l e R s m args below meth c Ψ (D' w0 w1 w2 w3 w4) cells' slots' pc' (L' w0 w1 w2 w3 w4) (S' w0 w1 w2 w3 w4)) → Run Z a0 n0 p l e R s m args below meth c Ψ D cells slots pc L S) : Run Z a0 n0 p l e R s m args below meth c Ψ D cells slots pc L S := b k
theorem Run.join6 {α0 : Type} {α1 : Type} {α2 : Type} {α3 : Type} {α4 : Type} {α5 : Type} {F : α0 → α1 → α2 → α3 → α4 → α5 → Prop} {D' : α0 → α1 → α2 → α3 → α4 → α5 → HD} {cells' slots' pc' : Nat} {L' : α0 → α1 → α2 → α3 → α4 → α5 → Array Slot} {S' : α0 → α1 → α2 → α3 → α4 → α5 → List Value} (k : (∀ w0 w1 w2 w3 w4 w5, F w0 w1 w2 w3 w4 w5 → Run Z a0 n0 p l e R s m args below meth c Ψ (D' w0 w1 w2 w3 w4 w5) cells' slots' pc' (L' w0 w1 w2 w3 w4 w5) (S' w0 w1 w2 w3 w4 w5))) (b : (∀ w0 w1 w2 w3 w4 w5, F w0 w1 w2 w3 w4 w5 → Run Z a0 n0 p l e R s m args below meth c Ψ (D' w0 w1 w2 w3 w4 w5) cells' slots' pc' (L' w0 w1 w2 w3 w4 w5) (S' w0 w1 w2 w3 w4 w5)) → Run Z a0 n0 p l e R s m args below meth c Ψ D cells slots pc L S) : Run Z a0 n0 p l e R s m args below meth c Ψ D cells slots pc L S := b k
theorem Run.ldcI (K : Ctx Z y bytes maxL ret p s m meth c) {idx : Nat} {v : Int32} {pc' : Nat} (hd : decode bytes pc = .ok (.ldc idx, 2)) (hp : pc + 2 = pc') (w : (Jvm.Cond.constant y.cls idx v).before a0 Z = true) (k : Run Z a0 n0 p l e R s m args below meth c Ψ D cells slots pc' L (.int v :: S)) : Run Z a0 n0 p l e R s m args below meth c Ψ D cells slots pc L S := by
  subst hp
  intro T locs X N H
  obtain ⟨t, o, st, r⟩ := k T locs X N H
  exact ⟨t, o, X.ldcInt K.1 K.2.2.2.2.1 (mvT K.2.1 w) (g := mkF m pc L S) rfl (hb K.2.2.1 hd) _ st, r⟩
theorem Run.ldcJ (K : Ctx Z y bytes maxL ret p s m meth c) {idx : Nat} {v : Int64} {pc' : Nat} (hd : decode bytes pc = .ok (.ldc2_w idx, 3)) (hp : pc + 3 = pc') (w : (Jvm.Cond.constantLong y.cls idx v).before a0 Z = true) (k : Run Z a0 n0 p l e R s m args below meth c Ψ D cells slots pc' L (.long v :: S)) : Run Z a0 n0 p l e R s m args below meth c Ψ D cells slots pc L S := by
  subst hp
  intro T locs X N H
  obtain ⟨t, o, st, r⟩ := k T locs X N H
  exact ⟨t, o, X.ldc2Long K.1 K.2.2.2.2.1 (mvT K.2.1 w) (g := mkF m pc L S) rfl (hb K.2.2.1 hd) _ st, r⟩
theorem Run.getF (K : Ctx Z y bytes maxL ret p s m meth c) {idx i j : Nat} {O n d C : String} {a : Addr} {fs : List OFld} {v : Value} {pc' : Nat} (hd : decode bytes pc = .ok (.getfield idx, 3)) (hp : pc + 3 = pc') (w : (Jvm.Cond.fieldLink y.cls idx O n d).before a0 Z = true) (hi : D.1[i]? = some (a, C, fs)) (hj : fs[j]? = some (O, n, d, v)) (k : Run Z a0 n0 p l e R s m args below meth c Ψ D cells slots pc' L (v :: S)) : Run Z a0 n0 p l e R s m args below meth c Ψ D cells slots pc L (.ref a :: S) := by
  subst hp
  intro T locs X N H
  have F := ((H.2.1 _ (List.mem_of_getElem? hi)).2.2.1 _ (List.mem_of_getElem? hj)).1
  obtain ⟨T', X', e', st'⟩ := RoadKit.getF X K.1 K.2.1 K.2.2.2.2.1 (host := "") (Or.inl w) Via.refl rfl F (g := mkF m pc L (.ref a :: S)) rfl rfl (hb K.2.2.1 hd)
  obtain ⟨t, o, st, r⟩ := k T' locs X' N (by rw [e']; exact H)
  exact ⟨t, o, st' _ st, r⟩
theorem Run.putF (K : Ctx Z y bytes maxL ret p s m meth c) {idx i j kk : Nat} {O n d C : String} {a : Addr} {fs : List OFld} {v old : Value} {ty : FieldType} {pc' : Nat} {D' : HD} (hd : decode bytes pc = .ok (.putfield idx, 3)) (hp : pc + 3 = pc') (w : (Jvm.Cond.fieldLink y.cls idx O n d).before a0 Z = true) (wl : (Jvm.Cond.lays C O n d).before a0 Z = true ∨ ((Jvm.Cond.laysFinal C O n d).before a0 Z = true ∧ y.cls = O ∧ y.name = "<init>")) (wi : (Jvm.Cond.instantiable C kk).before a0 Z = true) (hty : parseFieldDescriptor d = some ty) (hn : narrow ty v = v) (hf : fits ty v = true) (hi : D.1[i]? = some (a, C, fs)) (hj : fs[j]? = some (O, n, d, old)) (hD : D' = (D.1.set i (a, C, fs.set j (O, n, d, v)), D.2)) (k : Run Z a0 n0 p l e R s m args below meth c Ψ D' cells slots pc' L S) : Run Z a0 n0 p l e R s m args below meth c Ψ D cells slots pc L (v :: .ref a :: S) := by
  subst hp hD
  intro T locs X N H
  have HO := H.2.1 _ (List.mem_of_getElem? hi)
  have F := (HO.2.2.1 _ (List.mem_of_getElem? hj)).1
  obtain ⟨T', h', X', e', W, st'⟩ := RoadKit.putF X K.1 K.2.1 K.2.2.2.2.1 (host := "") (Or.inl w) Via.refl rfl F HO.2.1 (wl.imp id fun q => ⟨q.1, q.2.1, K.2.2.2.2.2.1.trans q.2.2⟩) wi hty hn hf (g := mkF m pc L (v :: .ref a :: S)) rfl rfl (hb K.2.2.1 hd)
  obtain ⟨t, o, st, r⟩ := k T' _ X' (Fr.snoc X' N HO.1) (by rw [e']; exact H.put hi hj W)
  exact ⟨t, o, st' _ st, r⟩
theorem Run.newO (K : Ctx Z y bytes maxL ret p s m meth c) {idx n : Nat} {C : String} {fs : List OFld} {pc' cells' slots' : Nat} (hd : decode bytes pc = .ok (.new idx, 3)) (hp : pc + 3 = pc') (w : (Jvm.Cond.classLink y.cls idx C).before a0 Z = true) (wi : (Jvm.Cond.instantiable C n).before a0 Z = true) (wz : (Jvm.Cond.initialized C).before a0 Z = true) (F : FieldsOk Z a0 C fs) (e1 : cells + 1 = cells') (e2 : slots + n = slots') (hc : cells' ≤ R.cells) (hs : slots' ≤ R.slots) (k : ∀ a : Addr, Run Z a0 n0 p l e R s m args below meth c Ψ ((a, C, fs) :: D.1, D.2) cells' slots' pc' L (.ref a :: S)) : Run Z a0 n0 p l e R s m args below meth c Ψ D cells slots pc L S := by
  subst hp e1 e2
  intro T locs X N H
  obtain ⟨T', h', X', e', E, A, Dv, -, st'⟩ := RoadKit.newO X K.1 K.2.1 K.2.2.2.2.1 w wi wz rfl (g := mkF m pc L S) rfl (hb K.2.2.1 hd) hc hs
  obtain ⟨t, o, st, r⟩ := k T.heap.size T' locs X' N (by rw [e']; exact H.new E A F Dv)
  exact ⟨t, o, st' _ st, r⟩
theorem Run.newA (K : Ctx Z y bytes maxL ret p s m meth c) {aty : ArrayType} {ty : FieldType} {n : Int32} {vs : List Value} {cap : Nat} {pc' cells' slots' : Nat} (hd : decode bytes pc = .ok (.newarray aty, 2)) (hp : pc + 2 = pc') (hty : newarray.typeOf aty = ty) (w : (Jvm.Cond.arrayClass ty).before a0 Z = true) (hn : ¬ n < 0) (hvs : vs = List.replicate n.toNatClampNeg (defaultValue ty)) (hcap : n.toNatClampNeg ≤ cap) (hb8 : cap * 8 ≤ 536870912) (e1 : cells + 1 = cells') (e2 : slots + cap = slots') (hc : cells' ≤ R.cells) (hs : slots' ≤ R.slots) (hfd : fits ty (defaultValue ty) = true) (k : ∀ a : Addr, Run Z a0 n0 p l e R s m args below meth c Ψ (D.1, (a, ty, vs) :: D.2) cells' slots' pc' L (.ref a :: S)) : Run Z a0 n0 p l e R s m args below meth c Ψ D cells slots pc L (.int n :: S) := by
  subst hp e1 e2 hty hvs
  intro T locs X N H
  obtain ⟨T', h', cA, X', e', E, A, st'⟩ := RoadKit.newP X K.1 K.2.1 w rfl (g := mkF m pc L (.int n :: S)) rfl (hb K.2.2.1 hd) rfl hn hcap hb8 hc hs
  obtain ⟨t, o, st, r⟩ := k T.heap.size T' locs X' N (by
    rw [e']
    refine H.newArr E A ?_ ?_ ?_
    · simp [RoadKit.newA]
    · rw [List.length_replicate]; exact (back32 hn).2
    · intro v hv; rw [List.eq_of_mem_replicate hv]; exact hfd)
  exact ⟨t, o, st' _ st, r⟩
theorem Run.alen (K : Ctx Z y bytes maxL ret p s m meth c) {i : Nat} {a : Addr} {ty : FieldType} {vs : List Value} {w : Int32} {pc' : Nat} (hd : decode bytes pc = .ok (.arraylength, 1)) (hp : pc + 1 = pc') (hi : D.2[i]? = some (a, ty, vs)) (hw : vs.length.toInt32 = w) (k : Run Z a0 n0 p l e R s m args below meth c Ψ D cells slots pc' L (.int w :: S)) : Run Z a0 n0 p l e R s m args below meth c Ψ D cells slots pc L (.ref a :: S) := by
  subst hp hw
  intro T locs X N H
  obtain ⟨-, c', A, e1, -⟩ := H.2.2.1 _ (List.mem_of_getElem? hi)
  have q : c'.slots.size = vs.length := by rw [e1]; simp
  obtain ⟨t, o, st, r⟩ := k T locs X N H
  rw [← q] at st
  exact ⟨t, o, X.arraylength K.1 A.1 (State.isArrayOf_alike K.2.1.alike A.2.1) (g := mkF m pc L (.ref a :: S)) rfl rfl (hb K.2.2.1 hd) _ st, r⟩
theorem nar_byte (x : Int32) : nar .byte (x.toInt8.toInt32) = x.toInt8.toInt32 := by
  show (x.toInt8.toInt32).toInt8.toInt32 = x.toInt8.toInt32
  rw [Int8.toInt8_toInt32]
theorem own_bool {j : Int32} (h : j = (0 : Int32) ∨ j = (1 : Int32)) : nar .boolean j = j := by rcases h with rfl | rfl <;> decide
theorem in_of {vs : List Value} {q : Nat} {v : Value} {j : Int32} (hj : ¬ j < 0) (hq : j.toNatClampNeg = q) (hv : vs[q]? = some v) {c' : Cell} (e1 : c'.slots = vs.toArray) : ¬ (j < 0 ∨ c'.slots.size ≤ j.toNatClampNeg) ∧ c'.slots[j.toNatClampNeg]? = some v := by
  subst hq
  obtain ⟨li, ei⟩ := List.getElem?_eq_some_iff.mp hv
  refine ⟨fun z => z.elim hj fun z => ?_, by rw [e1]; simpa using hv⟩
  rw [e1] at z
  simp at z
  omega
theorem Run.baload (K : Ctx Z y bytes maxL ret p s m meth c) {i q : Nat} {a : Addr} {vs : List Value} {j : Int32} {v : Value} {pc' : Nat} (hd : decode bytes pc = .ok (.baload, 1)) (hp : pc + 1 = pc') (hi : D.2[i]? = some (a, .byte, vs)) (hj : ¬ j < 0) (hq : j.toNatClampNeg = q) (hv : vs[q]? = some v) (k : Run Z a0 n0 p l e R s m args below meth c Ψ D cells slots pc' L (v :: S)) : Run Z a0 n0 p l e R s m args below meth c Ψ D cells slots pc L (.int j :: .ref a :: S) := by
  subst hp
  intro T locs X N H
  obtain ⟨-, c', A, e1, -⟩ := H.2.2.1 _ (List.mem_of_getElem? hi)
  obtain ⟨u1, u2⟩ := in_of hj hq hv e1
  obtain ⟨t, o, st, r⟩ := k T locs X N H
  exact ⟨t, o, X.baloadBytes K.1 A.1 (State.isArrayOf_alike K.2.1.alike A.2.1) A.2.2 u1 u2 (g := mkF m pc L (.int j :: .ref a :: S)) rfl rfl (hb K.2.2.1 hd) _ st, r⟩
theorem Run.iaload (K : Ctx Z y bytes maxL ret p s m meth c) {i q : Nat} {a : Addr} {vs : List Value} {j : Int32} {v : Value} {pc' : Nat} (hd : decode bytes pc = .ok (.iaload, 1)) (hp : pc + 1 = pc') (hi : D.2[i]? = some (a, .int, vs)) (hj : ¬ j < 0) (hq : j.toNatClampNeg = q) (hv : vs[q]? = some v) (k : Run Z a0 n0 p l e R s m args below meth c Ψ D cells slots pc' L (v :: S)) : Run Z a0 n0 p l e R s m args below meth c Ψ D cells slots pc L (.int j :: .ref a :: S) := by
  subst hp
  intro T locs X N H
  obtain ⟨-, c', A, e1, -⟩ := H.2.2.1 _ (List.mem_of_getElem? hi)
  obtain ⟨u1, u2⟩ := in_of hj hq hv e1
  obtain ⟨t, o, st, r⟩ := k T locs X N H
  exact ⟨t, o, X.iaload K.1 A.1 (State.isArrayOf_alike K.2.1.alike A.2.1) A.2.2 u1 u2 (g := mkF m pc L (.int j :: .ref a :: S)) rfl rfl (hb K.2.2.1 hd) _ st, r⟩
theorem Run.laload (K : Ctx Z y bytes maxL ret p s m meth c) {i q : Nat} {a : Addr} {vs : List Value} {j : Int32} {v : Value} {pc' : Nat} (hd : decode bytes pc = .ok (.laload, 1)) (hp : pc + 1 = pc') (hi : D.2[i]? = some (a, .long, vs)) (hj : ¬ j < 0) (hq : j.toNatClampNeg = q) (hv : vs[q]? = some v) (k : Run Z a0 n0 p l e R s m args below meth c Ψ D cells slots pc' L (v :: S)) : Run Z a0 n0 p l e R s m args below meth c Ψ D cells slots pc L (.int j :: .ref a :: S) := by
  subst hp
  intro T locs X N H
  obtain ⟨-, c', A, e1, -⟩ := H.2.2.1 _ (List.mem_of_getElem? hi)
  obtain ⟨u1, u2⟩ := in_of hj hq hv e1
  obtain ⟨t, o, st, r⟩ := k T locs X N H
  exact ⟨t, o, X.laload K.1 A.1 (State.isArrayOf_alike K.2.1.alike A.2.1) A.2.2 u1 u2 (g := mkF m pc L (.int j :: .ref a :: S)) rfl rfl (hb K.2.2.1 hd) _ st, r⟩
theorem Run.zaload (K : Ctx Z y bytes maxL ret p s m meth c) {i q : Nat} {a : Addr} {vs : List Value} {j : Int32} {v : Value} {pc' : Nat} (hd : decode bytes pc = .ok (.baload, 1)) (hp : pc + 1 = pc') (hi : D.2[i]? = some (a, .boolean, vs)) (hj : ¬ j < 0) (hq : j.toNatClampNeg = q) (hv : vs[q]? = some v) (k : Run Z a0 n0 p l e R s m args below meth c Ψ D cells slots pc' L (v :: S)) : Run Z a0 n0 p l e R s m args below meth c Ψ D cells slots pc L (.int j :: .ref a :: S) := by
  subst hp
  intro T locs X N H
  obtain ⟨-, c', A, e1, -⟩ := H.2.2.1 _ (List.mem_of_getElem? hi)
  obtain ⟨u1, u2⟩ := in_of hj hq hv e1
  obtain ⟨t, o, st, r⟩ := k T locs X N H
  exact ⟨t, o, X.baloadBooleans K.1 A.1 (State.isArrayOf_alike K.2.1.alike A.2.1) A.2.2 u1 u2 (g := mkF m pc L (.int j :: .ref a :: S)) rfl rfl (hb K.2.2.1 hd) _ st, r⟩
theorem Run.caload (K : Ctx Z y bytes maxL ret p s m meth c) {i q : Nat} {a : Addr} {vs : List Value} {j : Int32} {v : Value} {pc' : Nat} (hd : decode bytes pc = .ok (.caload, 1)) (hp : pc + 1 = pc') (hi : D.2[i]? = some (a, .char, vs)) (hj : ¬ j < 0) (hq : j.toNatClampNeg = q) (hv : vs[q]? = some v) (k : Run Z a0 n0 p l e R s m args below meth c Ψ D cells slots pc' L (v :: S)) : Run Z a0 n0 p l e R s m args below meth c Ψ D cells slots pc L (.int j :: .ref a :: S) := by
  subst hp
  intro T locs X N H
  obtain ⟨-, c', A, e1, -⟩ := H.2.2.1 _ (List.mem_of_getElem? hi)
  obtain ⟨u1, u2⟩ := in_of hj hq hv e1
  obtain ⟨t, o, st, r⟩ := k T locs X N H
  exact ⟨t, o, X.caload K.1 A.1 (State.isArrayOf_alike K.2.1.alike A.2.1) A.2.2 u1 u2 (g := mkF m pc L (.int j :: .ref a :: S)) rfl rfl (hb K.2.2.1 hd) _ st, r⟩
theorem Run.bastore (K : Ctx Z y bytes maxL ret p s m meth c) {i q : Nat} {a : Addr} {vs : List Value} {j : Int32} {x : Int32} {v : Value} {pc' : Nat} {D' : HD} (hd : decode bytes pc = .ok (.bastore, 1)) (hp : pc + 1 = pc') (hi : D.2[i]? = some (a, .byte, vs)) (hj : ¬ j < 0) (hq : j.toNatClampNeg = q) (hv : vs[q]? = some v) (hD : D' = (D.1, D.2.set i (a, .byte, vs.set q (.int x.toInt8.toInt32)))) (k : Run Z a0 n0 p l e R s m args below meth c Ψ D' cells slots pc' L S) : Run Z a0 n0 p l e R s m args below meth c Ψ D cells slots pc L (.int x :: .int j :: .ref a :: S) := by
  subst hp hD
  intro T locs X N H
  have HA := H.2.2.1 _ (List.mem_of_getElem? hi)
  have g1 := HA.1
  obtain ⟨-, c', A, e1, -⟩ := HA
  obtain ⟨u1, u2⟩ := in_of hj hq hv e1
  obtain ⟨T', h', X', e', W, st'⟩ := stB X K.1 K.2.1 rfl A u1 (g := mkF m pc L (.int x :: .int j :: .ref a :: S)) rfl rfl (hb K.2.2.1 hd)
  rw [hq] at W X'
  obtain ⟨t, o, st, r⟩ := k T' _ X' (Fr.snoc X' N g1) (by rw [e']; exact H.store hi (fits_nar_byte x) W)
  exact ⟨t, o, st' _ st, r⟩
theorem Run.iastore (K : Ctx Z y bytes maxL ret p s m meth c) {i q : Nat} {a : Addr} {vs : List Value} {j : Int32} {x : Int32} {v : Value} {pc' : Nat} {D' : HD} (hd : decode bytes pc = .ok (.iastore, 1)) (hp : pc + 1 = pc') (hi : D.2[i]? = some (a, .int, vs)) (hj : ¬ j < 0) (hq : j.toNatClampNeg = q) (hv : vs[q]? = some v) (hD : D' = (D.1, D.2.set i (a, .int, vs.set q (.int x)))) (k : Run Z a0 n0 p l e R s m args below meth c Ψ D' cells slots pc' L S) : Run Z a0 n0 p l e R s m args below meth c Ψ D cells slots pc L (.int x :: .int j :: .ref a :: S) := by
  subst hp hD
  intro T locs X N H
  have HA := H.2.2.1 _ (List.mem_of_getElem? hi)
  have g1 := HA.1
  obtain ⟨-, c', A, e1, -⟩ := HA
  obtain ⟨u1, u2⟩ := in_of hj hq hv e1
  obtain ⟨T', h', X', e', W, st'⟩ := stI X K.1 K.2.1 rfl A u1 (g := mkF m pc L (.int x :: .int j :: .ref a :: S)) rfl rfl (hb K.2.2.1 hd)
  rw [hq] at W X'
  obtain ⟨t, o, st, r⟩ := k T' _ X' (Fr.snoc X' N g1) (by rw [e']; exact H.store hi (rfl) W)
  exact ⟨t, o, st' _ st, r⟩
theorem Run.lastore (K : Ctx Z y bytes maxL ret p s m meth c) {i q : Nat} {a : Addr} {vs : List Value} {j : Int32} {x : Int64} {v : Value} {pc' : Nat} {D' : HD} (hd : decode bytes pc = .ok (.lastore, 1)) (hp : pc + 1 = pc') (hi : D.2[i]? = some (a, .long, vs)) (hj : ¬ j < 0) (hq : j.toNatClampNeg = q) (hv : vs[q]? = some v) (hD : D' = (D.1, D.2.set i (a, .long, vs.set q (.long x)))) (k : Run Z a0 n0 p l e R s m args below meth c Ψ D' cells slots pc' L S) : Run Z a0 n0 p l e R s m args below meth c Ψ D cells slots pc L (.long x :: .int j :: .ref a :: S) := by
  subst hp hD
  intro T locs X N H
  have HA := H.2.2.1 _ (List.mem_of_getElem? hi)
  have g1 := HA.1
  obtain ⟨-, c', A, e1, -⟩ := HA
  obtain ⟨u1, u2⟩ := in_of hj hq hv e1
  obtain ⟨T', h', X', e', W, st'⟩ := stJ X K.1 K.2.1 rfl A u1 (g := mkF m pc L (.long x :: .int j :: .ref a :: S)) rfl rfl (hb K.2.2.1 hd)
  rw [hq] at W X'
  obtain ⟨t, o, st, r⟩ := k T' _ X' (Fr.snoc X' N g1) (by rw [e']; exact H.store hi (rfl) W)
  exact ⟨t, o, st' _ st, r⟩
theorem Run.bring (i j : Nat) {D' : HD} (hD : D' = (bringL i D.1, bringL j D.2)) (k : Run Z a0 n0 p l e R s m args below meth c Ψ D' cells slots pc L S) : Run Z a0 n0 p l e R s m args below meth c Ψ D cells slots pc L S := by
  subst hD
  intro T locs X N H
  exact k T locs X N (H.perm (bringL_perm i _) (bringL_perm j _))
theorem Run.initO (K : Ctx Z y bytes maxL ret p s m meth c) {idx : Nat} {a : Addr} {W : Nat} {pc' : Nat} (hd : decode bytes pc = .ok (.invokespecial idx, 3)) (hp : pc + 3 = pc') (w1 : (Jvm.Cond.methodLink y.cls idx Lib.objectInit).before a0 Z = true) (w2 : (Jvm.Cond.instanceMethod Lib.objectInit).before a0 Z = true) (w3 : (Jvm.Cond.code Lib.objectInit ⟨#[0xb1]⟩ 1 none).before a0 Z = true) (hsz : L.size = maxL) (hf : 1 ≤ R.frames) (hW : (S.map fun v => v.category).sum = W) (hl : W + 12 ≤ R.locals) (k : Run Z a0 n0 p l e R s m args below meth c Ψ D cells slots pc' L S) : Run Z a0 n0 p l e R s m args below meth c Ψ D cells slots pc L (.ref a :: S) := by
  subst hp
  intro T locs X N H
  obtain ⟨T', X', e', st'⟩ := RoadKit.initO X K.1 K.2.1 K.2.2.2.2.1 w1 w2 w3 rfl (g := mkF m pc L (.ref a :: S)) rfl (by rw [K.2.2.2.1]; exact hsz) rfl (hb K.2.2.1 hd) hf (W := W) (by show 2 * 0 + _ ≤ _; rw [hW]; omega) hl
  obtain ⟨t, o, st, r⟩ := k T' locs X' N (by rw [e']; exact H)
  exact ⟨t, o, st' _ st, r⟩
theorem Run.callS (K : Ctx Z y bytes maxL ret p s m meth c) {idx W : Nat} {z : MethodName} {bs : ByteArray} {mL : Nat} {rt : Option FieldType} {rm : Room} {Φ : Option Value → HD → Prop} {argsL rest : List Value} {sg : MethodDescriptor} {cells' slots' pc' : Nat} (hd : decode bytes pc = .ok (.invokestatic idx, 3)) (hp : pc + 3 = pc') (w1 : (Jvm.Cond.methodLink y.cls idx z).before a0 Z = true) (w2 : (Jvm.Cond.static z).before a0 Z = true) (w3 : (Jvm.Cond.initialized z.cls).before a0 Z = true) (w4 : (Jvm.Cond.code z bs mL rt).before a0 Z = true) (hz : z.cls ≠ "java/lang/invoke/MethodHandle" ∧ z.cls ≠ "java/lang/invoke/VarHandle") (C : Con l Z a0 n0 [] z bs mL rt rm argsL.toArray D Φ) (hS : S = argsL.reverse ++ rest) (hsz : L.size = maxL) (hsg : parseMethodDescriptor z.desc = some sg) (hlen : argsL.length = sg.parameters.length) (hW : (rest.map fun v => v.category).sum = W) (hf : rm.frames + 1 ≤ R.frames) (hl : W + (mL + 11) + rm.locals ≤ R.locals) (e1 : cells + rm.cells = cells') (e2 : slots + rm.slots = slots') (hc : cells' ≤ R.cells) (hs : slots' ≤ R.slots) (k : ∀ (v : Option Value) (D' : HD), Φ v D' → Run Z a0 n0 p l e R s m args below meth c Ψ D' cells' slots' pc' L (v.toList ++ rest)) : Run Z a0 n0 p l e R s m args below meth c Ψ D cells slots pc L S := by
  subst hp e1 e2 hS
  intro T locs X N H
  have B := backOf (R := R) (p := p) (e := e) (below := below) (s := s) (args := args) (len := 3) (W := W) (Q := fun v h L => Fr n0 L ∧ ∃ D', Φ v D' ∧ Heaped Z a0 n0 h D') (C T.heap H) K.2.1 w4 w3 hf hl
  obtain ⟨v, _, ⟨T', L', k', n'⟩, -, X', ⟨Lc, hQ, l', y', z'⟩, st'⟩ := Jvm.LawKit.callS X K.1 (y := z) K.2.2.2.2.1 (mvT K.2.1 w1) (mvT K.2.1 w2) (mvT K.2.1 w3) (mvT K.2.1 w4) hz B (g := mkF m pc L (argsL.reverse ++ rest)) rfl (by rw [K.2.2.2.1]; exact hsz) (argsL := argsL) (rest := rest) (fun sig h => by cases hsg.symm.trans h; exact hlen) rfl (by show 2 * 0 + _ ≤ _; rw [hW]; omega) (hb K.2.2.1 hd) (fun _ _ => ⟨rfl, rfl, hc, hs⟩)
  dsimp only [Pt.U, Pt.locs, Pt.cells, Pt.slots] at X' st' hQ l' y' z'
  subst l' y' z'
  obtain ⟨N', D', hΦ, H'⟩ := hQ
  obtain ⟨t, o, st, r⟩ := k v D' hΦ T' _ X' (Fr.app N N') H'
  exact ⟨t, o, st' _ st, r⟩
theorem Run.callI (K : Ctx Z y bytes maxL ret p s m meth c) {idx W : Nat} {z : MethodName} {bs : ByteArray} {mL : Nat} {rm : Room} {Φ : Option Value → HD → Prop} {argsL rest : List Value} {sg : MethodDescriptor} {cells' slots' pc' : Nat} {a : Addr} (hd : decode bytes pc = .ok (.invokespecial idx, 3)) (hp : pc + 3 = pc') (hz1 : z.name = "<init>") (w1 : (Jvm.Cond.methodLink y.cls idx z).before a0 Z = true) (w2 : (Jvm.Cond.instanceMethod z).before a0 Z = true) (w3 : (Jvm.Cond.initialized z.cls).before a0 Z = true) (w4 : (Jvm.Cond.code z bs mL none).before a0 Z = true) (hz : z.cls ≠ "java/lang/invoke/MethodHandle" ∧ z.cls ≠ "java/lang/invoke/VarHandle") (C : Con l Z a0 n0 [] z bs mL none rm (.ref a :: argsL).toArray D Φ) (hS : S = argsL.reverse ++ .ref a :: rest) (hsz : L.size = maxL) (hsg : parseMethodDescriptor z.desc = some sg) (hlen : argsL.length = sg.parameters.length) (hW : (rest.map fun v => v.category).sum = W) (hf : rm.frames + 1 ≤ R.frames) (hl : W + (mL + 11) + rm.locals ≤ R.locals) (e1 : cells + rm.cells = cells') (e2 : slots + rm.slots = slots') (hc : cells' ≤ R.cells) (hs : slots' ≤ R.slots) (k : ∀ (v : Option Value) (D' : HD), Φ v D' → Run Z a0 n0 p l e R s m args below meth c Ψ D' cells' slots' pc' L (v.toList ++ rest)) : Run Z a0 n0 p l e R s m args below meth c Ψ D cells slots pc L S := by
  subst hp e1 e2 hS
  intro T locs X N H
  have B := backOf (R := R) (p := p) (e := e) (below := below) (s := s) (args := args) (len := 3) (W := W) (Q := fun v h L => Fr n0 L ∧ ∃ D', Φ v D' ∧ Heaped Z a0 n0 h D') (C T.heap H) K.2.1 w4 w3 hf hl
  obtain ⟨v, _, ⟨T', L', k', n'⟩, -, X', ⟨Lc, hQ, l', y', z'⟩, st'⟩ := X.specialBack K.1 (y := z) hz1 K.2.2.2.2.1 (mvT K.2.1 w1) (mvT K.2.1 w2) (mvT K.2.1 w4) hz B (g := mkF m pc L (argsL.reverse ++ .ref a :: rest)) rfl (by rw [K.2.2.2.1]; exact hsz) (Steps.refl _) (a := a) (argsL := argsL) (rest := rest) (fun sig h => by cases hsg.symm.trans h; exact hlen) rfl (by show 2 * 0 + _ ≤ _; rw [hW]; omega) (hb K.2.2.1 hd) (fun _ _ => ⟨rfl, rfl, hc, hs⟩)
  dsimp only [Pt.U, Pt.locs, Pt.cells, Pt.slots] at X' st' hQ l' y' z'
  subst l' y' z'
  obtain ⟨N', D', hΦ, H'⟩ := hQ
  obtain ⟨t, o, st, r⟩ := k v D' hΦ T' _ X' (Fr.app N N') H'
  exact ⟨t, o, st'.trans st, r⟩
theorem Run.callV (K : Ctx Z y bytes maxL ret p s m meth c) {idx W : Nat} {z : MethodName} {bs : ByteArray} {mL : Nat} {rt : Option FieldType} {rm : Room} {Φ : Option Value → HD → Prop} {argsL rest : List Value} {sg : MethodDescriptor} {cells' slots' pc' : Nat} {a : Addr} {Cn : String} {fs : List OFld} {i : Nat} (hd : decode bytes pc = .ok (.invokevirtual idx, 3)) (hp : pc + 3 = pc') (w1 : (Jvm.Cond.methodLink y.cls idx z).before a0 Z = true) (w5 : (Jvm.Cond.declares z).before a0 Z = true) (w6 : (Jvm.Cond.selects Cn z z).before a0 Z = true) (w2 : (Jvm.Cond.instanceMethod z).before a0 Z = true) (w3 : (Jvm.Cond.initialized z.cls).before a0 Z = true) (w4 : (Jvm.Cond.code z bs mL rt).before a0 Z = true) (hz : z.cls ≠ "java/lang/invoke/MethodHandle" ∧ z.cls ≠ "java/lang/invoke/VarHandle") (hi : D.1[i]? = some (a, Cn, fs)) (C : Con l Z a0 n0 [] z bs mL rt rm (.ref a :: argsL).toArray D Φ) (hS : S = argsL.reverse ++ .ref a :: rest) (hsz : L.size = maxL) (hsg : parseMethodDescriptor z.desc = some sg) (hlen : argsL.length = sg.parameters.length) (hW : (rest.map fun v => v.category).sum = W) (hf : rm.frames + 1 ≤ R.frames) (hl : W + (mL + 11) + rm.locals ≤ R.locals) (e1 : cells + rm.cells = cells') (e2 : slots + rm.slots = slots') (hc : cells' ≤ R.cells) (hs : slots' ≤ R.slots) (k : ∀ (v : Option Value) (D' : HD), Φ v D' → Run Z a0 n0 p l e R s m args below meth c Ψ D' cells' slots' pc' L (v.toList ++ rest)) : Run Z a0 n0 p l e R s m args below meth c Ψ D cells slots pc L S := by
  subst hp e1 e2 hS
  intro T locs X N H
  have B := backOf (R := R) (p := p) (e := e) (below := below) (s := s) (args := args) (len := 3) (W := W) (Q := fun v h L => Fr n0 L ∧ ∃ D', Φ v D' ∧ Heaped Z a0 n0 h D') (C T.heap H) K.2.1 w4 w3 hf hl
  obtain ⟨cq, kq, q1, q2, q3⟩ := isOf (T := T) K.2.1 rfl (H.2.1 _ (List.mem_of_getElem? hi)).2.1
  obtain ⟨v, _, ⟨T', L', k', n'⟩, -, X', ⟨Lc, hQ, l', y', z'⟩, st'⟩ := X.virtualBack K.1 (y := z) (z := z) K.2.2.2.2.1 (mvT K.2.1 w1) (mvT K.2.1 w5) (notFace_of_selects (args := #[]) (mvT K.2.1 w6)) (mvT K.2.1 w6) (mvT K.2.1 w2) hz B q1 q3 (g := mkF m pc L (argsL.reverse ++ .ref a :: rest)) rfl (by rw [K.2.2.2.1]; exact hsz) (Steps.refl _) (argsL := argsL) (rest := rest) (fun sig h => by cases hsg.symm.trans h; exact hlen) rfl (by show 2 * 0 + _ ≤ _; rw [hW]; omega) (hb K.2.2.1 hd) (fun _ _ => ⟨rfl, rfl, hc, hs⟩)
  dsimp only [Pt.U, Pt.locs, Pt.cells, Pt.slots] at X' st' hQ l' y' z'
  subst l' y' z'
  obtain ⟨N', D', hΦ, H'⟩ := hQ
  obtain ⟨t, o, st, r⟩ := k v D' hΦ T' _ X' (Fr.app N N') H'
  exact ⟨t, o, st'.trans st, r⟩
theorem Run.retV (K : Ctx Z y bytes maxL ret p s m meth c)  (hd : decode bytes pc = .ok (.return_, 1)) (hret : ret = none) (hc : cells ≤ R.cells) (hs : slots ≤ R.slots) (q : Ψ none D) : Run Z a0 n0 p l e R s m args below meth c Ψ D cells slots pc L [] := by
  intro T locs X N H
  obtain ⟨fs, hr, hrun, hended, hW, hsame⟩ := X.leave (v := none) (fun _ => rfl) K.2.2.2.2.2.2.2
  exact ⟨_, _, X.returnOut K.1 (K.2.2.2.2.2.2.1.trans hret) (hb K.2.2.1 hd) hr, hrun, hended, _, _, rfl, ⟨N, D, q, H⟩, ⟨_, rfl⟩, hW, hsame.mono hc hs⟩
theorem Run.retI (K : Ctx Z y bytes maxL ret p s m meth c) {x : Int32} (hd : decode bytes pc = .ok (.ireturn, 1)) (hret : ret = some .int) (hc : cells ≤ R.cells) (hs : slots ≤ R.slots) (q : Ψ (some (.int x)) D) : Run Z a0 n0 p l e R s m args below meth c Ψ D cells slots pc L [.int x] := by
  intro T locs X N H
  obtain ⟨fs, hr, hrun, hended, hW, hsame⟩ := X.leave (v := (some (.int x))) (fun h => by rw [K.2.2.2.2.2.2.1, hret] at h; cases h) K.2.2.2.2.2.2.2
  exact ⟨_, _, X.ireturnOut K.1 (K.2.2.2.2.2.2.1.trans hret) rfl (Or.inl rfl) (hb K.2.2.1 hd) hr, hrun, hended, _, _, rfl, ⟨N, D, q, H⟩, ⟨_, rfl⟩, hW, hsame.mono hc hs⟩
theorem Run.retJ (K : Ctx Z y bytes maxL ret p s m meth c) {x : Int64} (hd : decode bytes pc = .ok (.lreturn, 1)) (hret : ret = some .long) (hc : cells ≤ R.cells) (hs : slots ≤ R.slots) (q : Ψ (some (.long x)) D) : Run Z a0 n0 p l e R s m args below meth c Ψ D cells slots pc L [.long x] := by
  intro T locs X N H
  obtain ⟨fs, hr, hrun, hended, hW, hsame⟩ := X.leave (v := (some (.long x))) (fun h => by rw [K.2.2.2.2.2.2.1, hret] at h; cases h) K.2.2.2.2.2.2.2
  exact ⟨_, _, X.lreturnOut K.1 (K.2.2.2.2.2.2.1.trans hret) (hb K.2.2.1 hd) hr, hrun, hended, _, _, rfl, ⟨N, D, q, H⟩, ⟨_, rfl⟩, hW, hsame.mono hc hs⟩
theorem Run.retN (K : Ctx Z y bytes maxL ret p s m meth c) {x w : Int32} {t : FieldType} (hd : decode bytes pc = .ok (.ireturn, 1)) (hret : ret = some t) (ht : t = .boolean ∨ t = .byte ∨ t = .char ∨ t = .short) (hw : nar t x = w) (hc : cells ≤ R.cells) (hs : slots ≤ R.slots) (q : Ψ (some (.int w)) D) : Run Z a0 n0 p l e R s m args below meth c Ψ D cells slots pc L [.int x] := by
  intro T locs X N H
  obtain ⟨fs, hr, hrun, hended, hW, hsame⟩ := X.leave (v := (some (.int w))) (fun h => by rw [K.2.2.2.2.2.2.1, hret] at h; cases h) K.2.2.2.2.2.2.2
  exact ⟨_, _, RoadKit.retN X K.1 (K.2.2.2.2.2.2.1.trans hret) ht (hb K.2.2.1 hd) (hw ▸ hr), hrun, hended, _, _, rfl, ⟨N, D, q, H⟩, ⟨_, rfl⟩, hW, hsame.mono hc hs⟩
theorem Run.retA (K : Ctx Z y bytes maxL ret p s m meth c) {x : Value} {t : FieldType} (hd : decode bytes pc = .ok (.areturn, 1)) (hret : ret = some t) (ht : t.isReference = true) (hx : x.isRef = true) (hc : cells ≤ R.cells) (hs : slots ≤ R.slots) (q : Ψ (some x) D) : Run Z a0 n0 p l e R s m args below meth c Ψ D cells slots pc L [x] := by
  intro T locs X N H
  obtain ⟨fs, hr, hrun, hended, hW, hsame⟩ := X.leave (v := (some x)) (fun h => by rw [K.2.2.2.2.2.2.1, hret] at h; cases h) K.2.2.2.2.2.2.2
  exact ⟨_, _, X.areturnOut K.1 hx (K.2.2.2.2.2.2.1.trans hret) ht (hb K.2.2.1 hd) hr, hrun, hended, _, _, rfl, ⟨N, D, q, H⟩, ⟨_, rfl⟩, hW, hsame.mono hc hs⟩
end Runs
end Jvm.Own

namespace Jvm.Pilot.@@N@@
open Jvm Jvm.ClassFile Sem Op Lib Jvm.Free Jvm.Stand Jvm.LawKit Jvm.RoadKit Jvm.Own Bundle Jvm.Pilot.@@N@@.Jvm.D
def own_hex (x : Int32) : Bool := ((48 : Int32) ≤ x && x ≤ (57 : Int32)) || ((97 : Int32) ≤ x && x ≤ (102 : Int32)) || ((65 : Int32) ≤ x && x ≤ (70 : Int32))
theorem own_low : ∀ n : Fin 64, (((((287948901175001088 : Int64).toUInt64 >>> ((Int32.ofNat n.val) &&& 0x3f).toInt64.toUInt64).toInt64) &&& (1 : Int64)) = (0 : Int64)) ↔ own_hex (Int32.ofNat n.val) = false := by decide +kernel
theorem own_high : ∀ n : Fin 64, (((((541165879422 : Int64).toUInt64 >>> ((Int32.ofNat (n.val + 64) - (64 : Int32)) &&& 0x3f).toInt64.toUInt64).toInt64) &&& (1 : Int64)) = (0 : Int64)) ↔ own_hex (Int32.ofNat (n.val + 64)) = false := by decide +kernel
theorem own_nat {x : Int32} (h0 : ¬ (x < (0 : Int32))) : ∃ n : Nat, x = Int32.ofNat n ∧ x.toInt = n := by
  rw [Int32.lt_iff_toInt_lt] at h0
  have z : (0 : Int32).toInt = 0 := by decide
  refine ⟨x.toInt.toNat, ?_, by omega⟩
  apply Int32.toInt_inj.mp
  have r := rng32 x
  rw [Int32.toInt_ofNat_small (by omega)]
  omega
theorem own_k0 {p1 c84 : Int32} (k0 : (((p1 < (48 : Int32)) ∧ (p1 < (97 : Int32)) ∧ (p1 < (65 : Int32)) ∧ c84 = (0 : Int32)) ∨ ((p1 < (48 : Int32)) ∧ (p1 < (97 : Int32)) ∧ (¬ (p1 < (65 : Int32))) ∧ ((70 : Int32) < p1) ∧ c84 = (0 : Int32)) ∨ ((p1 < (48 : Int32)) ∧ (p1 < (97 : Int32)) ∧ (¬ (p1 < (65 : Int32))) ∧ (¬ ((70 : Int32) < p1)) ∧ c84 = (1 : Int32)) ∨ ((p1 < (48 : Int32)) ∧ (¬ (p1 < (97 : Int32))) ∧ (p1 ≤ (102 : Int32)) ∧ c84 = (1 : Int32)) ∨ ((p1 < (48 : Int32)) ∧ (¬ (p1 < (97 : Int32))) ∧ (¬ (p1 ≤ (102 : Int32))) ∧ (p1 < (65 : Int32)) ∧ c84 = (0 : Int32)) ∨ ((p1 < (48 : Int32)) ∧ (¬ (p1 < (97 : Int32))) ∧ (¬ (p1 ≤ (102 : Int32))) ∧ (¬ (p1 < (65 : Int32))) ∧ ((70 : Int32) < p1) ∧ c84 = (0 : Int32)) ∨ ((p1 < (48 : Int32)) ∧ (¬ (p1 < (97 : Int32))) ∧ (¬ (p1 ≤ (102 : Int32))) ∧ (¬ (p1 < (65 : Int32))) ∧ (¬ ((70 : Int32) < p1)) ∧ c84 = (1 : Int32)) ∨ ((¬ (p1 < (48 : Int32))) ∧ (p1 ≤ (57 : Int32)) ∧ c84 = (1 : Int32)) ∨ ((¬ (p1 < (48 : Int32))) ∧ (¬ (p1 ≤ (57 : Int32))) ∧ (p1 < (97 : Int32)) ∧ (p1 < (65 : Int32)) ∧ c84 = (0 : Int32)) ∨ ((¬ (p1 < (48 : Int32))) ∧ (¬ (p1 ≤ (57 : Int32))) ∧ (p1 < (97 : Int32)) ∧ (¬ (p1 < (65 : Int32))) ∧ ((70 : Int32) < p1) ∧ c84 = (0 : Int32)) ∨ ((¬ (p1 < (48 : Int32))) ∧ (¬ (p1 ≤ (57 : Int32))) ∧ (p1 < (97 : Int32)) ∧ (¬ (p1 < (65 : Int32))) ∧ (¬ ((70 : Int32) < p1)) ∧ c84 = (1 : Int32)) ∨ ((¬ (p1 < (48 : Int32))) ∧ (¬ (p1 ≤ (57 : Int32))) ∧ (¬ (p1 < (97 : Int32))) ∧ (p1 ≤ (102 : Int32)) ∧ c84 = (1 : Int32)) ∨ ((¬ (p1 < (48 : Int32))) ∧ (¬ (p1 ≤ (57 : Int32))) ∧ (¬ (p1 < (97 : Int32))) ∧ (¬ (p1 ≤ (102 : Int32))) ∧ (p1 < (65 : Int32)) ∧ c84 = (0 : Int32)) ∨ ((¬ (p1 < (48 : Int32))) ∧ (¬ (p1 ≤ (57 : Int32))) ∧ (¬ (p1 < (97 : Int32))) ∧ (¬ (p1 ≤ (102 : Int32))) ∧ (¬ (p1 < (65 : Int32))) ∧ ((70 : Int32) < p1) ∧ c84 = (0 : Int32)) ∨ ((¬ (p1 < (48 : Int32))) ∧ (¬ (p1 ≤ (57 : Int32))) ∧ (¬ (p1 < (97 : Int32))) ∧ (¬ (p1 ≤ (102 : Int32))) ∧ (¬ (p1 < (65 : Int32))) ∧ (¬ ((70 : Int32) < p1)) ∧ c84 = (1 : Int32)))) : c84 = if own_hex p1 = true then (1 : Int32) else (0 : Int32) := by
  have o1 : (48 : Int32).toInt = 48 := by decide
  have o2 : (57 : Int32).toInt = 57 := by decide
  have o3 : (97 : Int32).toInt = 97 := by decide
  have o4 : (102 : Int32).toInt = 102 := by decide
  have o5 : (65 : Int32).toInt = 65 := by decide
  have o6 : (70 : Int32).toInt = 70 := by decide
  simp only [Int32.lt_iff_toInt_lt, Int32.le_iff_toInt_le, o1, o2, o3, o4, o5, o6] at k0
  by_cases q : own_hex p1 = true
  · rw [if_pos q]
    simp only [own_hex, Bool.or_eq_true, Bool.and_eq_true, decide_eq_true_eq, Int32.le_iff_toInt_le, o1, o2, o3, o4, o5, o6] at q
    rcases k0 with ⟨_, _, _, w⟩ | ⟨_, _, _, _, w⟩ | ⟨_, _, _, _, w⟩ | ⟨_, _, _, w⟩ | ⟨_, _, _, _, w⟩ | ⟨_, _, _, _, _, w⟩ | ⟨_, _, _, _, _, w⟩ | ⟨_, _, w⟩ | ⟨_, _, _, _, w⟩ | ⟨_, _, _, _, _, w⟩ | ⟨_, _, _, _, _, w⟩ | ⟨_, _, _, _, w⟩ | ⟨_, _, _, _, _, w⟩ | ⟨_, _, _, _, _, _, w⟩ | ⟨_, _, _, _, _, _, w⟩ <;> first | exact w | omega
  · rw [if_neg q]
    simp only [own_hex, Bool.or_eq_true, Bool.and_eq_true, decide_eq_true_eq, Int32.le_iff_toInt_le, o1, o2, o3, o4, o5, o6] at q
    rcases k0 with ⟨_, _, _, w⟩ | ⟨_, _, _, _, w⟩ | ⟨_, _, _, _, w⟩ | ⟨_, _, _, w⟩ | ⟨_, _, _, _, w⟩ | ⟨_, _, _, _, _, w⟩ | ⟨_, _, _, _, _, w⟩ | ⟨_, _, w⟩ | ⟨_, _, _, _, w⟩ | ⟨_, _, _, _, _, w⟩ | ⟨_, _, _, _, _, w⟩ | ⟨_, _, _, _, w⟩ | ⟨_, _, _, _, _, w⟩ | ⟨_, _, _, _, _, _, w⟩ | ⟨_, _, _, _, _, _, w⟩ <;> first | exact w | omega
theorem own_k1 {p1 c86 : Int32} (k1 : (((p1 < (0 : Int32)) ∧ c86 = (0 : Int32)) ∨ (∃ (j66 : Int32), (¬ (p1 < (0 : Int32))) ∧ (p1 ≤ (127 : Int32)) ∧ ((64 : Int32) ≤ p1) ∧ (((((((541165879422 : Int64).toUInt64 >>> ((p1 - (64 : Int32)) &&& 0x3f).toInt64.toUInt64).toInt64) &&& (1 : Int64)) = (0 : Int64)) ∧ j66 = (0 : Int32)) ∨ ((¬ (((((541165879422 : Int64).toUInt64 >>> ((p1 - (64 : Int32)) &&& 0x3f).toInt64.toUInt64).toInt64) &&& (1 : Int64)) = (0 : Int64))) ∧ j66 = (1 : Int32))) ∧ c86 = j66) ∨ (∃ (j70 : Int32), (¬ (p1 < (0 : Int32))) ∧ (p1 ≤ (127 : Int32)) ∧ (¬ ((64 : Int32) ≤ p1)) ∧ (((((((287948901175001088 : Int64).toUInt64 >>> (p1 &&& 0x3f).toInt64.toUInt64).toInt64) &&& (1 : Int64)) = (0 : Int64)) ∧ j70 = (0 : Int32)) ∨ ((¬ (((((287948901175001088 : Int64).toUInt64 >>> (p1 &&& 0x3f).toInt64.toUInt64).toInt64) &&& (1 : Int64)) = (0 : Int64))) ∧ j70 = (1 : Int32))) ∧ c86 = j70) ∨ ((¬ (p1 < (0 : Int32))) ∧ (¬ (p1 ≤ (127 : Int32))) ∧ c86 = (0 : Int32)))) : c86 = if own_hex p1 = true then (1 : Int32) else (0 : Int32) := by
  have far : (p1 < (0 : Int32) ∨ ¬ (p1 ≤ (127 : Int32))) → own_hex p1 = false := by
    intro h
    have o0 : (0 : Int32).toInt = 0 := by decide
    have o1 : (48 : Int32).toInt = 48 := by decide
    have o2 : (57 : Int32).toInt = 57 := by decide
    have o3 : (97 : Int32).toInt = 97 := by decide
    have o4 : (102 : Int32).toInt = 102 := by decide
    have o5 : (65 : Int32).toInt = 65 := by decide
    have o6 : (70 : Int32).toInt = 70 := by decide
    have o7 : (127 : Int32).toInt = 127 := by decide
    rw [Bool.eq_false_iff]
    simp only [own_hex, ne_eq, Bool.or_eq_true, Bool.and_eq_true, decide_eq_true_eq, Int32.lt_iff_toInt_lt, Int32.le_iff_toInt_le, o0, o1, o2, o3, o4, o5, o6, o7] at h ⊢
    omega
  rcases k1 with ⟨a, h⟩ | ⟨j, a, b, d, e, h⟩ | ⟨j, a, b, d, e, h⟩ | ⟨-, a, h⟩
  · rw [far (Or.inl a), h]; rfl
  · obtain ⟨n, rfl, hn⟩ := own_nat a
    have o7 : (127 : Int32).toInt = 127 := by decide
    have o8 : (64 : Int32).toInt = 64 := by decide
    rw [Int32.le_iff_toInt_le, hn] at b d
    have q := own_high ⟨n - 64, by omega⟩
    have q2 : n - 64 + 64 = n := by omega
    rw [q2] at q
    rcases e with ⟨e, e2⟩ | ⟨e, e2⟩
    · rw [h, e2, q.mp e]; rfl
    · rw [h, e2, Bool.not_eq_false _ |>.mp fun z => e (q.mpr z)]; rfl
  · obtain ⟨n, rfl, hn⟩ := own_nat a
    have o8 : (64 : Int32).toInt = 64 := by decide
    rw [Int32.le_iff_toInt_le, hn] at d
    have q := own_low ⟨n, by omega⟩
    rcases e with ⟨e, e2⟩ | ⟨e, e2⟩
    · rw [h, e2, q.mp e]; rfl
    · rw [h, e2, Bool.not_eq_false _ |>.mp fun z => e (q.mpr z)]; rfl
  · rw [far (Or.inr a), h]; rfl
theorem own_same {p1 c84 c86 : Int32} (k0 : (((p1 < (48 : Int32)) ∧ (p1 < (97 : Int32)) ∧ (p1 < (65 : Int32)) ∧ c84 = (0 : Int32)) ∨ ((p1 < (48 : Int32)) ∧ (p1 < (97 : Int32)) ∧ (¬ (p1 < (65 : Int32))) ∧ ((70 : Int32) < p1) ∧ c84 = (0 : Int32)) ∨ ((p1 < (48 : Int32)) ∧ (p1 < (97 : Int32)) ∧ (¬ (p1 < (65 : Int32))) ∧ (¬ ((70 : Int32) < p1)) ∧ c84 = (1 : Int32)) ∨ ((p1 < (48 : Int32)) ∧ (¬ (p1 < (97 : Int32))) ∧ (p1 ≤ (102 : Int32)) ∧ c84 = (1 : Int32)) ∨ ((p1 < (48 : Int32)) ∧ (¬ (p1 < (97 : Int32))) ∧ (¬ (p1 ≤ (102 : Int32))) ∧ (p1 < (65 : Int32)) ∧ c84 = (0 : Int32)) ∨ ((p1 < (48 : Int32)) ∧ (¬ (p1 < (97 : Int32))) ∧ (¬ (p1 ≤ (102 : Int32))) ∧ (¬ (p1 < (65 : Int32))) ∧ ((70 : Int32) < p1) ∧ c84 = (0 : Int32)) ∨ ((p1 < (48 : Int32)) ∧ (¬ (p1 < (97 : Int32))) ∧ (¬ (p1 ≤ (102 : Int32))) ∧ (¬ (p1 < (65 : Int32))) ∧ (¬ ((70 : Int32) < p1)) ∧ c84 = (1 : Int32)) ∨ ((¬ (p1 < (48 : Int32))) ∧ (p1 ≤ (57 : Int32)) ∧ c84 = (1 : Int32)) ∨ ((¬ (p1 < (48 : Int32))) ∧ (¬ (p1 ≤ (57 : Int32))) ∧ (p1 < (97 : Int32)) ∧ (p1 < (65 : Int32)) ∧ c84 = (0 : Int32)) ∨ ((¬ (p1 < (48 : Int32))) ∧ (¬ (p1 ≤ (57 : Int32))) ∧ (p1 < (97 : Int32)) ∧ (¬ (p1 < (65 : Int32))) ∧ ((70 : Int32) < p1) ∧ c84 = (0 : Int32)) ∨ ((¬ (p1 < (48 : Int32))) ∧ (¬ (p1 ≤ (57 : Int32))) ∧ (p1 < (97 : Int32)) ∧ (¬ (p1 < (65 : Int32))) ∧ (¬ ((70 : Int32) < p1)) ∧ c84 = (1 : Int32)) ∨ ((¬ (p1 < (48 : Int32))) ∧ (¬ (p1 ≤ (57 : Int32))) ∧ (¬ (p1 < (97 : Int32))) ∧ (p1 ≤ (102 : Int32)) ∧ c84 = (1 : Int32)) ∨ ((¬ (p1 < (48 : Int32))) ∧ (¬ (p1 ≤ (57 : Int32))) ∧ (¬ (p1 < (97 : Int32))) ∧ (¬ (p1 ≤ (102 : Int32))) ∧ (p1 < (65 : Int32)) ∧ c84 = (0 : Int32)) ∨ ((¬ (p1 < (48 : Int32))) ∧ (¬ (p1 ≤ (57 : Int32))) ∧ (¬ (p1 < (97 : Int32))) ∧ (¬ (p1 ≤ (102 : Int32))) ∧ (¬ (p1 < (65 : Int32))) ∧ ((70 : Int32) < p1) ∧ c84 = (0 : Int32)) ∨ ((¬ (p1 < (48 : Int32))) ∧ (¬ (p1 ≤ (57 : Int32))) ∧ (¬ (p1 < (97 : Int32))) ∧ (¬ (p1 ≤ (102 : Int32))) ∧ (¬ (p1 < (65 : Int32))) ∧ (¬ ((70 : Int32) < p1)) ∧ c84 = (1 : Int32)))) (k1 : (((p1 < (0 : Int32)) ∧ c86 = (0 : Int32)) ∨ (∃ (j66 : Int32), (¬ (p1 < (0 : Int32))) ∧ (p1 ≤ (127 : Int32)) ∧ ((64 : Int32) ≤ p1) ∧ (((((((541165879422 : Int64).toUInt64 >>> ((p1 - (64 : Int32)) &&& 0x3f).toInt64.toUInt64).toInt64) &&& (1 : Int64)) = (0 : Int64)) ∧ j66 = (0 : Int32)) ∨ ((¬ (((((541165879422 : Int64).toUInt64 >>> ((p1 - (64 : Int32)) &&& 0x3f).toInt64.toUInt64).toInt64) &&& (1 : Int64)) = (0 : Int64))) ∧ j66 = (1 : Int32))) ∧ c86 = j66) ∨ (∃ (j70 : Int32), (¬ (p1 < (0 : Int32))) ∧ (p1 ≤ (127 : Int32)) ∧ (¬ ((64 : Int32) ≤ p1)) ∧ (((((((287948901175001088 : Int64).toUInt64 >>> (p1 &&& 0x3f).toInt64.toUInt64).toInt64) &&& (1 : Int64)) = (0 : Int64)) ∧ j70 = (0 : Int32)) ∨ ((¬ (((((287948901175001088 : Int64).toUInt64 >>> (p1 &&& 0x3f).toInt64.toUInt64).toInt64) &&& (1 : Int64)) = (0 : Int64))) ∧ j70 = (1 : Int32))) ∧ c86 = j70) ∨ ((¬ (p1 < (0 : Int32))) ∧ (¬ (p1 ≤ (127 : Int32))) ∧ c86 = (0 : Int32)))) : c84 = c86 := by rw [own_k0 k0, own_k1 k1]

set_option maxHeartbeats 4000000 in
theorem own_final (p1 : Int32) (p2 : Int32) (c84 : Int32) (c86 : Int32) (j90 : Int32) (c91 : Int32) (c93 : Int32) (j97 : Int32) (j101 : Int32)
    (k0 : (((p1 < (48 : Int32)) ∧ (p1 < (97 : Int32)) ∧ (p1 < (65 : Int32)) ∧ c84 = (0 : Int32)) ∨ ((p1 < (48 : Int32)) ∧ (p1 < (97 : Int32)) ∧ (¬ (p1 < (65 : Int32))) ∧ ((70 : Int32) < p1) ∧ c84 = (0 : Int32)) ∨ ((p1 < (48 : Int32)) ∧ (p1 < (97 : Int32)) ∧ (¬ (p1 < (65 : Int32))) ∧ (¬ ((70 : Int32) < p1)) ∧ c84 = (1 : Int32)) ∨ ((p1 < (48 : Int32)) ∧ (¬ (p1 < (97 : Int32))) ∧ (p1 ≤ (102 : Int32)) ∧ c84 = (1 : Int32)) ∨ ((p1 < (48 : Int32)) ∧ (¬ (p1 < (97 : Int32))) ∧ (¬ (p1 ≤ (102 : Int32))) ∧ (p1 < (65 : Int32)) ∧ c84 = (0 : Int32)) ∨ ((p1 < (48 : Int32)) ∧ (¬ (p1 < (97 : Int32))) ∧ (¬ (p1 ≤ (102 : Int32))) ∧ (¬ (p1 < (65 : Int32))) ∧ ((70 : Int32) < p1) ∧ c84 = (0 : Int32)) ∨ ((p1 < (48 : Int32)) ∧ (¬ (p1 < (97 : Int32))) ∧ (¬ (p1 ≤ (102 : Int32))) ∧ (¬ (p1 < (65 : Int32))) ∧ (¬ ((70 : Int32) < p1)) ∧ c84 = (1 : Int32)) ∨ ((¬ (p1 < (48 : Int32))) ∧ (p1 ≤ (57 : Int32)) ∧ c84 = (1 : Int32)) ∨ ((¬ (p1 < (48 : Int32))) ∧ (¬ (p1 ≤ (57 : Int32))) ∧ (p1 < (97 : Int32)) ∧ (p1 < (65 : Int32)) ∧ c84 = (0 : Int32)) ∨ ((¬ (p1 < (48 : Int32))) ∧ (¬ (p1 ≤ (57 : Int32))) ∧ (p1 < (97 : Int32)) ∧ (¬ (p1 < (65 : Int32))) ∧ ((70 : Int32) < p1) ∧ c84 = (0 : Int32)) ∨ ((¬ (p1 < (48 : Int32))) ∧ (¬ (p1 ≤ (57 : Int32))) ∧ (p1 < (97 : Int32)) ∧ (¬ (p1 < (65 : Int32))) ∧ (¬ ((70 : Int32) < p1)) ∧ c84 = (1 : Int32)) ∨ ((¬ (p1 < (48 : Int32))) ∧ (¬ (p1 ≤ (57 : Int32))) ∧ (¬ (p1 < (97 : Int32))) ∧ (p1 ≤ (102 : Int32)) ∧ c84 = (1 : Int32)) ∨ ((¬ (p1 < (48 : Int32))) ∧ (¬ (p1 ≤ (57 : Int32))) ∧ (¬ (p1 < (97 : Int32))) ∧ (¬ (p1 ≤ (102 : Int32))) ∧ (p1 < (65 : Int32)) ∧ c84 = (0 : Int32)) ∨ ((¬ (p1 < (48 : Int32))) ∧ (¬ (p1 ≤ (57 : Int32))) ∧ (¬ (p1 < (97 : Int32))) ∧ (¬ (p1 ≤ (102 : Int32))) ∧ (¬ (p1 < (65 : Int32))) ∧ ((70 : Int32) < p1) ∧ c84 = (0 : Int32)) ∨ ((¬ (p1 < (48 : Int32))) ∧ (¬ (p1 ≤ (57 : Int32))) ∧ (¬ (p1 < (97 : Int32))) ∧ (¬ (p1 ≤ (102 : Int32))) ∧ (¬ (p1 < (65 : Int32))) ∧ (¬ ((70 : Int32) < p1)) ∧ c84 = (1 : Int32))))
    (k1 : (((p1 < (0 : Int32)) ∧ c86 = (0 : Int32)) ∨ (∃ (j66 : Int32), (¬ (p1 < (0 : Int32))) ∧ (p1 ≤ (127 : Int32)) ∧ ((64 : Int32) ≤ p1) ∧ (((((((541165879422 : Int64).toUInt64 >>> ((p1 - (64 : Int32)) &&& 0x3f).toInt64.toUInt64).toInt64) &&& (1 : Int64)) = (0 : Int64)) ∧ j66 = (0 : Int32)) ∨ ((¬ (((((541165879422 : Int64).toUInt64 >>> ((p1 - (64 : Int32)) &&& 0x3f).toInt64.toUInt64).toInt64) &&& (1 : Int64)) = (0 : Int64))) ∧ j66 = (1 : Int32))) ∧ c86 = j66) ∨ (∃ (j70 : Int32), (¬ (p1 < (0 : Int32))) ∧ (p1 ≤ (127 : Int32)) ∧ (¬ ((64 : Int32) ≤ p1)) ∧ (((((((287948901175001088 : Int64).toUInt64 >>> (p1 &&& 0x3f).toInt64.toUInt64).toInt64) &&& (1 : Int64)) = (0 : Int64)) ∧ j70 = (0 : Int32)) ∨ ((¬ (((((287948901175001088 : Int64).toUInt64 >>> (p1 &&& 0x3f).toInt64.toUInt64).toInt64) &&& (1 : Int64)) = (0 : Int64))) ∧ j70 = (1 : Int32))) ∧ c86 = j70) ∨ ((¬ (p1 < (0 : Int32))) ∧ (¬ (p1 ≤ (127 : Int32))) ∧ c86 = (0 : Int32))))
    (k2 : ((c84 ≠ c86) ∧ j90 = (0 : Int32)) ∨ ((¬ (c84 ≠ c86)) ∧ j90 = (1 : Int32)))
    (k3 : ((((p2 &&& (127 : Int32)) < (48 : Int32)) ∧ ((p2 &&& (127 : Int32)) < (97 : Int32)) ∧ ((p2 &&& (127 : Int32)) < (65 : Int32)) ∧ c91 = (0 : Int32)) ∨ (((p2 &&& (127 : Int32)) < (48 : Int32)) ∧ ((p2 &&& (127 : Int32)) < (97 : Int32)) ∧ (¬ ((p2 &&& (127 : Int32)) < (65 : Int32))) ∧ ((70 : Int32) < (p2 &&& (127 : Int32))) ∧ c91 = (0 : Int32)) ∨ (((p2 &&& (127 : Int32)) < (48 : Int32)) ∧ ((p2 &&& (127 : Int32)) < (97 : Int32)) ∧ (¬ ((p2 &&& (127 : Int32)) < (65 : Int32))) ∧ (¬ ((70 : Int32) < (p2 &&& (127 : Int32)))) ∧ c91 = (1 : Int32)) ∨ (((p2 &&& (127 : Int32)) < (48 : Int32)) ∧ (¬ ((p2 &&& (127 : Int32)) < (97 : Int32))) ∧ ((p2 &&& (127 : Int32)) ≤ (102 : Int32)) ∧ c91 = (1 : Int32)) ∨ (((p2 &&& (127 : Int32)) < (48 : Int32)) ∧ (¬ ((p2 &&& (127 : Int32)) < (97 : Int32))) ∧ (¬ ((p2 &&& (127 : Int32)) ≤ (102 : Int32))) ∧ ((p2 &&& (127 : Int32)) < (65 : Int32)) ∧ c91 = (0 : Int32)) ∨ (((p2 &&& (127 : Int32)) < (48 : Int32)) ∧ (¬ ((p2 &&& (127 : Int32)) < (97 : Int32))) ∧ (¬ ((p2 &&& (127 : Int32)) ≤ (102 : Int32))) ∧ (¬ ((p2 &&& (127 : Int32)) < (65 : Int32))) ∧ ((70 : Int32) < (p2 &&& (127 : Int32))) ∧ c91 = (0 : Int32)) ∨ (((p2 &&& (127 : Int32)) < (48 : Int32)) ∧ (¬ ((p2 &&& (127 : Int32)) < (97 : Int32))) ∧ (¬ ((p2 &&& (127 : Int32)) ≤ (102 : Int32))) ∧ (¬ ((p2 &&& (127 : Int32)) < (65 : Int32))) ∧ (¬ ((70 : Int32) < (p2 &&& (127 : Int32)))) ∧ c91 = (1 : Int32)) ∨ ((¬ ((p2 &&& (127 : Int32)) < (48 : Int32))) ∧ ((p2 &&& (127 : Int32)) ≤ (57 : Int32)) ∧ c91 = (1 : Int32)) ∨ ((¬ ((p2 &&& (127 : Int32)) < (48 : Int32))) ∧ (¬ ((p2 &&& (127 : Int32)) ≤ (57 : Int32))) ∧ ((p2 &&& (127 : Int32)) < (97 : Int32)) ∧ ((p2 &&& (127 : Int32)) < (65 : Int32)) ∧ c91 = (0 : Int32)) ∨ ((¬ ((p2 &&& (127 : Int32)) < (48 : Int32))) ∧ (¬ ((p2 &&& (127 : Int32)) ≤ (57 : Int32))) ∧ ((p2 &&& (127 : Int32)) < (97 : Int32)) ∧ (¬ ((p2 &&& (127 : Int32)) < (65 : Int32))) ∧ ((70 : Int32) < (p2 &&& (127 : Int32))) ∧ c91 = (0 : Int32)) ∨ ((¬ ((p2 &&& (127 : Int32)) < (48 : Int32))) ∧ (¬ ((p2 &&& (127 : Int32)) ≤ (57 : Int32))) ∧ ((p2 &&& (127 : Int32)) < (97 : Int32)) ∧ (¬ ((p2 &&& (127 : Int32)) < (65 : Int32))) ∧ (¬ ((70 : Int32) < (p2 &&& (127 : Int32)))) ∧ c91 = (1 : Int32)) ∨ ((¬ ((p2 &&& (127 : Int32)) < (48 : Int32))) ∧ (¬ ((p2 &&& (127 : Int32)) ≤ (57 : Int32))) ∧ (¬ ((p2 &&& (127 : Int32)) < (97 : Int32))) ∧ ((p2 &&& (127 : Int32)) ≤ (102 : Int32)) ∧ c91 = (1 : Int32)) ∨ ((¬ ((p2 &&& (127 : Int32)) < (48 : Int32))) ∧ (¬ ((p2 &&& (127 : Int32)) ≤ (57 : Int32))) ∧ (¬ ((p2 &&& (127 : Int32)) < (97 : Int32))) ∧ (¬ ((p2 &&& (127 : Int32)) ≤ (102 : Int32))) ∧ ((p2 &&& (127 : Int32)) < (65 : Int32)) ∧ c91 = (0 : Int32)) ∨ ((¬ ((p2 &&& (127 : Int32)) < (48 : Int32))) ∧ (¬ ((p2 &&& (127 : Int32)) ≤ (57 : Int32))) ∧ (¬ ((p2 &&& (127 : Int32)) < (97 : Int32))) ∧ (¬ ((p2 &&& (127 : Int32)) ≤ (102 : Int32))) ∧ (¬ ((p2 &&& (127 : Int32)) < (65 : Int32))) ∧ ((70 : Int32) < (p2 &&& (127 : Int32))) ∧ c91 = (0 : Int32)) ∨ ((¬ ((p2 &&& (127 : Int32)) < (48 : Int32))) ∧ (¬ ((p2 &&& (127 : Int32)) ≤ (57 : Int32))) ∧ (¬ ((p2 &&& (127 : Int32)) < (97 : Int32))) ∧ (¬ ((p2 &&& (127 : Int32)) ≤ (102 : Int32))) ∧ (¬ ((p2 &&& (127 : Int32)) < (65 : Int32))) ∧ (¬ ((70 : Int32) < (p2 &&& (127 : Int32)))) ∧ c91 = (1 : Int32))))
    (k4 : ((((p2 &&& (127 : Int32)) < (0 : Int32)) ∧ c93 = (0 : Int32)) ∨ (∃ (j66 : Int32), (¬ ((p2 &&& (127 : Int32)) < (0 : Int32))) ∧ ((p2 &&& (127 : Int32)) ≤ (127 : Int32)) ∧ ((64 : Int32) ≤ (p2 &&& (127 : Int32))) ∧ (((((((541165879422 : Int64).toUInt64 >>> (((p2 &&& (127 : Int32)) - (64 : Int32)) &&& 0x3f).toInt64.toUInt64).toInt64) &&& (1 : Int64)) = (0 : Int64)) ∧ j66 = (0 : Int32)) ∨ ((¬ (((((541165879422 : Int64).toUInt64 >>> (((p2 &&& (127 : Int32)) - (64 : Int32)) &&& 0x3f).toInt64.toUInt64).toInt64) &&& (1 : Int64)) = (0 : Int64))) ∧ j66 = (1 : Int32))) ∧ c93 = j66) ∨ (∃ (j70 : Int32), (¬ ((p2 &&& (127 : Int32)) < (0 : Int32))) ∧ ((p2 &&& (127 : Int32)) ≤ (127 : Int32)) ∧ (¬ ((64 : Int32) ≤ (p2 &&& (127 : Int32)))) ∧ (((((((287948901175001088 : Int64).toUInt64 >>> ((p2 &&& (127 : Int32)) &&& 0x3f).toInt64.toUInt64).toInt64) &&& (1 : Int64)) = (0 : Int64)) ∧ j70 = (0 : Int32)) ∨ ((¬ (((((287948901175001088 : Int64).toUInt64 >>> ((p2 &&& (127 : Int32)) &&& 0x3f).toInt64.toUInt64).toInt64) &&& (1 : Int64)) = (0 : Int64))) ∧ j70 = (1 : Int32))) ∧ c93 = j70) ∨ ((¬ ((p2 &&& (127 : Int32)) < (0 : Int32))) ∧ (¬ ((p2 &&& (127 : Int32)) ≤ (127 : Int32))) ∧ c93 = (0 : Int32))))
    (k5 : ((c91 ≠ c93) ∧ j97 = (0 : Int32)) ∨ ((¬ (c91 ≠ c93)) ∧ j97 = (1 : Int32)))
    (k6 : ((j90 = (0 : Int32)) ∧ j101 = (0 : Int32)) ∨ ((¬ (j90 = (0 : Int32))) ∧ (j97 = (0 : Int32)) ∧ j101 = (0 : Int32)) ∨ ((¬ (j90 = (0 : Int32))) ∧ (¬ (j97 = (0 : Int32))) ∧ j101 = (1 : Int32))) :
    j101 = (1 : Int32) := by
  have h1 := own_same k0 k1
  have h2 := own_same k3 k4
  rcases k2 with ⟨h, -⟩ | ⟨-, rfl⟩
  · exact absurd h1 h
  rcases k5 with ⟨h, -⟩ | ⟨-, rfl⟩
  · exact absurd h2 h
  rcases k6 with ⟨h, -⟩ | ⟨-, h, -⟩ | ⟨-, -, h⟩
  · exact absurd h (by decide)
  · exact absurd h (by decide)
  · exact h
theorem d1_0 : decode prog_23_method_9_code 0 = .ok (.iload_n 0, 1) := by decide +kernel
theorem d1_1 : decode prog_23_method_9_code 1 = .ok (.bipush 48, 2) := by decide +kernel
theorem d1_3 : decode prog_23_method_9_code 3 = .ok (.if_icmp .lt 9, 3) := by decide +kernel
theorem d1_6 : decode prog_23_method_9_code 6 = .ok (.iload_n 0, 1) := by decide +kernel
theorem d1_7 : decode prog_23_method_9_code 7 = .ok (.bipush 57, 2) := by decide +kernel
theorem d1_9 : decode prog_23_method_9_code 9 = .ok (.if_icmp .le 27, 3) := by decide +kernel
theorem d1_12 : decode prog_23_method_9_code 12 = .ok (.iload_n 0, 1) := by decide +kernel
theorem d1_13 : decode prog_23_method_9_code 13 = .ok (.bipush 97, 2) := by decide +kernel
theorem d1_15 : decode prog_23_method_9_code 15 = .ok (.if_icmp .lt 9, 3) := by decide +kernel
theorem d1_18 : decode prog_23_method_9_code 18 = .ok (.iload_n 0, 1) := by decide +kernel
theorem d1_19 : decode prog_23_method_9_code 19 = .ok (.bipush 102, 2) := by decide +kernel
theorem d1_21 : decode prog_23_method_9_code 21 = .ok (.if_icmp .le 15, 3) := by decide +kernel
theorem d1_24 : decode prog_23_method_9_code 24 = .ok (.iload_n 0, 1) := by decide +kernel
theorem d1_25 : decode prog_23_method_9_code 25 = .ok (.bipush 65, 2) := by decide +kernel
theorem d1_27 : decode prog_23_method_9_code 27 = .ok (.if_icmp .lt 13, 3) := by decide +kernel
theorem d1_30 : decode prog_23_method_9_code 30 = .ok (.iload_n 0, 1) := by decide +kernel
theorem d1_31 : decode prog_23_method_9_code 31 = .ok (.bipush 70, 2) := by decide +kernel
theorem d1_33 : decode prog_23_method_9_code 33 = .ok (.if_icmp .gt 7, 3) := by decide +kernel
theorem d1_36 : decode prog_23_method_9_code 36 = .ok (.iconst 1, 1) := by decide +kernel
theorem d1_37 : decode prog_23_method_9_code 37 = .ok (.goto 4, 3) := by decide +kernel
theorem d1_40 : decode prog_23_method_9_code 40 = .ok (.iconst 0, 1) := by decide +kernel
theorem d1_41 : decode prog_23_method_9_code 41 = .ok (.ireturn, 1) := by decide +kernel
theorem pn_0 : plainName "com/example/polite_crawler/politecrawler/scope/PercentEncodeSet" = true := by first | (simp [plainName, overriddenIn]; done) | decide +kernel
set_option maxRecDepth 65536 in
set_option maxHeartbeats 40000000 in
theorem rm1 (l : Launch) (Z : State) (a0 : Array Value) (n0 : Nat) (hw : ∀ d ∈ tables_1, d.before a0 Z = true) (ws : List Jvm.Cond) (p1 : Int32) (Ob : List OObj) (Ax : List OArr) : Con l Z a0 n0 ws (⟨"com/example/polite_crawler/politecrawler/scope/PercentEncodeSet", "isHexDigit", "(I)Z"⟩ : MethodName) prog_23_method_9_code 1 (some .boolean) ({ frames := 0, cells := 0, slots := 0, locals := 0 } : Room) #[(.int p1)] (Ob, Ax) (fun vq Dq => ∃ (j16 : Int32), ((((p1 < (48 : Int32)) ∧ (p1 < (97 : Int32)) ∧ (p1 < (65 : Int32)) ∧ j16 = (0 : Int32)) ∨ ((p1 < (48 : Int32)) ∧ (p1 < (97 : Int32)) ∧ (¬ (p1 < (65 : Int32))) ∧ ((70 : Int32) < p1) ∧ j16 = (0 : Int32)) ∨ ((p1 < (48 : Int32)) ∧ (p1 < (97 : Int32)) ∧ (¬ (p1 < (65 : Int32))) ∧ (¬ ((70 : Int32) < p1)) ∧ j16 = (1 : Int32)) ∨ ((p1 < (48 : Int32)) ∧ (¬ (p1 < (97 : Int32))) ∧ (p1 ≤ (102 : Int32)) ∧ j16 = (1 : Int32)) ∨ ((p1 < (48 : Int32)) ∧ (¬ (p1 < (97 : Int32))) ∧ (¬ (p1 ≤ (102 : Int32))) ∧ (p1 < (65 : Int32)) ∧ j16 = (0 : Int32)) ∨ ((p1 < (48 : Int32)) ∧ (¬ (p1 < (97 : Int32))) ∧ (¬ (p1 ≤ (102 : Int32))) ∧ (¬ (p1 < (65 : Int32))) ∧ ((70 : Int32) < p1) ∧ j16 = (0 : Int32)) ∨ ((p1 < (48 : Int32)) ∧ (¬ (p1 < (97 : Int32))) ∧ (¬ (p1 ≤ (102 : Int32))) ∧ (¬ (p1 < (65 : Int32))) ∧ (¬ ((70 : Int32) < p1)) ∧ j16 = (1 : Int32)) ∨ ((¬ (p1 < (48 : Int32))) ∧ (p1 ≤ (57 : Int32)) ∧ j16 = (1 : Int32)) ∨ ((¬ (p1 < (48 : Int32))) ∧ (¬ (p1 ≤ (57 : Int32))) ∧ (p1 < (97 : Int32)) ∧ (p1 < (65 : Int32)) ∧ j16 = (0 : Int32)) ∨ ((¬ (p1 < (48 : Int32))) ∧ (¬ (p1 ≤ (57 : Int32))) ∧ (p1 < (97 : Int32)) ∧ (¬ (p1 < (65 : Int32))) ∧ ((70 : Int32) < p1) ∧ j16 = (0 : Int32)) ∨ ((¬ (p1 < (48 : Int32))) ∧ (¬ (p1 ≤ (57 : Int32))) ∧ (p1 < (97 : Int32)) ∧ (¬ (p1 < (65 : Int32))) ∧ (¬ ((70 : Int32) < p1)) ∧ j16 = (1 : Int32)) ∨ ((¬ (p1 < (48 : Int32))) ∧ (¬ (p1 ≤ (57 : Int32))) ∧ (¬ (p1 < (97 : Int32))) ∧ (p1 ≤ (102 : Int32)) ∧ j16 = (1 : Int32)) ∨ ((¬ (p1 < (48 : Int32))) ∧ (¬ (p1 ≤ (57 : Int32))) ∧ (¬ (p1 < (97 : Int32))) ∧ (¬ (p1 ≤ (102 : Int32))) ∧ (p1 < (65 : Int32)) ∧ j16 = (0 : Int32)) ∨ ((¬ (p1 < (48 : Int32))) ∧ (¬ (p1 ≤ (57 : Int32))) ∧ (¬ (p1 < (97 : Int32))) ∧ (¬ (p1 ≤ (102 : Int32))) ∧ (¬ (p1 < (65 : Int32))) ∧ ((70 : Int32) < p1) ∧ j16 = (0 : Int32)) ∨ ((¬ (p1 < (48 : Int32))) ∧ (¬ (p1 ≤ (57 : Int32))) ∧ (¬ (p1 < (97 : Int32))) ∧ (¬ (p1 ≤ (102 : Int32))) ∧ (¬ (p1 < (65 : Int32))) ∧ (¬ ((70 : Int32) < p1)) ∧ j16 = (1 : Int32)))) ∧ vq = (some (.int j16)) ∧ Dq = (Ob, Ax)) := by
  refine Con.of_run (plainFor_of_name pn_0) (L0 := #[.val (.int p1)]) (fun m => by first | (simp [entryFrame, mkF, argsToLocals, Value.category]; done) | rfl) ?_
  intro p e s m below meth c K
  refine Run.iloadN K d1_0 (pc' := 1) rfl rfl ?_
  refine Run.bipush K d1_1 (pc' := 3) rfl (v := (48 : Int32)) rfl ?_
  refine Run.join1 (F := fun (j46 : Int32) => ((p1 < (48 : Int32)) ∧ (p1 < (97 : Int32)) ∧ (p1 < (65 : Int32)) ∧ j46 = (0 : Int32)) ∨ ((p1 < (48 : Int32)) ∧ (p1 < (97 : Int32)) ∧ (¬ (p1 < (65 : Int32))) ∧ ((70 : Int32) < p1) ∧ j46 = (0 : Int32)) ∨ ((p1 < (48 : Int32)) ∧ (p1 < (97 : Int32)) ∧ (¬ (p1 < (65 : Int32))) ∧ (¬ ((70 : Int32) < p1)) ∧ j46 = (1 : Int32)) ∨ ((p1 < (48 : Int32)) ∧ (¬ (p1 < (97 : Int32))) ∧ (p1 ≤ (102 : Int32)) ∧ j46 = (1 : Int32)) ∨ ((p1 < (48 : Int32)) ∧ (¬ (p1 < (97 : Int32))) ∧ (¬ (p1 ≤ (102 : Int32))) ∧ (p1 < (65 : Int32)) ∧ j46 = (0 : Int32)) ∨ ((p1 < (48 : Int32)) ∧ (¬ (p1 < (97 : Int32))) ∧ (¬ (p1 ≤ (102 : Int32))) ∧ (¬ (p1 < (65 : Int32))) ∧ ((70 : Int32) < p1) ∧ j46 = (0 : Int32)) ∨ ((p1 < (48 : Int32)) ∧ (¬ (p1 < (97 : Int32))) ∧ (¬ (p1 ≤ (102 : Int32))) ∧ (¬ (p1 < (65 : Int32))) ∧ (¬ ((70 : Int32) < p1)) ∧ j46 = (1 : Int32)) ∨ ((¬ (p1 < (48 : Int32))) ∧ (p1 ≤ (57 : Int32)) ∧ j46 = (1 : Int32)) ∨ ((¬ (p1 < (48 : Int32))) ∧ (¬ (p1 ≤ (57 : Int32))) ∧ (p1 < (97 : Int32)) ∧ (p1 < (65 : Int32)) ∧ j46 = (0 : Int32)) ∨ ((¬ (p1 < (48 : Int32))) ∧ (¬ (p1 ≤ (57 : Int32))) ∧ (p1 < (97 : Int32)) ∧ (¬ (p1 < (65 : Int32))) ∧ ((70 : Int32) < p1) ∧ j46 = (0 : Int32)) ∨ ((¬ (p1 < (48 : Int32))) ∧ (¬ (p1 ≤ (57 : Int32))) ∧ (p1 < (97 : Int32)) ∧ (¬ (p1 < (65 : Int32))) ∧ (¬ ((70 : Int32) < p1)) ∧ j46 = (1 : Int32)) ∨ ((¬ (p1 < (48 : Int32))) ∧ (¬ (p1 ≤ (57 : Int32))) ∧ (¬ (p1 < (97 : Int32))) ∧ (p1 ≤ (102 : Int32)) ∧ j46 = (1 : Int32)) ∨ ((¬ (p1 < (48 : Int32))) ∧ (¬ (p1 ≤ (57 : Int32))) ∧ (¬ (p1 < (97 : Int32))) ∧ (¬ (p1 ≤ (102 : Int32))) ∧ (p1 < (65 : Int32)) ∧ j46 = (0 : Int32)) ∨ ((¬ (p1 < (48 : Int32))) ∧ (¬ (p1 ≤ (57 : Int32))) ∧ (¬ (p1 < (97 : Int32))) ∧ (¬ (p1 ≤ (102 : Int32))) ∧ (¬ (p1 < (65 : Int32))) ∧ ((70 : Int32) < p1) ∧ j46 = (0 : Int32)) ∨ ((¬ (p1 < (48 : Int32))) ∧ (¬ (p1 ≤ (57 : Int32))) ∧ (¬ (p1 < (97 : Int32))) ∧ (¬ (p1 ≤ (102 : Int32))) ∧ (¬ (p1 < (65 : Int32))) ∧ (¬ ((70 : Int32) < p1)) ∧ j46 = (1 : Int32))) (D' := fun (j46 : Int32) => (Ob, Ax)) (cells' := 0) (slots' := 0) (pc' := 41) (L' := fun (j46 : Int32) => #[.val (.int p1)]) (S' := fun (j46 : Int32) => [(.int j46)]) ?_ (fun J3 => ?_)
  · intro j46 hjj46
    exact Run.retN K d1_41 (w := j46) rfl (by decide) (own_bool (by rcases hjj46 with ⟨-, -, -, q⟩ | ⟨-, -, -, -, q⟩ | ⟨-, -, -, -, q⟩ | ⟨-, -, -, q⟩ | ⟨-, -, -, -, q⟩ | ⟨-, -, -, -, -, q⟩ | ⟨-, -, -, -, -, q⟩ | ⟨-, -, q⟩ | ⟨-, -, -, -, q⟩ | ⟨-, -, -, -, -, q⟩ | ⟨-, -, -, -, -, q⟩ | ⟨-, -, -, -, q⟩ | ⟨-, -, -, -, -, q⟩ | ⟨-, -, -, -, -, -, q⟩ | ⟨-, -, -, -, -, -, q⟩ <;> first | exact Or.inl q | exact Or.inr q)) (by decide) (by decide) ⟨j46, hjj46, rfl, rfl⟩
  · skip
    refine Run.icmp K d1_3 (pT := 12) (pF := 6) (by decide) (by decide) rfl (fun (h3_46 : p1 < (48 : Int32)) => ?_) (fun (h3_46 : ¬ (p1 < (48 : Int32))) => ?_)
    · skip
      refine Run.iloadN K d1_12 (pc' := 13) rfl rfl ?_
      refine Run.bipush K d1_13 (pc' := 15) rfl (v := (97 : Int32)) rfl ?_
      refine Run.icmp K d1_15 (pT := 24) (pF := 18) (by decide) (by decide) rfl (fun (h15_47 : p1 < (97 : Int32)) => ?_) (fun (h15_47 : ¬ (p1 < (97 : Int32))) => ?_)
      · skip
        refine Run.iloadN K d1_24 (pc' := 25) rfl rfl ?_
        refine Run.bipush K d1_25 (pc' := 27) rfl (v := (65 : Int32)) rfl ?_
        refine Run.icmp K d1_27 (pT := 40) (pF := 30) (by decide) (by decide) rfl (fun (h27_48 : p1 < (65 : Int32)) => ?_) (fun (h27_48 : ¬ (p1 < (65 : Int32))) => ?_)
        · skip
          refine Run.iconst K d1_40 (pc' := 41) rfl (v := (0 : Int32)) rfl ?_
          exact J3 _ (Or.inl ⟨h3_46, h15_47, h27_48, rfl⟩)
        · skip
          refine Run.iloadN K d1_30 (pc' := 31) rfl rfl ?_
          refine Run.bipush K d1_31 (pc' := 33) rfl (v := (70 : Int32)) rfl ?_
          refine Run.icmp K d1_33 (pT := 40) (pF := 36) (by decide) (by decide) rfl (fun (h33_49 : (70 : Int32) < p1) => ?_) (fun (h33_49 : ¬ ((70 : Int32) < p1)) => ?_)
          · skip
            refine Run.iconst K d1_40 (pc' := 41) rfl (v := (0 : Int32)) rfl ?_
            exact J3 _ (Or.inr (Or.inl ⟨h3_46, h15_47, h27_48, h33_49, rfl⟩))
          · skip
            refine Run.iconst K d1_36 (pc' := 37) rfl (v := (1 : Int32)) rfl ?_
            refine Run.goto K d1_37 (pc' := 41) (by decide) (by decide) ?_
            exact J3 _ (Or.inr (Or.inr (Or.inl ⟨h3_46, h15_47, h27_48, h33_49, rfl⟩)))
      · skip
        refine Run.iloadN K d1_18 (pc' := 19) rfl rfl ?_
        refine Run.bipush K d1_19 (pc' := 21) rfl (v := (102 : Int32)) rfl ?_
        refine Run.icmp K d1_21 (pT := 36) (pF := 24) (by decide) (by decide) rfl (fun (h21_50 : p1 ≤ (102 : Int32)) => ?_) (fun (h21_50 : ¬ (p1 ≤ (102 : Int32))) => ?_)
        · skip
          refine Run.iconst K d1_36 (pc' := 37) rfl (v := (1 : Int32)) rfl ?_
          refine Run.goto K d1_37 (pc' := 41) (by decide) (by decide) ?_
          exact J3 _ (Or.inr (Or.inr (Or.inr (Or.inl ⟨h3_46, h15_47, h21_50, rfl⟩))))
        · skip
          refine Run.iloadN K d1_24 (pc' := 25) rfl rfl ?_
          refine Run.bipush K d1_25 (pc' := 27) rfl (v := (65 : Int32)) rfl ?_
          refine Run.icmp K d1_27 (pT := 40) (pF := 30) (by decide) (by decide) rfl (fun (h27_51 : p1 < (65 : Int32)) => ?_) (fun (h27_51 : ¬ (p1 < (65 : Int32))) => ?_)
          · skip
            refine Run.iconst K d1_40 (pc' := 41) rfl (v := (0 : Int32)) rfl ?_
            exact J3 _ (Or.inr (Or.inr (Or.inr (Or.inr (Or.inl ⟨h3_46, h15_47, h21_50, h27_51, rfl⟩)))))
          · skip
            refine Run.iloadN K d1_30 (pc' := 31) rfl rfl ?_
            refine Run.bipush K d1_31 (pc' := 33) rfl (v := (70 : Int32)) rfl ?_
            refine Run.icmp K d1_33 (pT := 40) (pF := 36) (by decide) (by decide) rfl (fun (h33_52 : (70 : Int32) < p1) => ?_) (fun (h33_52 : ¬ ((70 : Int32) < p1)) => ?_)
            · skip
              refine Run.iconst K d1_40 (pc' := 41) rfl (v := (0 : Int32)) rfl ?_
              exact J3 _ (Or.inr (Or.inr (Or.inr (Or.inr (Or.inr (Or.inl ⟨h3_46, h15_47, h21_50, h27_51, h33_52, rfl⟩))))))
            · skip
              refine Run.iconst K d1_36 (pc' := 37) rfl (v := (1 : Int32)) rfl ?_
              refine Run.goto K d1_37 (pc' := 41) (by decide) (by decide) ?_
              exact J3 _ (Or.inr (Or.inr (Or.inr (Or.inr (Or.inr (Or.inr (Or.inl ⟨h3_46, h15_47, h21_50, h27_51, h33_52, rfl⟩)))))))
    · skip
      refine Run.iloadN K d1_6 (pc' := 7) rfl rfl ?_
      refine Run.bipush K d1_7 (pc' := 9) rfl (v := (57 : Int32)) rfl ?_
      refine Run.icmp K d1_9 (pT := 36) (pF := 12) (by decide) (by decide) rfl (fun (h9_53 : p1 ≤ (57 : Int32)) => ?_) (fun (h9_53 : ¬ (p1 ≤ (57 : Int32))) => ?_)
      · skip
        refine Run.iconst K d1_36 (pc' := 37) rfl (v := (1 : Int32)) rfl ?_
        refine Run.goto K d1_37 (pc' := 41) (by decide) (by decide) ?_
        exact J3 _ (Or.inr (Or.inr (Or.inr (Or.inr (Or.inr (Or.inr (Or.inr (Or.inl ⟨h3_46, h9_53, rfl⟩))))))))
      · skip
        refine Run.iloadN K d1_12 (pc' := 13) rfl rfl ?_
        refine Run.bipush K d1_13 (pc' := 15) rfl (v := (97 : Int32)) rfl ?_
        refine Run.icmp K d1_15 (pT := 24) (pF := 18) (by decide) (by decide) rfl (fun (h15_54 : p1 < (97 : Int32)) => ?_) (fun (h15_54 : ¬ (p1 < (97 : Int32))) => ?_)
        · skip
          refine Run.iloadN K d1_24 (pc' := 25) rfl rfl ?_
          refine Run.bipush K d1_25 (pc' := 27) rfl (v := (65 : Int32)) rfl ?_
          refine Run.icmp K d1_27 (pT := 40) (pF := 30) (by decide) (by decide) rfl (fun (h27_55 : p1 < (65 : Int32)) => ?_) (fun (h27_55 : ¬ (p1 < (65 : Int32))) => ?_)
          · skip
            refine Run.iconst K d1_40 (pc' := 41) rfl (v := (0 : Int32)) rfl ?_
            exact J3 _ (Or.inr (Or.inr (Or.inr (Or.inr (Or.inr (Or.inr (Or.inr (Or.inr (Or.inl ⟨h3_46, h9_53, h15_54, h27_55, rfl⟩)))))))))
          · skip
            refine Run.iloadN K d1_30 (pc' := 31) rfl rfl ?_
            refine Run.bipush K d1_31 (pc' := 33) rfl (v := (70 : Int32)) rfl ?_
            refine Run.icmp K d1_33 (pT := 40) (pF := 36) (by decide) (by decide) rfl (fun (h33_56 : (70 : Int32) < p1) => ?_) (fun (h33_56 : ¬ ((70 : Int32) < p1)) => ?_)
            · skip
              refine Run.iconst K d1_40 (pc' := 41) rfl (v := (0 : Int32)) rfl ?_
              exact J3 _ (Or.inr (Or.inr (Or.inr (Or.inr (Or.inr (Or.inr (Or.inr (Or.inr (Or.inr (Or.inl ⟨h3_46, h9_53, h15_54, h27_55, h33_56, rfl⟩))))))))))
            · skip
              refine Run.iconst K d1_36 (pc' := 37) rfl (v := (1 : Int32)) rfl ?_
              refine Run.goto K d1_37 (pc' := 41) (by decide) (by decide) ?_
              exact J3 _ (Or.inr (Or.inr (Or.inr (Or.inr (Or.inr (Or.inr (Or.inr (Or.inr (Or.inr (Or.inr (Or.inl ⟨h3_46, h9_53, h15_54, h27_55, h33_56, rfl⟩)))))))))))
        · skip
          refine Run.iloadN K d1_18 (pc' := 19) rfl rfl ?_
          refine Run.bipush K d1_19 (pc' := 21) rfl (v := (102 : Int32)) rfl ?_
          refine Run.icmp K d1_21 (pT := 36) (pF := 24) (by decide) (by decide) rfl (fun (h21_57 : p1 ≤ (102 : Int32)) => ?_) (fun (h21_57 : ¬ (p1 ≤ (102 : Int32))) => ?_)
          · skip
            refine Run.iconst K d1_36 (pc' := 37) rfl (v := (1 : Int32)) rfl ?_
            refine Run.goto K d1_37 (pc' := 41) (by decide) (by decide) ?_
            exact J3 _ (Or.inr (Or.inr (Or.inr (Or.inr (Or.inr (Or.inr (Or.inr (Or.inr (Or.inr (Or.inr (Or.inr (Or.inl ⟨h3_46, h9_53, h15_54, h21_57, rfl⟩))))))))))))
          · skip
            refine Run.iloadN K d1_24 (pc' := 25) rfl rfl ?_
            refine Run.bipush K d1_25 (pc' := 27) rfl (v := (65 : Int32)) rfl ?_
            refine Run.icmp K d1_27 (pT := 40) (pF := 30) (by decide) (by decide) rfl (fun (h27_58 : p1 < (65 : Int32)) => ?_) (fun (h27_58 : ¬ (p1 < (65 : Int32))) => ?_)
            · skip
              refine Run.iconst K d1_40 (pc' := 41) rfl (v := (0 : Int32)) rfl ?_
              exact J3 _ (Or.inr (Or.inr (Or.inr (Or.inr (Or.inr (Or.inr (Or.inr (Or.inr (Or.inr (Or.inr (Or.inr (Or.inr (Or.inl ⟨h3_46, h9_53, h15_54, h21_57, h27_58, rfl⟩)))))))))))))
            · skip
              refine Run.iloadN K d1_30 (pc' := 31) rfl rfl ?_
              refine Run.bipush K d1_31 (pc' := 33) rfl (v := (70 : Int32)) rfl ?_
              refine Run.icmp K d1_33 (pT := 40) (pF := 36) (by decide) (by decide) rfl (fun (h33_59 : (70 : Int32) < p1) => ?_) (fun (h33_59 : ¬ ((70 : Int32) < p1)) => ?_)
              · skip
                refine Run.iconst K d1_40 (pc' := 41) rfl (v := (0 : Int32)) rfl ?_
                exact J3 _ (Or.inr (Or.inr (Or.inr (Or.inr (Or.inr (Or.inr (Or.inr (Or.inr (Or.inr (Or.inr (Or.inr (Or.inr (Or.inr (Or.inl ⟨h3_46, h9_53, h15_54, h21_57, h27_58, h33_59, rfl⟩))))))))))))))
              · skip
                refine Run.iconst K d1_36 (pc' := 37) rfl (v := (1 : Int32)) rfl ?_
                refine Run.goto K d1_37 (pc' := 41) (by decide) (by decide) ?_
                exact J3 _ (Or.inr (Or.inr (Or.inr (Or.inr (Or.inr (Or.inr (Or.inr (Or.inr (Or.inr (Or.inr (Or.inr (Or.inr (Or.inr (Or.inr (⟨h3_46, h9_53, h15_54, h21_57, h27_58, h33_59, rfl⟩)))))))))))))))
theorem d2_0 : decode method_2_code 0 = .ok (.ldc2_w 7, 3) := by decide +kernel
theorem d2_3 : decode method_2_code 3 = .ok (.lstore_n 1, 1) := by decide +kernel
theorem d2_4 : decode method_2_code 4 = .ok (.ldc2_w 9, 3) := by decide +kernel
theorem d2_7 : decode method_2_code 7 = .ok (.lstore_n 3, 1) := by decide +kernel
theorem d2_8 : decode method_2_code 8 = .ok (.iload_n 0, 1) := by decide +kernel
theorem d2_9 : decode method_2_code 9 = .ok (.ifCond .lt 9, 3) := by decide +kernel
theorem d2_12 : decode method_2_code 12 = .ok (.iload_n 0, 1) := by decide +kernel
theorem d2_13 : decode method_2_code 13 = .ok (.bipush 127, 2) := by decide +kernel
theorem d2_15 : decode method_2_code 15 = .ok (.if_icmp .le 5, 3) := by decide +kernel
theorem d2_18 : decode method_2_code 18 = .ok (.iconst 0, 1) := by decide +kernel
theorem d2_19 : decode method_2_code 19 = .ok (.ireturn, 1) := by decide +kernel
theorem d2_20 : decode method_2_code 20 = .ok (.iload_n 0, 1) := by decide +kernel
theorem d2_21 : decode method_2_code 21 = .ok (.bipush 64, 2) := by decide +kernel
theorem d2_23 : decode method_2_code 23 = .ok (.if_icmp .ge 19, 3) := by decide +kernel
theorem d2_26 : decode method_2_code 26 = .ok (.lload_n 1, 1) := by decide +kernel
theorem d2_27 : decode method_2_code 27 = .ok (.iload_n 0, 1) := by decide +kernel
theorem d2_28 : decode method_2_code 28 = .ok (.lushr, 1) := by decide +kernel
theorem d2_29 : decode method_2_code 29 = .ok (.lconst 1, 1) := by decide +kernel
theorem d2_30 : decode method_2_code 30 = .ok (.land, 1) := by decide +kernel
theorem d2_31 : decode method_2_code 31 = .ok (.lconst 0, 1) := by decide +kernel
theorem d2_32 : decode method_2_code 32 = .ok (.lcmp, 1) := by decide +kernel
theorem d2_33 : decode method_2_code 33 = .ok (.ifCond .eq 7, 3) := by decide +kernel
theorem d2_36 : decode method_2_code 36 = .ok (.iconst 1, 1) := by decide +kernel
theorem d2_37 : decode method_2_code 37 = .ok (.goto 4, 3) := by decide +kernel
theorem d2_40 : decode method_2_code 40 = .ok (.iconst 0, 1) := by decide +kernel
theorem d2_41 : decode method_2_code 41 = .ok (.ireturn, 1) := by decide +kernel
theorem d2_42 : decode method_2_code 42 = .ok (.lload_n 3, 1) := by decide +kernel
theorem d2_43 : decode method_2_code 43 = .ok (.iload_n 0, 1) := by decide +kernel
theorem d2_44 : decode method_2_code 44 = .ok (.bipush 64, 2) := by decide +kernel
theorem d2_46 : decode method_2_code 46 = .ok (.isub, 1) := by decide +kernel
theorem d2_47 : decode method_2_code 47 = .ok (.lushr, 1) := by decide +kernel
theorem d2_48 : decode method_2_code 48 = .ok (.lconst 1, 1) := by decide +kernel
theorem d2_49 : decode method_2_code 49 = .ok (.land, 1) := by decide +kernel
theorem d2_50 : decode method_2_code 50 = .ok (.lconst 0, 1) := by decide +kernel
theorem d2_51 : decode method_2_code 51 = .ok (.lcmp, 1) := by decide +kernel
theorem d2_52 : decode method_2_code 52 = .ok (.ifCond .eq 7, 3) := by decide +kernel
theorem d2_55 : decode method_2_code 55 = .ok (.iconst 1, 1) := by decide +kernel
theorem d2_56 : decode method_2_code 56 = .ok (.goto 4, 3) := by decide +kernel
theorem d2_59 : decode method_2_code 59 = .ok (.iconst 0, 1) := by decide +kernel
theorem d2_60 : decode method_2_code 60 = .ok (.ireturn, 1) := by decide +kernel
theorem pn_1 : plainName "com/example/polite_crawler/politecrawler/scope/PercentEncodeSetIsHexDigitPinLaw" = true := by first | (simp [plainName, overriddenIn]; done) | decide +kernel
set_option maxRecDepth 65536 in
set_option maxHeartbeats 40000000 in
theorem rm2 (l : Launch) (Z : State) (a0 : Array Value) (n0 : Nat) (hw : ∀ d ∈ tables_1, d.before a0 Z = true) (ws : List Jvm.Cond) (p1 : Int32) (Ob : List OObj) (Ax : List OArr) : Con l Z a0 n0 ws (⟨"com/example/polite_crawler/politecrawler/scope/PercentEncodeSetIsHexDigitPinLaw", "reference", "(I)Z"⟩ : MethodName) method_2_code 5 (some .boolean) ({ frames := 0, cells := 0, slots := 0, locals := 0 } : Room) #[(.int p1)] (Ob, Ax) (fun vq Dq => ∃ (j72 : Int32), ((((p1 < (0 : Int32)) ∧ j72 = (0 : Int32)) ∨ (∃ (j66 : Int32), (¬ (p1 < (0 : Int32))) ∧ (p1 ≤ (127 : Int32)) ∧ ((64 : Int32) ≤ p1) ∧ (((((((541165879422 : Int64).toUInt64 >>> ((p1 - (64 : Int32)) &&& 0x3f).toInt64.toUInt64).toInt64) &&& (1 : Int64)) = (0 : Int64)) ∧ j66 = (0 : Int32)) ∨ ((¬ (((((541165879422 : Int64).toUInt64 >>> ((p1 - (64 : Int32)) &&& 0x3f).toInt64.toUInt64).toInt64) &&& (1 : Int64)) = (0 : Int64))) ∧ j66 = (1 : Int32))) ∧ j72 = j66) ∨ (∃ (j70 : Int32), (¬ (p1 < (0 : Int32))) ∧ (p1 ≤ (127 : Int32)) ∧ (¬ ((64 : Int32) ≤ p1)) ∧ (((((((287948901175001088 : Int64).toUInt64 >>> (p1 &&& 0x3f).toInt64.toUInt64).toInt64) &&& (1 : Int64)) = (0 : Int64)) ∧ j70 = (0 : Int32)) ∨ ((¬ (((((287948901175001088 : Int64).toUInt64 >>> (p1 &&& 0x3f).toInt64.toUInt64).toInt64) &&& (1 : Int64)) = (0 : Int64))) ∧ j70 = (1 : Int32))) ∧ j72 = j70) ∨ ((¬ (p1 < (0 : Int32))) ∧ (¬ (p1 ≤ (127 : Int32))) ∧ j72 = (0 : Int32)))) ∧ vq = (some (.int j72)) ∧ Dq = (Ob, Ax)) := by
  refine Con.of_run (plainFor_of_name pn_1) (L0 := #[.val (.int p1), .unset, .unset, .unset, .unset]) (fun m => by first | (simp [entryFrame, mkF, argsToLocals, Value.category]; done) | rfl) ?_
  intro p e s m below meth c K
  refine Run.ldcJ K d2_0 (pc' := 3) rfl (v := (287948901175001088 : Int64)) (hw _ (List.mem_of_getElem? (i := 8) rfl)) ?_
  refine Run.lstoreN K d2_3 (pc' := 4) rfl (L' := #[.val (.int p1), .val (.long (287948901175001088 : Int64)), .second, .unset, .unset]) rfl ?_
  refine Run.ldcJ K d2_4 (pc' := 7) rfl (v := (541165879422 : Int64)) (hw _ (List.mem_of_getElem? (i := 9) rfl)) ?_
  refine Run.lstoreN K d2_7 (pc' := 8) rfl (L' := #[.val (.int p1), .val (.long (287948901175001088 : Int64)), .second, .val (.long (541165879422 : Int64)), .second]) rfl ?_
  refine Run.iloadN K d2_8 (pc' := 9) rfl rfl ?_
  refine Run.ifc K d2_9 (pT := 18) (pF := 12) (by decide) (by decide) rfl (fun (h9_72 : p1 < (0 : Int32)) => ?_) (fun (h9_72 : ¬ (p1 < (0 : Int32))) => ?_)
  · skip
    refine Run.iconst K d2_18 (pc' := 19) rfl (v := (0 : Int32)) rfl ?_
    exact Run.retN K d2_19 (w := (0 : Int32)) rfl (by decide) (by decide) (by decide) (by decide) ⟨_, (Or.inl ⟨h9_72, rfl⟩), rfl, rfl⟩
  · skip
    refine Run.iloadN K d2_12 (pc' := 13) rfl rfl ?_
    refine Run.bipush K d2_13 (pc' := 15) rfl (v := (127 : Int32)) rfl ?_
    refine Run.icmp K d2_15 (pT := 20) (pF := 18) (by decide) (by decide) rfl (fun (h15_73 : p1 ≤ (127 : Int32)) => ?_) (fun (h15_73 : ¬ (p1 ≤ (127 : Int32))) => ?_)
    · skip
      refine Run.iloadN K d2_20 (pc' := 21) rfl rfl ?_
      refine Run.bipush K d2_21 (pc' := 23) rfl (v := (64 : Int32)) rfl ?_
      refine Run.icmp K d2_23 (pT := 42) (pF := 26) (by decide) (by decide) rfl (fun (h23_74 : (64 : Int32) ≤ p1) => ?_) (fun (h23_74 : ¬ ((64 : Int32) ≤ p1)) => ?_)
      · skip
        refine Run.lloadN K d2_42 (pc' := 43) rfl rfl ?_
        refine Run.iloadN K d2_43 (pc' := 44) rfl rfl ?_
        refine Run.bipush K d2_44 (pc' := 46) rfl (v := (64 : Int32)) rfl ?_
        refine Run.isub K d2_46 (pc' := 47) rfl ?_
        refine Run.lushr K d2_47 (pc' := 48) rfl ?_
        refine Run.lconst K d2_48 (pc' := 49) rfl (v := (1 : Int64)) rfl ?_
        refine Run.land K d2_49 (pc' := 50) rfl ?_
        refine Run.lconst K d2_50 (pc' := 51) rfl (v := (0 : Int64)) rfl ?_
        refine Run.lcmp K d2_51 (pc' := 52) rfl ?_
        refine Run.join1 (F := fun (j78 : Int32) => ((((((541165879422 : Int64).toUInt64 >>> ((p1 - (64 : Int32)) &&& 0x3f).toInt64.toUInt64).toInt64) &&& (1 : Int64)) = (0 : Int64)) ∧ j78 = (0 : Int32)) ∨ ((¬ (((((541165879422 : Int64).toUInt64 >>> ((p1 - (64 : Int32)) &&& 0x3f).toInt64.toUInt64).toInt64) &&& (1 : Int64)) = (0 : Int64))) ∧ j78 = (1 : Int32))) (D' := fun (j78 : Int32) => (Ob, Ax)) (cells' := 0) (slots' := 0) (pc' := 60) (L' := fun (j78 : Int32) => #[.val (.int p1), .val (.long (287948901175001088 : Int64)), .second, .val (.long (541165879422 : Int64)), .second]) (S' := fun (j78 : Int32) => [(.int j78)]) ?_ (fun J52 => ?_)
        · intro j78 hjj78
          exact Run.retN K d2_60 (w := j78) rfl (by decide) (own_bool (by rcases hjj78 with ⟨-, q⟩ | ⟨-, q⟩ <;> first | exact Or.inl q | exact Or.inr q)) (by decide) (by decide) ⟨_, (Or.inr (Or.inl ⟨j78, h9_72, h15_73, h23_74, hjj78, rfl⟩)), rfl, rfl⟩
        · skip
          refine Run.ifL K d2_52 (pT := 59) (pF := 55) (by decide) (by decide) rfl (fun (h52_78 : ((((541165879422 : Int64).toUInt64 >>> ((p1 - (64 : Int32)) &&& 0x3f).toInt64.toUInt64).toInt64) &&& (1 : Int64)) = (0 : Int64)) => ?_) (fun (h52_78 : ¬ (((((541165879422 : Int64).toUInt64 >>> ((p1 - (64 : Int32)) &&& 0x3f).toInt64.toUInt64).toInt64) &&& (1 : Int64)) = (0 : Int64))) => ?_)
          · skip
            refine Run.iconst K d2_59 (pc' := 60) rfl (v := (0 : Int32)) rfl ?_
            exact J52 _ (Or.inl ⟨h52_78, rfl⟩)
          · skip
            refine Run.iconst K d2_55 (pc' := 56) rfl (v := (1 : Int32)) rfl ?_
            refine Run.goto K d2_56 (pc' := 60) (by decide) (by decide) ?_
            exact J52 _ (Or.inr (⟨h52_78, rfl⟩))
      · skip
        refine Run.lloadN K d2_26 (pc' := 27) rfl rfl ?_
        refine Run.iloadN K d2_27 (pc' := 28) rfl rfl ?_
        refine Run.lushr K d2_28 (pc' := 29) rfl ?_
        refine Run.lconst K d2_29 (pc' := 30) rfl (v := (1 : Int64)) rfl ?_
        refine Run.land K d2_30 (pc' := 31) rfl ?_
        refine Run.lconst K d2_31 (pc' := 32) rfl (v := (0 : Int64)) rfl ?_
        refine Run.lcmp K d2_32 (pc' := 33) rfl ?_
        refine Run.join1 (F := fun (j82 : Int32) => ((((((287948901175001088 : Int64).toUInt64 >>> (p1 &&& 0x3f).toInt64.toUInt64).toInt64) &&& (1 : Int64)) = (0 : Int64)) ∧ j82 = (0 : Int32)) ∨ ((¬ (((((287948901175001088 : Int64).toUInt64 >>> (p1 &&& 0x3f).toInt64.toUInt64).toInt64) &&& (1 : Int64)) = (0 : Int64))) ∧ j82 = (1 : Int32))) (D' := fun (j82 : Int32) => (Ob, Ax)) (cells' := 0) (slots' := 0) (pc' := 41) (L' := fun (j82 : Int32) => #[.val (.int p1), .val (.long (287948901175001088 : Int64)), .second, .val (.long (541165879422 : Int64)), .second]) (S' := fun (j82 : Int32) => [(.int j82)]) ?_ (fun J33 => ?_)
        · intro j82 hjj82
          exact Run.retN K d2_41 (w := j82) rfl (by decide) (own_bool (by rcases hjj82 with ⟨-, q⟩ | ⟨-, q⟩ <;> first | exact Or.inl q | exact Or.inr q)) (by decide) (by decide) ⟨_, (Or.inr (Or.inr (Or.inl ⟨j82, h9_72, h15_73, h23_74, hjj82, rfl⟩))), rfl, rfl⟩
        · skip
          refine Run.ifL K d2_33 (pT := 40) (pF := 36) (by decide) (by decide) rfl (fun (h33_82 : ((((287948901175001088 : Int64).toUInt64 >>> (p1 &&& 0x3f).toInt64.toUInt64).toInt64) &&& (1 : Int64)) = (0 : Int64)) => ?_) (fun (h33_82 : ¬ (((((287948901175001088 : Int64).toUInt64 >>> (p1 &&& 0x3f).toInt64.toUInt64).toInt64) &&& (1 : Int64)) = (0 : Int64))) => ?_)
          · skip
            refine Run.iconst K d2_40 (pc' := 41) rfl (v := (0 : Int32)) rfl ?_
            exact J33 _ (Or.inl ⟨h33_82, rfl⟩)
          · skip
            refine Run.iconst K d2_36 (pc' := 37) rfl (v := (1 : Int32)) rfl ?_
            refine Run.goto K d2_37 (pc' := 41) (by decide) (by decide) ?_
            exact J33 _ (Or.inr (⟨h33_82, rfl⟩))
    · skip
      refine Run.iconst K d2_18 (pc' := 19) rfl (v := (0 : Int32)) rfl ?_
      exact Run.retN K d2_19 (w := (0 : Int32)) rfl (by decide) (by decide) (by decide) (by decide) ⟨_, (Or.inr (Or.inr (Or.inr (⟨h9_72, h15_73, rfl⟩)))), rfl, rfl⟩
theorem pd_0 : parseMethodDescriptor "(I)Z" = some ⟨[.int], some .boolean⟩ := by decide +kernel
set_option maxRecDepth 65536 in
set_option maxHeartbeats 40000000 in
theorem rm0 (l : Launch) (Z : State) (a0 : Array Value) (n0 : Nat) (hw : ∀ d ∈ tables_1, d.before a0 Z = true) (ws : List Jvm.Cond) (p1 : Int32) (p2 : Int32) : Con l Z a0 n0 ws x code maxLocals ret room_1 #[(.int p1), (.int p2)] ([], []) (fun vq _ => vq = some (.int 1)) := by
  refine Con.of_run (plainFor_of_name pn_1) (L0 := #[.val (.int p1), .val (.int p2), .unset, .unset, .unset]) (fun m => by first | (simp [entryFrame, mkF, argsToLocals, Value.category, maxLocals]; done) | rfl) ?_
  intro p e s m below meth c K
  refine Run.iloadN K at_0 (pc' := 1) rfl rfl ?_
  refine Run.bipush K at_1 (pc' := 3) rfl (v := (127 : Int32)) rfl ?_
  refine Run.iand K at_3 (pc' := 4) rfl ?_
  refine Run.istoreN K at_4 (pc' := 5) rfl (L' := #[.val (.int p1), .val (.int p2), .val (.int (p2 &&& (127 : Int32))), .unset, .unset]) rfl ?_
  refine Run.iloadN K at_5 (pc' := 6) rfl rfl ?_
  refine Run.callS K at_6 (pc' := 9) rfl (hw _ (List.mem_of_getElem? (i := 0) rfl)) (hw _ (List.mem_of_getElem? (i := 1) rfl)) (hw _ (List.mem_of_getElem? (i := 2) rfl)) (hw _ (List.mem_of_getElem? (i := 3) rfl)) (by decide) (rm1 l Z a0 n0 hw [] (p1) ([]) ([]) ) (argsL := [(.int p1)]) (rest := []) rfl rfl pd_0 rfl (W := 0) rfl (by decide) (by decide) (cells' := 0) (slots' := 0) rfl rfl (by decide) (by decide) ?_
  intro vq Dq hq
  obtain ⟨c84, hc85, rfl, rfl⟩ := hq
  refine Run.as2 (D' := ([], [])) (S' := [(.int c84)]) rfl rfl ?_
  refine Run.iloadN K at_9 (pc' := 10) rfl rfl ?_
  refine Run.callS K at_10 (pc' := 13) rfl (hw _ (List.mem_of_getElem? (i := 4) rfl)) (hw _ (List.mem_of_getElem? (i := 5) rfl)) (hw _ (List.mem_of_getElem? (i := 6) rfl)) (hw _ (List.mem_of_getElem? (i := 7) rfl)) (by decide) (rm2 l Z a0 n0 hw [] (p1) ([]) ([]) ) (argsL := [(.int p1)]) (rest := [(.int c84)]) rfl rfl pd_0 rfl (W := 1) rfl (by decide) (by decide) (cells' := 0) (slots' := 0) rfl rfl (by decide) (by decide) ?_
  intro vq Dq hq
  obtain ⟨c86, hc87, rfl, rfl⟩ := hq
  refine Run.as2 (D' := ([], [])) (S' := [(.int c86), (.int c84)]) rfl rfl ?_
  refine Run.join1 (F := fun (j90 : Int32) => ((c84 ≠ c86) ∧ j90 = (0 : Int32)) ∨ ((¬ (c84 ≠ c86)) ∧ j90 = (1 : Int32))) (D' := fun (j90 : Int32) => ([], [])) (cells' := 0) (slots' := 0) (pc' := 21) (L' := fun (j90 : Int32) => #[.val (.int p1), .val (.int p2), .val (.int (p2 &&& (127 : Int32))), .unset, .unset]) (S' := fun (j90 : Int32) => [(.int j90)]) ?_ (fun J13 => ?_)
  · intro j90 hjj90
    refine Run.istoreN K at_21 (pc' := 22) rfl (L' := #[.val (.int p1), .val (.int p2), .val (.int (p2 &&& (127 : Int32))), .val (.int j90), .unset]) rfl ?_
    refine Run.iloadN K at_22 (pc' := 23) rfl rfl ?_
    refine Run.callS K at_23 (pc' := 26) rfl (hw _ (List.mem_of_getElem? (i := 0) rfl)) (hw _ (List.mem_of_getElem? (i := 1) rfl)) (hw _ (List.mem_of_getElem? (i := 2) rfl)) (hw _ (List.mem_of_getElem? (i := 3) rfl)) (by decide) (rm1 l Z a0 n0 hw [] ((p2 &&& (127 : Int32))) ([]) ([]) ) (argsL := [(.int (p2 &&& (127 : Int32)))]) (rest := []) rfl rfl pd_0 rfl (W := 0) rfl (by decide) (by decide) (cells' := 0) (slots' := 0) rfl rfl (by decide) (by decide) ?_
    intro vq Dq hq
    obtain ⟨c91, hc92, rfl, rfl⟩ := hq
    refine Run.as2 (D' := ([], [])) (S' := [(.int c91)]) rfl rfl ?_
    refine Run.iloadN K at_26 (pc' := 27) rfl rfl ?_
    refine Run.callS K at_27 (pc' := 30) rfl (hw _ (List.mem_of_getElem? (i := 4) rfl)) (hw _ (List.mem_of_getElem? (i := 5) rfl)) (hw _ (List.mem_of_getElem? (i := 6) rfl)) (hw _ (List.mem_of_getElem? (i := 7) rfl)) (by decide) (rm2 l Z a0 n0 hw [] ((p2 &&& (127 : Int32))) ([]) ([]) ) (argsL := [(.int (p2 &&& (127 : Int32)))]) (rest := [(.int c91)]) rfl rfl pd_0 rfl (W := 1) rfl (by decide) (by decide) (cells' := 0) (slots' := 0) rfl rfl (by decide) (by decide) ?_
    intro vq Dq hq
    obtain ⟨c93, hc94, rfl, rfl⟩ := hq
    refine Run.as2 (D' := ([], [])) (S' := [(.int c93), (.int c91)]) rfl rfl ?_
    refine Run.join1 (F := fun (j97 : Int32) => ((c91 ≠ c93) ∧ j97 = (0 : Int32)) ∨ ((¬ (c91 ≠ c93)) ∧ j97 = (1 : Int32))) (D' := fun (j97 : Int32) => ([], [])) (cells' := 0) (slots' := 0) (pc' := 38) (L' := fun (j97 : Int32) => #[.val (.int p1), .val (.int p2), .val (.int (p2 &&& (127 : Int32))), .val (.int j90), .unset]) (S' := fun (j97 : Int32) => [(.int j97)]) ?_ (fun J30 => ?_)
    · intro j97 hjj97
      refine Run.istore K at_38 (pc' := 40) rfl (L' := #[.val (.int p1), .val (.int p2), .val (.int (p2 &&& (127 : Int32))), .val (.int j90), .val (.int j97)]) rfl ?_
      refine Run.iloadN K at_40 (pc' := 41) rfl rfl ?_
      refine Run.join1 (F := fun (j101 : Int32) => ((j90 = (0 : Int32)) ∧ j101 = (0 : Int32)) ∨ ((¬ (j90 = (0 : Int32))) ∧ (j97 = (0 : Int32)) ∧ j101 = (0 : Int32)) ∨ ((¬ (j90 = (0 : Int32))) ∧ (¬ (j97 = (0 : Int32))) ∧ j101 = (1 : Int32))) (D' := fun (j101 : Int32) => ([], [])) (cells' := 0) (slots' := 0) (pc' := 54) (L' := fun (j101 : Int32) => #[.val (.int p1), .val (.int p2), .val (.int (p2 &&& (127 : Int32))), .val (.int j90), .val (.int j97)]) (S' := fun (j101 : Int32) => [(.int j101)]) ?_ (fun J41 => ?_)
      · intro j101 hjj101
        exact Run.retN K at_54 (w := (1 : Int32)) rfl (by decide) (by rw [own_final p1 p2 c84 c86 j90 c91 c93 j97 j101 hc85 hc87 hjj90 hc92 hc94 hjj97 hjj101]; decide) (by decide) (by decide) rfl
      · skip
        refine Run.ifc K at_41 (pT := 53) (pF := 44) (by decide) (by decide) rfl (fun (h41_101 : j90 = (0 : Int32)) => ?_) (fun (h41_101 : ¬ (j90 = (0 : Int32))) => ?_)
        · skip
          refine Run.iconst K at_53 (pc' := 54) rfl (v := (0 : Int32)) rfl ?_
          exact J41 _ (Or.inl ⟨h41_101, rfl⟩)
        · skip
          refine Run.iload K at_44 (pc' := 46) rfl rfl ?_
          refine Run.ifc K at_46 (pT := 53) (pF := 49) (by decide) (by decide) rfl (fun (h46_102 : j97 = (0 : Int32)) => ?_) (fun (h46_102 : ¬ (j97 = (0 : Int32))) => ?_)
          · skip
            refine Run.iconst K at_53 (pc' := 54) rfl (v := (0 : Int32)) rfl ?_
            exact J41 _ (Or.inr (Or.inl ⟨h41_101, h46_102, rfl⟩))
          · skip
            refine Run.iconst K at_49 (pc' := 50) rfl (v := (1 : Int32)) rfl ?_
            refine Run.goto K at_50 (pc' := 54) (by decide) (by decide) ?_
            exact J41 _ (Or.inr (Or.inr (⟨h41_101, h46_102, rfl⟩)))
    · skip
      refine Run.icmp K at_30 (pT := 37) (pF := 33) (by decide) (by decide) rfl (fun (h30_103 : c91 ≠ c93) => ?_) (fun (h30_103 : ¬ (c91 ≠ c93)) => ?_)
      · skip
        refine Run.iconst K at_37 (pc' := 38) rfl (v := (0 : Int32)) rfl ?_
        exact J30 _ (Or.inl ⟨h30_103, rfl⟩)
      · skip
        refine Run.iconst K at_33 (pc' := 34) rfl (v := (1 : Int32)) rfl ?_
        refine Run.goto K at_34 (pc' := 38) (by decide) (by decide) ?_
        exact J30 _ (Or.inr (⟨h30_103, rfl⟩))
  · skip
    refine Run.icmp K at_13 (pT := 20) (pF := 16) (by decide) (by decide) rfl (fun (h13_104 : c84 ≠ c86) => ?_) (fun (h13_104 : ¬ (c84 ≠ c86)) => ?_)
    · skip
      refine Run.iconst K at_20 (pc' := 21) rfl (v := (0 : Int32)) rfl ?_
      exact J13 _ (Or.inl ⟨h13_104, rfl⟩)
    · skip
      refine Run.iconst K at_16 (pc' := 17) rfl (v := (1 : Int32)) rfl ?_
      refine Run.goto K at_17 (pc' := 21) (by decide) (by decide) ?_
      exact J13 _ (Or.inr (⟨h13_104, rfl⟩))
set_option maxRecDepth 65536 in
set_option maxHeartbeats 40000000 in
theorem comes_1 {Post : Tables → Env → Array Value → State → Outcome → State → Prop} (hpost : ∀ tb e args s v u, (limb_1_1.after args s (.returned v) u = true ∧ limb_1_2.after args s (.returned v) u = true ∧ True) → FrameEnd s (.returned v) u (Jvm.fieldLocs frame_1_writes args s ++ Jvm.arrayLocs frame_1_arrays args s ++ Jvm.staticLocs frame_1_statics s) 0 0 → Post tb e args s (.returned v) u) :
    ArmFor flags0 classFile x code maxLocals ret World_1 tables_1 room_1 Calls_1 rest_1 Pre_1 Post := by
  intro l hfl _ _ p e ha hc hk s m args below hf hA hF happ hP
  obtain ⟨hcalls, hrest, hpre⟩ := hP
  obtain ⟨-, -, -, hnamed, -, -, -, hat⟩ := (Spec.applies_iff hf).mp happ
  obtain ⟨hg, hn⟩ := and_e (Cond.before_iff.mp (show (Jvm.Cond.and given_1 narrow_1).before args s = true from hpre))
  obtain ⟨g0, q0⟩ := and_e hg
  obtain ⟨w0, w1, rfl⟩ : ∃ w0 w1 : Value, args = #[w0, w1] := by
    have hs : args.size = 2 := by simpa [Cond.value, given_1] using g0
    obtain ⟨L⟩ := args
    match L, hs with
    | [w0, w1], _ => exact ⟨w0, w1, rfl⟩
  have hw := fun d (hd : d ∈ tables_1) => atoms_spec (ws := Jvm.Cond.code x code maxLocals ret :: tables_1) hat d (List.mem_cons_of_mem _ hd)
  obtain ⟨f0, q1⟩ := and_e q0
  obtain ⟨i0, e0⟩ := is_v f0
  obtain rfl : w0 = (.int i0) := Option.some.inj e0
  obtain ⟨i1, e1⟩ := is_v q1
  obtain rfl : w1 = (.int i1) := Option.some.inj e1
  obtain ⟨n, o, h1, h2, h3, _, L, rfl, ⟨N, D', rfl, -⟩, hq⟩ := rm0 l s _ s.heap.size hw tables_1 i0 i1 s.heap ⟨Old.start s, fun _ h => (nomatch h), fun _ h => (nomatch h), List.nodup_nil⟩ p e ha hc hk s m _ below hf ((Spec.applies_iff_loose hf).mp happ).1 ⟨rfl, State.Warmed39.refl s, rfl⟩ trivial
  refine ⟨n, _, h1, h2, h3, hpost _ _ _ _ _ _ ⟨Cond.after_iff.mpr rfl, Cond.after_iff.mpr (eq_i res_at (Term.int_eval (1)) rfl), trivial⟩ ⟨hq.1, hq.2.1, (hq.2.2.sift fun y hy => Or.inr (N y hy)).mono (by decide) (by decide)⟩⟩
theorem main_1_1 : Claimed_1_1 := comes_1 fun _ _ _ _ _ _ h hF => ⟨h.1, hF⟩
theorem main_1_2 : Claimed_1_2 := comes_1 fun _ _ _ _ _ _ h hF => ⟨h.2.1, hF⟩
end Jvm.Pilot.@@N@@
namespace Jvm.Pilot.@@N@@
open Jvm Jvm.ClassFile Sem Op Lib Jvm.Free Jvm.Stand Jvm.Pilot.@@N@@.Jvm.D
/-! MADE BY PROGRAM (witnessworld.py) out of the Statement's table words and the real class files: 12 classes; the members and pool entries that the words name. The judged class is class 1, her method 2. -/
namespace start1
open Jvm.ClassFile
def u (s : String) : CpInfo := .utf8 (stringToUtf16 s)
/-- a pool by its gaps: so many unusable entries, then the entry; so many at the end -/
def gap : Nat → List CpInfo → List CpInfo
  | 0, r => r
  | n + 1, r => .unusable :: gap n r
def poolList (es : List (Nat × CpInfo)) (last : Nat) : List CpInfo := es.foldr (fun e r => gap e.1 (e.2 :: r)) (gap last [])
def pool (es : List (Nat × CpInfo)) (last : Nat) : Array CpInfo := ⟨poolList es last⟩
def fileOf (pool : Array CpInfo) (this : Nat) (attrs : Array Attribute := #[]) (ms : Array MethodInfo := #[]) (fl : Nat := 33) (sup : Nat := 0) (ifs : Array Nat := #[]) (fds : Array FieldInfo := #[]) : ClassFile where
  minorVersion := 0
  majorVersion := 65
  constantPool := pool
  accessFlags := fl
  thisClass := this
  superClass := sup
  interfaces := ifs
  fields := fds
  methods := ms
  attributes := attrs
def plain (name : String) (sup : Option ClassId) : Class where
  name := name
  kind := .ordinary
  loader := none
  accessFlags := 33
  super := sup
  interfaces := #[]
  cf := none
  fields := #[]
  methods := #[]
  instanceTypes := #[]
  staticTypes := #[]
  resolved := #[]
  callSites := []
  init := .initialized
  statics := none
  mirror := none

def pool0 : Array CpInfo := pool [(5, u "<init>"), (0, u "()V"), (1, .class_ 10), (1, u "java/lang/Object")] 113

def k0m0 : Method := { name := "<init>", desc := "()V", sig := { parameters := [], returnType := none }, accessFlags := 1, code := none }
/-- java/lang/Object -/
def k0 : Class := { plain "java/lang/Object" none with
  accessFlags := 33
  interfaces := #[]
  cf := some (fileOf pool0 8 #[] #[{ accessFlags := 1, nameIndex := 5, descriptorIndex := 6, attributes := #[] }] 33 0 #[] #[])
  fields := #[]
  methods := #[k0m0]
  instanceTypes := #[]
  staticTypes := #[]
  resolved := Array.replicate 124 none
  statics := none }

def pool1 : Array CpInfo := pool [(2, .class_ 4), (1, u "java/lang/Object"), (0, u "<init>"), (0, u "()V"), (0, .long 287948901175001088), (1, .long 541165879422), (1, .methodref 12 13), (0, .class_ 14), (0, .nameAndType 15 16), (0, u "com/example/polite_crawler/politecrawler/scope/PercentEncodeSet"), (0, u "isHexDigit"), (0, u "(I)Z"), (0, .methodref 18 19), (0, .class_ 20), (0, .nameAndType 21 16), (0, u "com/example/polite_crawler/politecrawler/scope/PercentEncodeSetIsHexDigitPinLaw"), (0, u "reference"), (3, u "law"), (0, u "(II)Z")] 2

def k1m0 : Method := { name := "<init>", desc := "()V", sig := { parameters := [], returnType := none }, accessFlags := 2, code := none }
def k1c1 : Code := { maxStack := 4, maxLocals := 5, code := method_2_code, exceptionTable := #[], attributes := #[] }
def k1m1 : Method := { name := "reference", desc := "(I)Z", sig := { parameters := [.int], returnType := some .boolean }, accessFlags := 10, code := some k1c1 }
def k1c2 : Code := { maxStack := 2, maxLocals := 5, code := code, exceptionTable := #[], attributes := #[] }
def k1m2 : Method := { name := "law", desc := "(II)Z", sig := { parameters := [.int, .int], returnType := some .boolean }, accessFlags := 9, code := some k1c2 }
/-- com/example/polite_crawler/politecrawler/scope/PercentEncodeSetIsHexDigitPinLaw -/
def k1 : Class := { plain "com/example/polite_crawler/politecrawler/scope/PercentEncodeSetIsHexDigitPinLaw" (some 0) with
  accessFlags := 49
  interfaces := #[]
  cf := some (fileOf pool1 18 #[] #[{ accessFlags := 2, nameIndex := 5, descriptorIndex := 6, attributes := #[] }, { accessFlags := 10, nameIndex := 21, descriptorIndex := 16, attributes := #[] }, { accessFlags := 9, nameIndex := 25, descriptorIndex := 26, attributes := #[] }] 49 2 #[] #[])
  fields := #[]
  methods := #[k1m0, k1m1, k1m2]
  instanceTypes := #[]
  staticTypes := #[]
  resolved := Array.replicate 29 none
  statics := none }

def pool2 : Array CpInfo := pool [(1, .class_ 2), (0, u "java/lang/constant/Constable"), (0, .class_ 4), (0, u "java/lang/Object")] 6

/-- java/lang/constant/Constable -/
def k2 : Class := { plain "java/lang/constant/Constable" (some 0) with
  accessFlags := 1537
  interfaces := #[]
  cf := some (fileOf pool2 1 #[] #[] 1537 3 #[] #[])
  fields := #[]
  methods := #[]
  instanceTypes := #[]
  staticTypes := #[]
  resolved := Array.replicate 11 none
  statics := none }

def pool3 : Array CpInfo := pool [(1, .class_ 2), (0, u "java/lang/Comparable"), (0, .class_ 4), (0, u "java/lang/Object")] 7

/-- java/lang/Comparable -/
def k3 : Class := { plain "java/lang/Comparable" (some 0) with
  accessFlags := 1537
  interfaces := #[]
  cf := some (fileOf pool3 1 #[] #[] 1537 3 #[] #[])
  fields := #[]
  methods := #[]
  instanceTypes := #[]
  staticTypes := #[]
  resolved := Array.replicate 12 none
  statics := none }

def pool4 : Array CpInfo := pool [(1, .class_ 2), (0, u "java/io/Serializable"), (0, .class_ 4), (0, u "java/lang/Object")] 2

/-- java/io/Serializable -/
def k4 : Class := { plain "java/io/Serializable" (some 0) with
  accessFlags := 1537
  interfaces := #[]
  cf := some (fileOf pool4 1 #[] #[] 1537 3 #[] #[])
  fields := #[]
  methods := #[]
  instanceTypes := #[]
  staticTypes := #[]
  resolved := Array.replicate 7 none
  statics := none }

def pool5 : Array CpInfo := pool [(2, .class_ 4), (1, u "java/lang/Enum"), (0, u "name"), (0, u "Ljava/lang/String;"), (2, u "ordinal"), (0, u "I"), (1, .class_ 14), (1, u "java/lang/Object"), (4, u "hash"), (86, .class_ 108), (1, u "java/lang/Enum$EnumDesc"), (2, .class_ 112), (0, u "java/lang/constant/Constable"), (0, .class_ 114), (0, u "java/lang/Comparable"), (0, .class_ 116), (0, u "java/io/Serializable")] 87

/-- java/lang/Enum -/
def k5 : Class := { plain "java/lang/Enum" (some 0) with
  accessFlags := 1057
  interfaces := #[2, 3, 4]
  cf := some (fileOf pool5 2 #[.nestMembers #[106]] #[] 1057 12 #[111, 113, 115] #[{ accessFlags := 18, nameIndex := 5, descriptorIndex := 6, attributes := #[] }, { accessFlags := 18, nameIndex := 9, descriptorIndex := 10, attributes := #[] }, { accessFlags := 2, nameIndex := 19, descriptorIndex := 10, attributes := #[] }])
  fields := #[{ name := "name", type := (.object "java/lang/String"), accessFlags := 18, slot := 0, constantValue := 0 }, { name := "ordinal", type := .int, accessFlags := 18, slot := 1, constantValue := 0 }, { name := "hash", type := .int, accessFlags := 2, slot := 2, constantValue := 0 }]
  methods := #[]
  instanceTypes := #[(.object "java/lang/String"), .int, .int]
  staticTypes := #[]
  resolved := Array.replicate 204 none
  statics := none }

def pool6 : Array CpInfo := pool [(1, .class_ 2), (0, u "com/example/polite_crawler/politecrawler/scope/PercentEncodeSet"), (2, u "C0_CONTROL"), (0, u "Lcom/example/polite_crawler/politecrawler/scope/PercentEncodeSet;"), (2, u "FRAGMENT"), (2, u "QUERY"), (2, u "SPECIAL_QUERY"), (2, u "PATH"), (2, u "USERINFO"), (2, u "$VALUES"), (0, u "[Lcom/example/polite_crawler/politecrawler/scope/PercentEncodeSet;"), (6, .class_ 34), (1, u "java/lang/Enum"), (8, u "printable"), (0, u "Ljava/lang/String;"), (9, u "(I)Z"), (139, u "isHexDigit"), (39, u "HEX_DIGITS"), (0, u "[C")] 51

def k6c0 : Code := { maxStack := 2, maxLocals := 1, code := prog_23_method_9_code, exceptionTable := #[], attributes := #[] }
def k6m0 : Method := { name := "isHexDigit", desc := "(I)Z", sig := { parameters := [.int], returnType := some .boolean }, accessFlags := 8, code := some k6c0 }
/-- com/example/polite_crawler/politecrawler/scope/PercentEncodeSet -/
def k6 : Class := { plain "com/example/polite_crawler/politecrawler/scope/PercentEncodeSet" (some 5) with
  accessFlags := 16432
  interfaces := #[]
  cf := some (fileOf pool6 1 #[] #[{ accessFlags := 8, nameIndex := 194, descriptorIndex := 54, attributes := #[] }] 16432 32 #[] #[{ accessFlags := 16409, nameIndex := 5, descriptorIndex := 6, attributes := #[] }, { accessFlags := 16409, nameIndex := 9, descriptorIndex := 6, attributes := #[] }, { accessFlags := 16409, nameIndex := 12, descriptorIndex := 6, attributes := #[] }, { accessFlags := 16409, nameIndex := 15, descriptorIndex := 6, attributes := #[] }, { accessFlags := 16409, nameIndex := 18, descriptorIndex := 6, attributes := #[] }, { accessFlags := 16409, nameIndex := 21, descriptorIndex := 6, attributes := #[] }, { accessFlags := 26, nameIndex := 234, descriptorIndex := 235, attributes := #[] }, { accessFlags := 18, nameIndex := 43, descriptorIndex := 44, attributes := #[] }, { accessFlags := 4122, nameIndex := 24, descriptorIndex := 25, attributes := #[] }])
  fields := #[{ name := "C0_CONTROL", type := (.object "com/example/polite_crawler/politecrawler/scope/PercentEncodeSet"), accessFlags := 16409, slot := 0, constantValue := 0 }, { name := "FRAGMENT", type := (.object "com/example/polite_crawler/politecrawler/scope/PercentEncodeSet"), accessFlags := 16409, slot := 1, constantValue := 0 }, { name := "QUERY", type := (.object "com/example/polite_crawler/politecrawler/scope/PercentEncodeSet"), accessFlags := 16409, slot := 2, constantValue := 0 }, { name := "SPECIAL_QUERY", type := (.object "com/example/polite_crawler/politecrawler/scope/PercentEncodeSet"), accessFlags := 16409, slot := 3, constantValue := 0 }, { name := "PATH", type := (.object "com/example/polite_crawler/politecrawler/scope/PercentEncodeSet"), accessFlags := 16409, slot := 4, constantValue := 0 }, { name := "USERINFO", type := (.object "com/example/polite_crawler/politecrawler/scope/PercentEncodeSet"), accessFlags := 16409, slot := 5, constantValue := 0 }, { name := "HEX_DIGITS", type := (.array .char), accessFlags := 26, slot := 6, constantValue := 0 }, { name := "printable", type := (.object "java/lang/String"), accessFlags := 18, slot := 3, constantValue := 0 }, { name := "$VALUES", type := (.array (.object "com/example/polite_crawler/politecrawler/scope/PercentEncodeSet")), accessFlags := 4122, slot := 7, constantValue := 0 }]
  methods := #[k6m0]
  instanceTypes := #[(.object "java/lang/String"), .int, .int, (.object "java/lang/String")]
  staticTypes := #[(.object "com/example/polite_crawler/politecrawler/scope/PercentEncodeSet"), (.object "com/example/polite_crawler/politecrawler/scope/PercentEncodeSet"), (.object "com/example/polite_crawler/politecrawler/scope/PercentEncodeSet"), (.object "com/example/polite_crawler/politecrawler/scope/PercentEncodeSet"), (.object "com/example/polite_crawler/politecrawler/scope/PercentEncodeSet"), (.object "com/example/polite_crawler/politecrawler/scope/PercentEncodeSet"), (.array .char), (.array (.object "com/example/polite_crawler/politecrawler/scope/PercentEncodeSet"))]
  resolved := Array.replicate 287 none
  statics := none }

def pool7 : Array CpInfo := pool [(1, u "java/lang/Cloneable"), (0, .class_ 1), (0, u "java/lang/Object"), (0, .class_ 3)] 3

/-- java/lang/Cloneable -/
def k7 : Class := { plain "java/lang/Cloneable" (some 0) with
  accessFlags := 1537
  interfaces := #[]
  cf := some (fileOf pool7 2 #[] #[] 1537 4 #[] #[])
  fields := #[]
  methods := #[]
  instanceTypes := #[]
  staticTypes := #[]
  resolved := Array.replicate 8 none
  statics := none }

/-- the primitive byte -/
def k8 : Class := { plain "byte" none with kind := .primitive 'B', accessFlags := 0x411 }
/-- [B -/
def k9 : Class := { plain "[B" (some 0) with kind := .array 8 .byte, interfaces := #[7, 4], accessFlags := 1041 }

/-- the primitive int -/
def k10 : Class := { plain "int" none with kind := .primitive 'I', accessFlags := 0x411 }
/-- [I -/
def k11 : Class := { plain "[I" (some 0) with kind := .array 10 .int, interfaces := #[7, 4], accessFlags := 1041 }

def heap : Heap := #[]
def classes : Array Class := #[k0, k1, k2, k3, k4, k5, k6, k7, k8, k9, k10, k11]
def interned : List (Array UInt16 × Addr) := []
def slotsUsed : Nat := 0
def theMethod : MethodId := ⟨1, 2⟩
def args0 : Array Value := #[.int 5, .int 5]
def aboutOver (below : List Frame) : State where
  vm := { classes := classes, interned := interned.toArray }
  heap := heap
  slotsUsed := slotsUsed
  threads := #[{ frames := .invoking theMethod args0 :: below }]
def below0 : List Frame := [.native { method := ⟨0, 0⟩, args := #[] }]
def about1 : State := aboutOver below0
def p0 : Program := .bare "" "" ""
def e0 : Env := launch0.env 0 0 0
theorem w_frames : about1.frames = Frame.invoking theMethod args0 :: below0 := rfl
set_option maxRecDepth 65536 in
theorem w_args : argsFit about1.vm theMethod args0 = true := by decide +kernel
set_option maxRecDepth 65536 in
theorem w_heap : heapFits about1 = true := by decide +kernel
set_option maxRecDepth 65536 in
theorem w_runnable : about1.curStatus? = some .runnable := by decide +kernel
set_option maxRecDepth 65536 in
theorem w_alone : about1.alone = true := by decide +kernel
set_option maxRecDepth 65536 in
theorem w_named : about1.methodNamed? x = some theMethod := by decide +kernel
set_option maxRecDepth 65536 in
theorem w_hears : about1.hears theMethod below0 = true := by decide +kernel
set_option maxRecDepth 65536 in
theorem w_ripe : about1.ripe theMethod args0 below0 = true := by decide +kernel
theorem w_running : about1.status = .running := rfl
set_option maxRecDepth 65536 in
theorem w_room : about1.hasRoom e0.platform room_1 = true :=
  launch0.hasRoom_least _ room_1 (by decide +kernel) (by decide +kernel) (by decide +kernel) (by decide +kernel) (by decide +kernel) (by decide +kernel)
theorem allAtoms_all (ts : List Jvm.Cond) (a : Array Jvm.Value) (st : Jvm.State) : (allAtoms ts).before a st = ts.all (fun c => c.before a st) := by
  induction ts with
  | nil => rfl
  | cons c t ih =>
    show (Jvm.Cond.and c (allAtoms t)).before a st = _
    rw [Jvm.Cond.before_and, ih, List.all_cons]
def words1 : List Jvm.Cond := Jvm.Cond.code x code maxLocals ret :: tables_1
/-- a 'code' word, met by the world's own term for the bytes: nothing is compared byte by byte -/
theorem code_word {y : MethodName} {bytes : ByteArray} {mx : Nat} {rt : Option FieldType} {a : Array Value} {s : State} {m : MethodId} {meth : Method} {c : Code} (h1 : s.methodNamed? y = some m) (h2 : s.vm.method? m = some meth) (h3 : meth.code = some c) (h4 : c.code = bytes)
    (h5 : (c.maxLocals == mx && c.exceptionTable.isEmpty && decide (c.maxStack ≤ mostOperands) && decide (meth.sig.returnType = rt) && !meth.locks && decide (parseMethodDescriptor y.desc = some meth.sig)) = true) : (Jvm.Cond.code y bytes mx rt).before a s = true := by
  simp only [Bool.and_eq_true, beq_iff_eq, Bool.not_eq_true', decide_eq_true_eq] at h5
  obtain ⟨⟨⟨⟨⟨g1, g2⟩, g3⟩, g4⟩, g5⟩, g6⟩ := h5
  simp [Cond.before, Cond.holds, Cond.value, h1, h2, h3, h4, g1, g2, g3, g4, g5, g6]
def isCode : Jvm.Cond → Bool
  | .code _ _ _ _ => true
  | _ => false
theorem all_split {L : List Jvm.Cond} {P : Jvm.Cond → Bool} (h1 : L.all (fun c => isCode c || P c) = true) (h2 : ∀ c ∈ L.filter isCode, P c = true) : L.all P = true := by
  refine List.all_eq_true.mpr fun c hc => ?_
  have h := List.all_eq_true.mp h1 c hc
  rcases Bool.eq_false_or_eq_true (isCode c) with hi | hi
  · exact h2 c (List.mem_filter.mpr ⟨hc, hi⟩)
  · simpa [hi] using h
set_option maxRecDepth 65536 in
theorem w_c0 : (Jvm.Cond.code x code maxLocals ret).before args0 about1 = true := code_word (m := ⟨1, 2⟩) (meth := k1m2) (c := k1c2) (by decide +kernel) rfl rfl rfl (by decide +kernel)
set_option maxRecDepth 65536 in
theorem w_c1 : (Jvm.Cond.code ({ cls := "com/example/polite_crawler/politecrawler/scope/PercentEncodeSet", name := "isHexDigit", desc := "(I)Z" } : Jvm.MethodName) prog_23_method_9_code (1 : Nat) (Option.some Jvm.ClassFile.FieldType.boolean)).before args0 about1 = true := code_word (m := ⟨6, 0⟩) (meth := k6m0) (c := k6c0) (by decide +kernel) rfl rfl rfl (by decide +kernel)
set_option maxRecDepth 65536 in
theorem w_c2 : (Jvm.Cond.code ({ cls := "com/example/polite_crawler/politecrawler/scope/PercentEncodeSetIsHexDigitPinLaw", name := "reference", desc := "(I)Z" } : Jvm.MethodName) method_2_code (5 : Nat) (Option.some Jvm.ClassFile.FieldType.boolean)).before args0 about1 = true := code_word (m := ⟨1, 1⟩) (meth := k1m1) (c := k1c1) (by decide +kernel) rfl rfl rfl (by decide +kernel)
def codes1 : List Jvm.Cond := [Jvm.Cond.code x code maxLocals ret, Jvm.Cond.code ({ cls := "com/example/polite_crawler/politecrawler/scope/PercentEncodeSet", name := "isHexDigit", desc := "(I)Z" } : Jvm.MethodName) prog_23_method_9_code (1 : Nat) (Option.some Jvm.ClassFile.FieldType.boolean), Jvm.Cond.code ({ cls := "com/example/polite_crawler/politecrawler/scope/PercentEncodeSetIsHexDigitPinLaw", name := "reference", desc := "(I)Z" } : Jvm.MethodName) method_2_code (5 : Nat) (Option.some Jvm.ClassFile.FieldType.boolean)]
set_option maxRecDepth 65536 in
theorem codes_eq : words1.filter isCode = codes1 := rfl
theorem w_codes : ∀ c ∈ words1.filter isCode, c.before args0 about1 = true := by
  rw [codes_eq]
  intro c hc
  simp only [codes1, List.mem_cons, List.not_mem_nil, or_false] at hc
  rcases hc with rfl | rfl | rfl
  · exact w_c0
  · exact w_c1
  · exact w_c2
set_option maxRecDepth 65536 in
theorem w_t1 : words1.all (fun c => isCode c || c.before args0 about1) = true := by decide +kernel
theorem w_tables : (allAtoms (Jvm.Cond.code x code maxLocals ret :: tables_1)).before args0 about1 = true := by
  rw [allAtoms_all]
  show words1.all (fun c => c.before args0 about1) = true
  refine all_split ?_ w_codes
  rw [w_t1]
set_option maxRecDepth 65536 in
theorem w_case : (Jvm.Cond.and given_1 narrow_1).before args0 about1 = true := by decide +kernel
theorem w_applies : (headSpec (Jvm.Cond.code x code maxLocals ret :: tables_1) room_1).applies x e0.platform about1 = true :=
  (Spec.applies_iff w_frames).mpr ⟨w_running, w_runnable, w_alone, w_named, w_hears, w_ripe, w_room, w_tables⟩
theorem atStart : AtStart classFile x code maxLocals ret World_1 tables_1 room_1 Calls_1 rest_1 Pre_1 launch0 p0 e0 about1 theMethod args0 below0 :=
  ⟨lists_1, trivial, launch0.admits_env _ _ _, launch0.least_env, fairChoices_fair.cas, fairChoices_fair.clock, w_frames, w_args, w_heap, w_applies, trivial, trivial, w_case⟩
end start1
theorem witness_1 : WitnessClaimed_1 := ⟨start1.p0, start1.e0, start1.about1, start1.theMethod, start1.args0, start1.below0, start1.atStart⟩
end Jvm.Pilot.@@N@@
