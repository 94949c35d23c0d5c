import JvmDerived
import JvmDerived.Pilot.@@N@@Statement
import JvmDerived.Pilot.@@N@@Code
set_option linter.unusedVariables false
set_option linter.unusedSimpArgs false
namespace Jvm.Pilot.@@N@@
open Jvm Jvm.ClassFile Sem Op Lib Jvm.Free Jvm.Stand Jvm.LawKit Jvm.RoadKit Bundle Jvm.Pilot.@@N@@.Jvm.D
/-! ## the own layer: a picture of the heap, one fact for where a walk stands, steps in continuation form -/
abbrev Ob : Type := Sum (String × List ((String × String × String) × Value)) (FieldType × List Value)
abbrev Obs : Type := List (Addr × Ob)
def Ara (Z : State) (h : Heap) (a : Addr) (ty : FieldType) (vs : List Value) : Prop :=
  ∃ c : Cell, Arr Z h a c ty ∧ c.slots = vs.toArray ∧ vs.length < 2 ^ 31 ∧ (∀ v ∈ vs, fits ty v = true) ∧ Exa Z h a ("[" ++ ty.toString)
def Is (Z : State) (h : Heap) (a : Addr) (o : Ob) : Prop :=
  match o with
  | .inl q => Exa Z h a q.1 ∧ ∀ f ∈ q.2, Fld Z h a f.1.1 f.1.2.1 f.1.2.2 f.2
  | .inr q => Ara Z h a q.1 q.2
def Pic (Z : State) (n0 : Nat) (h : Heap) (L : Obs) : Prop := (∀ q ∈ L, n0 ≤ q.1 ∧ Is Z h q.1 q.2) ∧ (L.map Prod.fst).Nodup
def Lays (Z : State) (a0 : Array Value) (C : String) (fn : List (String × String × String)) : Prop :=
  (∀ q ∈ fn, Laid Z a0 C q.1 q.2.1 q.2.2 ∧ ∃ t, parseFieldDescriptor q.2.2 = some t) ∧ (fn.map fun q => q.2.1).Nodup
section Pics
variable {Z : State} {h h' : Heap} {a b : Addr} {o o' : Ob} {n0 : Nat} {L L' : Obs} {sl : Nat} {v : Value} {a0 : Array Value}
theorem Is.lt (I : Is Z h a o) : a < h.size := by
  cases o with
  | inl q => exact I.1.lt
  | inr q => obtain ⟨c, A, _⟩ := I; exact A.lt
theorem Is.ext (E : Ext h h') (I : Is Z h a o) : Is Z h' a o := by
  cases o with
  | inl q => exact ⟨I.1.ext E, fun f hf => (I.2 f hf).ext E⟩
  | inr q => obtain ⟨c, A, r1, r2, r3, r4⟩ := I; exact ⟨c, A.ext E, r1, r2, r3, r4.ext E⟩
theorem Is.other (W : Wr h h' b sl v) (ne : a ≠ b) (I : Is Z h a o) : Is Z h' a o := by
  cases o with
  | inl q => exact ⟨I.1.wr W, fun f hf => (I.2 f hf).other W (Or.inl ne)⟩
  | inr q => obtain ⟨c, A, r1, r2, r3, r4⟩ := I; exact ⟨c, A.other W ne, r1, r2, r3, r4.wr W⟩
theorem nodup_get {α : Type} : ∀ {l : List α} {i j : Nat} {x : α}, l.Nodup → l[i]? = some x → l[j]? = some x → i = j
  | [], i, j, x, _, h, _ => by simp at h
  | y :: t, 0, 0, x, _, _, _ => rfl
  | y :: t, 0, j + 1, x, hn, h1, h2 => by
    simp at h1 h2; subst h1
    exact absurd (List.mem_of_getElem? h2) (List.nodup_cons.mp hn).1
  | y :: t, i + 1, 0, x, hn, h1, h2 => by
    simp at h1 h2; subst h2
    exact absurd (List.mem_of_getElem? h1) (List.nodup_cons.mp hn).1
  | y :: t, i + 1, j + 1, x, hn, h1, h2 => by
    simp at h1 h2
    rw [nodup_get (List.nodup_cons.mp hn).2 h1 h2]
theorem mem_set_get {α : Type} {l : List α} {i : Nat} {x q : α} (h : q ∈ l.set i x) : q = x ∨ ∃ j, j ≠ i ∧ l[j]? = some q := by
  obtain ⟨j, hj⟩ := List.mem_iff_getElem?.mp h
  by_cases e : j = i
  · subst e
    rw [List.getElem?_set] at hj
    by_cases hl : j < l.length
    · simp [hl] at hj; exact Or.inl hj.symm
    · simp [hl] at hj
  · rw [List.getElem?_set_ne (Ne.symm e)] at hj
    exact Or.inr ⟨j, e, hj⟩
theorem Pic.new (P : Pic Z n0 h L) (E : Ext h h') (Z0 : n0 ≤ h.size) (I : Is Z h' h.size o) : Pic Z n0 h' ((h.size, o) :: L) := by
  refine ⟨fun q hq => ?_, ?_⟩
  · rcases List.mem_cons.mp hq with rfl | hq
    · exact ⟨Z0, I⟩
    · exact ⟨(P.1 q hq).1, (P.1 q hq).2.ext E⟩
  · show (h.size :: L.map Prod.fst).Nodup
    refine List.nodup_cons.mpr ⟨fun hm => ?_, P.2⟩
    obtain ⟨q, hq, e⟩ := List.mem_map.mp hm
    have lt := (P.1 q hq).2.lt
    rw [e] at lt
    exact Nat.lt_irrefl _ lt
theorem map_set_same {α β : Type} (f : α → β) : ∀ {l : List α} {i : Nat} {x y : α}, l[i]? = some x → f y = f x → (l.set i y).map f = l.map f
  | [], i, x, y, h, _ => by simp at h
  | z :: t, 0, x, y, h, e => by simp at h; subst h; simp [e]
  | z :: t, i + 1, x, y, h, e => by simp at h; simp [map_set_same f h e]
theorem Pic.set {i : Nat} (P : Pic Z n0 h L) (W : Wr h h' a sl v) (hi : L[i]? = some (a, o)) (I : Is Z h' a o') : Pic Z n0 h' (L.set i (a, o')) := by
  refine ⟨fun q hq => ?_, ?_⟩
  · rcases mem_set_get hq with rfl | ⟨j, ne, hj⟩
    · exact ⟨(P.1 _ (List.mem_of_getElem? hi)).1, I⟩
    · refine ⟨(P.1 _ (List.mem_of_getElem? hj)).1, (P.1 _ (List.mem_of_getElem? hj)).2.other W fun e => ne ?_⟩
      refine nodup_get P.2 (x := a) ?_ ?_
      · rw [List.getElem?_map, hj]; simp [e]
      · rw [List.getElem?_map, hi]; simp
  · rw [map_set_same Prod.fst (y := (a, o')) hi rfl]; exact P.2
theorem front_perm {α : Type} : ∀ {l : List α} {i : Nat} {x : α}, l[i]? = some x → List.Perm (x :: l.eraseIdx i) l
  | [], i, x, h => by simp at h
  | z :: t, 0, x, h => by simp at h; subst h; exact List.Perm.refl _
  | z :: t, i + 1, x, h => by
    simp at h
    exact (List.Perm.swap z x _).trans ((front_perm h).cons z)
theorem Pic.perm (P : Pic Z n0 h L) (q : List.Perm L' L) : Pic Z n0 h L' :=
  ⟨fun x hx => P.1 x (q.mem_iff.mp hx), ((q.map Prod.fst).nodup_iff).mpr P.2⟩
theorem Pic.front {i : Nat} {x : Addr × Ob} (P : Pic Z n0 h L) (hi : L[i]? = some x) : Pic Z n0 h (x :: L.eraseIdx i) := P.perm (front_perm hi)
theorem Pic.ne {i j : Nat} {x y : Ob} (P : Pic Z n0 h L) (hi : L[i]? = some (a, x)) (hj : L[j]? = some (b, y)) (hn : i ≠ j) : a ≠ b := fun e => hn (by
  subst e
  refine nodup_get P.2 (x := a) ?_ ?_
  · rw [List.getElem?_map, hi]; simp
  · rw [List.getElem?_map, hj]; simp)
theorem Is.put {C O n d : String} {fs : List ((String × String × String) × Value)} {j : Nat} {old : Value} (W : Wr h h' a (Jvm.RoadKit.slotOf Z O n d) v) (hl : Lays Z a0 C (fs.map Prod.fst)) (I : Is Z h a (.inl (C, fs))) (hf : fs[j]? = some ((O, n, d), old)) : Is Z h' a (.inl (C, fs.set j ((O, n, d), v))) := by
  refine ⟨I.1.wr W, fun f hm => ?_⟩
  rcases mem_set_get hm with rfl | ⟨i, ne, hi⟩
  · exact Fld.same W (I.2 ((O, n, d), old) (List.mem_of_getElem? hf))
  · have g1 : (fs.map Prod.fst)[i]? = some f.1 := by rw [List.getElem?_map, hi]; rfl
    have g2 : (fs.map Prod.fst)[j]? = some (O, n, d) := by rw [List.getElem?_map, hf]; rfl
    obtain ⟨l1, t1, p1⟩ := hl.1 _ (List.mem_of_getElem? g1)
    obtain ⟨l2, t2, p2⟩ := hl.1 _ (List.mem_of_getElem? g2)
    refine (I.2 _ (List.mem_of_getElem? hi)).other W (Or.inr (slot_ne l1 l2 (fun e => ne ?_) p1 p2))
    refine nodup_get hl.2 (x := n) ?_ ?_
    · rw [List.getElem?_map, g1]; simp [← e]
    · rw [List.getElem?_map, g2]; try rfl
theorem Ara.put {ty : FieldType} {vs : List Value} {j : Int32} (I : Ara Z h a ty vs) (W : Wr h h' a j.toNatClampNeg v) (hf : fits ty v = true) : Ara Z h' a ty (vs.set j.toNatClampNeg v) := by
  obtain ⟨c, A, r1, r2, r3, r4⟩ := I
  refine ⟨c.setSlot j.toNatClampNeg v, A.same W, ?_, by rw [List.length_set]; exact r2, fun x hx => ?_, r4.wr W⟩
  · show c.slots.setIfInBounds _ _ = _
    rw [r1]; simp
  · rcases mem_set_get hx with rfl | ⟨i, _, hi⟩
    · exact hf
    · exact r3 _ (List.mem_of_getElem? hi)
theorem fits_def (aty : ArrayType) : fits (newarray.typeOf aty) (defaultValue (newarray.typeOf aty)) = true := by cases aty <;> decide
theorem Is.keep {ws : List Addr} (K : Keep h h' ws) (hn : a ∉ ws) (I : Is Z h a o) : Is Z h' a o := by
  cases o with
  | inl q => exact ⟨I.1.keep K, fun f hf => (I.2 f hf).keep K hn⟩
  | inr q => obtain ⟨c, A, r1, r2, r3, r4⟩ := I; exact ⟨c, ⟨K.2.1 a c A.1 hn, A.2⟩, r1, r2, r3, r4.keep K⟩
theorem Pic.setK {i : Nat} (P : Pic Z n0 h L) (K : Keep h h' [a]) (hi : L[i]? = some (a, o)) (I : Is Z h' a o') : Pic Z n0 h' (L.set i (a, o')) := by
  refine ⟨fun q hq => ?_, ?_⟩
  · rcases mem_set_get hq with rfl | ⟨j, ne, hj⟩
    · exact ⟨(P.1 _ (List.mem_of_getElem? hi)).1, I⟩
    · refine ⟨(P.1 _ (List.mem_of_getElem? hj)).1, (P.1 _ (List.mem_of_getElem? hj)).2.keep K fun e => ne ?_⟩
      have e := List.mem_singleton.mp e
      refine nodup_get P.2 (x := a) ?_ ?_
      · rw [List.getElem?_map, hj]; simp [e]
      · rw [List.getElem?_map, hi]; simp
  · rw [map_set_same Prod.fst (y := (a, o')) hi rfl]; exact P.2
theorem Arv.toAra {k : ClassId} {ty : FieldType} {z : Int32} {vs : List Value} {dv : Value} (V : Arv Z h a k ty z vs dv) (hz : z.toNatClampNeg = vs.length) (hl : vs.length < 2 ^ 31) (E : Exa Z h a ("[" ++ ty.toString)) : Ara Z h a ty vs := by
  obtain ⟨c, A, q1, q2, q3, H, G⟩ := V
  refine ⟨c, A, ?_, hl, fun v hv => ?_, E⟩
  · refine Array.ext_getElem? fun i => ?_
    by_cases hi : i < c.slots.size
    · rw [H i hi, List.getElem?_toArray, List.getD_eq_getElem?_getD]
      have : i < vs.length := by omega
      rw [List.getElem?_eq_getElem this]; rfl
    · rw [Array.getElem?_eq_none (by omega), List.getElem?_toArray, List.getElem?_eq_none (by omega)]
  · obtain ⟨i, hi⟩ := List.mem_iff_getElem?.mp hv
    have hlt := (List.getElem?_eq_some_iff.mp hi).1
    have := G i (by omega)
    rw [List.getD_eq_getElem?_getD, hi] at this
    exact this
theorem Ara.toArv {ty : FieldType} {vs : List Value} (I : Ara Z h a ty vs) (dv : Value) : ∃ k, Arv Z h a k ty vs.length.toInt32 vs dv ∧ vs.length.toInt32.toNatClampNeg = vs.length ∧ ¬ vs.length.toInt32 < 0 := by
  obtain ⟨c, A, r1, r2, r3, r4⟩ := I
  have e1 : vs.length.toInt32.toInt = vs.length := len_toInt r2
  have e2 : vs.length.toInt32.toNatClampNeg = vs.length := by simp only [Int32.toNatClampNeg, e1]; omega
  have e3 : ¬ vs.length.toInt32 < 0 := by rw [Int32.lt_iff_toInt_lt, e1]; simp only [Int32.reduceToInt]; omega
  have e4 : c.slots.size = vs.length := by rw [r1]; simp
  refine ⟨c.cls, ⟨c, A, rfl, by omega, e3, fun k hk => ?_, fun k hk => ?_⟩, e2, e3⟩
  · have : k < vs.length := by omega
    rw [r1, List.getElem?_toArray, List.getElem?_eq_getElem this, List.getD_eq_getElem?_getD, List.getElem?_eq_getElem this]; rfl
  · have : k < vs.length := by omega
    rw [List.getD_eq_getElem?_getD, List.getElem?_eq_getElem this]
    exact r3 _ (List.getElem_mem this)
end Pics
def Go (p : Program) (e : Env) (below : List Frame) (F : State → Prop) (U : State) : Prop := ∃ t, Steps p.tables e below U t ∧ F t
theorem Go.st {p : Program} {e : Env} {below : List Frame} {F : State → Prop} {U U' : State} (h : ∀ t, Steps p.tables e below U' t → Steps p.tables e below U t) (g : Go p e below F U') : Go p e below F U := by
  obtain ⟨t, s, f⟩ := g; exact ⟨t, h t s, f⟩
def Here (p : Program) (l : Launch) (e : Env) (R : Room) (s : State) (m : MethodId) (args : Array Value) (below : List Frame) (meth : Method) (c : Code) (Z : State) (a0 : Array Value) (tbl : List Jvm.Cond) (own nm : String) (bc : ByteArray) (mxl : Nat) (rt : Option FieldType) (n0 : Nat) (T : State) (L : Obs) (cells slots : Nat) : Prop :=
  (p.tables.exec = Jvm.exec ∧ Z.Warmed39 s.vm ∧ s.vm.findClass own = some m.cls ∧ c.code = bc ∧ c.maxLocals = mxl ∧ (∀ d ∈ tbl, d.before a0 Z = true) ∧ meth.name = nm ∧ meth.sig.returnType = rt ∧ meth.locks = false) ∧
  ∃ locs, Stand p l e R s m args below meth c T locs cells slots ∧ Fr n0 locs ∧ n0 ≤ T.heap.size ∧ Pic Z n0 T.heap L
def EndS (below : List Frame) (s : State) (n0 : Nat) (Z : State) (kc ks : Nat) (Q : Option Value → Obs → Prop) (t : State) : Prop :=
  ∃ o, t.status = .running ∧ Ended t below o ∧ ∃ v Lc, o = .returned v ∧ (Fr n0 Lc ∧ n0 ≤ t.heap.size ∧ ∃ L', Q v L' ∧ Pic Z n0 t.heap L') ∧ FrameEnd s o t Lc kc ks
def Triple (l : Launch) (Z : State) (n0 : Nat) (y : MethodName) (bytes : ByteArray) (ml : Nat) (rt : Option FieldType) (rm : Room) (kc ks : Nat) (as : List Value) (L : Obs) (Q : Option Value → Obs → Prop) : Prop :=
  ∀ (h0 : Heap) (ws : List Jvm.Cond), n0 ≤ h0.size → Pic Z n0 h0 L →
    MetFree l y (head1 (Jvm.Cond.code y bytes ml rt :: ws) rm) (fun a U => a = as.toArray ∧ Z.Warmed39 U.vm ∧ U.heap = h0) (fun _ _ _ _ _ => True)
      (fun _ U o U' => ∃ v Lc, o = .returned v ∧ (Fr n0 Lc ∧ n0 ≤ U'.heap.size ∧ ∃ L', Q v L' ∧ Pic Z n0 U'.heap L') ∧ FrameEnd U o U' Lc kc ks)
theorem Triple.of_body {l : Launch} {Z : State} {a0 : Array Value} {tbl : List Jvm.Cond} {n0 : Nat} {y : MethodName} {bytes : ByteArray} {ml : Nat} {rt : Option FieldType} {rm : Room} {kc ks : Nat} {as : List Value} {L : Obs} {Q : Option Value → Obs → Prop} {Ls : Array Slot}
    (hp : plainFor y = true) (hw : ∀ d ∈ tbl, d.before a0 Z = true) (ef : (Jvm.Sym.laidSlots as ++ List.replicate (ml - (Jvm.Sym.laidSlots as).length) Slot.unset).toArray = Ls)
    (body : ∀ p e s m below meth c T, Here p l e rm s m as.toArray below meth c Z a0 tbl y.cls y.name bytes ml rt n0 T L 0 0 → Go p e below (EndS below s n0 Z kc ks Q) (T.setTop (mkF m 0 Ls []))) :
    Triple l Z n0 y bytes ml rt rm kc ks as L Q := by
  intro h0 ws Z0 P0
  refine MetFree.of_bodySF hp hisR ?_
  intro p e s m args below meth c s₁ Bd hml0 hP hK
  obtain ⟨rfl, hZ, hh⟩ := hP
  have e0 : s₁.heap = h0 := by rw [← hh, Bd.state]; rfl
  have A : Here p l e rm s m as.toArray below meth c Z a0 tbl y.cls y.name bytes ml rt n0 s₁ L 0 0 :=
    ⟨⟨Bd.exec, hZ, findClass_of_methodNamed Bd.named, Bd.bytes, hml0, hw, (name_of_methodNamed Bd.named Bd.method).1, Bd.returns, Bd.notSynchronized⟩, [], Stand.of_body Bd, Fr.nil n0, by rw [e0]; exact Z0, by rw [e0]; exact P0⟩
  obtain ⟨t, st, o, h1, h2, h3⟩ := body p e s m below meth c s₁ A
  have ef' : entryFrame m as.toArray ml = mkF m 0 Ls [] := by
    have q := Jvm.Sym.argsToLocals_toList as.toArray ml
    have q2 : argsToLocals as.toArray ml = Ls := by rw [← ef, ← q, Array.toArray_toList]
    unfold entryFrame mkF; rw [q2]
  exact ⟨t, o, castTop ef' st, h1, h2, h3⟩

section Walk
variable {p : Program} {l : Launch} {e : Env} {R : Room} {s : State} {m : MethodId} {args : Array Value} {below : List Frame} {meth : Method} {c : Code} {Z : State} {a0 : Array Value} {tbl : List Jvm.Cond} {own nm : String} {bc : ByteArray} {mxl : Nat} {rt : Option FieldType} {n0 : Nat} {T : State} {L : Obs} {cells slots : Nat} {F : State → Prop}
theorem Here.pt (A : Here p l e R s m args below meth c Z a0 tbl own nm bc mxl rt n0 T L cells slots) : At T m c below := by obtain ⟨_, X, _⟩ := A.2; exact X.here
theorem Here.iadd (A : Here p l e R s m args below meth c Z a0 tbl own nm bc mxl rt n0 T L cells slots) {pc q : Nat} {Ls : Array Slot} {st : List Value} {x y v : Int32} (hd : decode bc pc = .ok (.iadd, 1)) (hq : pc + 1 = q) (hv : x + y = v) (k : Go p e below F (T.setTop (mkF m q Ls (.int v :: st)))) : Go p e below F (T.setTop (mkF m pc Ls (.int y :: .int x :: st))) := by
  subst hq hv
  exact Go.st (fun t h => XS.iadd A.pt A.1.1 rfl (hb A.1.2.2.2.1 hd) rfl h) k
theorem Here.isub (A : Here p l e R s m args below meth c Z a0 tbl own nm bc mxl rt n0 T L cells slots) {pc q : Nat} {Ls : Array Slot} {st : List Value} {x y v : Int32} (hd : decode bc pc = .ok (.isub, 1)) (hq : pc + 1 = q) (hv : x - y = v) (k : Go p e below F (T.setTop (mkF m q Ls (.int v :: st)))) : Go p e below F (T.setTop (mkF m pc Ls (.int y :: .int x :: st))) := by
  subst hq hv
  exact Go.st (fun t h => XS.isub A.pt A.1.1 rfl (hb A.1.2.2.2.1 hd) rfl h) k
theorem Here.imul (A : Here p l e R s m args below meth c Z a0 tbl own nm bc mxl rt n0 T L cells slots) {pc q : Nat} {Ls : Array Slot} {st : List Value} {x y v : Int32} (hd : decode bc pc = .ok (.imul, 1)) (hq : pc + 1 = q) (hv : x * y = v) (k : Go p e below F (T.setTop (mkF m q Ls (.int v :: st)))) : Go p e below F (T.setTop (mkF m pc Ls (.int y :: .int x :: st))) := by
  subst hq hv
  exact Go.st (fun t h => XS.imul A.pt A.1.1 rfl (hb A.1.2.2.2.1 hd) rfl h) k
theorem Here.iand (A : Here p l e R s m args below meth c Z a0 tbl own nm bc mxl rt n0 T L cells slots) {pc q : Nat} {Ls : Array Slot} {st : List Value} {x y v : Int32} (hd : decode bc pc = .ok (.iand, 1)) (hq : pc + 1 = q) (hv : x &&& y = v) (k : Go p e below F (T.setTop (mkF m q Ls (.int v :: st)))) : Go p e below F (T.setTop (mkF m pc Ls (.int y :: .int x :: st))) := by
  subst hq hv
  exact Go.st (fun t h => XS.iand A.pt A.1.1 rfl (hb A.1.2.2.2.1 hd) rfl h) k
theorem Here.ior (A : Here p l e R s m args below meth c Z a0 tbl own nm bc mxl rt n0 T L cells slots) {pc q : Nat} {Ls : Array Slot} {st : List Value} {x y v : Int32} (hd : decode bc pc = .ok (.ior, 1)) (hq : pc + 1 = q) (hv : x ||| y = v) (k : Go p e below F (T.setTop (mkF m q Ls (.int v :: st)))) : Go p e below F (T.setTop (mkF m pc Ls (.int y :: .int x :: st))) := by
  subst hq hv
  exact Go.st (fun t h => XS.ior A.pt A.1.1 rfl (hb A.1.2.2.2.1 hd) rfl h) k
theorem Here.ixor (A : Here p l e R s m args below meth c Z a0 tbl own nm bc mxl rt n0 T L cells slots) {pc q : Nat} {Ls : Array Slot} {st : List Value} {x y v : Int32} (hd : decode bc pc = .ok (.ixor, 1)) (hq : pc + 1 = q) (hv : x ^^^ y = v) (k : Go p e below F (T.setTop (mkF m q Ls (.int v :: st)))) : Go p e below F (T.setTop (mkF m pc Ls (.int y :: .int x :: st))) := by
  subst hq hv
  exact Go.st (fun t h => XS.ixor A.pt A.1.1 rfl (hb A.1.2.2.2.1 hd) rfl h) k
theorem Here.ishl (A : Here p l e R s m args below meth c Z a0 tbl own nm bc mxl rt n0 T L cells slots) {pc q : Nat} {Ls : Array Slot} {st : List Value} {x y v : Int32} (hd : decode bc pc = .ok (.ishl, 1)) (hq : pc + 1 = q) (hv : x <<< (y &&& 31) = v) (k : Go p e below F (T.setTop (mkF m q Ls (.int v :: st)))) : Go p e below F (T.setTop (mkF m pc Ls (.int y :: .int x :: st))) := by
  subst hq hv
  exact Go.st (fun t h => XS.ishl A.pt A.1.1 rfl (hb A.1.2.2.2.1 hd) rfl h) k
theorem Here.ishr (A : Here p l e R s m args below meth c Z a0 tbl own nm bc mxl rt n0 T L cells slots) {pc q : Nat} {Ls : Array Slot} {st : List Value} {x y v : Int32} (hd : decode bc pc = .ok (.ishr, 1)) (hq : pc + 1 = q) (hv : x >>> (y &&& 31) = v) (k : Go p e below F (T.setTop (mkF m q Ls (.int v :: st)))) : Go p e below F (T.setTop (mkF m pc Ls (.int y :: .int x :: st))) := by
  subst hq hv
  exact Go.st (fun t h => XS.ishr A.pt A.1.1 rfl (hb A.1.2.2.2.1 hd) rfl h) k
theorem Here.iushr (A : Here p l e R s m args below meth c Z a0 tbl own nm bc mxl rt n0 T L cells slots) {pc q : Nat} {Ls : Array Slot} {st : List Value} {x y v : Int32} (hd : decode bc pc = .ok (.iushr, 1)) (hq : pc + 1 = q) (hv : (x.toUInt32 >>> (y &&& 31).toUInt32).toInt32 = v) (k : Go p e below F (T.setTop (mkF m q Ls (.int v :: st)))) : Go p e below F (T.setTop (mkF m pc Ls (.int y :: .int x :: st))) := by
  subst hq hv
  exact Go.st (fun t h => XS.iushr A.pt A.1.1 rfl (hb A.1.2.2.2.1 hd) rfl h) k
theorem Here.idiv (A : Here p l e R s m args below meth c Z a0 tbl own nm bc mxl rt n0 T L cells slots) {pc q : Nat} {Ls : Array Slot} {st : List Value} {x y v : Int32} (hd : decode bc pc = .ok (.idiv, 1)) (hq : pc + 1 = q) (hy : y ≠ 0) (hv : x / y = v) (k : Go p e below F (T.setTop (mkF m q Ls (.int v :: st)))) : Go p e below F (T.setTop (mkF m pc Ls (.int y :: .int x :: st))) := by
  subst hq hv
  exact Go.st (fun t h => XS.idiv A.pt A.1.1 rfl (hb A.1.2.2.2.1 hd) rfl hy h) k
theorem Here.irem (A : Here p l e R s m args below meth c Z a0 tbl own nm bc mxl rt n0 T L cells slots) {pc q : Nat} {Ls : Array Slot} {st : List Value} {x y v : Int32} (hd : decode bc pc = .ok (.irem, 1)) (hq : pc + 1 = q) (hy : y ≠ 0) (hv : x % y = v) (k : Go p e below F (T.setTop (mkF m q Ls (.int v :: st)))) : Go p e below F (T.setTop (mkF m pc Ls (.int y :: .int x :: st))) := by
  subst hq hv
  obtain ⟨_, X, _⟩ := A.2
  exact Go.st (fun t h => iremM X A.1.1 rfl (hb A.1.2.2.2.1 hd) rfl hy h) k
theorem Here.ineg (A : Here p l e R s m args below meth c Z a0 tbl own nm bc mxl rt n0 T L cells slots) {pc q : Nat} {Ls : Array Slot} {st : List Value} {x v : Int32} (hd : decode bc pc = .ok (.ineg, 1)) (hq : pc + 1 = q) (hv : -x = v) (k : Go p e below F (T.setTop (mkF m q Ls (.int v :: st)))) : Go p e below F (T.setTop (mkF m pc Ls (.int x :: st))) := by
  subst hq hv
  exact Go.st (fun t h => XS.ineg A.pt A.1.1 rfl (hb A.1.2.2.2.1 hd) rfl h) k
theorem Here.ladd (A : Here p l e R s m args below meth c Z a0 tbl own nm bc mxl rt n0 T L cells slots) {pc q : Nat} {Ls : Array Slot} {st : List Value} {x y v : Int64} (hd : decode bc pc = .ok (.ladd, 1)) (hq : pc + 1 = q) (hv : x + y = v) (k : Go p e below F (T.setTop (mkF m q Ls (.long v :: st)))) : Go p e below F (T.setTop (mkF m pc Ls (.long y :: .long x :: st))) := by
  subst hq hv
  exact Go.st (fun t h => XS.ladd A.pt A.1.1 rfl (hb A.1.2.2.2.1 hd) rfl h) k
theorem Here.lsub (A : Here p l e R s m args below meth c Z a0 tbl own nm bc mxl rt n0 T L cells slots) {pc q : Nat} {Ls : Array Slot} {st : List Value} {x y v : Int64} (hd : decode bc pc = .ok (.lsub, 1)) (hq : pc + 1 = q) (hv : x - y = v) (k : Go p e below F (T.setTop (mkF m q Ls (.long v :: st)))) : Go p e below F (T.setTop (mkF m pc Ls (.long y :: .long x :: st))) := by
  subst hq hv
  exact Go.st (fun t h => XS.lsub A.pt A.1.1 rfl (hb A.1.2.2.2.1 hd) rfl h) k
theorem Here.lmul (A : Here p l e R s m args below meth c Z a0 tbl own nm bc mxl rt n0 T L cells slots) {pc q : Nat} {Ls : Array Slot} {st : List Value} {x y v : Int64} (hd : decode bc pc = .ok (.lmul, 1)) (hq : pc + 1 = q) (hv : x * y = v) (k : Go p e below F (T.setTop (mkF m q Ls (.long v :: st)))) : Go p e below F (T.setTop (mkF m pc Ls (.long y :: .long x :: st))) := by
  subst hq hv
  exact Go.st (fun t h => XS.lmul A.pt A.1.1 rfl (hb A.1.2.2.2.1 hd) rfl h) k
theorem Here.land (A : Here p l e R s m args below meth c Z a0 tbl own nm bc mxl rt n0 T L cells slots) {pc q : Nat} {Ls : Array Slot} {st : List Value} {x y v : Int64} (hd : decode bc pc = .ok (.land, 1)) (hq : pc + 1 = q) (hv : x &&& y = v) (k : Go p e below F (T.setTop (mkF m q Ls (.long v :: st)))) : Go p e below F (T.setTop (mkF m pc Ls (.long y :: .long x :: st))) := by
  subst hq hv
  exact Go.st (fun t h => XS.land A.pt A.1.1 rfl (hb A.1.2.2.2.1 hd) rfl h) k
theorem Here.lor (A : Here p l e R s m args below meth c Z a0 tbl own nm bc mxl rt n0 T L cells slots) {pc q : Nat} {Ls : Array Slot} {st : List Value} {x y v : Int64} (hd : decode bc pc = .ok (.lor, 1)) (hq : pc + 1 = q) (hv : x ||| y = v) (k : Go p e below F (T.setTop (mkF m q Ls (.long v :: st)))) : Go p e below F (T.setTop (mkF m pc Ls (.long y :: .long x :: st))) := by
  subst hq hv
  exact Go.st (fun t h => XS.lor A.pt A.1.1 rfl (hb A.1.2.2.2.1 hd) rfl h) k
theorem Here.lxor (A : Here p l e R s m args below meth c Z a0 tbl own nm bc mxl rt n0 T L cells slots) {pc q : Nat} {Ls : Array Slot} {st : List Value} {x y v : Int64} (hd : decode bc pc = .ok (.lxor, 1)) (hq : pc + 1 = q) (hv : x ^^^ y = v) (k : Go p e below F (T.setTop (mkF m q Ls (.long v :: st)))) : Go p e below F (T.setTop (mkF m pc Ls (.long y :: .long x :: st))) := by
  subst hq hv
  exact Go.st (fun t h => XS.lxor A.pt A.1.1 rfl (hb A.1.2.2.2.1 hd) rfl h) k
theorem Here.lshl (A : Here p l e R s m args below meth c Z a0 tbl own nm bc mxl rt n0 T L cells slots) {pc q : Nat} {Ls : Array Slot} {st : List Value} {x v : Int64} {y : Int32} (hd : decode bc pc = .ok (.lshl, 1)) (hq : pc + 1 = q) (hv : x <<< (y &&& 0x3f).toInt64 = v) (k : Go p e below F (T.setTop (mkF m q Ls (.long v :: st)))) : Go p e below F (T.setTop (mkF m pc Ls (.int y :: .long x :: st))) := by
  subst hq hv
  exact Go.st (fun t h => XS.lshl A.pt A.1.1 rfl (hb A.1.2.2.2.1 hd) rfl h) k
theorem Here.lshr (A : Here p l e R s m args below meth c Z a0 tbl own nm bc mxl rt n0 T L cells slots) {pc q : Nat} {Ls : Array Slot} {st : List Value} {x v : Int64} {y : Int32} (hd : decode bc pc = .ok (.lshr, 1)) (hq : pc + 1 = q) (hv : x >>> (y &&& 0x3f).toInt64 = v) (k : Go p e below F (T.setTop (mkF m q Ls (.long v :: st)))) : Go p e below F (T.setTop (mkF m pc Ls (.int y :: .long x :: st))) := by
  subst hq hv
  exact Go.st (fun t h => XS.lshr A.pt A.1.1 rfl (hb A.1.2.2.2.1 hd) rfl h) k
theorem Here.lushr (A : Here p l e R s m args below meth c Z a0 tbl own nm bc mxl rt n0 T L cells slots) {pc q : Nat} {Ls : Array Slot} {st : List Value} {x v : Int64} {y : Int32} (hd : decode bc pc = .ok (.lushr, 1)) (hq : pc + 1 = q) (hv : (x.toUInt64 >>> (y &&& 0x3f).toInt64.toUInt64).toInt64 = v) (k : Go p e below F (T.setTop (mkF m q Ls (.long v :: st)))) : Go p e below F (T.setTop (mkF m pc Ls (.int y :: .long x :: st))) := by
  subst hq hv
  exact Go.st (fun t h => XS.lushr A.pt A.1.1 rfl (hb A.1.2.2.2.1 hd) rfl h) k
theorem Here.ldiv (A : Here p l e R s m args below meth c Z a0 tbl own nm bc mxl rt n0 T L cells slots) {pc q : Nat} {Ls : Array Slot} {st : List Value} {x y v : Int64} (hd : decode bc pc = .ok (.ldiv, 1)) (hq : pc + 1 = q) (hy : y ≠ 0) (hv : x / y = v) (k : Go p e below F (T.setTop (mkF m q Ls (.long v :: st)))) : Go p e below F (T.setTop (mkF m pc Ls (.long y :: .long x :: st))) := by
  subst hq hv
  exact Go.st (fun t h => XS.ldiv A.pt A.1.1 rfl (hb A.1.2.2.2.1 hd) rfl hy h) k
theorem Here.lrem (A : Here p l e R s m args below meth c Z a0 tbl own nm bc mxl rt n0 T L cells slots) {pc q : Nat} {Ls : Array Slot} {st : List Value} {x y v : Int64} (hd : decode bc pc = .ok (.lrem, 1)) (hq : pc + 1 = q) (hy : y ≠ 0) (hv : x - (x / y) * y = v) (k : Go p e below F (T.setTop (mkF m q Ls (.long v :: st)))) : Go p e below F (T.setTop (mkF m pc Ls (.long y :: .long x :: st))) := by
  subst hq hv
  exact Go.st (fun t h => XS.lrem A.pt A.1.1 rfl (hb A.1.2.2.2.1 hd) rfl hy h) k
theorem Here.lneg (A : Here p l e R s m args below meth c Z a0 tbl own nm bc mxl rt n0 T L cells slots) {pc q : Nat} {Ls : Array Slot} {st : List Value} {x v : Int64} (hd : decode bc pc = .ok (.lneg, 1)) (hq : pc + 1 = q) (hv : -x = v) (k : Go p e below F (T.setTop (mkF m q Ls (.long v :: st)))) : Go p e below F (T.setTop (mkF m pc Ls (.long x :: st))) := by
  subst hq hv
  exact Go.st (fun t h => XS.lneg A.pt A.1.1 rfl (hb A.1.2.2.2.1 hd) rfl h) k
theorem Here.i2l (A : Here p l e R s m args below meth c Z a0 tbl own nm bc mxl rt n0 T L cells slots) {pc q : Nat} {Ls : Array Slot} {st : List Value} {x : Int32} {v : Int64} (hd : decode bc pc = .ok (.i2l, 1)) (hq : pc + 1 = q) (hv : x.toInt64 = v) (k : Go p e below F (T.setTop (mkF m q Ls (.long v :: st)))) : Go p e below F (T.setTop (mkF m pc Ls (.int x :: st))) := by
  subst hq hv
  exact Go.st (fun t h => XS.i2l A.pt A.1.1 rfl (hb A.1.2.2.2.1 hd) rfl h) k
theorem Here.l2i (A : Here p l e R s m args below meth c Z a0 tbl own nm bc mxl rt n0 T L cells slots) {pc q : Nat} {Ls : Array Slot} {st : List Value} {x : Int64} {v : Int32} (hd : decode bc pc = .ok (.l2i, 1)) (hq : pc + 1 = q) (hv : x.toInt32 = v) (k : Go p e below F (T.setTop (mkF m q Ls (.int v :: st)))) : Go p e below F (T.setTop (mkF m pc Ls (.long x :: st))) := by
  subst hq hv
  exact Go.st (fun t h => XS.l2i A.pt A.1.1 rfl (hb A.1.2.2.2.1 hd) rfl h) k
theorem Here.i2b (A : Here p l e R s m args below meth c Z a0 tbl own nm bc mxl rt n0 T L cells slots) {pc q : Nat} {Ls : Array Slot} {st : List Value} {x v : Int32} (hd : decode bc pc = .ok (.i2b, 1)) (hq : pc + 1 = q) (hv : x.toInt8.toInt32 = v) (k : Go p e below F (T.setTop (mkF m q Ls (.int v :: st)))) : Go p e below F (T.setTop (mkF m pc Ls (.int x :: st))) := by
  subst hq hv
  exact Go.st (fun t h => XS.i2b A.pt A.1.1 rfl (hb A.1.2.2.2.1 hd) rfl h) k
theorem Here.i2c (A : Here p l e R s m args below meth c Z a0 tbl own nm bc mxl rt n0 T L cells slots) {pc q : Nat} {Ls : Array Slot} {st : List Value} {x v : Int32} (hd : decode bc pc = .ok (.i2c, 1)) (hq : pc + 1 = q) (hv : x.toUInt32.toUInt16.toUInt32.toInt32 = v) (k : Go p e below F (T.setTop (mkF m q Ls (.int v :: st)))) : Go p e below F (T.setTop (mkF m pc Ls (.int x :: st))) := by
  subst hq hv
  exact Go.st (fun t h => XS.i2c A.pt A.1.1 rfl (hb A.1.2.2.2.1 hd) rfl h) k
theorem Here.i2s (A : Here p l e R s m args below meth c Z a0 tbl own nm bc mxl rt n0 T L cells slots) {pc q : Nat} {Ls : Array Slot} {st : List Value} {x v : Int32} (hd : decode bc pc = .ok (.i2s, 1)) (hq : pc + 1 = q) (hv : x.toInt16.toInt32 = v) (k : Go p e below F (T.setTop (mkF m q Ls (.int v :: st)))) : Go p e below F (T.setTop (mkF m pc Ls (.int x :: st))) := by
  subst hq hv
  exact Go.st (fun t h => XS.i2s A.pt A.1.1 rfl (hb A.1.2.2.2.1 hd) rfl h) k
theorem Here.iloadN (A : Here p l e R s m args below meth c Z a0 tbl own nm bc mxl rt n0 T L cells slots) {pc q : Nat} {Ls : Array Slot} {st : List Value} {k : Fin 4} {v : Int32} (hd : decode bc pc = .ok (.iload_n k, 1)) (hq : pc + 1 = q) (hl : Ls[k.val]? = some (.val (.int v))) (k : Go p e below F (T.setTop (mkF m q Ls (.int v :: st)))) : Go p e below F (T.setTop (mkF m pc Ls st)) := by
  subst hq
  exact Go.st (fun t h => XS.iloadN A.pt A.1.1 rfl (hb A.1.2.2.2.1 hd) hl h) k
theorem Here.iload (A : Here p l e R s m args below meth c Z a0 tbl own nm bc mxl rt n0 T L cells slots) {pc q : Nat} {Ls : Array Slot} {st : List Value} {k : Nat} {v : Int32} (hd : decode bc pc = .ok (.iload k, 2)) (hq : pc + 2 = q) (hl : Ls[k]? = some (.val (.int v))) (k : Go p e below F (T.setTop (mkF m q Ls (.int v :: st)))) : Go p e below F (T.setTop (mkF m pc Ls st)) := by
  subst hq
  exact Go.st (fun t h => XS.iload A.pt A.1.1 rfl (hb A.1.2.2.2.1 hd) hl h) k
theorem Here.istoreN (A : Here p l e R s m args below meth c Z a0 tbl own nm bc mxl rt n0 T L cells slots) {pc q : Nat} {Ls : Array Slot} {st : List Value} {k : Fin 4} {v : Int32} {l' : Array Slot} (hd : decode bc pc = .ok (.istore_n k, 1)) (hq : pc + 1 = q) (hl : storeLocals Ls k.val (.int v) = some l') (k : Go p e below F (T.setTop (mkF m q l' st))) : Go p e below F (T.setTop (mkF m pc Ls (.int v :: st))) := by
  subst hq
  exact Go.st (fun t h => XS.istoreN A.pt A.1.1 rfl (hb A.1.2.2.2.1 hd) rfl hl h) k
theorem Here.istore (A : Here p l e R s m args below meth c Z a0 tbl own nm bc mxl rt n0 T L cells slots) {pc q : Nat} {Ls : Array Slot} {st : List Value} {k : Nat} {v : Int32} {l' : Array Slot} (hd : decode bc pc = .ok (.istore k, 2)) (hq : pc + 2 = q) (hl : storeLocals Ls k (.int v) = some l') (k : Go p e below F (T.setTop (mkF m q l' st))) : Go p e below F (T.setTop (mkF m pc Ls (.int v :: st))) := by
  subst hq
  exact Go.st (fun t h => XS.istore A.pt A.1.1 rfl (hb A.1.2.2.2.1 hd) rfl hl h) k
theorem Here.lloadN (A : Here p l e R s m args below meth c Z a0 tbl own nm bc mxl rt n0 T L cells slots) {pc q : Nat} {Ls : Array Slot} {st : List Value} {k : Fin 4} {v : Int64} (hd : decode bc pc = .ok (.lload_n k, 1)) (hq : pc + 1 = q) (hl : Ls[k.val]? = some (.val (.long v))) (k : Go p e below F (T.setTop (mkF m q Ls (.long v :: st)))) : Go p e below F (T.setTop (mkF m pc Ls st)) := by
  subst hq
  exact Go.st (fun t h => XS.lloadN A.pt A.1.1 rfl (hb A.1.2.2.2.1 hd) hl h) k
theorem Here.lload (A : Here p l e R s m args below meth c Z a0 tbl own nm bc mxl rt n0 T L cells slots) {pc q : Nat} {Ls : Array Slot} {st : List Value} {k : Nat} {v : Int64} (hd : decode bc pc = .ok (.lload k, 2)) (hq : pc + 2 = q) (hl : Ls[k]? = some (.val (.long v))) (k : Go p e below F (T.setTop (mkF m q Ls (.long v :: st)))) : Go p e below F (T.setTop (mkF m pc Ls st)) := by
  subst hq
  exact Go.st (fun t h => XS.lload A.pt A.1.1 rfl (hb A.1.2.2.2.1 hd) hl h) k
theorem Here.lstoreN (A : Here p l e R s m args below meth c Z a0 tbl own nm bc mxl rt n0 T L cells slots) {pc q : Nat} {Ls : Array Slot} {st : List Value} {k : Fin 4} {v : Int64} {l' : Array Slot} (hd : decode bc pc = .ok (.lstore_n k, 1)) (hq : pc + 1 = q) (hl : storeLocals Ls k.val (.long v) = some l') (k : Go p e below F (T.setTop (mkF m q l' st))) : Go p e below F (T.setTop (mkF m pc Ls (.long v :: st))) := by
  subst hq
  exact Go.st (fun t h => XS.lstoreN A.pt A.1.1 rfl (hb A.1.2.2.2.1 hd) rfl hl h) k
theorem Here.lstore (A : Here p l e R s m args below meth c Z a0 tbl own nm bc mxl rt n0 T L cells slots) {pc q : Nat} {Ls : Array Slot} {st : List Value} {k : Nat} {v : Int64} {l' : Array Slot} (hd : decode bc pc = .ok (.lstore k, 2)) (hq : pc + 2 = q) (hl : storeLocals Ls k (.long v) = some l') (k : Go p e below F (T.setTop (mkF m q l' st))) : Go p e below F (T.setTop (mkF m pc Ls (.long v :: st))) := by
  subst hq
  exact Go.st (fun t h => XS.lstore A.pt A.1.1 rfl (hb A.1.2.2.2.1 hd) rfl hl h) k
theorem Here.aloadN (A : Here p l e R s m args below meth c Z a0 tbl own nm bc mxl rt n0 T L cells slots) {pc q : Nat} {Ls : Array Slot} {st : List Value} {k : Fin 4} {v : Value} (hd : decode bc pc = .ok (.aload_n k, 1)) (hq : pc + 1 = q) (hl : Ls[k.val]? = some (.val v)) (hr : v.isRef = true) (k : Go p e below F (T.setTop (mkF m q Ls (v :: st)))) : Go p e below F (T.setTop (mkF m pc Ls st)) := by
  subst hq
  exact Go.st (fun t h => XS.aloadN A.pt A.1.1 rfl (hb A.1.2.2.2.1 hd) hl hr h) k
theorem Here.aload (A : Here p l e R s m args below meth c Z a0 tbl own nm bc mxl rt n0 T L cells slots) {pc q : Nat} {Ls : Array Slot} {st : List Value} {k : Nat} {v : Value} (hd : decode bc pc = .ok (.aload k, 2)) (hq : pc + 2 = q) (hl : Ls[k]? = some (.val v)) (hr : v.isRef = true) (k : Go p e below F (T.setTop (mkF m q Ls (v :: st)))) : Go p e below F (T.setTop (mkF m pc Ls st)) := by
  subst hq
  exact Go.st (fun t h => XS.aload A.pt A.1.1 rfl (hb A.1.2.2.2.1 hd) hl hr h) k
theorem Here.astoreN (A : Here p l e R s m args below meth c Z a0 tbl own nm bc mxl rt n0 T L cells slots) {pc q : Nat} {Ls : Array Slot} {st : List Value} {k : Fin 4} {v : Value} {l' : Array Slot} (hd : decode bc pc = .ok (.astore_n k, 1)) (hq : pc + 1 = q) (hr : v.isRef = true) (hl : storeLocals Ls k.val v = some l') (k : Go p e below F (T.setTop (mkF m q l' st))) : Go p e below F (T.setTop (mkF m pc Ls (v :: st))) := by
  subst hq
  exact Go.st (fun t h => XS.astoreN A.pt A.1.1 rfl (hb A.1.2.2.2.1 hd) rfl hr hl h) k
theorem Here.astore (A : Here p l e R s m args below meth c Z a0 tbl own nm bc mxl rt n0 T L cells slots) {pc q : Nat} {Ls : Array Slot} {st : List Value} {k : Nat} {v : Value} {l' : Array Slot} (hd : decode bc pc = .ok (.astore k, 2)) (hq : pc + 2 = q) (hr : v.isRef = true) (hl : storeLocals Ls k v = some l') (k : Go p e below F (T.setTop (mkF m q l' st))) : Go p e below F (T.setTop (mkF m pc Ls (v :: st))) := by
  subst hq
  exact Go.st (fun t h => XS.astore A.pt A.1.1 rfl (hb A.1.2.2.2.1 hd) rfl hr hl h) k
theorem Here.iconst (A : Here p l e R s m args below meth c Z a0 tbl own nm bc mxl rt n0 T L cells slots) {pc q : Nat} {Ls : Array Slot} {st : List Value} {i : Int} {v : Int32} (hd : decode bc pc = .ok (.iconst i, 1)) (hq : pc + 1 = q) (hv : Int32.ofInt i = v) (k : Go p e below F (T.setTop (mkF m q Ls (.int v :: st)))) : Go p e below F (T.setTop (mkF m pc Ls st)) := by
  subst hq hv
  exact Go.st (fun t h => XS.iconst A.pt A.1.1 rfl (hb A.1.2.2.2.1 hd)  h) k
theorem Here.bipush (A : Here p l e R s m args below meth c Z a0 tbl own nm bc mxl rt n0 T L cells slots) {pc q : Nat} {Ls : Array Slot} {st : List Value} {i : Int} {v : Int32} (hd : decode bc pc = .ok (.bipush i, 2)) (hq : pc + 2 = q) (hv : (Int8.ofInt i).toInt32 = v) (k : Go p e below F (T.setTop (mkF m q Ls (.int v :: st)))) : Go p e below F (T.setTop (mkF m pc Ls st)) := by
  subst hq hv
  exact Go.st (fun t h => XS.bipush A.pt A.1.1 rfl (hb A.1.2.2.2.1 hd)  h) k
theorem Here.sipush (A : Here p l e R s m args below meth c Z a0 tbl own nm bc mxl rt n0 T L cells slots) {pc q : Nat} {Ls : Array Slot} {st : List Value} {i : Int} {v : Int32} (hd : decode bc pc = .ok (.sipush i, 3)) (hq : pc + 3 = q) (hv : (Int16.ofInt i).toInt32 = v) (k : Go p e below F (T.setTop (mkF m q Ls (.int v :: st)))) : Go p e below F (T.setTop (mkF m pc Ls st)) := by
  subst hq hv
  exact Go.st (fun t h => XS.sipush A.pt A.1.1 rfl (hb A.1.2.2.2.1 hd)  h) k
theorem Here.lconst (A : Here p l e R s m args below meth c Z a0 tbl own nm bc mxl rt n0 T L cells slots) {pc q : Nat} {Ls : Array Slot} {st : List Value} {i : Fin 2} {v : Int64} (hd : decode bc pc = .ok (.lconst i, 1)) (hq : pc + 1 = q) (hv : Int64.ofNat i = v) (k : Go p e below F (T.setTop (mkF m q Ls (.long v :: st)))) : Go p e below F (T.setTop (mkF m pc Ls st)) := by
  subst hq hv
  exact Go.st (fun t h => XS.lconst A.pt A.1.1 rfl (hb A.1.2.2.2.1 hd)  h) k
theorem Here.aconst_null (A : Here p l e R s m args below meth c Z a0 tbl own nm bc mxl rt n0 T L cells slots) {pc q : Nat} {Ls : Array Slot} {st : List Value}  (hd : decode bc pc = .ok (.aconst_null, 1)) (hq : pc + 1 = q)  (k : Go p e below F (T.setTop (mkF m q Ls (.null :: st)))) : Go p e below F (T.setTop (mkF m pc Ls st)) := by
  subst hq
  exact Go.st (fun t h => XS.aconstNull A.pt A.1.1 rfl (hb A.1.2.2.2.1 hd)  h) k
theorem Here.dup (A : Here p l e R s m args below meth c Z a0 tbl own nm bc mxl rt n0 T L cells slots) {pc q : Nat} {Ls : Array Slot} {st : List Value} {v : Value} (hd : decode bc pc = .ok (.dup, 1)) (hq : pc + 1 = q) (hc : v.category = 1) (k : Go p e below F (T.setTop (mkF m q Ls (v :: v :: st)))) : Go p e below F (T.setTop (mkF m pc Ls (v :: st))) := by
  subst hq
  exact Go.st (fun t h => XS.dup A.pt A.1.1 rfl (hb A.1.2.2.2.1 hd) rfl hc h) k
theorem Here.dup_x1 (A : Here p l e R s m args below meth c Z a0 tbl own nm bc mxl rt n0 T L cells slots) {pc q : Nat} {Ls : Array Slot} {st : List Value} {v w : Value} (hd : decode bc pc = .ok (.dup_x1, 1)) (hq : pc + 1 = q) (hc : v.category = 1) (hc' : w.category = 1) (k : Go p e below F (T.setTop (mkF m q Ls (v :: w :: v :: st)))) : Go p e below F (T.setTop (mkF m pc Ls (v :: w :: st))) := by
  subst hq
  exact Go.st (fun t h => XS.dupX1 A.pt A.1.1 rfl (hb A.1.2.2.2.1 hd) rfl hc hc' h) k
theorem Here.dup2 (A : Here p l e R s m args below meth c Z a0 tbl own nm bc mxl rt n0 T L cells slots) {pc q : Nat} {Ls : Array Slot} {st : List Value} {v w : Value} (hd : decode bc pc = .ok (.dup2, 1)) (hq : pc + 1 = q) (hc : v.category = 1) (hc' : w.category = 1) (k : Go p e below F (T.setTop (mkF m q Ls (v :: w :: v :: w :: st)))) : Go p e below F (T.setTop (mkF m pc Ls (v :: w :: st))) := by
  subst hq
  exact Go.st (fun t h => XT.dup2 A.pt A.1.1 rfl (hb A.1.2.2.2.1 hd) rfl hc hc' h) k
theorem Here.pop (A : Here p l e R s m args below meth c Z a0 tbl own nm bc mxl rt n0 T L cells slots) {pc q : Nat} {Ls : Array Slot} {st : List Value} {v : Value} (hd : decode bc pc = .ok (.pop, 1)) (hq : pc + 1 = q) (hc : v.category = 1) (k : Go p e below F (T.setTop (mkF m q Ls st))) : Go p e below F (T.setTop (mkF m pc Ls (v :: st))) := by
  subst hq
  exact Go.st (fun t h => XS.pop A.pt A.1.1 rfl (hb A.1.2.2.2.1 hd) rfl hc h) k
theorem Here.iinc (A : Here p l e R s m args below meth c Z a0 tbl own nm bc mxl rt n0 T L cells slots) {pc q : Nat} {Ls : Array Slot} {st : List Value} {k : Nat} {cst : Int} {x v : Int32} {l' : Array Slot} (hd : decode bc pc = .ok (.iinc k cst, 3)) (hq : pc + 3 = q) (hl : Ls[k]? = some (.val (.int x))) (hv : x + Int32.ofInt cst = v) (hl' : storeLocals Ls k (.int v) = some l') (k : Go p e below F (T.setTop (mkF m q l' st))) : Go p e below F (T.setTop (mkF m pc Ls st)) := by
  subst hq hv
  exact Go.st (fun t h => XS.iinc A.pt A.1.1 rfl (hb A.1.2.2.2.1 hd) hl hl' h) k
theorem Here.goto (A : Here p l e R s m args below meth c Z a0 tbl own nm bc mxl rt n0 T L cells slots) {pc r : Nat} {Ls : Array Slot} {st : List Value} {o : Int} (hd : decode bc pc = .ok (.goto o, 3)) (hr : (pc : Int) + o = (r : Int)) (k : Go p e below F (T.setTop (mkF m r Ls st))) : Go p e below F (T.setTop (mkF m pc Ls st)) :=
  Go.st (fun t h => XS.goto A.pt A.1.1 rfl (pc0 := pc) (pc' := r) rfl (hb A.1.2.2.2.1 hd) (by omega) (by omega) h) k
theorem Here.icmp_lt (A : Here p l e R s m args below meth c Z a0 tbl own nm bc mxl rt n0 T L cells slots) {pc q r : Nat} {Ls : Array Slot} {st : List Value} {x y : Int32} {o : Int} (hd : decode bc pc = .ok (.if_icmp .lt o, 3)) (hq : pc + 3 = q) (hr : (pc : Int) + o = (r : Int)) (kt : x < y → Go p e below F (T.setTop (mkF m r Ls st))) (kf : ¬ (x < y) → Go p e below F (T.setTop (mkF m q Ls st))) : Go p e below F (T.setTop (mkF m pc Ls (.int y :: .int x :: st))) := by
  by_cases hc : x < y
  · exact Go.st (fun t h => XS.icmpYes A.pt A.1.1 rfl (pc0 := pc) (pc' := r) rfl (hb A.1.2.2.2.1 hd) rfl (tlt hc).1 (by omega) (by omega) h) (kt hc)
  · subst hq; exact Go.st (fun t h => XS.icmpNo A.pt A.1.1 rfl (hb A.1.2.2.2.1 hd) rfl (flt hc).1 h) (kf hc)
theorem Here.if_lt (A : Here p l e R s m args below meth c Z a0 tbl own nm bc mxl rt n0 T L cells slots) {pc q r : Nat} {Ls : Array Slot} {st : List Value} {x : Int32} {o : Int} (hd : decode bc pc = .ok (.ifCond .lt o, 3)) (hq : pc + 3 = q) (hr : (pc : Int) + o = (r : Int)) (kt : x < (0 : Int32) → Go p e below F (T.setTop (mkF m r Ls st))) (kf : ¬ (x < (0 : Int32)) → Go p e below F (T.setTop (mkF m q Ls st))) : Go p e below F (T.setTop (mkF m pc Ls (.int x :: st))) := by
  by_cases hc : x < (0 : Int32)
  · exact Go.st (fun t h => XS.ifYes A.pt A.1.1 rfl (pc0 := pc) (pc' := r) rfl (hb A.1.2.2.2.1 hd) rfl ((if0 _ _).trans (tlt hc).1) (by omega) (by omega) h) (kt hc)
  · subst hq; exact Go.st (fun t h => XS.ifNo A.pt A.1.1 rfl (hb A.1.2.2.2.1 hd) rfl ((if0 _ _).trans (flt hc).1) h) (kf hc)
theorem Here.icmp_ge (A : Here p l e R s m args below meth c Z a0 tbl own nm bc mxl rt n0 T L cells slots) {pc q r : Nat} {Ls : Array Slot} {st : List Value} {x y : Int32} {o : Int} (hd : decode bc pc = .ok (.if_icmp .ge o, 3)) (hq : pc + 3 = q) (hr : (pc : Int) + o = (r : Int)) (kt : ¬ (x < y) → Go p e below F (T.setTop (mkF m r Ls st))) (kf : x < y → Go p e below F (T.setTop (mkF m q Ls st))) : Go p e below F (T.setTop (mkF m pc Ls (.int y :: .int x :: st))) := by
  by_cases hc : x < y
  · subst hq; exact Go.st (fun t h => XS.icmpNo A.pt A.1.1 rfl (hb A.1.2.2.2.1 hd) rfl (tlt hc).2.1 h) (kf hc)
  · exact Go.st (fun t h => XS.icmpYes A.pt A.1.1 rfl (pc0 := pc) (pc' := r) rfl (hb A.1.2.2.2.1 hd) rfl (flt hc).2.1 (by omega) (by omega) h) (kt hc)
theorem Here.if_ge (A : Here p l e R s m args below meth c Z a0 tbl own nm bc mxl rt n0 T L cells slots) {pc q r : Nat} {Ls : Array Slot} {st : List Value} {x : Int32} {o : Int} (hd : decode bc pc = .ok (.ifCond .ge o, 3)) (hq : pc + 3 = q) (hr : (pc : Int) + o = (r : Int)) (kt : ¬ (x < (0 : Int32)) → Go p e below F (T.setTop (mkF m r Ls st))) (kf : x < (0 : Int32) → Go p e below F (T.setTop (mkF m q Ls st))) : Go p e below F (T.setTop (mkF m pc Ls (.int x :: st))) := by
  by_cases hc : x < (0 : Int32)
  · subst hq; exact Go.st (fun t h => XS.ifNo A.pt A.1.1 rfl (hb A.1.2.2.2.1 hd) rfl ((if0 _ _).trans (tlt hc).2.1) h) (kf hc)
  · exact Go.st (fun t h => XS.ifYes A.pt A.1.1 rfl (pc0 := pc) (pc' := r) rfl (hb A.1.2.2.2.1 hd) rfl ((if0 _ _).trans (flt hc).2.1) (by omega) (by omega) h) (kt hc)
theorem Here.icmp_gt (A : Here p l e R s m args below meth c Z a0 tbl own nm bc mxl rt n0 T L cells slots) {pc q r : Nat} {Ls : Array Slot} {st : List Value} {x y : Int32} {o : Int} (hd : decode bc pc = .ok (.if_icmp .gt o, 3)) (hq : pc + 3 = q) (hr : (pc : Int) + o = (r : Int)) (kt : y < x → Go p e below F (T.setTop (mkF m r Ls st))) (kf : ¬ (y < x) → Go p e below F (T.setTop (mkF m q Ls st))) : Go p e below F (T.setTop (mkF m pc Ls (.int y :: .int x :: st))) := by
  by_cases hc : y < x
  · exact Go.st (fun t h => XS.icmpYes A.pt A.1.1 rfl (pc0 := pc) (pc' := r) rfl (hb A.1.2.2.2.1 hd) rfl (tlt hc).2.2.1 (by omega) (by omega) h) (kt hc)
  · subst hq; exact Go.st (fun t h => XS.icmpNo A.pt A.1.1 rfl (hb A.1.2.2.2.1 hd) rfl (flt hc).2.2.1 h) (kf hc)
theorem Here.if_gt (A : Here p l e R s m args below meth c Z a0 tbl own nm bc mxl rt n0 T L cells slots) {pc q r : Nat} {Ls : Array Slot} {st : List Value} {x : Int32} {o : Int} (hd : decode bc pc = .ok (.ifCond .gt o, 3)) (hq : pc + 3 = q) (hr : (pc : Int) + o = (r : Int)) (kt : (0 : Int32) < x → Go p e below F (T.setTop (mkF m r Ls st))) (kf : ¬ ((0 : Int32) < x) → Go p e below F (T.setTop (mkF m q Ls st))) : Go p e below F (T.setTop (mkF m pc Ls (.int x :: st))) := by
  by_cases hc : (0 : Int32) < x
  · exact Go.st (fun t h => XS.ifYes A.pt A.1.1 rfl (pc0 := pc) (pc' := r) rfl (hb A.1.2.2.2.1 hd) rfl ((if0 _ _).trans (tlt hc).2.2.1) (by omega) (by omega) h) (kt hc)
  · subst hq; exact Go.st (fun t h => XS.ifNo A.pt A.1.1 rfl (hb A.1.2.2.2.1 hd) rfl ((if0 _ _).trans (flt hc).2.2.1) h) (kf hc)
theorem Here.icmp_le (A : Here p l e R s m args below meth c Z a0 tbl own nm bc mxl rt n0 T L cells slots) {pc q r : Nat} {Ls : Array Slot} {st : List Value} {x y : Int32} {o : Int} (hd : decode bc pc = .ok (.if_icmp .le o, 3)) (hq : pc + 3 = q) (hr : (pc : Int) + o = (r : Int)) (kt : ¬ (y < x) → Go p e below F (T.setTop (mkF m r Ls st))) (kf : y < x → Go p e below F (T.setTop (mkF m q Ls st))) : Go p e below F (T.setTop (mkF m pc Ls (.int y :: .int x :: st))) := by
  by_cases hc : y < x
  · subst hq; exact Go.st (fun t h => XS.icmpNo A.pt A.1.1 rfl (hb A.1.2.2.2.1 hd) rfl (tlt hc).2.2.2 h) (kf hc)
  · exact Go.st (fun t h => XS.icmpYes A.pt A.1.1 rfl (pc0 := pc) (pc' := r) rfl (hb A.1.2.2.2.1 hd) rfl (flt hc).2.2.2 (by omega) (by omega) h) (kt hc)
theorem Here.if_le (A : Here p l e R s m args below meth c Z a0 tbl own nm bc mxl rt n0 T L cells slots) {pc q r : Nat} {Ls : Array Slot} {st : List Value} {x : Int32} {o : Int} (hd : decode bc pc = .ok (.ifCond .le o, 3)) (hq : pc + 3 = q) (hr : (pc : Int) + o = (r : Int)) (kt : ¬ ((0 : Int32) < x) → Go p e below F (T.setTop (mkF m r Ls st))) (kf : (0 : Int32) < x → Go p e below F (T.setTop (mkF m q Ls st))) : Go p e below F (T.setTop (mkF m pc Ls (.int x :: st))) := by
  by_cases hc : (0 : Int32) < x
  · subst hq; exact Go.st (fun t h => XS.ifNo A.pt A.1.1 rfl (hb A.1.2.2.2.1 hd) rfl ((if0 _ _).trans (tlt hc).2.2.2) h) (kf hc)
  · exact Go.st (fun t h => XS.ifYes A.pt A.1.1 rfl (pc0 := pc) (pc' := r) rfl (hb A.1.2.2.2.1 hd) rfl ((if0 _ _).trans (flt hc).2.2.2) (by omega) (by omega) h) (kt hc)
theorem Here.icmp_eq (A : Here p l e R s m args below meth c Z a0 tbl own nm bc mxl rt n0 T L cells slots) {pc q r : Nat} {Ls : Array Slot} {st : List Value} {x y : Int32} {o : Int} (hd : decode bc pc = .ok (.if_icmp .eq o, 3)) (hq : pc + 3 = q) (hr : (pc : Int) + o = (r : Int)) (kt : x = y → Go p e below F (T.setTop (mkF m r Ls st))) (kf : ¬ (x = y) → Go p e below F (T.setTop (mkF m q Ls st))) : Go p e below F (T.setTop (mkF m pc Ls (.int y :: .int x :: st))) := by
  by_cases hc : x = y
  · exact Go.st (fun t h => XS.icmpYes A.pt A.1.1 rfl (pc0 := pc) (pc' := r) rfl (hb A.1.2.2.2.1 hd) rfl (teq hc).1 (by omega) (by omega) h) (kt hc)
  · subst hq; exact Go.st (fun t h => XS.icmpNo A.pt A.1.1 rfl (hb A.1.2.2.2.1 hd) rfl (feq hc).1 h) (kf hc)
theorem Here.if_eq (A : Here p l e R s m args below meth c Z a0 tbl own nm bc mxl rt n0 T L cells slots) {pc q r : Nat} {Ls : Array Slot} {st : List Value} {x : Int32} {o : Int} (hd : decode bc pc = .ok (.ifCond .eq o, 3)) (hq : pc + 3 = q) (hr : (pc : Int) + o = (r : Int)) (kt : x = (0 : Int32) → Go p e below F (T.setTop (mkF m r Ls st))) (kf : ¬ (x = (0 : Int32)) → Go p e below F (T.setTop (mkF m q Ls st))) : Go p e below F (T.setTop (mkF m pc Ls (.int x :: st))) := by
  by_cases hc : x = (0 : Int32)
  · exact Go.st (fun t h => XS.ifYes A.pt A.1.1 rfl (pc0 := pc) (pc' := r) rfl (hb A.1.2.2.2.1 hd) rfl ((if0 _ _).trans (teq hc).1) (by omega) (by omega) h) (kt hc)
  · subst hq; exact Go.st (fun t h => XS.ifNo A.pt A.1.1 rfl (hb A.1.2.2.2.1 hd) rfl ((if0 _ _).trans (feq hc).1) h) (kf hc)
theorem Here.icmp_ne (A : Here p l e R s m args below meth c Z a0 tbl own nm bc mxl rt n0 T L cells slots) {pc q r : Nat} {Ls : Array Slot} {st : List Value} {x y : Int32} {o : Int} (hd : decode bc pc = .ok (.if_icmp .ne o, 3)) (hq : pc + 3 = q) (hr : (pc : Int) + o = (r : Int)) (kt : ¬ (x = y) → Go p e below F (T.setTop (mkF m r Ls st))) (kf : x = y → Go p e below F (T.setTop (mkF m q Ls st))) : Go p e below F (T.setTop (mkF m pc Ls (.int y :: .int x :: st))) := by
  by_cases hc : x = y
  · subst hq; exact Go.st (fun t h => XS.icmpNo A.pt A.1.1 rfl (hb A.1.2.2.2.1 hd) rfl (teq hc).2 h) (kf hc)
  · exact Go.st (fun t h => XS.icmpYes A.pt A.1.1 rfl (pc0 := pc) (pc' := r) rfl (hb A.1.2.2.2.1 hd) rfl (feq hc).2 (by omega) (by omega) h) (kt hc)
theorem Here.if_ne (A : Here p l e R s m args below meth c Z a0 tbl own nm bc mxl rt n0 T L cells slots) {pc q r : Nat} {Ls : Array Slot} {st : List Value} {x : Int32} {o : Int} (hd : decode bc pc = .ok (.ifCond .ne o, 3)) (hq : pc + 3 = q) (hr : (pc : Int) + o = (r : Int)) (kt : ¬ (x = (0 : Int32)) → Go p e below F (T.setTop (mkF m r Ls st))) (kf : x = (0 : Int32) → Go p e below F (T.setTop (mkF m q Ls st))) : Go p e below F (T.setTop (mkF m pc Ls (.int x :: st))) := by
  by_cases hc : x = (0 : Int32)
  · subst hq; exact Go.st (fun t h => XS.ifNo A.pt A.1.1 rfl (hb A.1.2.2.2.1 hd) rfl ((if0 _ _).trans (teq hc).2) h) (kf hc)
  · exact Go.st (fun t h => XS.ifYes A.pt A.1.1 rfl (pc0 := pc) (pc' := r) rfl (hb A.1.2.2.2.1 hd) rfl ((if0 _ _).trans (feq hc).2) (by omega) (by omega) h) (kt hc)
theorem Here.icmpT (A : Here p l e R s m args below meth c Z a0 tbl own nm bc mxl rt n0 T L cells slots) {pc r : Nat} {Ls : Array Slot} {st : List Value} {x y : Int32} {o : Int} {cd : ClassFile.Cond} (hd : decode bc pc = .ok (.if_icmp cd o, 3)) (hr : (pc : Int) + o = (r : Int)) (hc : if_icmp.holds cd x y = true) (k : Go p e below F (T.setTop (mkF m r Ls st))) : Go p e below F (T.setTop (mkF m pc Ls (.int y :: .int x :: st))) :=
  Go.st (fun t h => XS.icmpYes A.pt A.1.1 rfl (pc0 := pc) (pc' := r) rfl (hb A.1.2.2.2.1 hd) rfl hc (by omega) (by omega) h) k
theorem Here.icmpF (A : Here p l e R s m args below meth c Z a0 tbl own nm bc mxl rt n0 T L cells slots) {pc q : Nat} {Ls : Array Slot} {st : List Value} {x y : Int32} {o : Int} {cd : ClassFile.Cond} (hd : decode bc pc = .ok (.if_icmp cd o, 3)) (hq : pc + 3 = q) (hc : if_icmp.holds cd x y = false) (k : Go p e below F (T.setTop (mkF m q Ls st))) : Go p e below F (T.setTop (mkF m pc Ls (.int y :: .int x :: st))) := by
  subst hq; exact Go.st (fun t h => XS.icmpNo A.pt A.1.1 rfl (hb A.1.2.2.2.1 hd) rfl hc h) k
theorem Here.ifT (A : Here p l e R s m args below meth c Z a0 tbl own nm bc mxl rt n0 T L cells slots) {pc r : Nat} {Ls : Array Slot} {st : List Value} {x : Int32} {o : Int} {cd : ClassFile.Cond} (hd : decode bc pc = .ok (.ifCond cd o, 3)) (hr : (pc : Int) + o = (r : Int)) (hc : ifCond.holds cd x = true) (k : Go p e below F (T.setTop (mkF m r Ls st))) : Go p e below F (T.setTop (mkF m pc Ls (.int x :: st))) :=
  Go.st (fun t h => XS.ifYes A.pt A.1.1 rfl (pc0 := pc) (pc' := r) rfl (hb A.1.2.2.2.1 hd) rfl hc (by omega) (by omega) h) k
theorem Here.ifF (A : Here p l e R s m args below meth c Z a0 tbl own nm bc mxl rt n0 T L cells slots) {pc q : Nat} {Ls : Array Slot} {st : List Value} {x : Int32} {o : Int} {cd : ClassFile.Cond} (hd : decode bc pc = .ok (.ifCond cd o, 3)) (hq : pc + 3 = q) (hc : ifCond.holds cd x = false) (k : Go p e below F (T.setTop (mkF m q Ls st))) : Go p e below F (T.setTop (mkF m pc Ls (.int x :: st))) := by
  subst hq; exact Go.st (fun t h => XS.ifNo A.pt A.1.1 rfl (hb A.1.2.2.2.1 hd) rfl hc h) k
theorem Here.lcmp_lt (A : Here p l e R s m args below meth c Z a0 tbl own nm bc mxl rt n0 T L cells slots) {pc q q2 r : Nat} {Ls : Array Slot} {st : List Value} {x y : Int64} {o : Int} (hd : decode bc pc = .ok (.lcmp, 1)) (hq : pc + 1 = q) (hd2 : decode bc q = .ok (.ifCond .lt o, 3)) (hq2 : q + 3 = q2) (hr : (q : Int) + o = (r : Int)) (kt : x < y → Go p e below F (T.setTop (mkF m r Ls st))) (kf : ¬ (x < y) → Go p e below F (T.setTop (mkF m q2 Ls st))) : Go p e below F (T.setTop (mkF m pc Ls (.long y :: .long x :: st))) := by
  have key : Go p e below F (T.setTop (mkF m q Ls (.int (lcmpW x y) :: st))) := by
    by_cases hc : x < y
    · exact A.ifT hd2 hr ((if0 _ _).trans (tlt ((lw_lt x y).mpr hc)).1) (kt hc)
    · exact A.ifF hd2 hq2 ((if0 _ _).trans (flt (mt (lw_lt x y).mp hc)).1) (kf hc)
  subst hq
  exact Go.st (fun t h => XS.lcmp A.pt A.1.1 rfl (hb A.1.2.2.2.1 hd) rfl h) key
theorem Here.lcmp_ge (A : Here p l e R s m args below meth c Z a0 tbl own nm bc mxl rt n0 T L cells slots) {pc q q2 r : Nat} {Ls : Array Slot} {st : List Value} {x y : Int64} {o : Int} (hd : decode bc pc = .ok (.lcmp, 1)) (hq : pc + 1 = q) (hd2 : decode bc q = .ok (.ifCond .ge o, 3)) (hq2 : q + 3 = q2) (hr : (q : Int) + o = (r : Int)) (kt : ¬ (x < y) → Go p e below F (T.setTop (mkF m r Ls st))) (kf : x < y → Go p e below F (T.setTop (mkF m q2 Ls st))) : Go p e below F (T.setTop (mkF m pc Ls (.long y :: .long x :: st))) := by
  have key : Go p e below F (T.setTop (mkF m q Ls (.int (lcmpW x y) :: st))) := by
    by_cases hc : x < y
    · exact A.ifF hd2 hq2 ((if0 _ _).trans (tlt ((lw_lt x y).mpr hc)).2.1) (kf hc)
    · exact A.ifT hd2 hr ((if0 _ _).trans (flt (mt (lw_lt x y).mp hc)).2.1) (kt hc)
  subst hq
  exact Go.st (fun t h => XS.lcmp A.pt A.1.1 rfl (hb A.1.2.2.2.1 hd) rfl h) key
theorem Here.lcmp_gt (A : Here p l e R s m args below meth c Z a0 tbl own nm bc mxl rt n0 T L cells slots) {pc q q2 r : Nat} {Ls : Array Slot} {st : List Value} {x y : Int64} {o : Int} (hd : decode bc pc = .ok (.lcmp, 1)) (hq : pc + 1 = q) (hd2 : decode bc q = .ok (.ifCond .gt o, 3)) (hq2 : q + 3 = q2) (hr : (q : Int) + o = (r : Int)) (kt : y < x → Go p e below F (T.setTop (mkF m r Ls st))) (kf : ¬ (y < x) → Go p e below F (T.setTop (mkF m q2 Ls st))) : Go p e below F (T.setTop (mkF m pc Ls (.long y :: .long x :: st))) := by
  have key : Go p e below F (T.setTop (mkF m q Ls (.int (lcmpW x y) :: st))) := by
    by_cases hc : y < x
    · exact A.ifT hd2 hr ((if0 _ _).trans (tlt ((lw_gt x y).mpr hc)).2.2.1) (kt hc)
    · exact A.ifF hd2 hq2 ((if0 _ _).trans (flt (mt (lw_gt x y).mp hc)).2.2.1) (kf hc)
  subst hq
  exact Go.st (fun t h => XS.lcmp A.pt A.1.1 rfl (hb A.1.2.2.2.1 hd) rfl h) key
theorem Here.lcmp_le (A : Here p l e R s m args below meth c Z a0 tbl own nm bc mxl rt n0 T L cells slots) {pc q q2 r : Nat} {Ls : Array Slot} {st : List Value} {x y : Int64} {o : Int} (hd : decode bc pc = .ok (.lcmp, 1)) (hq : pc + 1 = q) (hd2 : decode bc q = .ok (.ifCond .le o, 3)) (hq2 : q + 3 = q2) (hr : (q : Int) + o = (r : Int)) (kt : ¬ (y < x) → Go p e below F (T.setTop (mkF m r Ls st))) (kf : y < x → Go p e below F (T.setTop (mkF m q2 Ls st))) : Go p e below F (T.setTop (mkF m pc Ls (.long y :: .long x :: st))) := by
  have key : Go p e below F (T.setTop (mkF m q Ls (.int (lcmpW x y) :: st))) := by
    by_cases hc : y < x
    · exact A.ifF hd2 hq2 ((if0 _ _).trans (tlt ((lw_gt x y).mpr hc)).2.2.2) (kf hc)
    · exact A.ifT hd2 hr ((if0 _ _).trans (flt (mt (lw_gt x y).mp hc)).2.2.2) (kt hc)
  subst hq
  exact Go.st (fun t h => XS.lcmp A.pt A.1.1 rfl (hb A.1.2.2.2.1 hd) rfl h) key
theorem Here.lcmp_eq (A : Here p l e R s m args below meth c Z a0 tbl own nm bc mxl rt n0 T L cells slots) {pc q q2 r : Nat} {Ls : Array Slot} {st : List Value} {x y : Int64} {o : Int} (hd : decode bc pc = .ok (.lcmp, 1)) (hq : pc + 1 = q) (hd2 : decode bc q = .ok (.ifCond .eq o, 3)) (hq2 : q + 3 = q2) (hr : (q : Int) + o = (r : Int)) (kt : x = y → Go p e below F (T.setTop (mkF m r Ls st))) (kf : ¬ (x = y) → Go p e below F (T.setTop (mkF m q2 Ls st))) : Go p e below F (T.setTop (mkF m pc Ls (.long y :: .long x :: st))) := by
  have key : Go p e below F (T.setTop (mkF m q Ls (.int (lcmpW x y) :: st))) := by
    by_cases hc : x = y
    · exact A.ifT hd2 hr ((if0 _ _).trans (teq ((lw_eq x y).mpr hc)).1) (kt hc)
    · exact A.ifF hd2 hq2 ((if0 _ _).trans (feq (mt (lw_eq x y).mp hc)).1) (kf hc)
  subst hq
  exact Go.st (fun t h => XS.lcmp A.pt A.1.1 rfl (hb A.1.2.2.2.1 hd) rfl h) key
theorem Here.lcmp_ne (A : Here p l e R s m args below meth c Z a0 tbl own nm bc mxl rt n0 T L cells slots) {pc q q2 r : Nat} {Ls : Array Slot} {st : List Value} {x y : Int64} {o : Int} (hd : decode bc pc = .ok (.lcmp, 1)) (hq : pc + 1 = q) (hd2 : decode bc q = .ok (.ifCond .ne o, 3)) (hq2 : q + 3 = q2) (hr : (q : Int) + o = (r : Int)) (kt : ¬ (x = y) → Go p e below F (T.setTop (mkF m r Ls st))) (kf : x = y → Go p e below F (T.setTop (mkF m q2 Ls st))) : Go p e below F (T.setTop (mkF m pc Ls (.long y :: .long x :: st))) := by
  have key : Go p e below F (T.setTop (mkF m q Ls (.int (lcmpW x y) :: st))) := by
    by_cases hc : x = y
    · exact A.ifF hd2 hq2 ((if0 _ _).trans (teq ((lw_eq x y).mpr hc)).2) (kf hc)
    · exact A.ifT hd2 hr ((if0 _ _).trans (feq (mt (lw_eq x y).mp hc)).2) (kt hc)
  subst hq
  exact Go.st (fun t h => XS.lcmp A.pt A.1.1 rfl (hb A.1.2.2.2.1 hd) rfl h) key
theorem Here.ifnonnullT (A : Here p l e R s m args below meth c Z a0 tbl own nm bc mxl rt n0 T L cells slots) {pc r : Nat} {Ls : Array Slot} {st : List Value} {b : Addr} {o : Int} (hd : decode bc pc = .ok (.ifnonnull o, 3)) (hr : (pc : Int) + o = (r : Int)) (k : Go p e below F (T.setTop (mkF m r Ls st))) : Go p e below F (T.setTop (mkF m pc Ls (.ref b :: st))) :=
  Go.st (fun t h => XS.ifnonnullYes A.pt A.1.1 rfl (pc0 := pc) (pc' := r) rfl (hb A.1.2.2.2.1 hd) rfl (by omega) (by omega) h) k
theorem Here.ifnonnullF (A : Here p l e R s m args below meth c Z a0 tbl own nm bc mxl rt n0 T L cells slots) {pc q : Nat} {Ls : Array Slot} {st : List Value} {o : Int} (hd : decode bc pc = .ok (.ifnonnull o, 3)) (hq : pc + 3 = q) (k : Go p e below F (T.setTop (mkF m q Ls st))) : Go p e below F (T.setTop (mkF m pc Ls (.null :: st))) := by
  subst hq; exact Go.st (fun t h => XS.ifnonnullNo A.pt A.1.1 rfl (hb A.1.2.2.2.1 hd) rfl h) k
theorem Here.ifnullT (A : Here p l e R s m args below meth c Z a0 tbl own nm bc mxl rt n0 T L cells slots) {pc r : Nat} {Ls : Array Slot} {st : List Value} {o : Int} (hd : decode bc pc = .ok (.ifnull o, 3)) (hr : (pc : Int) + o = (r : Int)) (k : Go p e below F (T.setTop (mkF m r Ls st))) : Go p e below F (T.setTop (mkF m pc Ls (.null :: st))) :=
  Go.st (fun t h => XS.ifnullYes A.pt A.1.1 rfl (pc0 := pc) (pc' := r) rfl (hb A.1.2.2.2.1 hd) rfl (by omega) (by omega) h) k
theorem Here.ifnullF (A : Here p l e R s m args below meth c Z a0 tbl own nm bc mxl rt n0 T L cells slots) {pc q : Nat} {Ls : Array Slot} {st : List Value} {b : Addr} {o : Int} (hd : decode bc pc = .ok (.ifnull o, 3)) (hq : pc + 3 = q) (k : Go p e below F (T.setTop (mkF m q Ls st))) : Go p e below F (T.setTop (mkF m pc Ls (.ref b :: st))) := by
  subst hq; exact Go.st (fun t h => XS.ifnullNo A.pt A.1.1 rfl (hb A.1.2.2.2.1 hd) rfl h) k
theorem Here.acmp (A : Here p l e R s m args below meth c Z a0 tbl own nm bc mxl rt n0 T L cells slots) {pc r : Nat} {Ls : Array Slot} {st : List Value} {x y : Value} {cd : ACond} {o : Int} {same : Bool} (hd : decode bc pc = .ok (.if_acmp cd o, 3)) (h1 : x.isRef = true) (h2 : y.isRef = true) (hs : decide (x = y) = same) (ho : 0 ≤ (pc : Int) + o) (hp : r = if acV cd same = true then ((pc : Int) + o).toNat else pc + 3) (k : Go p e below F (T.setTop (mkF m r Ls st))) : Go p e below F (T.setTop (mkF m pc Ls (y :: x :: st))) := by
  obtain ⟨_, X, _⟩ := A.2
  exact Go.st (fun t h => Jvm.RoadKit.acmp X A.1.1 rfl h1 h2 (pc0 := pc) (pc' := r) (same := same) rfl (hb A.1.2.2.2.1 hd) rfl hs ho hp h) k
theorem Here.ldc (A : Here p l e R s m args below meth c Z a0 tbl own nm bc mxl rt n0 T L cells slots) {pc q w index : Nat} {Ls : Array Slot} {st : List Value} {v : Int32} (hd : decode bc pc = .ok (.ldc index, 2)) (hq : pc + 2 = q) (hw : tbl[w]? = some (Jvm.Cond.constant own index v)) (k : Go p e below F (T.setTop (mkF m q Ls (.int v :: st)))) : Go p e below F (T.setTop (mkF m pc Ls st)) := by
  obtain ⟨⟨hx, hZ, hown, hby, hml, hww, hnm, hrt, hlk⟩, locs, X, N, Z0, P⟩ := id A
  subst hq
  exact Go.st (X.ldcInt hx hown (mvT hZ (hww _ (List.mem_of_getElem? hw))) (g := mkF m pc Ls st) rfl (hb hby hd)) k
theorem Here.ldc_w (A : Here p l e R s m args below meth c Z a0 tbl own nm bc mxl rt n0 T L cells slots) {pc q w index : Nat} {Ls : Array Slot} {st : List Value} {v : Int32} (hd : decode bc pc = .ok (.ldc_w index, 3)) (hq : pc + 3 = q) (hw : tbl[w]? = some (Jvm.Cond.constant own index v)) (k : Go p e below F (T.setTop (mkF m q Ls (.int v :: st)))) : Go p e below F (T.setTop (mkF m pc Ls st)) := by
  obtain ⟨⟨hx, hZ, hown, hby, hml, hww, hnm, hrt, hlk⟩, locs, X, N, Z0, P⟩ := id A
  subst hq
  exact Go.st (X.ldcwInt hx hown (mvT hZ (hww _ (List.mem_of_getElem? hw))) (g := mkF m pc Ls st) rfl (hb hby hd)) k
theorem Here.ldc2_w (A : Here p l e R s m args below meth c Z a0 tbl own nm bc mxl rt n0 T L cells slots) {pc q w index : Nat} {Ls : Array Slot} {st : List Value} {v : Int64} (hd : decode bc pc = .ok (.ldc2_w index, 3)) (hq : pc + 3 = q) (hw : tbl[w]? = some (Jvm.Cond.constantLong own index v)) (k : Go p e below F (T.setTop (mkF m q Ls (.long v :: st)))) : Go p e below F (T.setTop (mkF m pc Ls st)) := by
  obtain ⟨⟨hx, hZ, hown, hby, hml, hww, hnm, hrt, hlk⟩, locs, X, N, Z0, P⟩ := id A
  subst hq
  exact Go.st (X.ldc2Long hx hown (mvT hZ (hww _ (List.mem_of_getElem? hw))) (g := mkF m pc Ls st) rfl (hb hby hd)) k
theorem Here.getF (A : Here p l e R s m args below meth c Z a0 tbl own nm bc mxl rt n0 T L cells slots) {pc q w i j index : Nat} {Ls : Array Slot} {st : List Value} {O n d C : String} {a : Addr} {fs : List ((String × String × String) × Value)} {v : Value} (hd : decode bc pc = .ok (.getfield index, 3)) (hq : pc + 3 = q) (hw : tbl[w]? = some (Jvm.Cond.fieldLink own index O n d)) (hL : L[i]? = some (a, .inl (C, fs))) (hf : fs[j]? = some ((O, n, d), v))
    (k : ∀ T', Here p l e R s m args below meth c Z a0 tbl own nm bc mxl rt n0 T' L cells slots → Go p e below F (T'.setTop (mkF m q Ls (v :: st)))) : Go p e below F (T.setTop (mkF m pc Ls (.ref a :: st))) := by
  obtain ⟨⟨hx, hZ, hown, hby, hml, hww, hnm, hrt, hlk⟩, locs, X, N, Z0, P⟩ := id A
  have Fd := (P.1 _ (List.mem_of_getElem? hL)).2.2 _ (List.mem_of_getElem? hf)
  obtain ⟨T', X', e', st'⟩ := Jvm.RoadKit.getF X hx hZ hown (host := "") (Or.inl (hww _ (List.mem_of_getElem? hw))) Via.refl rfl Fd (g := mkF m pc Ls (.ref a :: st)) rfl rfl (hb hby hd)
  subst hq
  exact Go.st st' (k T' ⟨A.1, locs, X', N, by rw [e']; exact Z0, by rw [e']; exact P⟩)
theorem Here.putF (A : Here p l e R s m args below meth c Z a0 tbl own nm bc mxl rt n0 T L cells slots) {pc q w w2 w3 i j index kk : Nat} {Ls : Array Slot} {st : List Value} {O n d C : String} {a : Addr} {fs : List ((String × String × String) × Value)} {v v' old : Value} {ty : FieldType} {L' : Obs} (hd : decode bc pc = .ok (.putfield index, 3)) (hq : pc + 3 = q) (hw : tbl[w]? = some (Jvm.Cond.fieldLink own index O n d)) (hL : L[i]? = some (a, .inl (C, fs))) (hf : fs[j]? = some ((O, n, d), old))
    (hl : Lays Z a0 C (fs.map Prod.fst)) (hp : tbl[w2]? = some (Jvm.Cond.lays C O n d) ∨ (tbl[w2]? = some (Jvm.Cond.laysFinal C O n d) ∧ own = O ∧ nm = "<init>")) (hi : tbl[w3]? = some (Jvm.Cond.instantiable C kk)) (hty : parseFieldDescriptor d = some ty) (hn : narrow ty v = v') (hfit : fits ty v' = true) (hL' : L.set i (a, .inl (C, fs.set j ((O, n, d), v'))) = L')
    (k : ∀ T', Here p l e R s m args below meth c Z a0 tbl own nm bc mxl rt n0 T' L' cells slots → Go p e below F (T'.setTop (mkF m q Ls st))) : Go p e below F (T.setTop (mkF m pc Ls (v :: .ref a :: st))) := by
  obtain ⟨⟨hx, hZ, hown, hby, hml, hww, hnm, hrt, hlk⟩, locs, X, N, Z0, P⟩ := id A
  have I := P.1 _ (List.mem_of_getElem? hL)
  obtain ⟨T', h', X', e', W, st'⟩ := Jvm.RoadKit.putFN X hx hZ hown (hww _ (List.mem_of_getElem? hw)) Via.refl rfl (I.2.2 _ (List.mem_of_getElem? hf)) I.2.1 (hp.imp (fun q => hww _ (List.mem_of_getElem? q)) (fun q => ⟨hww _ (List.mem_of_getElem? q.1), q.2.1, by rw [hnm]; exact q.2.2⟩)) (hww _ (List.mem_of_getElem? hi)) hty hn hfit (g := mkF m pc Ls (v :: .ref a :: st)) rfl rfl (hb hby hd)
  subst hq hL' e'
  exact Go.st st' (k T' ⟨A.1, _, X', Fr.snoc X' N I.1, by rw [W.size]; exact Z0, P.set W hL (I.2.put W hl hf)⟩)
theorem Here.newO (A : Here p l e R s m args below meth c Z a0 tbl own nm bc mxl rt n0 T L cells slots) {pc q w1 w2 w3 index n : Nat} {Ls : Array Slot} {st : List Value} {C : String} {fs : List ((String × String × String) × Value)} (hd : decode bc pc = .ok (.new index, 3)) (hq : pc + 3 = q) (h1 : tbl[w1]? = some (Jvm.Cond.classLink own index C)) (h2 : tbl[w2]? = some (Jvm.Cond.instantiable C n)) (h3 : tbl[w3]? = some (Jvm.Cond.initialized C)) (hl : Lays Z a0 C (fs.map Prod.fst))
    (hdef : (fs.all fun q => match parseFieldDescriptor q.1.2.2 with | some t => decide (defaultValue t = q.2) | none => false) = true) (hc : cells + 1 ≤ R.cells) (hs : slots + n ≤ R.slots)
    (k : ∀ T' a, Here p l e R s m args below meth c Z a0 tbl own nm bc mxl rt n0 T' ((a, .inl (C, fs)) :: L) (cells + 1) (slots + n) → Go p e below F (T'.setTop (mkF m q Ls (.ref a :: st)))) : Go p e below F (T.setTop (mkF m pc Ls st)) := by
  obtain ⟨⟨hx, hZ, hown, hby, hml, hww, hnm, hrt, hlk⟩, locs, X, N, Z0, P⟩ := id A
  obtain ⟨T', h', X', e', E, Ex, D, -, st'⟩ := Jvm.RoadKit.newO X hx hZ hown (hww _ (List.mem_of_getElem? h1)) (hww _ (List.mem_of_getElem? h2)) (hww _ (List.mem_of_getElem? h3)) rfl (g := mkF m pc Ls st) rfl (hb hby hd) hc hs
  subst hq e'
  refine Go.st st' (k T' _ ⟨A.1, locs, X', N, Nat.le_trans Z0 E.1, P.new E Z0 ⟨Ex, fun f hf => ?_⟩⟩)
  obtain ⟨lf, -⟩ := hl.1 _ (List.mem_map.mpr ⟨f, hf, rfl⟩)
  have q := List.all_eq_true.mp hdef f hf
  cases ht : parseFieldDescriptor f.1.2.2 with
  | none => rw [ht] at q; cases q
  | some t =>
    rw [ht] at q
    have q' : defaultValue t = f.2 := of_decide_eq_true q
    rw [← q']; exact D lf ht
theorem Here.newA (A : Here p l e R s m args below meth c Z a0 tbl own nm bc mxl rt n0 T L cells slots) {pc q w cap : Nat} {Ls : Array Slot} {st : List Value} {aty : ArrayType} {n : Int32} {ty : FieldType} {vs : List Value} (hd : decode bc pc = .ok (.newarray aty, 2)) (hq : pc + 2 = q) (hty : newarray.typeOf aty = ty) (hw : tbl[w]? = some (Jvm.Cond.arrayClass ty)) (hn : ¬ n < 0) (hcap : n.toNatClampNeg ≤ cap) (hb8 : cap * 8 ≤ 536870912) (hvs : List.replicate n.toNatClampNeg (defaultValue ty) = vs) (hc : cells + 1 ≤ R.cells) (hs : slots + cap ≤ R.slots)
    (k : ∀ T' a, Here p l e R s m args below meth c Z a0 tbl own nm bc mxl rt n0 T' ((a, .inr (ty, vs)) :: L) (cells + 1) (slots + cap) → Go p e below F (T'.setTop (mkF m q Ls (.ref a :: st)))) : Go p e below F (T.setTop (mkF m pc Ls (.int n :: st))) := by
  obtain ⟨⟨hx, hZ, hown, hby, hml, hww, hnm, hrt, hlk⟩, locs, X, N, Z0, P⟩ := id A
  subst hty
  obtain ⟨T', h', cA, X', e', E, Ar, Ex, st'⟩ := newPE X hx hZ (hww _ (List.mem_of_getElem? hw)) rfl (g := mkF m pc Ls (.int n :: st)) rfl (hb hby hd) rfl hn hcap hb8 hc hs rfl
  subst hq e' hvs
  refine Go.st st' (k T' _ ⟨A.1, locs, X', N, Nat.le_trans Z0 E.1, P.new E Z0 ⟨_, Ar, ?_, ?_, ?_, Ex⟩⟩)
  · simp [Jvm.RoadKit.newA]
  · rw [List.length_replicate]; omega
  · intro v hv
    rw [(List.mem_replicate.mp hv).2]; exact fits_def aty

theorem Here.iaload (A : Here p l e R s m args below meth c Z a0 tbl own nm bc mxl rt n0 T L cells slots) {pc q i : Nat} {Ls : Array Slot} {st : List Value} {a : Addr} {j : Int32} {vs : List Value} {v : Value} (hd : decode bc pc = .ok (.iaload, 1)) (hq : pc + 1 = q) (hL : L[i]? = some (a, .inr (.int, vs))) (hj : ¬ j < 0) (hv : vs[j.toNatClampNeg]? = some v) (k : Go p e below F (T.setTop (mkF m q Ls (v :: st)))) : Go p e below F (T.setTop (mkF m pc Ls (.int j :: .ref a :: st))) := by
  obtain ⟨⟨hx, hZ, hown, hby, hml, hww, hnm, hrt, hlk⟩, locs, X, N, Z0, P⟩ := id A
  obtain ⟨cl, Ar, r1, r2, r3, r4⟩ := (P.1 _ (List.mem_of_getElem? hL)).2
  have hlt : j.toNatClampNeg < vs.length := (List.getElem?_eq_some_iff.mp hv).1
  subst hq
  exact Go.st (fun t h => X.iaload hx (j := j) (v := v) Ar.1 (State.isArrayOf_alike hZ.alike Ar.2.1) Ar.2.2 (fun q => q.elim hj (fun q => by rw [r1] at q; simp at q; omega)) (by rw [r1]; simpa using hv) (g := mkF m pc Ls (.int j :: .ref a :: st)) rfl rfl (hb hby hd) t h) k
theorem Here.laload (A : Here p l e R s m args below meth c Z a0 tbl own nm bc mxl rt n0 T L cells slots) {pc q i : Nat} {Ls : Array Slot} {st : List Value} {a : Addr} {j : Int32} {vs : List Value} {v : Value} (hd : decode bc pc = .ok (.laload, 1)) (hq : pc + 1 = q) (hL : L[i]? = some (a, .inr (.long, vs))) (hj : ¬ j < 0) (hv : vs[j.toNatClampNeg]? = some v) (k : Go p e below F (T.setTop (mkF m q Ls (v :: st)))) : Go p e below F (T.setTop (mkF m pc Ls (.int j :: .ref a :: st))) := by
  obtain ⟨⟨hx, hZ, hown, hby, hml, hww, hnm, hrt, hlk⟩, locs, X, N, Z0, P⟩ := id A
  obtain ⟨cl, Ar, r1, r2, r3, r4⟩ := (P.1 _ (List.mem_of_getElem? hL)).2
  have hlt : j.toNatClampNeg < vs.length := (List.getElem?_eq_some_iff.mp hv).1
  subst hq
  exact Go.st (fun t h => X.laload hx (j := j) (v := v) Ar.1 (State.isArrayOf_alike hZ.alike Ar.2.1) Ar.2.2 (fun q => q.elim hj (fun q => by rw [r1] at q; simp at q; omega)) (by rw [r1]; simpa using hv) (g := mkF m pc Ls (.int j :: .ref a :: st)) rfl rfl (hb hby hd) t h) k
theorem Here.baloadB (A : Here p l e R s m args below meth c Z a0 tbl own nm bc mxl rt n0 T L cells slots) {pc q i : Nat} {Ls : Array Slot} {st : List Value} {a : Addr} {j : Int32} {vs : List Value} {v : Value} (hd : decode bc pc = .ok (.baload, 1)) (hq : pc + 1 = q) (hL : L[i]? = some (a, .inr (.byte, vs))) (hj : ¬ j < 0) (hv : vs[j.toNatClampNeg]? = some v) (k : Go p e below F (T.setTop (mkF m q Ls (v :: st)))) : Go p e below F (T.setTop (mkF m pc Ls (.int j :: .ref a :: st))) := by
  obtain ⟨⟨hx, hZ, hown, hby, hml, hww, hnm, hrt, hlk⟩, locs, X, N, Z0, P⟩ := id A
  obtain ⟨cl, Ar, r1, r2, r3, r4⟩ := (P.1 _ (List.mem_of_getElem? hL)).2
  have hlt : j.toNatClampNeg < vs.length := (List.getElem?_eq_some_iff.mp hv).1
  subst hq
  exact Go.st (fun t h => X.baloadBytes hx (j := j) (v := v) Ar.1 (State.isArrayOf_alike hZ.alike Ar.2.1) Ar.2.2 (fun q => q.elim hj (fun q => by rw [r1] at q; simp at q; omega)) (by rw [r1]; simpa using hv) (g := mkF m pc Ls (.int j :: .ref a :: st)) rfl rfl (hb hby hd) t h) k
theorem Here.baloadZ (A : Here p l e R s m args below meth c Z a0 tbl own nm bc mxl rt n0 T L cells slots) {pc q i : Nat} {Ls : Array Slot} {st : List Value} {a : Addr} {j : Int32} {vs : List Value} {v : Value} (hd : decode bc pc = .ok (.baload, 1)) (hq : pc + 1 = q) (hL : L[i]? = some (a, .inr (.boolean, vs))) (hj : ¬ j < 0) (hv : vs[j.toNatClampNeg]? = some v) (k : Go p e below F (T.setTop (mkF m q Ls (v :: st)))) : Go p e below F (T.setTop (mkF m pc Ls (.int j :: .ref a :: st))) := by
  obtain ⟨⟨hx, hZ, hown, hby, hml, hww, hnm, hrt, hlk⟩, locs, X, N, Z0, P⟩ := id A
  obtain ⟨cl, Ar, r1, r2, r3, r4⟩ := (P.1 _ (List.mem_of_getElem? hL)).2
  have hlt : j.toNatClampNeg < vs.length := (List.getElem?_eq_some_iff.mp hv).1
  subst hq
  exact Go.st (fun t h => X.baloadBooleans hx (j := j) (v := v) Ar.1 (State.isArrayOf_alike hZ.alike Ar.2.1) Ar.2.2 (fun q => q.elim hj (fun q => by rw [r1] at q; simp at q; omega)) (by rw [r1]; simpa using hv) (g := mkF m pc Ls (.int j :: .ref a :: st)) rfl rfl (hb hby hd) t h) k
theorem Here.iastore (A : Here p l e R s m args below meth c Z a0 tbl own nm bc mxl rt n0 T L cells slots) {pc q i : Nat} {Ls : Array Slot} {st : List Value} {a : Addr} {j : Int32} {x x' : Int32} {vs : List Value} {L' : Obs} (hd : decode bc pc = .ok (.iastore, 1)) (hq : pc + 1 = q) (hL : L[i]? = some (a, .inr (.int, vs))) (hj : ¬ j < 0) (hlt : j.toNatClampNeg < vs.length) (hx' : x = x') (hL' : L.set i (a, .inr (.int, vs.set j.toNatClampNeg (.int x'))) = L') (k : ∀ T', Here p l e R s m args below meth c Z a0 tbl own nm bc mxl rt n0 T' L' cells slots → Go p e below F (T'.setTop (mkF m q Ls st))) : Go p e below F (T.setTop (mkF m pc Ls (.int x :: .int j :: .ref a :: st))) := by
  obtain ⟨⟨hx, hZ, hown, hby, hml, hww, hnm, hrt, hlk⟩, locs, X, N, Z0, P⟩ := id A
  have I := P.1 _ (List.mem_of_getElem? hL)
  obtain ⟨cl, Ar, r1, r2, r3, r4⟩ := id I.2
  obtain ⟨T', h', X', e', W, st'⟩ := stI X hx hZ rfl Ar (j := j) (x := x) (fun q => q.elim hj (fun q => by rw [r1] at q; simp at q; omega)) (g := mkF m pc Ls (.int x :: .int j :: .ref a :: st)) rfl rfl (hb hby hd)
  subst hq hL' e' hx'
  exact Go.st st' (k T' ⟨A.1, _, X', Fr.snoc X' N I.1, by rw [W.size]; exact Z0, P.set W hL (Ara.put (show Ara Z T.heap a .int vs from I.2) W rfl)⟩)
theorem Here.lastore (A : Here p l e R s m args below meth c Z a0 tbl own nm bc mxl rt n0 T L cells slots) {pc q i : Nat} {Ls : Array Slot} {st : List Value} {a : Addr} {j : Int32} {x x' : Int64} {vs : List Value} {L' : Obs} (hd : decode bc pc = .ok (.lastore, 1)) (hq : pc + 1 = q) (hL : L[i]? = some (a, .inr (.long, vs))) (hj : ¬ j < 0) (hlt : j.toNatClampNeg < vs.length) (hx' : x = x') (hL' : L.set i (a, .inr (.long, vs.set j.toNatClampNeg (.long x'))) = L') (k : ∀ T', Here p l e R s m args below meth c Z a0 tbl own nm bc mxl rt n0 T' L' cells slots → Go p e below F (T'.setTop (mkF m q Ls st))) : Go p e below F (T.setTop (mkF m pc Ls (.long x :: .int j :: .ref a :: st))) := by
  obtain ⟨⟨hx, hZ, hown, hby, hml, hww, hnm, hrt, hlk⟩, locs, X, N, Z0, P⟩ := id A
  have I := P.1 _ (List.mem_of_getElem? hL)
  obtain ⟨cl, Ar, r1, r2, r3, r4⟩ := id I.2
  obtain ⟨T', h', X', e', W, st'⟩ := stJ X hx hZ rfl Ar (j := j) (x := x) (fun q => q.elim hj (fun q => by rw [r1] at q; simp at q; omega)) (g := mkF m pc Ls (.long x :: .int j :: .ref a :: st)) rfl rfl (hb hby hd)
  subst hq hL' e' hx'
  exact Go.st st' (k T' ⟨A.1, _, X', Fr.snoc X' N I.1, by rw [W.size]; exact Z0, P.set W hL (Ara.put (show Ara Z T.heap a .long vs from I.2) W rfl)⟩)
theorem Here.bastoreB (A : Here p l e R s m args below meth c Z a0 tbl own nm bc mxl rt n0 T L cells slots) {pc q i : Nat} {Ls : Array Slot} {st : List Value} {a : Addr} {j : Int32} {x x' : Int32} {vs : List Value} {L' : Obs} (hd : decode bc pc = .ok (.bastore, 1)) (hq : pc + 1 = q) (hL : L[i]? = some (a, .inr (.byte, vs))) (hj : ¬ j < 0) (hlt : j.toNatClampNeg < vs.length) (hx' : (nar .byte x) = x') (hL' : L.set i (a, .inr (.byte, vs.set j.toNatClampNeg (.int x'))) = L') (k : ∀ T', Here p l e R s m args below meth c Z a0 tbl own nm bc mxl rt n0 T' L' cells slots → Go p e below F (T'.setTop (mkF m q Ls st))) : Go p e below F (T.setTop (mkF m pc Ls (.int x :: .int j :: .ref a :: st))) := by
  obtain ⟨⟨hx, hZ, hown, hby, hml, hww, hnm, hrt, hlk⟩, locs, X, N, Z0, P⟩ := id A
  have I := P.1 _ (List.mem_of_getElem? hL)
  obtain ⟨cl, Ar, r1, r2, r3, r4⟩ := id I.2
  obtain ⟨T', h', X', e', W, st'⟩ := stB X hx hZ rfl Ar (j := j) (x := x) (fun q => q.elim hj (fun q => by rw [r1] at q; simp at q; omega)) (g := mkF m pc Ls (.int x :: .int j :: .ref a :: st)) rfl rfl (hb hby hd)
  subst hq hL' e' hx'
  exact Go.st st' (k T' ⟨A.1, _, X', Fr.snoc X' N I.1, by rw [W.size]; exact Z0, P.set W hL (Ara.put (show Ara Z T.heap a .byte vs from I.2) W (fits_nar_byte _))⟩)
theorem Here.bastoreZ (A : Here p l e R s m args below meth c Z a0 tbl own nm bc mxl rt n0 T L cells slots) {pc q i : Nat} {Ls : Array Slot} {st : List Value} {a : Addr} {j : Int32} {x x' : Int32} {vs : List Value} {L' : Obs} (hd : decode bc pc = .ok (.bastore, 1)) (hq : pc + 1 = q) (hL : L[i]? = some (a, .inr (.boolean, vs))) (hj : ¬ j < 0) (hlt : j.toNatClampNeg < vs.length) (hx' : (nar .boolean x) = x') (hL' : L.set i (a, .inr (.boolean, vs.set j.toNatClampNeg (.int x'))) = L') (k : ∀ T', Here p l e R s m args below meth c Z a0 tbl own nm bc mxl rt n0 T' L' cells slots → Go p e below F (T'.setTop (mkF m q Ls st))) : Go p e below F (T.setTop (mkF m pc Ls (.int x :: .int j :: .ref a :: st))) := by
  obtain ⟨⟨hx, hZ, hown, hby, hml, hww, hnm, hrt, hlk⟩, locs, X, N, Z0, P⟩ := id A
  have I := P.1 _ (List.mem_of_getElem? hL)
  obtain ⟨cl, Ar, r1, r2, r3, r4⟩ := id I.2
  obtain ⟨T', h', X', e', W, st'⟩ := stZ X hx hZ rfl Ar (j := j) (x := x) (fun q => q.elim hj (fun q => by rw [r1] at q; simp at q; omega)) (g := mkF m pc Ls (.int x :: .int j :: .ref a :: st)) rfl rfl (hb hby hd)
  subst hq hL' e' hx'
  exact Go.st st' (k T' ⟨A.1, _, X', Fr.snoc X' N I.1, by rw [W.size]; exact Z0, P.set W hL (Ara.put (show Ara Z T.heap a .boolean vs from I.2) W (fits_nar_bool _))⟩)
theorem Here.arraylength (A : Here p l e R s m args below meth c Z a0 tbl own nm bc mxl rt n0 T L cells slots) {pc q i : Nat} {Ls : Array Slot} {st : List Value} {a : Addr} {ty : FieldType} {vs : List Value} {v : Int32} (hd : decode bc pc = .ok (.arraylength, 1)) (hq : pc + 1 = q) (hL : L[i]? = some (a, .inr (ty, vs))) (hv : vs.length.toInt32 = v) (k : Go p e below F (T.setTop (mkF m q Ls (.int v :: st)))) : Go p e below F (T.setTop (mkF m pc Ls (.ref a :: st))) := by
  obtain ⟨⟨hx, hZ, hown, hby, hml, hww, hnm, hrt, hlk⟩, locs, X, N, Z0, P⟩ := id A
  obtain ⟨cl, Ar, r1, r2, r3, r4⟩ := (P.1 _ (List.mem_of_getElem? hL)).2
  have hn : cl.slots.size = vs.length := by rw [r1]; simp
  subst hq hv
  exact Go.st (fun t h => X.arraylength hx Ar.1 (State.isArrayOf_alike hZ.alike Ar.2.1) (g := mkF m pc Ls (.ref a :: st)) rfl rfl (hb hby hd) t (by rw [hn]; exact h)) k
theorem Here.castArr (A : Here p l e R s m args below meth c Z a0 tbl own nm bc mxl rt n0 T L cells slots) {pc q i w index : Nat} {Ls : Array Slot} {st : List Value} {a : Addr} {ty : FieldType} {vs : List Value} {K : String} (hd : decode bc pc = .ok (.checkcast index, 3)) (hq : pc + 3 = q) (hw : tbl[w]? = some (Jvm.Cond.classLink own index K)) (hL : L[i]? = some (a, .inr (ty, vs))) (hK : "[" ++ ty.toString = K) (k : ∀ T', Here p l e R s m args below meth c Z a0 tbl own nm bc mxl rt n0 T' L cells slots → Go p e below F (T'.setTop (mkF m q Ls (.ref a :: st)))) : Go p e below F (T.setTop (mkF m pc Ls (.ref a :: st))) := by
  obtain ⟨⟨hx, hZ, hown, hby, hml, hww, hnm, hrt, hlk⟩, locs, X, N, Z0, P⟩ := id A
  obtain ⟨cl, Ar, r1, r2, r3, r4⟩ := (P.1 _ (List.mem_of_getElem? hL)).2
  subst hK hq
  obtain ⟨T', X', e', st'⟩ := castY X hx hZ hown (hww _ (List.mem_of_getElem? hw)) rfl (Ins.self r4) (g := mkF m pc Ls (.ref a :: st)) rfl rfl (hb hby hd)
  exact Go.st st' (k T' ⟨A.1, locs, X', N, by rw [e']; exact Z0, by rw [e']; exact P⟩)
theorem Here.clone (A : Here p l e R s m args below meth c Z a0 tbl own nm bc mxl rt n0 T L cells slots) {pc q i index W w1 w2 w3 w4 w5 w6 cap : Nat} {Ls : Array Slot} {st : List Value} {a : Addr} {ty : FieldType} {vs : List Value} {ad : String} (hd : decode bc pc = .ok (.invokevirtual index, 3)) (hq : pc + 3 = q) (hL : L[i]? = some (a, .inr (ty, vs))) (hK : "[" ++ ty.toString = ad)
    (h1 : tbl[w1]? = some (Jvm.Cond.methodLink own index ⟨ad, "clone", "()Ljava/lang/Object;"⟩)) (h2 : tbl[w2]? = some (Jvm.Cond.sameMethod ad "java/lang/Object" "clone" "()Ljava/lang/Object;")) (h3 : tbl[w3]? = some (Jvm.Cond.native ⟨"java/lang/Object", "clone", "()Ljava/lang/Object;"⟩)) (h4 : tbl[w4]? = some (Jvm.Cond.instanceMethod ⟨"java/lang/Object", "clone", "()Ljava/lang/Object;"⟩)) (h5 : tbl[w5]? = some (Jvm.Cond.selects ad ⟨ad, "clone", "()Ljava/lang/Object;"⟩ ⟨"java/lang/Object", "clone", "()Ljava/lang/Object;"⟩)) (h6 : tbl[w6]? = some (Jvm.Cond.castable ad "java/lang/Cloneable"))
    (hsz : Ls.size = mxl) (hW : (st.map fun v => v.category).sum = W) (hf : 1 ≤ R.frames) (hl : W + 14 ≤ R.locals) (hcap : vs.length ≤ cap) (hc : cells + 1 ≤ R.cells) (hs : slots + cap ≤ R.slots)
    (k : ∀ T' b, Here p l e R s m args below meth c Z a0 tbl own nm bc mxl rt n0 T' ((b, .inr (ty, vs)) :: L) (cells + 1) (slots + cap) → Go p e below F (T'.setTop (mkF m q Ls (.ref b :: st)))) : Go p e below F (T.setTop (mkF m pc Ls (.ref a :: st))) := by
  obtain ⟨⟨hx, hZ, hown, hby, hml, hww, hnm, hrt, hlk⟩, locs, X, N, Z0, P⟩ := id A
  obtain ⟨cl, Ar, r1, r2, r3, r4⟩ := (P.1 _ (List.mem_of_getElem? hL)).2
  subst hK hq
  have hn : cl.slots.size = vs.length := by rw [r1]; simp
  have FC : FitC Z cl := fitC_of Ar fun i hi v hv => r3 v (by rw [r1] at hv; exact List.mem_of_getElem? (by simpa using hv))
  obtain ⟨T', h', X', e', E, Ar', Ex, st'⟩ := cloneA X hx hZ hown (hww _ (List.mem_of_getElem? h1)) (hww _ (List.mem_of_getElem? h2)) (hww _ (List.mem_of_getElem? h3)) (hww _ (List.mem_of_getElem? h4)) (hww _ (List.mem_of_getElem? h5)) (hww _ (List.mem_of_getElem? h6)) rfl Ar r4 FC (g := mkF m pc Ls (.ref a :: st)) rfl (by rw [hml]; exact hsz) rfl (hb hby hd) hf (W := W) (cap := cap) (by show 2 * 0 + _ ≤ _; omega) hl (by omega) hc hs
  subst e'
  exact Go.st st' (k T' _ ⟨A.1, locs, X', N, Nat.le_trans Z0 E.1, P.new E Z0 ⟨_, Ar', r1, r2, r3, Ex⟩⟩)
theorem Here.initObj (A : Here p l e R s m args below meth c Z a0 tbl own nm bc mxl rt n0 T L cells slots) {pc q index w1 w2 w3 W : Nat} {Ls : Array Slot} {st : List Value} {a : Addr} (hd : decode bc pc = .ok (.invokespecial index, 3)) (hq : pc + 3 = q) (h1 : tbl[w1]? = some (Jvm.Cond.methodLink own index Lib.objectInit)) (h2 : tbl[w2]? = some (Jvm.Cond.instanceMethod Lib.objectInit)) (h3 : tbl[w3]? = some (Jvm.Cond.code Lib.objectInit ⟨#[0xb1]⟩ 1 none)) (hsz : Ls.size = mxl) (hW : (st.map fun v => v.category).sum = W) (hf : 1 ≤ R.frames) (hl : W + 12 ≤ R.locals) (k : ∀ T', Here p l e R s m args below meth c Z a0 tbl own nm bc mxl rt n0 T' L cells slots → Go p e below F (T'.setTop (mkF m q Ls st))) : Go p e below F (T.setTop (mkF m pc Ls (.ref a :: st))) := by
  obtain ⟨⟨hx, hZ, hown, hby, hml, hww, hnm, hrt, hlk⟩, locs, X, N, Z0, P⟩ := id A
  subst hq
  obtain ⟨T', X', e', st'⟩ := initO X hx hZ hown (hww _ (List.mem_of_getElem? h1)) (hww _ (List.mem_of_getElem? h2)) (hww _ (List.mem_of_getElem? h3)) rfl (g := mkF m pc Ls (.ref a :: st)) rfl (by rw [hml]; exact hsz) rfl (hb hby hd) hf (W := W) (by show 2 * 0 + _ ≤ _; omega) hl
  exact Go.st st' (k T' ⟨A.1, locs, X', N, by rw [e']; exact Z0, by rw [e']; exact P⟩)
theorem Here.front (A : Here p l e R s m args below meth c Z a0 tbl own nm bc mxl rt n0 T L cells slots) {i : Nat} {x : Addr × Ob} {L' : Obs} (hi : L[i]? = some x) (hL' : x :: L.eraseIdx i = L') : Here p l e R s m args below meth c Z a0 tbl own nm bc mxl rt n0 T L' cells slots := by
  obtain ⟨⟨hx, hZ, hown, hby, hml, hww, hnm, hrt, hlk⟩, locs, X, N, Z0, P⟩ := id A
  subst hL'
  exact ⟨A.1, locs, X, N, Z0, P.front hi⟩
theorem Here.ne (A : Here p l e R s m args below meth c Z a0 tbl own nm bc mxl rt n0 T L cells slots) {i j : Nat} {a b : Addr} {x y : Ob} (hi : L[i]? = some (a, x)) (hj : L[j]? = some (b, y)) (hn : i ≠ j) : a ≠ b := by
  obtain ⟨⟨hx, hZ, hown, hby, hml, hww, hnm, hrt, hlk⟩, locs, X, N, Z0, P⟩ := id A
  exact P.ne hi hj hn

theorem Here.ialoadM (A : Here p l e R s m args below meth c Z a0 tbl own nm bc mxl rt n0 T L cells slots) {pc q i : Nat} {Ls : Array Slot} {st : List Value} {a : Addr} {j : Int32} {xs : List Int32} {v : Int32} (hd : decode bc pc = .ok (.iaload, 1)) (hq : pc + 1 = q) (hL : L[i]? = some (a, .inr (.int, xs.map Value.int))) (hj : ¬ j < 0) (hv : xs[j.toNatClampNeg]? = some v) (k : Go p e below F (T.setTop (mkF m q Ls (Value.int v :: st)))) : Go p e below F (T.setTop (mkF m pc Ls (.int j :: .ref a :: st))) :=
  A.iaload hd hq hL hj (by rw [List.getElem?_map, hv]; rfl) k
theorem Here.laloadM (A : Here p l e R s m args below meth c Z a0 tbl own nm bc mxl rt n0 T L cells slots) {pc q i : Nat} {Ls : Array Slot} {st : List Value} {a : Addr} {j : Int32} {xs : List Int64} {v : Int64} (hd : decode bc pc = .ok (.laload, 1)) (hq : pc + 1 = q) (hL : L[i]? = some (a, .inr (.long, xs.map Value.long))) (hj : ¬ j < 0) (hv : xs[j.toNatClampNeg]? = some v) (k : Go p e below F (T.setTop (mkF m q Ls (Value.long v :: st)))) : Go p e below F (T.setTop (mkF m pc Ls (.int j :: .ref a :: st))) :=
  A.laload hd hq hL hj (by rw [List.getElem?_map, hv]; rfl) k
theorem Here.baloadBM (A : Here p l e R s m args below meth c Z a0 tbl own nm bc mxl rt n0 T L cells slots) {pc q i : Nat} {Ls : Array Slot} {st : List Value} {a : Addr} {j : Int32} {xs : List Int32} {v : Int32} (hd : decode bc pc = .ok (.baload, 1)) (hq : pc + 1 = q) (hL : L[i]? = some (a, .inr (.byte, xs.map Value.int))) (hj : ¬ j < 0) (hv : xs[j.toNatClampNeg]? = some v) (k : Go p e below F (T.setTop (mkF m q Ls (Value.int v :: st)))) : Go p e below F (T.setTop (mkF m pc Ls (.int j :: .ref a :: st))) :=
  A.baloadB hd hq hL hj (by rw [List.getElem?_map, hv]; rfl) k
theorem Here.baloadZM (A : Here p l e R s m args below meth c Z a0 tbl own nm bc mxl rt n0 T L cells slots) {pc q i : Nat} {Ls : Array Slot} {st : List Value} {a : Addr} {j : Int32} {xs : List Int32} {v : Int32} (hd : decode bc pc = .ok (.baload, 1)) (hq : pc + 1 = q) (hL : L[i]? = some (a, .inr (.boolean, xs.map Value.int))) (hj : ¬ j < 0) (hv : xs[j.toNatClampNeg]? = some v) (k : Go p e below F (T.setTop (mkF m q Ls (Value.int v :: st)))) : Go p e below F (T.setTop (mkF m pc Ls (.int j :: .ref a :: st))) :=
  A.baloadZ hd hq hL hj (by rw [List.getElem?_map, hv]; rfl) k
theorem Here.iastoreM (A : Here p l e R s m args below meth c Z a0 tbl own nm bc mxl rt n0 T L cells slots) {pc q i : Nat} {Ls : Array Slot} {st : List Value} {a : Addr} {j : Int32} {x x' : Int32} {xs : List Int32} {L' : Obs} (hd : decode bc pc = .ok (.iastore, 1)) (hq : pc + 1 = q) (hL : L[i]? = some (a, .inr (.int, xs.map Value.int))) (hj : ¬ j < 0) (hlt : j.toNatClampNeg < xs.length) (hx' : x = x') (hL' : L.set i (a, .inr (.int, (xs.set j.toNatClampNeg x').map Value.int)) = L') (k : ∀ T', Here p l e R s m args below meth c Z a0 tbl own nm bc mxl rt n0 T' L' cells slots → Go p e below F (T'.setTop (mkF m q Ls st))) : Go p e below F (T.setTop (mkF m pc Ls (Value.int x :: .int j :: .ref a :: st))) :=
  A.iastore hd hq hL hj (by rw [List.length_map]; exact hlt) hx' (by rw [← hL', List.map_set]) k
theorem Here.lastoreM (A : Here p l e R s m args below meth c Z a0 tbl own nm bc mxl rt n0 T L cells slots) {pc q i : Nat} {Ls : Array Slot} {st : List Value} {a : Addr} {j : Int32} {x x' : Int64} {xs : List Int64} {L' : Obs} (hd : decode bc pc = .ok (.lastore, 1)) (hq : pc + 1 = q) (hL : L[i]? = some (a, .inr (.long, xs.map Value.long))) (hj : ¬ j < 0) (hlt : j.toNatClampNeg < xs.length) (hx' : x = x') (hL' : L.set i (a, .inr (.long, (xs.set j.toNatClampNeg x').map Value.long)) = L') (k : ∀ T', Here p l e R s m args below meth c Z a0 tbl own nm bc mxl rt n0 T' L' cells slots → Go p e below F (T'.setTop (mkF m q Ls st))) : Go p e below F (T.setTop (mkF m pc Ls (Value.long x :: .int j :: .ref a :: st))) :=
  A.lastore hd hq hL hj (by rw [List.length_map]; exact hlt) hx' (by rw [← hL', List.map_set]) k
theorem Here.bastoreBM (A : Here p l e R s m args below meth c Z a0 tbl own nm bc mxl rt n0 T L cells slots) {pc q i : Nat} {Ls : Array Slot} {st : List Value} {a : Addr} {j : Int32} {x x' : Int32} {xs : List Int32} {L' : Obs} (hd : decode bc pc = .ok (.bastore, 1)) (hq : pc + 1 = q) (hL : L[i]? = some (a, .inr (.byte, xs.map Value.int))) (hj : ¬ j < 0) (hlt : j.toNatClampNeg < xs.length) (hx' : (nar .byte x) = x') (hL' : L.set i (a, .inr (.byte, (xs.set j.toNatClampNeg x').map Value.int)) = L') (k : ∀ T', Here p l e R s m args below meth c Z a0 tbl own nm bc mxl rt n0 T' L' cells slots → Go p e below F (T'.setTop (mkF m q Ls st))) : Go p e below F (T.setTop (mkF m pc Ls (Value.int x :: .int j :: .ref a :: st))) :=
  A.bastoreB hd hq hL hj (by rw [List.length_map]; exact hlt) hx' (by rw [← hL', List.map_set]) k
theorem Here.bastoreZM (A : Here p l e R s m args below meth c Z a0 tbl own nm bc mxl rt n0 T L cells slots) {pc q i : Nat} {Ls : Array Slot} {st : List Value} {a : Addr} {j : Int32} {x x' : Int32} {xs : List Int32} {L' : Obs} (hd : decode bc pc = .ok (.bastore, 1)) (hq : pc + 1 = q) (hL : L[i]? = some (a, .inr (.boolean, xs.map Value.int))) (hj : ¬ j < 0) (hlt : j.toNatClampNeg < xs.length) (hx' : (nar .boolean x) = x') (hL' : L.set i (a, .inr (.boolean, (xs.set j.toNatClampNeg x').map Value.int)) = L') (k : ∀ T', Here p l e R s m args below meth c Z a0 tbl own nm bc mxl rt n0 T' L' cells slots → Go p e below F (T'.setTop (mkF m q Ls st))) : Go p e below F (T.setTop (mkF m pc Ls (Value.int x :: .int j :: .ref a :: st))) :=
  A.bastoreZ hd hq hL hj (by rw [List.length_map]; exact hlt) hx' (by rw [← hL', List.map_set]) k
theorem Here.arraylengthM (A : Here p l e R s m args below meth c Z a0 tbl own nm bc mxl rt n0 T L cells slots) {pc q i : Nat} {Ls : Array Slot} {st : List Value} {a : Addr} {ty : FieldType} {α : Type} {f : α → Value} {xs : List α} {v : Int32} (hd : decode bc pc = .ok (.arraylength, 1)) (hq : pc + 1 = q) (hL : L[i]? = some (a, .inr (ty, xs.map f))) (hv : xs.length.toInt32 = v) (k : Go p e below F (T.setTop (mkF m q Ls (.int v :: st)))) : Go p e below F (T.setTop (mkF m pc Ls (.ref a :: st))) :=
  A.arraylength hd hq hL (by rw [List.length_map]; exact hv) k
theorem own_gd {α : Type} {xs : List α} {n : Nat} {d : α} (h : n < xs.length) : xs[n]? = some (xs.getD n d) := by simp [List.getD, h]
theorem Here.callS (A : Here p l e R s m args below meth c Z a0 tbl own nm bc mxl rt n0 T L cells slots) {pc q index W w1 w2 w3 w4 : Nat} {Ls : Array Slot} {st stk : List Value} {y : MethodName} {bytes : ByteArray} {ml : Nat} {rt' : Option FieldType} {rm : Room} {as : List Value} {Q : Option Value → Obs → Prop} (hd : decode bc pc = .ok (.invokestatic index, 3)) (hq : pc + 3 = q) (h1 : tbl[w1]? = some (Jvm.Cond.methodLink own index y)) (h2 : tbl[w2]? = some (Jvm.Cond.static y)) (h3 : tbl[w3]? = some (Jvm.Cond.initialized y.cls)) (h4 : tbl[w4]? = some (Jvm.Cond.code y bytes ml rt')) (hT : Triple l Z n0 y bytes ml rt' rm rm.cells rm.slots as L Q) (hy : y.cls ≠ "java/lang/invoke/MethodHandle" ∧ y.cls ≠ "java/lang/invoke/VarHandle") (hlen : ∃ ps r, parseMethodDescriptor y.desc = some ⟨ps, r⟩ ∧ as.length = ps.length) (hst : stk = as.reverse ++ st) (hsz : Ls.size = mxl) (hW : (st.map fun v => v.category).sum = W) (hf : rm.frames + 1 ≤ R.frames) (hl : W + (ml + 11) + rm.locals ≤ R.locals) (hc : cells + rm.cells ≤ R.cells) (hs : slots + rm.slots ≤ R.slots)
    (k : ∀ v T' L', Q v L' → Here p l e R s m args below meth c Z a0 tbl own nm bc mxl rt n0 T' L' (cells + rm.cells) (slots + rm.slots) → Go p e below F (T'.setTop (mkF m q Ls (v.toList ++ st)))) : Go p e below F (T.setTop (mkF m pc Ls stk)) := by
  obtain ⟨⟨hx, hZ, hown, hby, hml, hww, hnm, hrt, hlk⟩, locs, X, N, Z0, P⟩ := id A
  obtain ⟨ps, r, hps, hle⟩ := hlen
  subst hst hq
  obtain ⟨v, _, ⟨T1, L1, k1, n1⟩, -, X1, ⟨Lc, hQ, l1, y1, z1⟩, st1⟩ := Jvm.LawKit.callS X hx (y := y) hown (mvT hZ (hww _ (List.mem_of_getElem? h1))) (mvT hZ (hww _ (List.mem_of_getElem? h2))) (mvT hZ (hww _ (List.mem_of_getElem? h3))) (mvT hZ (hww _ (List.mem_of_getElem? h4))) hy (backOf (W := W) (Q := fun v h Lc => Fr n0 Lc ∧ n0 ≤ h.size ∧ ∃ L', Q v L' ∧ Pic Z n0 h L') (hT T.heap [] Z0 P) hZ (hww _ (List.mem_of_getElem? h4)) (hww _ (List.mem_of_getElem? h3)) hf hl) (g := mkF m pc Ls (as.reverse ++ st)) rfl (by rw [hml]; exact hsz) (argsL := as) (rest := st) (lenOf hps hle) rfl (by show 2 * 0 + _ ≤ _; omega) (hb hby hd) (fun _ _ => ⟨rfl, rfl, hc, hs⟩)
  dsimp only [Pt.U, Pt.locs, Pt.cells, Pt.slots] at X1 l1 y1 z1 st1 hQ
  subst l1 y1 z1
  obtain ⟨Nq, Zq, L', q, Pq⟩ := hQ
  exact Go.st st1 (k v T1 L' q ⟨A.1, _, X1, N.app Nq, Zq, Pq⟩)
theorem Here.callI (A : Here p l e R s m args below meth c Z a0 tbl own nm bc mxl rt n0 T L cells slots) {pc q index W w1 w2 w3 w4 : Nat} {Ls : Array Slot} {st stk : List Value} {a : Addr} {y : MethodName} {bytes : ByteArray} {ml : Nat} {rm : Room} {as : List Value} {Q : Option Value → Obs → Prop} (hd : decode bc pc = .ok (.invokespecial index, 3)) (hq : pc + 3 = q) (hy1 : y.name = "<init>") (h1 : tbl[w1]? = some (Jvm.Cond.methodLink own index y)) (h2 : tbl[w2]? = some (Jvm.Cond.instanceMethod y)) (h3 : tbl[w3]? = some (Jvm.Cond.initialized y.cls)) (h4 : tbl[w4]? = some (Jvm.Cond.code y bytes ml none)) (hT : Triple l Z n0 y bytes ml none rm rm.cells rm.slots (.ref a :: as) L Q) (hy : y.cls ≠ "java/lang/invoke/MethodHandle" ∧ y.cls ≠ "java/lang/invoke/VarHandle") (hlen : ∃ ps r, parseMethodDescriptor y.desc = some ⟨ps, r⟩ ∧ as.length = ps.length) (hst : stk = as.reverse ++ .ref a :: st) (hsz : Ls.size = mxl) (hW : (st.map fun v => v.category).sum = W) (hf : rm.frames + 1 ≤ R.frames) (hl : W + (ml + 11) + rm.locals ≤ R.locals) (hc : cells + rm.cells ≤ R.cells) (hs : slots + rm.slots ≤ R.slots)
    (k : ∀ v T' L', Q v L' → Here p l e R s m args below meth c Z a0 tbl own nm bc mxl rt n0 T' L' (cells + rm.cells) (slots + rm.slots) → Go p e below F (T'.setTop (mkF m q Ls (v.toList ++ st)))) : Go p e below F (T.setTop (mkF m pc Ls stk)) := by
  obtain ⟨⟨hx, hZ, hown, hby, hml, hww, hnm, hrt, hlk⟩, locs, X, N, Z0, P⟩ := id A
  obtain ⟨ps, r, hps, hle⟩ := hlen
  subst hst hq
  obtain ⟨v, _, ⟨T1, L1, k1, n1⟩, -, X1, ⟨Lc, hQ, l1, y1, z1⟩, st1⟩ := X.specialBack hx (y := y) hy1 hown (mvT hZ (hww _ (List.mem_of_getElem? h1))) (mvT hZ (hww _ (List.mem_of_getElem? h2))) (mvT hZ (hww _ (List.mem_of_getElem? h4))) hy (backOf (W := W) (Q := fun v h Lc => Fr n0 Lc ∧ n0 ≤ h.size ∧ ∃ L', Q v L' ∧ Pic Z n0 h L') (hT T.heap [] Z0 P) hZ (hww _ (List.mem_of_getElem? h4)) (hww _ (List.mem_of_getElem? h3)) hf hl) (g := mkF m pc Ls (as.reverse ++ .ref a :: st)) rfl (by rw [hml]; exact hsz) (Steps.refl _) (a := a) (argsL := as) (rest := st) (lenOf hps hle) rfl (by show 2 * 0 + _ ≤ _; omega) (hb hby hd) (fun _ _ => ⟨rfl, rfl, hc, hs⟩)
  dsimp only [Pt.U, Pt.locs, Pt.cells, Pt.slots] at X1 l1 y1 z1 st1 hQ
  subst l1 y1 z1
  obtain ⟨Nq, Zq, L', q, Pq⟩ := hQ
  exact Go.st (fun t h => st1.trans h) (k v T1 L' q ⟨A.1, _, X1, N.app Nq, Zq, Pq⟩)
theorem Here.callV (A : Here p l e R s m args below meth c Z a0 tbl own nm bc mxl rt n0 T L cells slots) {pc q index W i w1 w2 w3 w4 w5 w6 : Nat} {Ls : Array Slot} {st stk : List Value} {a : Addr} {C : String} {fs : List ((String × String × String) × Value)} {y : MethodName} {bytes : ByteArray} {ml : Nat} {rt' : Option FieldType} {rm : Room} {as : List Value} {Q : Option Value → Obs → Prop} (hd : decode bc pc = .ok (.invokevirtual index, 3)) (hq : pc + 3 = q) (hL : L[i]? = some (a, .inl (C, fs))) (h1 : tbl[w1]? = some (Jvm.Cond.methodLink own index y)) (h2 : tbl[w2]? = some (Jvm.Cond.declares y)) (h5 : tbl[w5]? = some (Jvm.Cond.selects C y y)) (h6 : tbl[w6]? = some (Jvm.Cond.instanceMethod y)) (h3 : tbl[w3]? = some (Jvm.Cond.initialized y.cls)) (h4 : tbl[w4]? = some (Jvm.Cond.code y bytes ml rt')) (hT : Triple l Z n0 y bytes ml rt' rm rm.cells rm.slots (.ref a :: as) L Q) (hy : y.cls ≠ "java/lang/invoke/MethodHandle" ∧ y.cls ≠ "java/lang/invoke/VarHandle") (hlen : ∃ ps r, parseMethodDescriptor y.desc = some ⟨ps, r⟩ ∧ as.length = ps.length) (hst : stk = as.reverse ++ .ref a :: st) (hsz : Ls.size = mxl) (hW : (st.map fun v => v.category).sum = W) (hf : rm.frames + 1 ≤ R.frames) (hl : W + (ml + 11) + rm.locals ≤ R.locals) (hc : cells + rm.cells ≤ R.cells) (hs : slots + rm.slots ≤ R.slots)
    (k : ∀ v T' L', Q v L' → Here p l e R s m args below meth c Z a0 tbl own nm bc mxl rt n0 T' L' (cells + rm.cells) (slots + rm.slots) → Go p e below F (T'.setTop (mkF m q Ls (v.toList ++ st)))) : Go p e below F (T.setTop (mkF m pc Ls stk)) := by
  obtain ⟨⟨hx, hZ, hown, hby, hml, hww, hnm, hrt, hlk⟩, locs, X, N, Z0, P⟩ := id A
  obtain ⟨ps, r, hps, hle⟩ := hlen
  subst hst hq
  obtain ⟨cq, kq, qa, qb, qc⟩ := isOf (T := T) hZ rfl (P.1 _ (List.mem_of_getElem? hL)).2.1
  obtain ⟨v, _, ⟨T1, L1, k1, n1⟩, -, X1, ⟨Lc, hQ, l1, y1, z1⟩, st1⟩ := X.virtualBack hx (y := y) (z := y) hown (mvT hZ (hww _ (List.mem_of_getElem? h1))) (mvT hZ (hww _ (List.mem_of_getElem? h2))) (notFace_of_selects (args := #[]) (mvT hZ (hww _ (List.mem_of_getElem? h5)))) (mvT hZ (hww _ (List.mem_of_getElem? h5))) (mvT hZ (hww _ (List.mem_of_getElem? h6))) hy (backOf (W := W) (Q := fun v h Lc => Fr n0 Lc ∧ n0 ≤ h.size ∧ ∃ L', Q v L' ∧ Pic Z n0 h L') (hT T.heap [] Z0 P) hZ (hww _ (List.mem_of_getElem? h4)) (hww _ (List.mem_of_getElem? h3)) hf hl) qa qc (g := mkF m pc Ls (as.reverse ++ .ref a :: st)) rfl (by rw [hml]; exact hsz) (Steps.refl _) (argsL := as) (rest := st) (lenOf hps hle) rfl (by show 2 * 0 + _ ≤ _; omega) (hb hby hd) (fun _ _ => ⟨rfl, rfl, hc, hs⟩)
  dsimp only [Pt.U, Pt.locs, Pt.cells, Pt.slots] at X1 l1 y1 z1 st1 hQ
  subst l1 y1 z1
  obtain ⟨Nq, Zq, L', q, Pq⟩ := hQ
  exact Go.st (fun t h => st1.trans h) (k v T1 L' q ⟨A.1, _, X1, N.app Nq, Zq, Pq⟩)

theorem Here.callP (A : Here p l e R s m args below meth c Z a0 tbl own nm bc mxl rt n0 T L cells slots) {pc q index W i w1 w2 w3 w4 w5 w6 kk : Nat} {Ls : Array Slot} {st stk : List Value} {a : Addr} {C : String} {fs : List ((String × String × String) × Value)} {y : MethodName} {bytes : ByteArray} {ml : Nat} {rt' : Option FieldType} {rm : Room} {as : List Value} {Q : Option Value → Obs → Prop} (hd : decode bc pc = .ok (.invokevirtual index, 3)) (hq : pc + 3 = q) (hL : L[i]? = some (a, .inl (C, fs))) (h1 : tbl[w1]? = some (Jvm.Cond.methodLink own index y)) (h2 : tbl[w2]? = some (Jvm.Cond.privateMethod y)) (h5 : tbl[w5]? = some (Jvm.Cond.instantiable y.cls kk)) (h6 : tbl[w6]? = some (Jvm.Cond.instanceMethod y)) (h3 : tbl[w3]? = some (Jvm.Cond.initialized y.cls)) (h4 : tbl[w4]? = some (Jvm.Cond.code y bytes ml rt')) (hT : Triple l Z n0 y bytes ml rt' rm rm.cells rm.slots (.ref a :: as) L Q) (hy : y.cls ≠ "java/lang/invoke/MethodHandle" ∧ y.cls ≠ "java/lang/invoke/VarHandle") (hlen : ∃ ps r, parseMethodDescriptor y.desc = some ⟨ps, r⟩ ∧ as.length = ps.length) (hst : stk = as.reverse ++ .ref a :: st) (hsz : Ls.size = mxl) (hW : (st.map fun v => v.category).sum = W) (hf : rm.frames + 1 ≤ R.frames) (hl : W + (ml + 11) + rm.locals ≤ R.locals) (hc : cells + rm.cells ≤ R.cells) (hs : slots + rm.slots ≤ R.slots)
    (k : ∀ v T' L', Q v L' → Here p l e R s m args below meth c Z a0 tbl own nm bc mxl rt n0 T' L' (cells + rm.cells) (slots + rm.slots) → Go p e below F (T'.setTop (mkF m q Ls (v.toList ++ st)))) : Go p e below F (T.setTop (mkF m pc Ls stk)) := by
  obtain ⟨⟨hx, hZ, hown, hby, hml, hww, hnm, hrt, hlk⟩, locs, X, N, Z0, P⟩ := id A
  obtain ⟨ps, r, hps, hle⟩ := hlen
  subst hst hq
  have hp : s.PrivateAt y := Cond.privateMethod_at (mvP hZ (hww _ (List.mem_of_getElem? h2)) (args := #[]))
  have hin : (Jvm.Cond.instanceMethod y).before args s = true := mvT hZ (hww _ (List.mem_of_getElem? h6))
  have hit : (Jvm.Cond.instantiable y.cls kk).before args s = true := mvT hZ (hww _ (List.mem_of_getElem? h5))
  obtain ⟨cI, kI, i1, i2, -, i4, -⟩ := Cond.instantiable_spec hit
  have hni : kI.isInterface = false := by simp only [Bool.or_eq_false_iff] at i4; exact i4.1
  have hsel := selects_self_of_private (args := args) i1 i2 hni hp hin hy
  obtain ⟨cq, q1, q2⟩ := (P.1 _ (List.mem_of_getElem? hL)).2.1.cell
  obtain ⟨v, _, ⟨T1, L1, k1, n1⟩, -, X1, ⟨Lc, hQ, l1, y1, z1⟩, st1⟩ := X.privateBack hx (y := y) hown (mvT hZ (hww _ (List.mem_of_getElem? h1))) hin hsel hp (mvT hZ (hww _ (List.mem_of_getElem? h4))) hy (backOf (W := W) (Q := fun v h Lc => Fr n0 Lc ∧ n0 ≤ h.size ∧ ∃ L', Q v L' ∧ Pic Z n0 h L') (hT T.heap [] Z0 P) hZ (hww _ (List.mem_of_getElem? h4)) (hww _ (List.mem_of_getElem? h3)) hf hl) (g := mkF m pc Ls (as.reverse ++ .ref a :: st)) rfl (by rw [hml]; exact hsz) (Steps.refl _) (a := a) q1 q2 (argsL := as) (rest := st) (lenOf hps hle) rfl (by show 2 * 0 + _ ≤ _; omega) (hb hby hd) (fun _ _ => ⟨rfl, rfl, hc, hs⟩)
  dsimp only [Pt.U, Pt.locs, Pt.cells, Pt.slots] at X1 l1 y1 z1 st1 hQ
  subst l1 y1 z1
  obtain ⟨Nq, Zq, L', q, Pq⟩ := hQ
  exact Go.st (fun t h => st1.trans h) (k v T1 L' q ⟨A.1, _, X1, N.app Nq, Zq, Pq⟩)
theorem Here.pop2L (A : Here p l e R s m args below meth c Z a0 tbl own nm bc mxl rt n0 T L cells slots) {pc q : Nat} {Ls : Array Slot} {st : List Value} {x : Int64} (hd : decode bc pc = .ok (.pop2, 1)) (hq : pc + 1 = q) (k : Go p e below F (T.setTop (mkF m q Ls st))) : Go p e below F (T.setTop (mkF m pc Ls (.long x :: st))) := by
  obtain ⟨⟨hx, hZ, hown, hby, hml, hww, hnm, hrt, hlk⟩, locs, X, N, Z0, P⟩ := id A
  subst hq
  have hd' := hb hby hd
  refine Go.st (fun t h => ?_) k
  show Steps p.tables e below (T.setTop { method := m, pc := pc, locals := Ls, stack := _ :: st, locked := none }) _
  jvm_step X.here [X.here.top, hx, hd', Value.category]
  exact h

theorem Here.copyAll (A : Here p l e R s m args below meth c Z a0 tbl own nm bc mxl rt n0 T L cells slots) {pc q index W w1 w2 w3 w4 i j : Nat} {Ls : Array Slot} {st : List Value} {a b : Addr} {ty : FieldType} {vs vd : List Value} {nn : Int32} {L' : Obs} (hd : decode bc pc = .ok (.invokestatic index, 3)) (hq : pc + 3 = q) (h1 : tbl[w1]? = some (Jvm.Cond.methodLink own index Jvm.Stand.acN)) (h2 : tbl[w2]? = some (Jvm.Cond.native Jvm.Stand.acN)) (h3 : tbl[w3]? = some (Jvm.Cond.static Jvm.Stand.acN)) (h4 : tbl[w4]? = some (Jvm.Cond.initialized "java/lang/System")) (hi : L[i]? = some (a, .inr (ty, vs))) (hj : L[j]? = some (b, .inr (ty, vd))) (hr : refKind ty = false) (hn : vd.length = vs.length) (hnn : vs.length.toInt32 = nn)
    (hsz : Ls.size = mxl) (hW : (st.map fun v => v.category).sum = W) (hf : 1 ≤ R.frames) (hlo : W + (nativeFrameWords "java/lang/System" "arraycopy" 5 + 11) ≤ R.locals) (hL' : L.set j (b, .inr (ty, vs)) = L') (k : ∀ T', Here p l e R s m args below meth c Z a0 tbl own nm bc mxl rt n0 T' L' cells slots → Go p e below F (T'.setTop (mkF m q Ls st))) : Go p e below F (T.setTop (mkF m pc Ls (.int nn :: .int 0 :: .ref b :: .int 0 :: .ref a :: st))) := by
  obtain ⟨⟨hx, hZ, hown, hby, hml, hww, hnm, hrt, hlk⟩, locs, X, N, Z0, P⟩ := id A
  have Ia := P.1 _ (List.mem_of_getElem? hi)
  have Ib := P.1 _ (List.mem_of_getElem? hj)
  have Ib2 : Ara Z T.heap b ty vd := Ib.2
  have Ia2 : Ara Z T.heap a ty vs := Ia.2
  obtain ⟨ka, VA, la, na⟩ := Ia2.toArv (defaultValue ty)
  obtain ⟨kb, VB, lb, nb⟩ := Ib2.toArv (defaultValue ty)
  rw [hn] at VB lb
  subst hq hnn hL'
  have z0 : (0 : Int32).toNatClampNeg = 0 := by decide
  obtain ⟨T', h', L1, X', e', N', K, V', st'⟩ := cpA X hx hZ hown (hww _ (List.mem_of_getElem? h1)) (hww _ (List.mem_of_getElem? h2)) (hww _ (List.mem_of_getElem? h3)) (hww _ (List.mem_of_getElem? h4)) rfl VA VB (Or.inl ⟨rfl, hr⟩) (sp := 0) (dp := 0) (by decide) (by decide) na (by rw [z0]; omega) (by rw [z0]; omega) rfl (by rw [z0]; omega) N Ib.1 (g := mkF m pc Ls (.int vs.length.toInt32 :: .int 0 :: .ref b :: .int 0 :: .ref a :: st)) rfl (by rw [hml]; exact hsz) rfl (hb hby hd) hf (W := W) (by show 2 * 0 + _ ≤ _; omega) hlo
  subst e'
  have ev : vd.take (0 : Int32).toNatClampNeg ++ (List.range vs.length.toInt32.toNatClampNeg).map (fun i => vs.getD ((0 : Int32).toNatClampNeg + i) (defaultValue ty)) ++ vd.drop ((0 : Int32).toNatClampNeg + vs.length.toInt32.toNatClampNeg) = vs := by
    rw [z0, la, List.take_zero, List.nil_append, List.drop_eq_nil_of_le (by omega), List.append_nil]
    refine List.ext_getElem? fun i => ?_
    by_cases hi' : i < vs.length
    · rw [List.getElem?_map, List.getElem?_range hi']; simp [List.getD_eq_getElem?_getD, hi']
    · rw [List.getElem?_eq_none (by simp; omega), List.getElem?_eq_none (by omega)]
  rw [ev] at V'
  obtain ⟨_, _, _, l31, _, Eb⟩ := Ib2
  exact Go.st st' (k T' ⟨A.1, L1, X', N', Nat.le_trans Z0 K.1, P.setK K hj (Arv.toAra V' la (by rw [hn] at l31; exact l31) (Eb.keep K))⟩)

theorem Here.retV  (A : Here p l e R s m args below meth c Z a0 tbl own nm bc mxl none n0 T L cells slots) {pc kc ks : Nat} {Ls : Array Slot} {Q : Option Value → Obs → Prop} (hd : decode bc pc = .ok (.return_, 1)) (hc : cells ≤ kc) (hs : slots ≤ ks) (hQ : Q none L) : Go p e below (EndS below s n0 Z kc ks Q) (T.setTop (mkF m pc Ls [])) := by
  obtain ⟨⟨hx, hZ, hown, hby, hml, hww, hnm, hrt, hlk⟩, locs, X, N, Z0, P⟩ := id A
  obtain ⟨fs, hr, hrun, hended, hW, hsame⟩ := X.leave (v := none) (fun _ => rfl)
  refine ⟨T.setFrames fs, ?_, _, hrun, hended, _, locs, rfl, ⟨N, Z0, L, hQ, P⟩, ⟨_, rfl⟩, hW, hsame.mono hc hs⟩
  exact X.returnOut hx hrt (hb hby hd) hr
theorem Here.retZ {x v : Int32} (A : Here p l e R s m args below meth c Z a0 tbl own nm bc mxl (some .boolean) n0 T L cells slots) {pc kc ks : Nat} {Ls : Array Slot} {st : List Value} {Q : Option Value → Obs → Prop} (hd : decode bc pc = .ok (.ireturn, 1)) (hv : nar .boolean x = v) (hc : cells ≤ kc) (hs : slots ≤ ks) (hQ : Q (some (.int v)) L) : Go p e below (EndS below s n0 Z kc ks Q) (T.setTop (mkF m pc Ls (.int x :: st))) := by
  obtain ⟨⟨hx, hZ, hown, hby, hml, hww, hnm, hrt, hlk⟩, locs, X, N, Z0, P⟩ := id A
  obtain ⟨fs, hr, hrun, hended, hW, hsame⟩ := X.leave (v := (some (.int v))) (fun h => by rw [hrt] at h; cases h)
  refine ⟨T.setFrames fs, ?_, _, hrun, hended, _, locs, rfl, ⟨N, Z0, L, hQ, P⟩, ⟨_, rfl⟩, hW, hsame.mono hc hs⟩
  subst hv; exact retN X hx (t := .boolean) hrt (by simp) (hb hby hd) hr
theorem Here.retB {x v : Int32} (A : Here p l e R s m args below meth c Z a0 tbl own nm bc mxl (some .byte) n0 T L cells slots) {pc kc ks : Nat} {Ls : Array Slot} {st : List Value} {Q : Option Value → Obs → Prop} (hd : decode bc pc = .ok (.ireturn, 1)) (hv : nar .byte x = v) (hc : cells ≤ kc) (hs : slots ≤ ks) (hQ : Q (some (.int v)) L) : Go p e below (EndS below s n0 Z kc ks Q) (T.setTop (mkF m pc Ls (.int x :: st))) := by
  obtain ⟨⟨hx, hZ, hown, hby, hml, hww, hnm, hrt, hlk⟩, locs, X, N, Z0, P⟩ := id A
  obtain ⟨fs, hr, hrun, hended, hW, hsame⟩ := X.leave (v := (some (.int v))) (fun h => by rw [hrt] at h; cases h)
  refine ⟨T.setFrames fs, ?_, _, hrun, hended, _, locs, rfl, ⟨N, Z0, L, hQ, P⟩, ⟨_, rfl⟩, hW, hsame.mono hc hs⟩
  subst hv; exact retN X hx (t := .byte) hrt (by simp) (hb hby hd) hr
theorem Here.retI {x : Int32} (A : Here p l e R s m args below meth c Z a0 tbl own nm bc mxl (some .int) n0 T L cells slots) {pc kc ks : Nat} {Ls : Array Slot} {st : List Value} {Q : Option Value → Obs → Prop} (hd : decode bc pc = .ok (.ireturn, 1)) (hc : cells ≤ kc) (hs : slots ≤ ks) (hQ : Q (some (.int x)) L) : Go p e below (EndS below s n0 Z kc ks Q) (T.setTop (mkF m pc Ls (.int x :: st))) := by
  obtain ⟨⟨hx, hZ, hown, hby, hml, hww, hnm, hrt, hlk⟩, locs, X, N, Z0, P⟩ := id A
  obtain ⟨fs, hr, hrun, hended, hW, hsame⟩ := X.leave (v := (some (.int x))) (fun h => by rw [hrt] at h; cases h)
  refine ⟨T.setFrames fs, ?_, _, hrun, hended, _, locs, rfl, ⟨N, Z0, L, hQ, P⟩, ⟨_, rfl⟩, hW, hsame.mono hc hs⟩
  exact retOut X hx (t := .int) hrt rfl (Or.inl ⟨rfl, Or.inl rfl, _, rfl⟩) (hb hby hd) hr
theorem Here.retJ {x : Int64} (A : Here p l e R s m args below meth c Z a0 tbl own nm bc mxl (some .long) n0 T L cells slots) {pc kc ks : Nat} {Ls : Array Slot} {st : List Value} {Q : Option Value → Obs → Prop} (hd : decode bc pc = .ok (.lreturn, 1)) (hc : cells ≤ kc) (hs : slots ≤ ks) (hQ : Q (some (.long x)) L) : Go p e below (EndS below s n0 Z kc ks Q) (T.setTop (mkF m pc Ls (.long x :: st))) := by
  obtain ⟨⟨hx, hZ, hown, hby, hml, hww, hnm, hrt, hlk⟩, locs, X, N, Z0, P⟩ := id A
  obtain ⟨fs, hr, hrun, hended, hW, hsame⟩ := X.leave (v := (some (.long x))) (fun h => by rw [hrt] at h; cases h)
  refine ⟨T.setFrames fs, ?_, _, hrun, hended, _, locs, rfl, ⟨N, Z0, L, hQ, P⟩, ⟨_, rfl⟩, hW, hsame.mono hc hs⟩
  exact retOut X hx (t := .long) hrt rfl (Or.inr (Or.inl ⟨rfl, rfl, _, rfl⟩)) (hb hby hd) hr
theorem Here.retA {x : Value} {t : FieldType} (A : Here p l e R s m args below meth c Z a0 tbl own nm bc mxl (some t) n0 T L cells slots) {pc kc ks : Nat} {Ls : Array Slot} {st : List Value} {Q : Option Value → Obs → Prop} (hd : decode bc pc = .ok (.areturn, 1)) (hrf : x.isRef = true) (htr : t.isReference = true) (hnn : narrow t x = x) (hc : cells ≤ kc) (hs : slots ≤ ks) (hQ : Q (some x) L) : Go p e below (EndS below s n0 Z kc ks Q) (T.setTop (mkF m pc Ls (x :: st))) := by
  obtain ⟨⟨hx, hZ, hown, hby, hml, hww, hnm, hrt, hlk⟩, locs, X, N, Z0, P⟩ := id A
  obtain ⟨fs, hr, hrun, hended, hW, hsame⟩ := X.leave (v := (some x)) (fun h => by rw [hrt] at h; cases h)
  refine ⟨T.setFrames fs, ?_, _, hrun, hended, _, locs, rfl, ⟨N, Z0, L, hQ, P⟩, ⟨_, rfl⟩, hW, hsame.mono hc hs⟩
  exact retOut X hx (t := t) hrt hnn (Or.inr (Or.inr (Or.inr (Or.inr ⟨rfl, htr, hrf⟩)))) (hb hby hd) hr
end Walk
abbrev ob0 (v0 v1 : Value) : Ob := .inl ("com/example/capabind/capabind/description/Work", [(("com/example/capabind/capabind/description/Work", "limit", "J"), v0), (("com/example/capabind/capabind/description/Work", "spent", "J"), v1)])
theorem lay_0 (Z : State) (a0 : Array Value) (hw : ∀ d ∈ tables_1, d.before a0 Z = true) : Lays Z a0 "com/example/capabind/capabind/description/Work" [("com/example/capabind/capabind/description/Work", "limit", "J"), ("com/example/capabind/capabind/description/Work", "spent", "J")] := by
  refine ⟨fun q hq => ?_, by decide⟩
  simp only [List.mem_cons, List.not_mem_nil, or_false] at hq
  rcases hq with rfl | rfl
  · exact ⟨Or.inr (hw _ (List.mem_of_getElem? (i := 11) rfl)), .long, by decide⟩
  · exact ⟨Or.inl (hw _ (List.mem_of_getElem? (i := 18) rfl)), .long, by decide⟩
theorem d1_0 : decode prog_26_method_1_code 0 = .ok (.aload_n 0, 1) := by decide +kernel
theorem d1_1 : decode prog_26_method_1_code 1 = .ok (.invokespecial 1, 3) := by decide +kernel
theorem d1_4 : decode prog_26_method_1_code 4 = .ok (.aload_n 0, 1) := by decide +kernel
theorem d1_5 : decode prog_26_method_1_code 5 = .ok (.lload_n 1, 1) := by decide +kernel
theorem d1_6 : decode prog_26_method_1_code 6 = .ok (.putfield 7, 3) := by decide +kernel
theorem d1_9 : decode prog_26_method_1_code 9 = .ok (.return_, 1) := by decide +kernel
theorem pn_1 : plainFor (⟨"com/example/capabind/capabind/description/Work", "<init>", "(J)V"⟩ : MethodName) = true := plainFor_of_name (by first | (simp [plainName, overriddenIn]; done) | decide +kernel)
set_option maxRecDepth 65536 in
set_option maxHeartbeats 8000000 in
theorem rm1 (l : Launch) (Z : State) (a0 : Array Value) (hw : ∀ d ∈ tables_1, d.before a0 Z = true) (n0 : Nat) (r0 : Addr) (x0 : Int64) (RR : Obs) :
    Triple l Z n0 (⟨"com/example/capabind/capabind/description/Work", "<init>", "(J)V"⟩ : MethodName) prog_26_method_1_code 3 none ({ frames := 1, cells := 0, slots := 0, locals := 12 } : Room) 0 0 [(.ref r0), (.long x0)] ((r0, ob0 (.long (0 : Int64)) (.long (0 : Int64))) :: RR) (fun v L' => v = none ∧ L' = ((r0, ob0 (.long x0) (.long (0 : Int64))) :: RR)) := by
  refine Triple.of_body (tbl := tables_1) (a0 := a0) (Ls := #[.val (.ref r0), .val (.long x0), .second]) pn_1 hw rfl ?_
  intro p e s m below meth c T A
  refine A.aloadN (q := 1) d1_0 rfl rfl rfl ?_
  refine A.initObj (q := 4) (w1 := 7) (w2 := 8) (w3 := 9) (W := 0) d1_1 rfl rfl rfl rfl rfl rfl (by decide) (by decide) ?_
  intro T A
  refine A.aloadN (q := 5) d1_4 rfl rfl rfl ?_
  refine A.lloadN (q := 6) d1_5 rfl rfl ?_
  refine A.putF (q := 9) (w := 10) (w2 := 11) (w3 := 2) (i := 0) (j := 0) (ty := .long) (v' := (.long x0)) (L' := ((r0, ob0 (.long x0) (.long (0 : Int64))) :: RR)) d1_6 rfl rfl rfl rfl (lay_0 Z a0 hw) (Or.inr ⟨rfl, rfl, rfl⟩) rfl (by decide) rfl rfl rfl ?_
  intro T A
  exact A.retV d1_9 (by decide) (by decide) ⟨rfl, rfl⟩
def FM (x0 : Int64) (y0 : Int64) : Int64 := (if y0 < x0 then y0 else x0)
theorem d5_0 : decode jdk_29_method_70_code 0 = .ok (.lload_n 0, 1) := by decide +kernel
theorem d5_1 : decode jdk_29_method_70_code 1 = .ok (.lload_n 2, 1) := by decide +kernel
theorem d5_2 : decode jdk_29_method_70_code 2 = .ok (.lcmp, 1) := by decide +kernel
theorem d5_3 : decode jdk_29_method_70_code 3 = .ok (.ifCond .gt 7, 3) := by decide +kernel
theorem d5_6 : decode jdk_29_method_70_code 6 = .ok (.lload_n 0, 1) := by decide +kernel
theorem d5_7 : decode jdk_29_method_70_code 7 = .ok (.goto 4, 3) := by decide +kernel
theorem d5_10 : decode jdk_29_method_70_code 10 = .ok (.lload_n 2, 1) := by decide +kernel
theorem d5_11 : decode jdk_29_method_70_code 11 = .ok (.lreturn, 1) := by decide +kernel
theorem pn_5 : plainFor (⟨"java/lang/Math", "min", "(JJ)J"⟩ : MethodName) = true := Jvm.Free.JP.mathPlain rfl (by decide +kernel)
set_option maxRecDepth 65536 in
set_option maxHeartbeats 8000000 in
theorem rmM (l : Launch) (Z : State) (a0 : Array Value) (hw : ∀ d ∈ tables_1, d.before a0 Z = true) (n0 : Nat) (x0 : Int64) (y0 : Int64) (RR : Obs) :
    Triple l Z n0 (⟨"java/lang/Math", "min", "(JJ)J"⟩ : MethodName) jdk_29_method_70_code 4 (some .long) ({ frames := 0, cells := 0, slots := 0, locals := 0 } : Room) 0 0 [(.long x0), (.long y0)] (RR) (fun v L' => v = some (.long (FM x0 y0)) ∧ L' = (RR)) := by
  refine Triple.of_body (tbl := tables_1) (a0 := a0) (Ls := #[.val (.long x0), .second, .val (.long y0), .second]) pn_5 hw rfl ?_
  intro p e s m below meth c T A
  refine A.lloadN (q := 1) d5_0 rfl rfl ?_
  refine A.lloadN (q := 2) d5_1 rfl rfl ?_
  refine A.lcmp_gt (q := 3) (q2 := 6) (r := 10) d5_2 rfl d5_3 rfl (by decide) (fun h1 => ?_) (fun h1 => ?_)
  · refine A.lloadN (q := 11) d5_10 rfl rfl ?_
    exact A.retJ d5_11 (by decide) (by decide) ⟨(by simp only [FM, if_pos h1]), by first | rfl | (simp only [if_pos h1])⟩
  · refine A.lloadN (q := 7) d5_6 rfl rfl ?_
    refine A.goto (r := 11) d5_7 (by decide) ?_
    exact A.retJ d5_11 (by decide) (by decide) ⟨(by simp only [FM, if_neg h1]), by first | rfl | (simp only [if_neg h1])⟩
def FS (x0 : Int64) (f_limit : Int64) (f_spent : Int64) : Int32 := (if f_limit < (f_spent + x0) then (0 : Int32) else (1 : Int32))
theorem d3_0 : decode prog_26_method_2_code 0 = .ok (.aload_n 0, 1) := by decide +kernel
theorem d3_1 : decode prog_26_method_2_code 1 = .ok (.dup, 1) := by decide +kernel
theorem d3_2 : decode prog_26_method_2_code 2 = .ok (.getfield 13, 3) := by decide +kernel
theorem d3_5 : decode prog_26_method_2_code 5 = .ok (.lload_n 1, 1) := by decide +kernel
theorem d3_6 : decode prog_26_method_2_code 6 = .ok (.ladd, 1) := by decide +kernel
theorem d3_7 : decode prog_26_method_2_code 7 = .ok (.putfield 13, 3) := by decide +kernel
theorem d3_10 : decode prog_26_method_2_code 10 = .ok (.aload_n 0, 1) := by decide +kernel
theorem d3_11 : decode prog_26_method_2_code 11 = .ok (.getfield 13, 3) := by decide +kernel
theorem d3_14 : decode prog_26_method_2_code 14 = .ok (.aload_n 0, 1) := by decide +kernel
theorem d3_15 : decode prog_26_method_2_code 15 = .ok (.getfield 7, 3) := by decide +kernel
theorem d3_18 : decode prog_26_method_2_code 18 = .ok (.lcmp, 1) := by decide +kernel
theorem d3_19 : decode prog_26_method_2_code 19 = .ok (.ifCond .gt 7, 3) := by decide +kernel
theorem d3_22 : decode prog_26_method_2_code 22 = .ok (.iconst 1, 1) := by decide +kernel
theorem d3_23 : decode prog_26_method_2_code 23 = .ok (.goto 4, 3) := by decide +kernel
theorem d3_26 : decode prog_26_method_2_code 26 = .ok (.iconst 0, 1) := by decide +kernel
theorem d3_27 : decode prog_26_method_2_code 27 = .ok (.ireturn, 1) := by decide +kernel
theorem pn_3 : plainFor (⟨"com/example/capabind/capabind/description/Work", "spend", "(J)Z"⟩ : MethodName) = true := plainFor_of_name (by first | (simp [plainName, overriddenIn]; done) | decide +kernel)
set_option maxRecDepth 65536 in
set_option maxHeartbeats 8000000 in
theorem rmS (l : Launch) (Z : State) (a0 : Array Value) (hw : ∀ d ∈ tables_1, d.before a0 Z = true) (n0 : Nat) (r0 : Addr) (x0 : Int64) (f_limit : Int64) (f_spent : Int64) (RR : Obs) :
    Triple l Z n0 (⟨"com/example/capabind/capabind/description/Work", "spend", "(J)Z"⟩ : MethodName) prog_26_method_2_code 3 (some .boolean) ({ frames := 0, cells := 0, slots := 0, locals := 0 } : Room) 0 0 [(.ref r0), (.long x0)] ((r0, ob0 (.long f_limit) (.long f_spent)) :: RR) (fun v L' => v = some (.int (FS x0 f_limit f_spent)) ∧ L' = ((r0, ob0 (.long f_limit) (.long (f_spent + x0))) :: RR)) := by
  refine Triple.of_body (tbl := tables_1) (a0 := a0) (Ls := #[.val (.ref r0), .val (.long x0), .second]) pn_3 hw rfl ?_
  intro p e s m below meth c T A
  refine A.aloadN (q := 1) d3_0 rfl rfl rfl ?_
  refine A.dup (q := 2) d3_1 rfl rfl ?_
  refine A.getF (q := 5) (w := 17) (i := 0) (j := 1) d3_2 rfl rfl rfl rfl ?_
  intro T A
  refine A.lloadN (q := 6) d3_5 rfl rfl ?_
  obtain ⟨v1, e1⟩ : ∃ v : Int64, f_spent + x0 = v := ⟨_, rfl⟩
  refine A.ladd (q := 7) d3_6 rfl e1 ?_
  refine A.putF (q := 10) (w := 17) (w2 := 18) (w3 := 2) (i := 0) (j := 1) (ty := .long) (v' := (.long v1)) (L' := ((r0, ob0 (.long f_limit) (.long v1)) :: RR)) d3_7 rfl rfl rfl rfl (lay_0 Z a0 hw) (Or.inl rfl) rfl (by decide) rfl rfl rfl ?_
  intro T A
  refine A.aloadN (q := 11) d3_10 rfl rfl rfl ?_
  refine A.getF (q := 14) (w := 17) (i := 0) (j := 1) d3_11 rfl rfl rfl rfl ?_
  intro T A
  refine A.aloadN (q := 15) d3_14 rfl rfl rfl ?_
  refine A.getF (q := 18) (w := 10) (i := 0) (j := 0) d3_15 rfl rfl rfl rfl ?_
  intro T A
  refine A.lcmp_gt (q := 19) (q2 := 22) (r := 26) d3_18 rfl d3_19 rfl (by decide) (fun h2 => ?_) (fun h2 => ?_)
  · refine A.iconst (q := 27) (v := (0 : Int32)) d3_26 rfl (by decide) ?_
    subst e1
    exact A.retZ (v := (FS x0 f_limit f_spent)) d3_27 (by simp only [FS, if_pos h2]; rfl) (by decide) (by decide) ⟨rfl, by first | rfl | (simp only [if_pos h2])⟩
  · refine A.iconst (q := 23) (v := (1 : Int32)) d3_22 rfl (by decide) ?_
    refine A.goto (r := 27) d3_23 (by decide) ?_
    subst e1
    exact A.retZ (v := (FS x0 f_limit f_spent)) d3_27 (by simp only [FS, if_neg h2]; rfl) (by decide) (by decide) ⟨rfl, by first | rfl | (simp only [if_neg h2])⟩
theorem pd_0 : parseMethodDescriptor "(JJ)J" = some ⟨[.long, .long], some .long⟩ := by decide +kernel
theorem d4_0 : decode prog_26_method_3_code 0 = .ok (.aload_n 0, 1) := by decide +kernel
theorem d4_1 : decode prog_26_method_3_code 1 = .ok (.getfield 13, 3) := by decide +kernel
theorem d4_4 : decode prog_26_method_3_code 4 = .ok (.aload_n 0, 1) := by decide +kernel
theorem d4_5 : decode prog_26_method_3_code 5 = .ok (.getfield 7, 3) := by decide +kernel
theorem d4_8 : decode prog_26_method_3_code 8 = .ok (.invokestatic 16, 3) := by decide +kernel
theorem d4_11 : decode prog_26_method_3_code 11 = .ok (.lreturn, 1) := by decide +kernel
theorem pn_4 : plainFor (⟨"com/example/capabind/capabind/description/Work", "spent", "()J"⟩ : MethodName) = true := plainFor_of_name (by first | (simp [plainName, overriddenIn]; done) | decide +kernel)
set_option maxRecDepth 65536 in
set_option maxHeartbeats 8000000 in
theorem rmT (l : Launch) (Z : State) (a0 : Array Value) (hw : ∀ d ∈ tables_1, d.before a0 Z = true) (n0 : Nat) (r0 : Addr) (f_limit : Int64) (f_spent : Int64) (RR : Obs) :
    Triple l Z n0 (⟨"com/example/capabind/capabind/description/Work", "spent", "()J"⟩ : MethodName) prog_26_method_3_code 1 (some .long) ({ frames := 1, cells := 0, slots := 0, locals := 15 } : Room) 0 0 [(.ref r0)] ((r0, ob0 (.long f_limit) (.long f_spent)) :: RR) (fun v L' => v = some (.long ((FM f_spent f_limit))) ∧ L' = ((r0, ob0 (.long f_limit) (.long f_spent)) :: RR)) := by
  refine Triple.of_body (tbl := tables_1) (a0 := a0) (Ls := #[.val (.ref r0)]) pn_4 hw rfl ?_
  intro p e s m below meth c T A
  refine A.aloadN (q := 1) d4_0 rfl rfl rfl ?_
  refine A.getF (q := 4) (w := 17) (i := 0) (j := 1) d4_1 rfl rfl rfl rfl ?_
  intro T A
  refine A.aloadN (q := 5) d4_4 rfl rfl rfl ?_
  refine A.getF (q := 8) (w := 10) (i := 0) (j := 0) d4_5 rfl rfl rfl rfl ?_
  intro T A
  refine A.callS (q := 11) (w1 := 24) (w2 := 25) (w3 := 26) (w4 := 27) (as := [(.long f_spent), (.long f_limit)]) (st := []) (W := 0) d4_8 rfl rfl rfl rfl rfl (rmM l Z a0 hw n0 f_spent f_limit _) (by decide) ⟨_, _, pd_0, rfl⟩ rfl rfl rfl (by decide) (by decide) (by decide) (by decide) ?_
  rintro _ T _ ⟨rfl, rfl⟩ A
  show Go p e below _ (T.setTop (mkF m 11 #[.val (.ref r0)] [(.long (FM f_spent f_limit))]))
  obtain ⟨v1, e1⟩ : ∃ v : Int64, (FM f_spent f_limit) = v := ⟨_, rfl⟩
  rw [e1]
  subst e1
  exact A.retJ d4_11 (by decide) (by decide) ⟨rfl, rfl⟩
def FO (f_limit : Int64) (f_spent : Int64) : Int32 := (if f_limit < f_spent then (1 : Int32) else (0 : Int32))
theorem d6_0 : decode prog_26_method_4_code 0 = .ok (.aload_n 0, 1) := by decide +kernel
theorem d6_1 : decode prog_26_method_4_code 1 = .ok (.getfield 13, 3) := by decide +kernel
theorem d6_4 : decode prog_26_method_4_code 4 = .ok (.aload_n 0, 1) := by decide +kernel
theorem d6_5 : decode prog_26_method_4_code 5 = .ok (.getfield 7, 3) := by decide +kernel
theorem d6_8 : decode prog_26_method_4_code 8 = .ok (.lcmp, 1) := by decide +kernel
theorem d6_9 : decode prog_26_method_4_code 9 = .ok (.ifCond .le 7, 3) := by decide +kernel
theorem d6_12 : decode prog_26_method_4_code 12 = .ok (.iconst 1, 1) := by decide +kernel
theorem d6_13 : decode prog_26_method_4_code 13 = .ok (.goto 4, 3) := by decide +kernel
theorem d6_16 : decode prog_26_method_4_code 16 = .ok (.iconst 0, 1) := by decide +kernel
theorem d6_17 : decode prog_26_method_4_code 17 = .ok (.ireturn, 1) := by decide +kernel
theorem pn_6 : plainFor (⟨"com/example/capabind/capabind/description/Work", "ranOut", "()Z"⟩ : MethodName) = true := plainFor_of_name (by first | (simp [plainName, overriddenIn]; done) | decide +kernel)
set_option maxRecDepth 65536 in
set_option maxHeartbeats 8000000 in
theorem rmO (l : Launch) (Z : State) (a0 : Array Value) (hw : ∀ d ∈ tables_1, d.before a0 Z = true) (n0 : Nat) (r0 : Addr) (f_limit : Int64) (f_spent : Int64) (RR : Obs) :
    Triple l Z n0 (⟨"com/example/capabind/capabind/description/Work", "ranOut", "()Z"⟩ : MethodName) prog_26_method_4_code 1 (some .boolean) ({ frames := 0, cells := 0, slots := 0, locals := 0 } : Room) 0 0 [(.ref r0)] ((r0, ob0 (.long f_limit) (.long f_spent)) :: RR) (fun v L' => v = some (.int (FO f_limit f_spent)) ∧ L' = ((r0, ob0 (.long f_limit) (.long f_spent)) :: RR)) := by
  refine Triple.of_body (tbl := tables_1) (a0 := a0) (Ls := #[.val (.ref r0)]) pn_6 hw rfl ?_
  intro p e s m below meth c T A
  refine A.aloadN (q := 1) d6_0 rfl rfl rfl ?_
  refine A.getF (q := 4) (w := 17) (i := 0) (j := 1) d6_1 rfl rfl rfl rfl ?_
  intro T A
  refine A.aloadN (q := 5) d6_4 rfl rfl rfl ?_
  refine A.getF (q := 8) (w := 10) (i := 0) (j := 0) d6_5 rfl rfl rfl rfl ?_
  intro T A
  refine A.lcmp_le (q := 9) (q2 := 12) (r := 16) d6_8 rfl d6_9 rfl (by decide) (fun h1 => ?_) (fun h1 => ?_)
  · refine A.iconst (q := 17) (v := (0 : Int32)) d6_16 rfl (by decide) ?_
    exact A.retZ (v := (FO f_limit f_spent)) d6_17 (by simp only [FO, if_neg h1]; rfl) (by decide) (by decide) ⟨rfl, by first | rfl | (simp only [if_neg h1])⟩
  · refine A.iconst (q := 13) (v := (1 : Int32)) d6_12 rfl (by decide) ?_
    refine A.goto (r := 17) d6_13 (by decide) ?_
    exact A.retZ (v := (FO f_limit f_spent)) d6_17 (by simp only [FO, if_pos h1]; rfl) (by decide) (by decide) ⟨rfl, by first | rfl | (simp only [if_pos h1])⟩
theorem pd_1 : parseMethodDescriptor "(J)V" = some ⟨[.long], none⟩ := by decide +kernel
theorem pd_2 : parseMethodDescriptor "(J)Z" = some ⟨[.long], some .boolean⟩ := by decide +kernel
theorem pd_3 : parseMethodDescriptor "()J" = some ⟨[], some .long⟩ := by decide +kernel
theorem pd_4 : parseMethodDescriptor "()Z" = some ⟨[], some .boolean⟩ := by decide +kernel
theorem pn_0 : plainFor (⟨"com/example/capabind/capabind/description/WorkSpendPinLaw", "law", "(JJJ)Z"⟩ : MethodName) = true := plainFor_of_name (by first | (simp [plainName, overriddenIn]; done) | decide +kernel)
set_option maxRecDepth 65536 in
set_option maxHeartbeats 8000000 in
theorem rm0 (l : Launch) (Z : State) (a0 : Array Value) (hw : ∀ d ∈ tables_1, d.before a0 Z = true) (n0 : Nat) (lim ra rb : Int64) :
    Triple l Z n0 x code 22 (some .boolean) room_1 16 128 [(.long lim), (.long ra), (.long rb)] [] (fun v _ => v = some (.int 1)) := by
  refine Triple.of_body (tbl := tables_1) (a0 := a0) (Ls := #[.val (.long lim), .second, .val (.long ra), .second, .val (.long rb), .second, .unset, .unset, .unset, .unset, .unset, .unset, .unset, .unset, .unset, .unset, .unset, .unset, .unset, .unset, .unset, .unset]) pn_0 hw rfl ?_
  intro p e s m below meth c T A
  refine A.lloadN (q := 1) at_0 rfl rfl ?_
  refine A.ldc2_w (q := 4) (v := (2305843009213693951 : Int64)) (w := 0) at_1 rfl rfl ?_
  obtain ⟨v1, e1⟩ : ∃ v : Int64, ra &&& (2305843009213693951 : Int64) = v := ⟨_, rfl⟩
  refine A.land (q := 5) at_4 rfl e1 ?_
  refine A.lstore (q := 7) (l' := #[.val (.long lim), .second, .val (.long ra), .second, .val (.long rb), .second, .val (.long v1), .second, .unset, .unset, .unset, .unset, .unset, .unset, .unset, .unset, .unset, .unset, .unset, .unset, .unset, .unset]) at_5 rfl rfl ?_
  refine A.lload (q := 9) at_7 rfl rfl ?_
  refine A.ldc2_w (q := 12) (v := (2305843009213693951 : Int64)) (w := 0) at_9 rfl rfl ?_
  obtain ⟨v2, e2⟩ : ∃ v : Int64, rb &&& (2305843009213693951 : Int64) = v := ⟨_, rfl⟩
  refine A.land (q := 13) at_12 rfl e2 ?_
  refine A.lstore (q := 15) (l' := #[.val (.long lim), .second, .val (.long ra), .second, .val (.long rb), .second, .val (.long v1), .second, .val (.long v2), .second, .unset, .unset, .unset, .unset, .unset, .unset, .unset, .unset, .unset, .unset, .unset, .unset]) at_13 rfl rfl ?_
  refine A.newO (q := 18) (w1 := 1) (w2 := 2) (w3 := 3) (n := 2) (fs := [(("com/example/capabind/capabind/description/Work", "limit", "J"), (.long (0 : Int64))), (("com/example/capabind/capabind/description/Work", "spent", "J"), (.long (0 : Int64)))]) at_15 rfl rfl rfl rfl (lay_0 Z a0 hw) (by decide) (by decide) (by decide) ?_
  intro T b3 A
  refine A.dup (q := 19) at_18 rfl rfl ?_
  refine A.lloadN (q := 20) at_19 rfl rfl ?_
  refine A.callI (q := 23) (w1 := 4) (w2 := 5) (w3 := 3) (w4 := 6) (a := b3) (as := [(.long lim)]) (st := [(.ref b3)]) (W := 1) at_20 rfl rfl rfl rfl rfl rfl (rm1 l Z a0 hw n0 b3 lim _) (by decide) ⟨_, _, pd_1, rfl⟩ rfl rfl rfl (by decide) (by decide) (by decide) (by decide) ?_
  rintro _ T _ ⟨rfl, rfl⟩ A
  show Go p e below _ (T.setTop (mkF m 23 #[.val (.long lim), .second, .val (.long ra), .second, .val (.long rb), .second, .val (.long v1), .second, .val (.long v2), .second, .unset, .unset, .unset, .unset, .unset, .unset, .unset, .unset, .unset, .unset, .unset, .unset] [(.ref b3)]))
  refine A.astore (q := 25) (l' := #[.val (.long lim), .second, .val (.long ra), .second, .val (.long rb), .second, .val (.long v1), .second, .val (.long v2), .second, .val (.ref b3), .unset, .unset, .unset, .unset, .unset, .unset, .unset, .unset, .unset, .unset, .unset]) at_23 rfl rfl rfl ?_
  refine A.aload (q := 27) at_25 rfl rfl rfl ?_
  refine A.lload (q := 29) at_27 rfl rfl ?_
  refine A.callV (q := 32) (i := 0) (w1 := 12) (w2 := 13) (w3 := 3) (w4 := 16) (w5 := 15) (w6 := 14) (a := b3) (as := [(.long v1)]) (st := []) (W := 0) at_29 rfl rfl rfl rfl rfl rfl rfl rfl (rmS l Z a0 hw n0 b3 v1 lim (0 : Int64) _) (by decide) ⟨_, _, pd_2, rfl⟩ rfl rfl rfl (by decide) (by decide) (by decide) (by decide) ?_
  rintro _ T _ ⟨rfl, rfl⟩ A
  show Go p e below _ (T.setTop (mkF m 32 #[.val (.long lim), .second, .val (.long ra), .second, .val (.long rb), .second, .val (.long v1), .second, .val (.long v2), .second, .val (.ref b3), .unset, .unset, .unset, .unset, .unset, .unset, .unset, .unset, .unset, .unset, .unset] [(.int (FS v1 lim (0 : Int64)))]))
  obtain ⟨v4, e4⟩ : ∃ v : Int32, (FS v1 lim (0 : Int64)) = v := ⟨_, rfl⟩
  rw [e4]
  refine A.istore (q := 34) (l' := #[.val (.long lim), .second, .val (.long ra), .second, .val (.long rb), .second, .val (.long v1), .second, .val (.long v2), .second, .val (.ref b3), .val (.int v4), .unset, .unset, .unset, .unset, .unset, .unset, .unset, .unset, .unset, .unset]) at_32 rfl rfl ?_
  refine A.iload (q := 36) at_34 rfl rfl ?_
  have J36_6 : ∀ (T : State) (j6 : Int32), j6 = (if lim < v1 then (0 : Int32) else (1 : Int32)) → Here p l e room_1 s m ([(.long lim), (.long ra), (.long rb)] : List Value).toArray below meth c Z a0 tables_1 x.cls x.name code 22 (some .boolean) n0 T [(b3, ob0 (.long lim) (.long ((0 : Int64) + v1)))] 1 2 → Go p e below (EndS below s n0 Z 16 128 (fun v _ => v = some (.int 1))) (T.setTop (mkF m 48 #[.val (.long lim), .second, .val (.long ra), .second, .val (.long rb), .second, .val (.long v1), .second, .val (.long v2), .second, .val (.ref b3), .val (.int v4), .unset, .unset, .unset, .unset, .unset, .unset, .unset, .unset, .unset, .unset] [(.int j6), (.int v4)])) := by
   intro T j6 ej6 A
   have z_j6 : nar .boolean j6 = j6 := by rw [ej6]; (repeat' split) <;> first | decide | assumption
   refine A.icmpF (q := 51) at_48 rfl (teq (by subst e1 e2 e4 ej6; simp only [FS, FO, FM, Int64.zero_add] : v4 = j6)).2 ?_
   refine A.iconst (q := 52) (v := (1 : Int32)) at_51 rfl (by decide) ?_
   refine A.goto (r := 56) at_52 (by decide) ?_
   refine A.istore (q := 58) (l' := #[.val (.long lim), .second, .val (.long ra), .second, .val (.long rb), .second, .val (.long v1), .second, .val (.long v2), .second, .val (.ref b3), .val (.int v4), .val (.int (1 : Int32)), .unset, .unset, .unset, .unset, .unset, .unset, .unset, .unset, .unset]) at_56 rfl rfl ?_
   refine A.aload (q := 60) at_58 rfl rfl rfl ?_
   refine A.callV (q := 63) (i := 0) (w1 := 19) (w2 := 20) (w3 := 3) (w4 := 23) (w5 := 22) (w6 := 21) (a := b3) (as := []) (st := []) (W := 0) at_60 rfl rfl rfl rfl rfl rfl rfl rfl (rmT l Z a0 hw n0 b3 lim ((0 : Int64) + v1) _) (by decide) ⟨_, _, pd_3, rfl⟩ rfl rfl rfl (by decide) (by decide) (by decide) (by decide) ?_
   rintro _ T _ ⟨rfl, rfl⟩ A
   show Go p e below _ (T.setTop (mkF m 63 #[.val (.long lim), .second, .val (.long ra), .second, .val (.long rb), .second, .val (.long v1), .second, .val (.long v2), .second, .val (.ref b3), .val (.int v4), .val (.int (1 : Int32)), .unset, .unset, .unset, .unset, .unset, .unset, .unset, .unset, .unset] [(.long ((FM ((0 : Int64) + v1) lim)))]))
   obtain ⟨v8, e8⟩ : ∃ v : Int64, ((FM ((0 : Int64) + v1) lim)) = v := ⟨_, rfl⟩
   rw [e8]
   refine A.lload (q := 65) at_63 rfl rfl ?_
   refine A.lloadN (q := 66) at_65 rfl rfl ?_
   refine A.callS (q := 69) (w1 := 28) (w2 := 25) (w3 := 26) (w4 := 27) (as := [(.long v1), (.long lim)]) (st := [(.long v8)]) (W := 2) at_66 rfl rfl rfl rfl rfl (rmM l Z a0 hw n0 v1 lim _) (by decide) ⟨_, _, pd_0, rfl⟩ rfl rfl rfl (by decide) (by decide) (by decide) (by decide) ?_
   rintro _ T _ ⟨rfl, rfl⟩ A
   show Go p e below _ (T.setTop (mkF m 69 #[.val (.long lim), .second, .val (.long ra), .second, .val (.long rb), .second, .val (.long v1), .second, .val (.long v2), .second, .val (.ref b3), .val (.int v4), .val (.int (1 : Int32)), .unset, .unset, .unset, .unset, .unset, .unset, .unset, .unset, .unset] [(.long (FM v1 lim)), (.long v8)]))
   obtain ⟨v9, e9⟩ : ∃ v : Int64, (FM v1 lim) = v := ⟨_, rfl⟩
   rw [e9]
   refine A.lcmp_ne (q := 70) (q2 := 73) (r := 77) at_69 rfl at_70 rfl (by decide) (fun h => (h (by subst e1 e2 e4 ej6 e8 e9; simp only [FM, Int64.zero_add] : v8 = v9)).elim) (fun _ => ?_)
   refine A.iconst (q := 74) (v := (1 : Int32)) at_73 rfl (by decide) ?_
   refine A.goto (r := 78) at_74 (by decide) ?_
   refine A.istore (q := 80) (l' := #[.val (.long lim), .second, .val (.long ra), .second, .val (.long rb), .second, .val (.long v1), .second, .val (.long v2), .second, .val (.ref b3), .val (.int v4), .val (.int (1 : Int32)), .val (.int (1 : Int32)), .unset, .unset, .unset, .unset, .unset, .unset, .unset, .unset]) at_78 rfl rfl ?_
   refine A.aload (q := 82) at_80 rfl rfl rfl ?_
   refine A.callV (q := 85) (i := 0) (w1 := 29) (w2 := 30) (w3 := 3) (w4 := 33) (w5 := 32) (w6 := 31) (a := b3) (as := []) (st := []) (W := 0) at_82 rfl rfl rfl rfl rfl rfl rfl rfl (rmO l Z a0 hw n0 b3 lim ((0 : Int64) + v1) _) (by decide) ⟨_, _, pd_4, rfl⟩ rfl rfl rfl (by decide) (by decide) (by decide) (by decide) ?_
   rintro _ T _ ⟨rfl, rfl⟩ A
   show Go p e below _ (T.setTop (mkF m 85 #[.val (.long lim), .second, .val (.long ra), .second, .val (.long rb), .second, .val (.long v1), .second, .val (.long v2), .second, .val (.ref b3), .val (.int v4), .val (.int (1 : Int32)), .val (.int (1 : Int32)), .unset, .unset, .unset, .unset, .unset, .unset, .unset, .unset] [(.int (FO lim ((0 : Int64) + v1)))]))
   obtain ⟨v11, e11⟩ : ∃ v : Int32, (FO lim ((0 : Int64) + v1)) = v := ⟨_, rfl⟩
   rw [e11]
   have J85_13 : ∀ (T : State) (j13 : Int32), j13 = (if lim < v1 then (1 : Int32) else (0 : Int32)) → Here p l e room_1 s m ([(.long lim), (.long ra), (.long rb)] : List Value).toArray below meth c Z a0 tables_1 x.cls x.name code 22 (some .boolean) n0 T [(b3, ob0 (.long lim) (.long ((0 : Int64) + v1)))] 1 2 → Go p e below (EndS below s n0 Z 16 128 (fun v _ => v = some (.int 1))) (T.setTop (mkF m 97 #[.val (.long lim), .second, .val (.long ra), .second, .val (.long rb), .second, .val (.long v1), .second, .val (.long v2), .second, .val (.ref b3), .val (.int v4), .val (.int (1 : Int32)), .val (.int (1 : Int32)), .unset, .unset, .unset, .unset, .unset, .unset, .unset, .unset] [(.int j13), (.int v11)])) := by
    intro T j13 ej13 A
    have z_j13 : nar .boolean j13 = j13 := by rw [ej13]; (repeat' split) <;> first | decide | assumption
    refine A.icmpF (q := 100) at_97 rfl (teq (by subst e1 e2 e4 ej6 e8 e9 e11 ej13; simp only [FS, FO, FM, Int64.zero_add] : v11 = j13)).2 ?_
    refine A.iconst (q := 101) (v := (1 : Int32)) at_100 rfl (by decide) ?_
    refine A.goto (r := 105) at_101 (by decide) ?_
    refine A.istore (q := 107) (l' := #[.val (.long lim), .second, .val (.long ra), .second, .val (.long rb), .second, .val (.long v1), .second, .val (.long v2), .second, .val (.ref b3), .val (.int v4), .val (.int (1 : Int32)), .val (.int (1 : Int32)), .val (.int (1 : Int32)), .unset, .unset, .unset, .unset, .unset, .unset, .unset]) at_105 rfl rfl ?_
    refine A.lload (q := 109) at_107 rfl rfl ?_
    refine A.lload (q := 111) at_109 rfl rfl ?_
    obtain ⟨v15, e15⟩ : ∃ v : Int64, v1 + v2 = v := ⟨_, rfl⟩
    refine A.ladd (q := 112) at_111 rfl e15 ?_
    refine A.lstore (q := 114) (l' := #[.val (.long lim), .second, .val (.long ra), .second, .val (.long rb), .second, .val (.long v1), .second, .val (.long v2), .second, .val (.ref b3), .val (.int v4), .val (.int (1 : Int32)), .val (.int (1 : Int32)), .val (.int (1 : Int32)), .val (.long v15), .second, .unset, .unset, .unset, .unset, .unset]) at_112 rfl rfl ?_
    refine A.aload (q := 116) at_114 rfl rfl rfl ?_
    refine A.lload (q := 118) at_116 rfl rfl ?_
    refine A.callV (q := 121) (i := 0) (w1 := 12) (w2 := 13) (w3 := 3) (w4 := 16) (w5 := 15) (w6 := 14) (a := b3) (as := [(.long v2)]) (st := []) (W := 0) at_118 rfl rfl rfl rfl rfl rfl rfl rfl (rmS l Z a0 hw n0 b3 v2 lim ((0 : Int64) + v1) _) (by decide) ⟨_, _, pd_2, rfl⟩ rfl rfl rfl (by decide) (by decide) (by decide) (by decide) ?_
    rintro _ T _ ⟨rfl, rfl⟩ A
    show Go p e below _ (T.setTop (mkF m 121 #[.val (.long lim), .second, .val (.long ra), .second, .val (.long rb), .second, .val (.long v1), .second, .val (.long v2), .second, .val (.ref b3), .val (.int v4), .val (.int (1 : Int32)), .val (.int (1 : Int32)), .val (.int (1 : Int32)), .val (.long v15), .second, .unset, .unset, .unset, .unset, .unset] [(.int (FS v2 lim ((0 : Int64) + v1)))]))
    obtain ⟨v16, e16⟩ : ∃ v : Int32, (FS v2 lim ((0 : Int64) + v1)) = v := ⟨_, rfl⟩
    rw [e16]
    refine A.istore (q := 123) (l' := #[.val (.long lim), .second, .val (.long ra), .second, .val (.long rb), .second, .val (.long v1), .second, .val (.long v2), .second, .val (.ref b3), .val (.int v4), .val (.int (1 : Int32)), .val (.int (1 : Int32)), .val (.int (1 : Int32)), .val (.long v15), .second, .val (.int v16), .unset, .unset, .unset, .unset]) at_121 rfl rfl ?_
    refine A.iload (q := 125) at_123 rfl rfl ?_
    have J125_18 : ∀ (T : State) (j18 : Int32), j18 = (if lim < v15 then (0 : Int32) else (1 : Int32)) → Here p l e room_1 s m ([(.long lim), (.long ra), (.long rb)] : List Value).toArray below meth c Z a0 tables_1 x.cls x.name code 22 (some .boolean) n0 T [(b3, ob0 (.long lim) (.long (((0 : Int64) + v1) + v2)))] 1 2 → Go p e below (EndS below s n0 Z 16 128 (fun v _ => v = some (.int 1))) (T.setTop (mkF m 137 #[.val (.long lim), .second, .val (.long ra), .second, .val (.long rb), .second, .val (.long v1), .second, .val (.long v2), .second, .val (.ref b3), .val (.int v4), .val (.int (1 : Int32)), .val (.int (1 : Int32)), .val (.int (1 : Int32)), .val (.long v15), .second, .val (.int v16), .unset, .unset, .unset, .unset] [(.int j18), (.int v16)])) := by
     intro T j18 ej18 A
     have z_j18 : nar .boolean j18 = j18 := by rw [ej18]; (repeat' split) <;> first | decide | assumption
     refine A.icmpF (q := 140) at_137 rfl (teq (by subst e1 e2 e4 ej6 e8 e9 e11 ej13 e15 e16 ej18; simp only [FS, FO, FM, Int64.zero_add] : v16 = j18)).2 ?_
     refine A.iconst (q := 141) (v := (1 : Int32)) at_140 rfl (by decide) ?_
     refine A.goto (r := 145) at_141 (by decide) ?_
     refine A.istore (q := 147) (l' := #[.val (.long lim), .second, .val (.long ra), .second, .val (.long rb), .second, .val (.long v1), .second, .val (.long v2), .second, .val (.ref b3), .val (.int v4), .val (.int (1 : Int32)), .val (.int (1 : Int32)), .val (.int (1 : Int32)), .val (.long v15), .second, .val (.int v16), .val (.int (1 : Int32)), .unset, .unset, .unset]) at_145 rfl rfl ?_
     refine A.aload (q := 149) at_147 rfl rfl rfl ?_
     refine A.callV (q := 152) (i := 0) (w1 := 19) (w2 := 20) (w3 := 3) (w4 := 23) (w5 := 22) (w6 := 21) (a := b3) (as := []) (st := []) (W := 0) at_149 rfl rfl rfl rfl rfl rfl rfl rfl (rmT l Z a0 hw n0 b3 lim (((0 : Int64) + v1) + v2) _) (by decide) ⟨_, _, pd_3, rfl⟩ rfl rfl rfl (by decide) (by decide) (by decide) (by decide) ?_
     rintro _ T _ ⟨rfl, rfl⟩ A
     show Go p e below _ (T.setTop (mkF m 152 #[.val (.long lim), .second, .val (.long ra), .second, .val (.long rb), .second, .val (.long v1), .second, .val (.long v2), .second, .val (.ref b3), .val (.int v4), .val (.int (1 : Int32)), .val (.int (1 : Int32)), .val (.int (1 : Int32)), .val (.long v15), .second, .val (.int v16), .val (.int (1 : Int32)), .unset, .unset, .unset] [(.long ((FM (((0 : Int64) + v1) + v2) lim)))]))
     obtain ⟨v20, e20⟩ : ∃ v : Int64, ((FM (((0 : Int64) + v1) + v2) lim)) = v := ⟨_, rfl⟩
     rw [e20]
     refine A.lload (q := 154) at_152 rfl rfl ?_
     refine A.lloadN (q := 155) at_154 rfl rfl ?_
     refine A.callS (q := 158) (w1 := 28) (w2 := 25) (w3 := 26) (w4 := 27) (as := [(.long v15), (.long lim)]) (st := [(.long v20)]) (W := 2) at_155 rfl rfl rfl rfl rfl (rmM l Z a0 hw n0 v15 lim _) (by decide) ⟨_, _, pd_0, rfl⟩ rfl rfl rfl (by decide) (by decide) (by decide) (by decide) ?_
     rintro _ T _ ⟨rfl, rfl⟩ A
     show Go p e below _ (T.setTop (mkF m 158 #[.val (.long lim), .second, .val (.long ra), .second, .val (.long rb), .second, .val (.long v1), .second, .val (.long v2), .second, .val (.ref b3), .val (.int v4), .val (.int (1 : Int32)), .val (.int (1 : Int32)), .val (.int (1 : Int32)), .val (.long v15), .second, .val (.int v16), .val (.int (1 : Int32)), .unset, .unset, .unset] [(.long (FM v15 lim)), (.long v20)]))
     obtain ⟨v21, e21⟩ : ∃ v : Int64, (FM v15 lim) = v := ⟨_, rfl⟩
     rw [e21]
     refine A.lcmp_ne (q := 159) (q2 := 162) (r := 166) at_158 rfl at_159 rfl (by decide) (fun h => (h (by subst e1 e2 e4 ej6 e8 e9 e11 ej13 e15 e16 ej18 e20 e21; simp only [FM, Int64.zero_add] : v20 = v21)).elim) (fun _ => ?_)
     refine A.iconst (q := 163) (v := (1 : Int32)) at_162 rfl (by decide) ?_
     refine A.goto (r := 167) at_163 (by decide) ?_
     refine A.istore (q := 169) (l' := #[.val (.long lim), .second, .val (.long ra), .second, .val (.long rb), .second, .val (.long v1), .second, .val (.long v2), .second, .val (.ref b3), .val (.int v4), .val (.int (1 : Int32)), .val (.int (1 : Int32)), .val (.int (1 : Int32)), .val (.long v15), .second, .val (.int v16), .val (.int (1 : Int32)), .val (.int (1 : Int32)), .unset, .unset]) at_167 rfl rfl ?_
     refine A.aload (q := 171) at_169 rfl rfl rfl ?_
     refine A.callV (q := 174) (i := 0) (w1 := 29) (w2 := 30) (w3 := 3) (w4 := 33) (w5 := 32) (w6 := 31) (a := b3) (as := []) (st := []) (W := 0) at_171 rfl rfl rfl rfl rfl rfl rfl rfl (rmO l Z a0 hw n0 b3 lim (((0 : Int64) + v1) + v2) _) (by decide) ⟨_, _, pd_4, rfl⟩ rfl rfl rfl (by decide) (by decide) (by decide) (by decide) ?_
     rintro _ T _ ⟨rfl, rfl⟩ A
     show Go p e below _ (T.setTop (mkF m 174 #[.val (.long lim), .second, .val (.long ra), .second, .val (.long rb), .second, .val (.long v1), .second, .val (.long v2), .second, .val (.ref b3), .val (.int v4), .val (.int (1 : Int32)), .val (.int (1 : Int32)), .val (.int (1 : Int32)), .val (.long v15), .second, .val (.int v16), .val (.int (1 : Int32)), .val (.int (1 : Int32)), .unset, .unset] [(.int (FO lim (((0 : Int64) + v1) + v2)))]))
     obtain ⟨v23, e23⟩ : ∃ v : Int32, (FO lim (((0 : Int64) + v1) + v2)) = v := ⟨_, rfl⟩
     rw [e23]
     have J174_25 : ∀ (T : State) (j25 : Int32), j25 = (if lim < v15 then (1 : Int32) else (0 : Int32)) → Here p l e room_1 s m ([(.long lim), (.long ra), (.long rb)] : List Value).toArray below meth c Z a0 tables_1 x.cls x.name code 22 (some .boolean) n0 T [(b3, ob0 (.long lim) (.long (((0 : Int64) + v1) + v2)))] 1 2 → Go p e below (EndS below s n0 Z 16 128 (fun v _ => v = some (.int 1))) (T.setTop (mkF m 186 #[.val (.long lim), .second, .val (.long ra), .second, .val (.long rb), .second, .val (.long v1), .second, .val (.long v2), .second, .val (.ref b3), .val (.int v4), .val (.int (1 : Int32)), .val (.int (1 : Int32)), .val (.int (1 : Int32)), .val (.long v15), .second, .val (.int v16), .val (.int (1 : Int32)), .val (.int (1 : Int32)), .unset, .unset] [(.int j25), (.int v23)])) := by
      intro T j25 ej25 A
      have z_j25 : nar .boolean j25 = j25 := by rw [ej25]; (repeat' split) <;> first | decide | assumption
      refine A.icmpF (q := 189) at_186 rfl (teq (by subst e1 e2 e4 ej6 e8 e9 e11 ej13 e15 e16 ej18 e20 e21 e23 ej25; simp only [FS, FO, FM, Int64.zero_add] : v23 = j25)).2 ?_
      refine A.iconst (q := 190) (v := (1 : Int32)) at_189 rfl (by decide) ?_
      refine A.goto (r := 194) at_190 (by decide) ?_
      refine A.istore (q := 196) (l' := #[.val (.long lim), .second, .val (.long ra), .second, .val (.long rb), .second, .val (.long v1), .second, .val (.long v2), .second, .val (.ref b3), .val (.int v4), .val (.int (1 : Int32)), .val (.int (1 : Int32)), .val (.int (1 : Int32)), .val (.long v15), .second, .val (.int v16), .val (.int (1 : Int32)), .val (.int (1 : Int32)), .val (.int (1 : Int32)), .unset]) at_194 rfl rfl ?_
      refine A.aload (q := 198) at_196 rfl rfl rfl ?_
      refine A.callV (q := 201) (i := 0) (w1 := 29) (w2 := 30) (w3 := 3) (w4 := 33) (w5 := 32) (w6 := 31) (a := b3) (as := []) (st := []) (W := 0) at_198 rfl rfl rfl rfl rfl rfl rfl rfl (rmO l Z a0 hw n0 b3 lim (((0 : Int64) + v1) + v2) _) (by decide) ⟨_, _, pd_4, rfl⟩ rfl rfl rfl (by decide) (by decide) (by decide) (by decide) ?_
      rintro _ T _ ⟨rfl, rfl⟩ A
      show Go p e below _ (T.setTop (mkF m 201 #[.val (.long lim), .second, .val (.long ra), .second, .val (.long rb), .second, .val (.long v1), .second, .val (.long v2), .second, .val (.ref b3), .val (.int v4), .val (.int (1 : Int32)), .val (.int (1 : Int32)), .val (.int (1 : Int32)), .val (.long v15), .second, .val (.int v16), .val (.int (1 : Int32)), .val (.int (1 : Int32)), .val (.int (1 : Int32)), .unset] [(.int (FO lim (((0 : Int64) + v1) + v2)))]))
      obtain ⟨v27, e27⟩ : ∃ v : Int32, (FO lim (((0 : Int64) + v1) + v2)) = v := ⟨_, rfl⟩
      rw [e27]
      have J201_29 : ∀ (T : State) (j29 : Int32), j29 = (if v16 = (0 : Int32) then (1 : Int32) else (0 : Int32)) → Here p l e room_1 s m ([(.long lim), (.long ra), (.long rb)] : List Value).toArray below meth c Z a0 tables_1 x.cls x.name code 22 (some .boolean) n0 T [(b3, ob0 (.long lim) (.long (((0 : Int64) + v1) + v2)))] 1 2 → Go p e below (EndS below s n0 Z 16 128 (fun v _ => v = some (.int 1))) (T.setTop (mkF m 211 #[.val (.long lim), .second, .val (.long ra), .second, .val (.long rb), .second, .val (.long v1), .second, .val (.long v2), .second, .val (.ref b3), .val (.int v4), .val (.int (1 : Int32)), .val (.int (1 : Int32)), .val (.int (1 : Int32)), .val (.long v15), .second, .val (.int v16), .val (.int (1 : Int32)), .val (.int (1 : Int32)), .val (.int (1 : Int32)), .unset] [(.int j29), (.int v27)])) := by
       intro T j29 ej29 A
       have z_j29 : nar .boolean j29 = j29 := by rw [ej29]; (repeat' split) <;> first | decide | assumption
       refine A.icmpF (q := 214) at_211 rfl (teq (by subst e1 e2 e4 ej6 e8 e9 e11 ej13 e15 e16 ej18 e20 e21 e23 ej25 e27 ej29; simp only [FS, FO, FM, Int64.zero_add]; split <;> rfl : v27 = j29)).2 ?_
       refine A.iconst (q := 215) (v := (1 : Int32)) at_214 rfl (by decide) ?_
       refine A.goto (r := 219) at_215 (by decide) ?_
       refine A.istore (q := 221) (l' := #[.val (.long lim), .second, .val (.long ra), .second, .val (.long rb), .second, .val (.long v1), .second, .val (.long v2), .second, .val (.ref b3), .val (.int v4), .val (.int (1 : Int32)), .val (.int (1 : Int32)), .val (.int (1 : Int32)), .val (.long v15), .second, .val (.int v16), .val (.int (1 : Int32)), .val (.int (1 : Int32)), .val (.int (1 : Int32)), .val (.int (1 : Int32))]) at_219 rfl rfl ?_
       refine A.iload (q := 223) at_221 rfl rfl ?_
       refine A.ifF (q := 226) at_223 rfl (by decide) ?_
       refine A.iload (q := 228) at_226 rfl rfl ?_
       refine A.ifF (q := 231) at_228 rfl (by decide) ?_
       refine A.iload (q := 233) at_231 rfl rfl ?_
       refine A.ifF (q := 236) at_233 rfl (by decide) ?_
       refine A.iload (q := 238) at_236 rfl rfl ?_
       refine A.ifF (q := 241) at_238 rfl (by decide) ?_
       refine A.iload (q := 243) at_241 rfl rfl ?_
       refine A.ifF (q := 246) at_243 rfl (by decide) ?_
       refine A.iload (q := 248) at_246 rfl rfl ?_
       refine A.ifF (q := 251) at_248 rfl (by decide) ?_
       refine A.iload (q := 253) at_251 rfl rfl ?_
       refine A.ifF (q := 256) at_253 rfl (by decide) ?_
       refine A.iconst (q := 257) (v := (1 : Int32)) at_256 rfl (by decide) ?_
       refine A.goto (r := 261) at_257 (by decide) ?_
       exact A.retZ (v := 1) at_261 (by decide) (by decide) (by decide) rfl
      refine A.iload (q := 203) at_201 rfl rfl ?_
      refine A.if_ne (q := 206) (r := 210) at_203 rfl (by decide) (fun h28 => ?_) (fun h28 => ?_)
      · refine A.iconst (q := 211) (v := (0 : Int32)) at_210 rfl (by decide) ?_
        exact J201_29 T _ (by simp only [if_neg h28]) A
      · refine A.iconst (q := 207) (v := (1 : Int32)) at_206 rfl (by decide) ?_
        refine A.goto (r := 211) at_207 (by decide) ?_
        exact J201_29 T _ (by simp only [if_pos h28]) A
     refine A.lload (q := 176) at_174 rfl rfl ?_
     refine A.lloadN (q := 177) at_176 rfl rfl ?_
     refine A.lcmp_le (q := 178) (q2 := 181) (r := 185) at_177 rfl at_178 rfl (by decide) (fun h24 => ?_) (fun h24 => ?_)
     · refine A.iconst (q := 186) (v := (0 : Int32)) at_185 rfl (by decide) ?_
       exact J174_25 T _ (by simp only [if_neg h24]) A
     · refine A.iconst (q := 182) (v := (1 : Int32)) at_181 rfl (by decide) ?_
       refine A.goto (r := 186) at_182 (by decide) ?_
       exact J174_25 T _ (by simp only [if_pos h24]) A
    refine A.lload (q := 127) at_125 rfl rfl ?_
    refine A.lloadN (q := 128) at_127 rfl rfl ?_
    refine A.lcmp_gt (q := 129) (q2 := 132) (r := 136) at_128 rfl at_129 rfl (by decide) (fun h17 => ?_) (fun h17 => ?_)
    · refine A.iconst (q := 137) (v := (0 : Int32)) at_136 rfl (by decide) ?_
      exact J125_18 T _ (by simp only [if_pos h17]) A
    · refine A.iconst (q := 133) (v := (1 : Int32)) at_132 rfl (by decide) ?_
      refine A.goto (r := 137) at_133 (by decide) ?_
      exact J125_18 T _ (by simp only [if_neg h17]) A
   refine A.lload (q := 87) at_85 rfl rfl ?_
   refine A.lloadN (q := 88) at_87 rfl rfl ?_
   refine A.lcmp_le (q := 89) (q2 := 92) (r := 96) at_88 rfl at_89 rfl (by decide) (fun h12 => ?_) (fun h12 => ?_)
   · refine A.iconst (q := 97) (v := (0 : Int32)) at_96 rfl (by decide) ?_
     exact J85_13 T _ (by simp only [if_neg h12]) A
   · refine A.iconst (q := 93) (v := (1 : Int32)) at_92 rfl (by decide) ?_
     refine A.goto (r := 97) at_93 (by decide) ?_
     exact J85_13 T _ (by simp only [if_pos h12]) A
  refine A.lload (q := 38) at_36 rfl rfl ?_
  refine A.lloadN (q := 39) at_38 rfl rfl ?_
  refine A.lcmp_gt (q := 40) (q2 := 43) (r := 47) at_39 rfl at_40 rfl (by decide) (fun h5 => ?_) (fun h5 => ?_)
  · refine A.iconst (q := 48) (v := (0 : Int32)) at_47 rfl (by decide) ?_
    exact J36_6 T _ (by simp only [if_pos h5]) A
  · refine A.iconst (q := 44) (v := (1 : Int32)) at_43 rfl (by decide) ?_
    refine A.goto (r := 48) at_44 (by decide) ?_
    exact J36_6 T _ (by simp only [if_neg h5]) A
set_option maxRecDepth 65536 in
set_option maxHeartbeats 8000000 in
theorem comes_1 {Post : Tables → Env → Array Value → State → Outcome → State → Prop} (hpost : ∀ tb e args s v u, (limb_1_1.after args s (.returned v) u = true ∧ limb_1_2.after args s (.returned v) u = true ∧ True) → FrameEnd s (.returned v) u (Jvm.fieldLocs frame_1_writes args s ++ Jvm.arrayLocs frame_1_arrays args s ++ Jvm.staticLocs frame_1_statics s) 16 128 → Post tb e args s (.returned v) u) :
    ArmFor flags0 classFile x code maxLocals ret World_1 tables_1 room_1 Calls_1 rest_1 Pre_1 Post := by
  intro l hfl _ _ p e ha hc hk s m args below hf hA hF happ hP
  obtain ⟨hcalls, hrest, hpre⟩ := hP
  obtain ⟨-, -, -, hnamed, -, -, -, hat⟩ := (Spec.applies_iff hf).mp happ
  obtain ⟨hg, hn⟩ := and_e (Cond.before_iff.mp (show (Jvm.Cond.and given_1 narrow_1).before args s = true from hpre))
  obtain ⟨g1, hg⟩ := and_e hg
  obtain ⟨gv0, hg⟩ := and_e hg
  obtain ⟨gv1, hg⟩ := and_e hg
  have gv2 := hg
  obtain ⟨w0, w1, w2, rfl⟩ : ∃ w0 w1 w2 : Value, args = #[w0, w1, w2] := by
    have hs : args.size = 3 := by simpa [Cond.value, given_1] using g1
    obtain ⟨L⟩ := args
    match L, hs with
    | [w0, w1, w2], _ => exact ⟨w0, w1, w2, rfl⟩
  have hw := fun d (hd : d ∈ tables_1) => atoms_spec (ws := Jvm.Cond.code x code maxLocals ret :: tables_1) hat d (List.mem_cons_of_mem _ hd)
  obtain ⟨i0, ei0⟩ := isL_v gv0
  obtain rfl : w0 = (.long i0) := Option.some.inj ei0
  obtain ⟨i1, ei1⟩ := isL_v gv1
  obtain rfl : w1 = (.long i1) := Option.some.inj ei1
  obtain ⟨i2, ei2⟩ := isL_v gv2
  obtain rfl : w2 = (.long i2) := Option.some.inj ei2
  obtain ⟨n, o, h1, h2, h3, _, L, rfl, ⟨N, _, L', rfl, _⟩, hq⟩ := rm0 l s _ hw s.heap.size i0 i1 i2 s.heap tables_1 (Nat.le_refl _) ⟨fun _ q => (nomatch q), List.nodup_nil⟩ p e ha hc hk s m _ below hf ((Spec.applies_iff_loose hf).mp happ).1 ⟨rfl, State.Warmed39.refl s, rfl⟩ trivial
  refine ⟨n, _, h1, h2, h3, hpost _ _ _ _ _ _ ⟨Cond.after_iff.mpr rfl, Cond.after_iff.mpr (eq_i res_at (Term.int_eval (1)) rfl), trivial⟩ ⟨hq.1, hq.2.1, hq.2.2.sift fun y hy => Or.inr (N y hy)⟩⟩
theorem main_1_1 : Claimed_1_1 := comes_1 fun _ _ _ _ _ _ h hF => ⟨h.1, hF⟩
theorem main_1_2 : Claimed_1_2 := comes_1 fun _ _ _ _ _ _ h hF => ⟨h.2.1, hF⟩
end Jvm.Pilot.@@N@@
namespace Jvm.Pilot.@@N@@
open Jvm Jvm.ClassFile Sem Op Lib Jvm.Free Jvm.Stand Jvm.Pilot.@@N@@.Jvm.D
/-! MADE BY PROGRAM (witnessworld.py) out of the Statement's table words and the real class files: 10 classes; the members and pool entries that the words name. The judged class is class 1, her method 1. -/
namespace start1
open Jvm.ClassFile
def u (s : String) : CpInfo := .utf8 (stringToUtf16 s)
/-- a pool by its gaps: so many unusable entries, then the entry; so many at the end -/
def gap : Nat → List CpInfo → List CpInfo
  | 0, r => r
  | n + 1, r => .unusable :: gap n r
def poolList (es : List (Nat × CpInfo)) (last : Nat) : List CpInfo := es.foldr (fun e r => gap e.1 (e.2 :: r)) (gap last [])
def pool (es : List (Nat × CpInfo)) (last : Nat) : Array CpInfo := ⟨poolList es last⟩
def fileOf (pool : Array CpInfo) (this : Nat) (attrs : Array Attribute := #[]) (ms : Array MethodInfo := #[]) (fl : Nat := 33) (sup : Nat := 0) (ifs : Array Nat := #[]) (fds : Array FieldInfo := #[]) : ClassFile where
  minorVersion := 0
  majorVersion := 65
  constantPool := pool
  accessFlags := fl
  thisClass := this
  superClass := sup
  interfaces := ifs
  fields := fds
  methods := ms
  attributes := attrs
def plain (name : String) (sup : Option ClassId) : Class where
  name := name
  kind := .ordinary
  loader := none
  accessFlags := 33
  super := sup
  interfaces := #[]
  cf := none
  fields := #[]
  methods := #[]
  instanceTypes := #[]
  staticTypes := #[]
  resolved := #[]
  callSites := []
  init := .initialized
  statics := none
  mirror := none

def pool0 : Array CpInfo := pool [(5, u "<init>"), (0, u "()V"), (1, .class_ 10), (1, u "java/lang/Object")] 113

def k0c0 : Code := { maxStack := 0, maxLocals := 1, code := object_method_1_code, exceptionTable := #[], attributes := #[] }
def k0m0 : Method := { name := "<init>", desc := "()V", sig := { parameters := [], returnType := none }, accessFlags := 1, code := some k0c0 }
/-- java/lang/Object -/
def k0 : Class := { plain "java/lang/Object" none with
  accessFlags := 33
  interfaces := #[]
  cf := some (fileOf pool0 8 #[] #[{ accessFlags := 1, nameIndex := 5, descriptorIndex := 6, attributes := #[] }] 33 0 #[] #[])
  fields := #[]
  methods := #[k0m0]
  instanceTypes := #[]
  staticTypes := #[]
  resolved := Array.replicate 124 none
  statics := none }

def pool1 : Array CpInfo := pool [(2, .class_ 4), (1, u "java/lang/Object"), (0, u "<init>"), (0, u "()V"), (0, .long 2305843009213693951), (1, .class_ 10), (0, u "com/example/capabind/capabind/description/Work"), (0, .methodref 9 12), (0, .nameAndType 5 13), (0, u "(J)V"), (0, .methodref 9 15), (0, .nameAndType 16 17), (0, u "spend"), (0, u "(J)Z"), (0, .methodref 9 19), (0, .nameAndType 20 21), (0, u "spent"), (0, u "()J"), (0, .methodref 23 24), (0, .class_ 25), (0, .nameAndType 26 27), (0, u "java/lang/Math"), (0, u "min"), (0, u "(JJ)J"), (0, .methodref 9 29), (0, .nameAndType 30 31), (0, u "ranOut"), (0, u "()Z"), (0, .class_ 33), (0, u "com/example/capabind/capabind/description/WorkSpendPinLaw"), (2, u "law"), (0, u "(JJJ)Z")] 3

def k1m0 : Method := { name := "<init>", desc := "()V", sig := { parameters := [], returnType := none }, accessFlags := 2, code := none }
def k1c1 : Code := { maxStack := 6, maxLocals := 22, code := code, exceptionTable := #[], attributes := #[] }
def k1m1 : Method := { name := "law", desc := "(JJJ)Z", sig := { parameters := [.long, .long, .long], returnType := some .boolean }, accessFlags := 9, code := some k1c1 }
/-- com/example/capabind/capabind/description/WorkSpendPinLaw -/
def k1 : Class := { plain "com/example/capabind/capabind/description/WorkSpendPinLaw" (some 0) with
  accessFlags := 49
  interfaces := #[]
  cf := some (fileOf pool1 32 #[] #[{ accessFlags := 2, nameIndex := 5, descriptorIndex := 6, attributes := #[] }, { accessFlags := 9, nameIndex := 36, descriptorIndex := 37, attributes := #[] }] 49 2 #[] #[])
  fields := #[]
  methods := #[k1m0, k1m1]
  instanceTypes := #[]
  staticTypes := #[]
  resolved := Array.replicate 41 none
  statics := none }

def pool2 : Array CpInfo := pool [(1, .methodref 2 3), (0, .class_ 4), (0, .nameAndType 5 6), (0, u "java/lang/Object"), (0, u "<init>"), (0, u "()V"), (0, .fieldref 8 9), (0, .class_ 10), (0, .nameAndType 11 12), (0, u "com/example/capabind/capabind/description/Work"), (0, u "limit"), (0, u "J"), (0, .fieldref 8 14), (0, .nameAndType 15 12), (0, u "spent"), (0, .methodref 17 18), (0, .class_ 19), (0, .nameAndType 20 21), (0, u "java/lang/Math"), (0, u "min"), (0, u "(JJ)J"), (0, u "PER_SEARCH"), (3, u "(J)V"), (2, u "spend"), (0, u "(J)Z"), (1, u "()J"), (0, u "ranOut"), (0, u "()Z")] 2

def k2c0 : Code := { maxStack := 3, maxLocals := 3, code := prog_26_method_1_code, exceptionTable := #[], attributes := #[] }
def k2m0 : Method := { name := "<init>", desc := "(J)V", sig := { parameters := [.long], returnType := none }, accessFlags := 1, code := some k2c0 }
def k2c1 : Code := { maxStack := 5, maxLocals := 3, code := prog_26_method_2_code, exceptionTable := #[], attributes := #[] }
def k2m1 : Method := { name := "spend", desc := "(J)Z", sig := { parameters := [.long], returnType := some .boolean }, accessFlags := 1, code := some k2c1 }
def k2c2 : Code := { maxStack := 4, maxLocals := 1, code := prog_26_method_3_code, exceptionTable := #[], attributes := #[] }
def k2m2 : Method := { name := "spent", desc := "()J", sig := { parameters := [], returnType := some .long }, accessFlags := 1, code := some k2c2 }
def k2c3 : Code := { maxStack := 4, maxLocals := 1, code := prog_26_method_4_code, exceptionTable := #[], attributes := #[] }
def k2m3 : Method := { name := "ranOut", desc := "()Z", sig := { parameters := [], returnType := some .boolean }, accessFlags := 1, code := some k2c3 }
/-- com/example/capabind/capabind/description/Work -/
def k2 : Class := { plain "com/example/capabind/capabind/description/Work" (some 0) with
  accessFlags := 49
  interfaces := #[]
  cf := some (fileOf pool2 8 #[] #[{ accessFlags := 1, nameIndex := 5, descriptorIndex := 26, attributes := #[] }, { accessFlags := 1, nameIndex := 29, descriptorIndex := 30, attributes := #[] }, { accessFlags := 1, nameIndex := 15, descriptorIndex := 32, attributes := #[] }, { accessFlags := 1, nameIndex := 33, descriptorIndex := 34, attributes := #[] }] 49 2 #[] #[{ accessFlags := 25, nameIndex := 22, descriptorIndex := 12, attributes := #[] }, { accessFlags := 18, nameIndex := 11, descriptorIndex := 12, attributes := #[] }, { accessFlags := 2, nameIndex := 15, descriptorIndex := 12, attributes := #[] }])
  fields := #[{ name := "PER_SEARCH", type := .long, accessFlags := 25, slot := 0, constantValue := 0 }, { name := "limit", type := .long, accessFlags := 18, slot := 0, constantValue := 0 }, { name := "spent", type := .long, accessFlags := 2, slot := 1, constantValue := 0 }]
  methods := #[k2m0, k2m1, k2m2, k2m3]
  instanceTypes := #[.long, .long]
  staticTypes := #[.long]
  resolved := Array.replicate 37 none
  statics := none }

def pool3 : Array CpInfo := pool [(1, .class_ 2), (0, u "java/lang/Math"), (1, .class_ 6), (1, u "java/lang/Object"), (0, u "<init>"), (0, u "()V"), (89, .class_ 100), (1, u "java/lang/Math$RandomNumberGeneratorHolder"), (20, u "(JJ)J"), (50, u "negativeZeroFloatBits"), (0, u "J"), (2, u "negativeZeroDoubleBits"), (24, u "min"), (43, u "$assertionsDisabled"), (0, u "Z"), (91, u "twoToTheDoubleScaleDown"), (0, u "D"), (4, u "twoToTheDoubleScaleUp"), (9, u "E"), (3, u "PI"), (2, u "TAU"), (2, u "DEGREES_TO_RADIANS"), (0, u "RADIANS_TO_DEGREES")] 94

def k3m0 : Method := { name := "<init>", desc := "()V", sig := { parameters := [], returnType := none }, accessFlags := 2, code := none }
def k3c1 : Code := { maxStack := 4, maxLocals := 4, code := jdk_29_method_70_code, exceptionTable := #[], attributes := #[] }
def k3m1 : Method := { name := "min", desc := "(JJ)J", sig := { parameters := [.long, .long], returnType := some .long }, accessFlags := 9, code := some k3c1 }
/-- java/lang/Math -/
def k3 : Class := { plain "java/lang/Math" (some 0) with
  accessFlags := 49
  interfaces := #[]
  cf := some (fileOf pool3 1 #[.nestMembers #[98]] #[{ accessFlags := 2, nameIndex := 7, descriptorIndex := 8, attributes := #[] }, { accessFlags := 9, nameIndex := 201, descriptorIndex := 121, attributes := #[] }] 49 4 #[] #[{ accessFlags := 25, nameIndex := 354, descriptorIndex := 339, attributes := #[] }, { accessFlags := 25, nameIndex := 358, descriptorIndex := 339, attributes := #[] }, { accessFlags := 25, nameIndex := 361, descriptorIndex := 339, attributes := #[] }, { accessFlags := 26, nameIndex := 364, descriptorIndex := 339, attributes := #[] }, { accessFlags := 26, nameIndex := 365, descriptorIndex := 339, attributes := #[] }, { accessFlags := 26, nameIndex := 172, descriptorIndex := 173, attributes := #[] }, { accessFlags := 26, nameIndex := 176, descriptorIndex := 173, attributes := #[] }, { accessFlags := 8, nameIndex := 344, descriptorIndex := 339, attributes := #[] }, { accessFlags := 8, nameIndex := 338, descriptorIndex := 339, attributes := #[] }, { accessFlags := 4120, nameIndex := 245, descriptorIndex := 246, attributes := #[] }])
  fields := #[{ name := "E", type := .double, accessFlags := 25, slot := 0, constantValue := 0 }, { name := "PI", type := .double, accessFlags := 25, slot := 1, constantValue := 0 }, { name := "TAU", type := .double, accessFlags := 25, slot := 2, constantValue := 0 }, { name := "DEGREES_TO_RADIANS", type := .double, accessFlags := 26, slot := 3, constantValue := 0 }, { name := "RADIANS_TO_DEGREES", type := .double, accessFlags := 26, slot := 4, constantValue := 0 }, { name := "negativeZeroFloatBits", type := .long, accessFlags := 26, slot := 5, constantValue := 0 }, { name := "negativeZeroDoubleBits", type := .long, accessFlags := 26, slot := 6, constantValue := 0 }, { name := "twoToTheDoubleScaleUp", type := .double, accessFlags := 8, slot := 7, constantValue := 0 }, { name := "twoToTheDoubleScaleDown", type := .double, accessFlags := 8, slot := 8, constantValue := 0 }, { name := "$assertionsDisabled", type := .boolean, accessFlags := 4120, slot := 9, constantValue := 0 }]
  methods := #[k3m0, k3m1]
  instanceTypes := #[]
  staticTypes := #[.double, .double, .double, .double, .double, .long, .long, .double, .double, .boolean]
  resolved := Array.replicate 460 none
  statics := none }

def pool4 : Array CpInfo := pool [(1, u "java/lang/Cloneable"), (0, .class_ 1), (0, u "java/lang/Object"), (0, .class_ 3)] 3

/-- java/lang/Cloneable -/
def k4 : Class := { plain "java/lang/Cloneable" (some 0) with
  accessFlags := 1537
  interfaces := #[]
  cf := some (fileOf pool4 2 #[] #[] 1537 4 #[] #[])
  fields := #[]
  methods := #[]
  instanceTypes := #[]
  staticTypes := #[]
  resolved := Array.replicate 8 none
  statics := none }

def pool5 : Array CpInfo := pool [(1, u "java/io/Serializable"), (0, .class_ 1), (0, u "java/lang/Object"), (0, .class_ 3)] 3

/-- java/io/Serializable -/
def k5 : Class := { plain "java/io/Serializable" (some 0) with
  accessFlags := 1537
  interfaces := #[]
  cf := some (fileOf pool5 2 #[] #[] 1537 4 #[] #[])
  fields := #[]
  methods := #[]
  instanceTypes := #[]
  staticTypes := #[]
  resolved := Array.replicate 8 none
  statics := none }

/-- the primitive byte -/
def k6 : Class := { plain "byte" none with kind := .primitive 'B', accessFlags := 0x411 }
/-- [B -/
def k7 : Class := { plain "[B" (some 0) with kind := .array 6 .byte, interfaces := #[4, 5], accessFlags := 1041 }

/-- the primitive int -/
def k8 : Class := { plain "int" none with kind := .primitive 'I', accessFlags := 0x411 }
/-- [I -/
def k9 : Class := { plain "[I" (some 0) with kind := .array 8 .int, interfaces := #[4, 5], accessFlags := 1041 }

def heap : Heap := #[]
def classes : Array Class := #[k0, k1, k2, k3, k4, k5, k6, k7, k8, k9]
def interned : List (Array UInt16 × Addr) := []
def slotsUsed : Nat := 0
def theMethod : MethodId := ⟨1, 1⟩
def args0 : Array Value := #[.long 5, .long 3, .long 1]
def aboutOver (below : List Frame) : State where
  vm := { classes := classes, interned := interned.toArray }
  heap := heap
  slotsUsed := slotsUsed
  threads := #[{ frames := .invoking theMethod args0 :: below }]
def below0 : List Frame := [.native { method := ⟨0, 0⟩, args := #[] }]
def about1 : State := aboutOver below0
def p0 : Program := .bare "" "" ""
def e0 : Env := launch0.env 0 0 0
theorem w_frames : about1.frames = Frame.invoking theMethod args0 :: below0 := rfl
set_option maxRecDepth 65536 in
theorem w_args : argsFit about1.vm theMethod args0 = true := by decide +kernel
set_option maxRecDepth 65536 in
theorem w_heap : heapFits about1 = true := by decide +kernel
set_option maxRecDepth 65536 in
theorem w_runnable : about1.curStatus? = some .runnable := by decide +kernel
set_option maxRecDepth 65536 in
theorem w_alone : about1.alone = true := by decide +kernel
set_option maxRecDepth 65536 in
theorem w_named : about1.methodNamed? x = some theMethod := by decide +kernel
set_option maxRecDepth 65536 in
theorem w_hears : about1.hears theMethod below0 = true := by decide +kernel
set_option maxRecDepth 65536 in
theorem w_ripe : about1.ripe theMethod args0 below0 = true := by decide +kernel
theorem w_running : about1.status = .running := rfl
set_option maxRecDepth 65536 in
theorem w_room : about1.hasRoom e0.platform room_1 = true :=
  launch0.hasRoom_least _ room_1 (by decide +kernel) (by decide +kernel) (by decide +kernel) (by decide +kernel) (by decide +kernel) (by decide +kernel)
theorem allAtoms_all (ts : List Jvm.Cond) (a : Array Jvm.Value) (st : Jvm.State) : (allAtoms ts).before a st = ts.all (fun c => c.before a st) := by
  induction ts with
  | nil => rfl
  | cons c t ih =>
    show (Jvm.Cond.and c (allAtoms t)).before a st = _
    rw [Jvm.Cond.before_and, ih, List.all_cons]
def words1 : List Jvm.Cond := Jvm.Cond.code x code maxLocals ret :: tables_1
/-- a 'code' word, met by the world's own term for the bytes: nothing is compared byte by byte -/
theorem code_word {y : MethodName} {bytes : ByteArray} {mx : Nat} {rt : Option FieldType} {a : Array Value} {s : State} {m : MethodId} {meth : Method} {c : Code} (h1 : s.methodNamed? y = some m) (h2 : s.vm.method? m = some meth) (h3 : meth.code = some c) (h4 : c.code = bytes)
    (h5 : (c.maxLocals == mx && c.exceptionTable.isEmpty && decide (c.maxStack ≤ mostOperands) && decide (meth.sig.returnType = rt) && !meth.locks && decide (parseMethodDescriptor y.desc = some meth.sig)) = true) : (Jvm.Cond.code y bytes mx rt).before a s = true := by
  simp only [Bool.and_eq_true, beq_iff_eq, Bool.not_eq_true', decide_eq_true_eq] at h5
  obtain ⟨⟨⟨⟨⟨g1, g2⟩, g3⟩, g4⟩, g5⟩, g6⟩ := h5
  simp [Cond.before, Cond.holds, Cond.value, h1, h2, h3, h4, g1, g2, g3, g4, g5, g6]
def isCode : Jvm.Cond → Bool
  | .code _ _ _ _ => true
  | _ => false
theorem all_split {L : List Jvm.Cond} {P : Jvm.Cond → Bool} (h1 : L.all (fun c => isCode c || P c) = true) (h2 : ∀ c ∈ L.filter isCode, P c = true) : L.all P = true := by
  refine List.all_eq_true.mpr fun c hc => ?_
  have h := List.all_eq_true.mp h1 c hc
  rcases Bool.eq_false_or_eq_true (isCode c) with hi | hi
  · exact h2 c (List.mem_filter.mpr ⟨hc, hi⟩)
  · simpa [hi] using h
set_option maxRecDepth 65536 in
theorem w_c0 : (Jvm.Cond.code x code maxLocals ret).before args0 about1 = true := code_word (m := ⟨1, 1⟩) (meth := k1m1) (c := k1c1) (by decide +kernel) rfl rfl rfl (by decide +kernel)
set_option maxRecDepth 65536 in
theorem w_c1 : (Jvm.Cond.code ({ cls := "com/example/capabind/capabind/description/Work", name := "<init>", desc := "(J)V" } : Jvm.MethodName) prog_26_method_1_code (3 : Nat) (Option.none : Option Jvm.ClassFile.FieldType)).before args0 about1 = true := code_word (m := ⟨2, 0⟩) (meth := k2m0) (c := k2c0) (by decide +kernel) rfl rfl rfl (by decide +kernel)
set_option maxRecDepth 65536 in
theorem w_c2 : (Jvm.Cond.code ({ cls := "java/lang/Object", name := "<init>", desc := "()V" } : Jvm.MethodName) object_method_1_code (1 : Nat) (Option.none : Option Jvm.ClassFile.FieldType)).before args0 about1 = true := code_word (m := ⟨0, 0⟩) (meth := k0m0) (c := k0c0) (by decide +kernel) rfl rfl rfl (by decide +kernel)
set_option maxRecDepth 65536 in
theorem w_c3 : (Jvm.Cond.code ({ cls := "com/example/capabind/capabind/description/Work", name := "spend", desc := "(J)Z" } : Jvm.MethodName) prog_26_method_2_code (3 : Nat) (Option.some Jvm.ClassFile.FieldType.boolean)).before args0 about1 = true := code_word (m := ⟨2, 1⟩) (meth := k2m1) (c := k2c1) (by decide +kernel) rfl rfl rfl (by decide +kernel)
set_option maxRecDepth 65536 in
theorem w_c4 : (Jvm.Cond.code ({ cls := "com/example/capabind/capabind/description/Work", name := "spent", desc := "()J" } : Jvm.MethodName) prog_26_method_3_code (1 : Nat) (Option.some Jvm.ClassFile.FieldType.long)).before args0 about1 = true := code_word (m := ⟨2, 2⟩) (meth := k2m2) (c := k2c2) (by decide +kernel) rfl rfl rfl (by decide +kernel)
set_option maxRecDepth 65536 in
theorem w_c5 : (Jvm.Cond.code ({ cls := "java/lang/Math", name := "min", desc := "(JJ)J" } : Jvm.MethodName) jdk_29_method_70_code (4 : Nat) (Option.some Jvm.ClassFile.FieldType.long)).before args0 about1 = true := code_word (m := ⟨3, 1⟩) (meth := k3m1) (c := k3c1) (by decide +kernel) rfl rfl rfl (by decide +kernel)
set_option maxRecDepth 65536 in
theorem w_c6 : (Jvm.Cond.code ({ cls := "com/example/capabind/capabind/description/Work", name := "ranOut", desc := "()Z" } : Jvm.MethodName) prog_26_method_4_code (1 : Nat) (Option.some Jvm.ClassFile.FieldType.boolean)).before args0 about1 = true := code_word (m := ⟨2, 3⟩) (meth := k2m3) (c := k2c3) (by decide +kernel) rfl rfl rfl (by decide +kernel)
def codes1 : List Jvm.Cond := [Jvm.Cond.code x code maxLocals ret, Jvm.Cond.code ({ cls := "com/example/capabind/capabind/description/Work", name := "<init>", desc := "(J)V" } : Jvm.MethodName) prog_26_method_1_code (3 : Nat) (Option.none : Option Jvm.ClassFile.FieldType), Jvm.Cond.code ({ cls := "java/lang/Object", name := "<init>", desc := "()V" } : Jvm.MethodName) object_method_1_code (1 : Nat) (Option.none : Option Jvm.ClassFile.FieldType), Jvm.Cond.code ({ cls := "com/example/capabind/capabind/description/Work", name := "spend", desc := "(J)Z" } : Jvm.MethodName) prog_26_method_2_code (3 : Nat) (Option.some Jvm.ClassFile.FieldType.boolean), Jvm.Cond.code ({ cls := "com/example/capabind/capabind/description/Work", name := "spent", desc := "()J" } : Jvm.MethodName) prog_26_method_3_code (1 : Nat) (Option.some Jvm.ClassFile.FieldType.long), Jvm.Cond.code ({ cls := "java/lang/Math", name := "min", desc := "(JJ)J" } : Jvm.MethodName) jdk_29_method_70_code (4 : Nat) (Option.some Jvm.ClassFile.FieldType.long), Jvm.Cond.code ({ cls := "com/example/capabind/capabind/description/Work", name := "ranOut", desc := "()Z" } : Jvm.MethodName) prog_26_method_4_code (1 : Nat) (Option.some Jvm.ClassFile.FieldType.boolean)]
set_option maxRecDepth 65536 in
theorem codes_eq : words1.filter isCode = codes1 := rfl
theorem w_codes : ∀ c ∈ words1.filter isCode, c.before args0 about1 = true := by
  rw [codes_eq]
  intro c hc
  simp only [codes1, List.mem_cons, List.not_mem_nil, or_false] at hc
  rcases hc with rfl | rfl | rfl | rfl | rfl | rfl | rfl
  · exact w_c0
  · exact w_c1
  · exact w_c2
  · exact w_c3
  · exact w_c4
  · exact w_c5
  · exact w_c6
set_option maxRecDepth 65536 in
theorem w_t1 : (words1.take 24).all (fun c => isCode c || c.before args0 about1) = true := by decide +kernel
set_option maxRecDepth 65536 in
theorem w_t2 : (words1.drop 24).all (fun c => isCode c || c.before args0 about1) = true := by decide +kernel
theorem w_tables : (allAtoms (Jvm.Cond.code x code maxLocals ret :: tables_1)).before args0 about1 = true := by
  rw [allAtoms_all]
  show words1.all (fun c => c.before args0 about1) = true
  refine all_split ?_ w_codes
  rw [← List.take_append_drop 24 words1, List.all_append, w_t1, w_t2]
  rfl
set_option maxRecDepth 65536 in
theorem w_case : (Jvm.Cond.and given_1 narrow_1).before args0 about1 = true := by decide +kernel
theorem w_applies : (headSpec (Jvm.Cond.code x code maxLocals ret :: tables_1) room_1).applies x e0.platform about1 = true :=
  (Spec.applies_iff w_frames).mpr ⟨w_running, w_runnable, w_alone, w_named, w_hears, w_ripe, w_room, w_tables⟩
theorem atStart : AtStart classFile x code maxLocals ret World_1 tables_1 room_1 Calls_1 rest_1 Pre_1 launch0 p0 e0 about1 theMethod args0 below0 :=
  ⟨lists_1, trivial, launch0.admits_env _ _ _, launch0.least_env, fairChoices_fair.cas, fairChoices_fair.clock, w_frames, w_args, w_heap, w_applies, trivial, trivial, w_case⟩
end start1
theorem witness_1 : WitnessClaimed_1 := ⟨start1.p0, start1.e0, start1.about1, start1.theMethod, start1.args0, start1.below0, start1.atStart⟩
end Jvm.Pilot.@@N@@
