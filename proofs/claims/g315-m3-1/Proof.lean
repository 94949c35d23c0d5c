import JvmDerived
import JvmDerived.Pilot.@@N@@Statement
import JvmDerived.Pilot.@@N@@Code
set_option linter.unusedVariables false
set_option linter.unusedSimpArgs false
namespace Jvm.Pilot.@@N@@
open Jvm Jvm.ClassFile Sem Op Lib Jvm.Free Jvm.Stand Jvm.LawKit Jvm.RoadKit Bundle Jvm.Pilot.@@N@@.Jvm.D
/-! ## the own layer: a picture of the heap, one fact for where a walk stands, steps in continuation form -/
abbrev Ob : Type := Sum (String × List ((String × String × String) × Value)) (FieldType × List Value)
abbrev Obs : Type := List (Addr × Ob)
def Ara (Z : State) (h : Heap) (a : Addr) (ty : FieldType) (vs : List Value) : Prop :=
  ∃ c : Cell, Arr Z h a c ty ∧ c.slots = vs.toArray ∧ vs.length < 2 ^ 31 ∧ (∀ v ∈ vs, fits ty v = true) ∧ Exa Z h a ("[" ++ ty.toString)
def Is (Z : State) (h : Heap) (a : Addr) (o : Ob) : Prop :=
  match o with
  | .inl q => Exa Z h a q.1 ∧ ∀ f ∈ q.2, Fld Z h a f.1.1 f.1.2.1 f.1.2.2 f.2
  | .inr q => Ara Z h a q.1 q.2
def Pic (Z : State) (n0 : Nat) (h : Heap) (L : Obs) : Prop := (∀ q ∈ L, n0 ≤ q.1 ∧ Is Z h q.1 q.2) ∧ (L.map Prod.fst).Nodup
def Lays (Z : State) (a0 : Array Value) (C : String) (fn : List (String × String × String)) : Prop :=
  (∀ q ∈ fn, Laid Z a0 C q.1 q.2.1 q.2.2 ∧ ∃ t, parseFieldDescriptor q.2.2 = some t) ∧ (fn.map fun q => q.2.1).Nodup
section Pics
variable {Z : State} {h h' : Heap} {a b : Addr} {o o' : Ob} {n0 : Nat} {L L' : Obs} {sl : Nat} {v : Value} {a0 : Array Value}
theorem Is.lt (I : Is Z h a o) : a < h.size := by
  cases o with
  | inl q => exact I.1.lt
  | inr q => obtain ⟨c, A, _⟩ := I; exact A.lt
theorem Is.ext (E : Ext h h') (I : Is Z h a o) : Is Z h' a o := by
  cases o with
  | inl q => exact ⟨I.1.ext E, fun f hf => (I.2 f hf).ext E⟩
  | inr q => obtain ⟨c, A, r1, r2, r3, r4⟩ := I; exact ⟨c, A.ext E, r1, r2, r3, r4.ext E⟩
theorem Is.other (W : Wr h h' b sl v) (ne : a ≠ b) (I : Is Z h a o) : Is Z h' a o := by
  cases o with
  | inl q => exact ⟨I.1.wr W, fun f hf => (I.2 f hf).other W (Or.inl ne)⟩
  | inr q => obtain ⟨c, A, r1, r2, r3, r4⟩ := I; exact ⟨c, A.other W ne, r1, r2, r3, r4.wr W⟩
theorem nodup_get {α : Type} : ∀ {l : List α} {i j : Nat} {x : α}, l.Nodup → l[i]? = some x → l[j]? = some x → i = j
  | [], i, j, x, _, h, _ => by simp at h
  | y :: t, 0, 0, x, _, _, _ => rfl
  | y :: t, 0, j + 1, x, hn, h1, h2 => by
    simp at h1 h2; subst h1
    exact absurd (List.mem_of_getElem? h2) (List.nodup_cons.mp hn).1
  | y :: t, i + 1, 0, x, hn, h1, h2 => by
    simp at h1 h2; subst h2
    exact absurd (List.mem_of_getElem? h1) (List.nodup_cons.mp hn).1
  | y :: t, i + 1, j + 1, x, hn, h1, h2 => by
    simp at h1 h2
    rw [nodup_get (List.nodup_cons.mp hn).2 h1 h2]
theorem mem_set_get {α : Type} {l : List α} {i : Nat} {x q : α} (h : q ∈ l.set i x) : q = x ∨ ∃ j, j ≠ i ∧ l[j]? = some q := by
  obtain ⟨j, hj⟩ := List.mem_iff_getElem?.mp h
  by_cases e : j = i
  · subst e
    rw [List.getElem?_set] at hj
    by_cases hl : j < l.length
    · simp [hl] at hj; exact Or.inl hj.symm
    · simp [hl] at hj
  · rw [List.getElem?_set_ne (Ne.symm e)] at hj
    exact Or.inr ⟨j, e, hj⟩
theorem Pic.new (P : Pic Z n0 h L) (E : Ext h h') (Z0 : n0 ≤ h.size) (I : Is Z h' h.size o) : Pic Z n0 h' ((h.size, o) :: L) := by
  refine ⟨fun q hq => ?_, ?_⟩
  · rcases List.mem_cons.mp hq with rfl | hq
    · exact ⟨Z0, I⟩
    · exact ⟨(P.1 q hq).1, (P.1 q hq).2.ext E⟩
  · show (h.size :: L.map Prod.fst).Nodup
    refine List.nodup_cons.mpr ⟨fun hm => ?_, P.2⟩
    obtain ⟨q, hq, e⟩ := List.mem_map.mp hm
    have lt := (P.1 q hq).2.lt
    rw [e] at lt
    exact Nat.lt_irrefl _ lt
theorem map_set_same {α β : Type} (f : α → β) : ∀ {l : List α} {i : Nat} {x y : α}, l[i]? = some x → f y = f x → (l.set i y).map f = l.map f
  | [], i, x, y, h, _ => by simp at h
  | z :: t, 0, x, y, h, e => by simp at h; subst h; simp [e]
  | z :: t, i + 1, x, y, h, e => by simp at h; simp [map_set_same f h e]
theorem Pic.set {i : Nat} (P : Pic Z n0 h L) (W : Wr h h' a sl v) (hi : L[i]? = some (a, o)) (I : Is Z h' a o') : Pic Z n0 h' (L.set i (a, o')) := by
  refine ⟨fun q hq => ?_, ?_⟩
  · rcases mem_set_get hq with rfl | ⟨j, ne, hj⟩
    · exact ⟨(P.1 _ (List.mem_of_getElem? hi)).1, I⟩
    · refine ⟨(P.1 _ (List.mem_of_getElem? hj)).1, (P.1 _ (List.mem_of_getElem? hj)).2.other W fun e => ne ?_⟩
      refine nodup_get P.2 (x := a) ?_ ?_
      · rw [List.getElem?_map, hj]; simp [e]
      · rw [List.getElem?_map, hi]; simp
  · rw [map_set_same Prod.fst (y := (a, o')) hi rfl]; exact P.2
theorem front_perm {α : Type} : ∀ {l : List α} {i : Nat} {x : α}, l[i]? = some x → List.Perm (x :: l.eraseIdx i) l
  | [], i, x, h => by simp at h
  | z :: t, 0, x, h => by simp at h; subst h; exact List.Perm.refl _
  | z :: t, i + 1, x, h => by
    simp at h
    exact (List.Perm.swap z x _).trans ((front_perm h).cons z)
theorem Pic.perm (P : Pic Z n0 h L) (q : List.Perm L' L) : Pic Z n0 h L' :=
  ⟨fun x hx => P.1 x (q.mem_iff.mp hx), ((q.map Prod.fst).nodup_iff).mpr P.2⟩
theorem Pic.front {i : Nat} {x : Addr × Ob} (P : Pic Z n0 h L) (hi : L[i]? = some x) : Pic Z n0 h (x :: L.eraseIdx i) := P.perm (front_perm hi)
theorem Pic.ne {i j : Nat} {x y : Ob} (P : Pic Z n0 h L) (hi : L[i]? = some (a, x)) (hj : L[j]? = some (b, y)) (hn : i ≠ j) : a ≠ b := fun e => hn (by
  subst e
  refine nodup_get P.2 (x := a) ?_ ?_
  · rw [List.getElem?_map, hi]; simp
  · rw [List.getElem?_map, hj]; simp)
theorem Is.put {C O n d : String} {fs : List ((String × String × String) × Value)} {j : Nat} {old : Value} (W : Wr h h' a (Jvm.RoadKit.slotOf Z O n d) v) (hl : Lays Z a0 C (fs.map Prod.fst)) (I : Is Z h a (.inl (C, fs))) (hf : fs[j]? = some ((O, n, d), old)) : Is Z h' a (.inl (C, fs.set j ((O, n, d), v))) := by
  refine ⟨I.1.wr W, fun f hm => ?_⟩
  rcases mem_set_get hm with rfl | ⟨i, ne, hi⟩
  · exact Fld.same W (I.2 ((O, n, d), old) (List.mem_of_getElem? hf))
  · have g1 : (fs.map Prod.fst)[i]? = some f.1 := by rw [List.getElem?_map, hi]; rfl
    have g2 : (fs.map Prod.fst)[j]? = some (O, n, d) := by rw [List.getElem?_map, hf]; rfl
    obtain ⟨l1, t1, p1⟩ := hl.1 _ (List.mem_of_getElem? g1)
    obtain ⟨l2, t2, p2⟩ := hl.1 _ (List.mem_of_getElem? g2)
    refine (I.2 _ (List.mem_of_getElem? hi)).other W (Or.inr (slot_ne l1 l2 (fun e => ne ?_) p1 p2))
    refine nodup_get hl.2 (x := n) ?_ ?_
    · rw [List.getElem?_map, g1]; simp [← e]
    · rw [List.getElem?_map, g2]; try rfl
theorem Ara.put {ty : FieldType} {vs : List Value} {j : Int32} (I : Ara Z h a ty vs) (W : Wr h h' a j.toNatClampNeg v) (hf : fits ty v = true) : Ara Z h' a ty (vs.set j.toNatClampNeg v) := by
  obtain ⟨c, A, r1, r2, r3, r4⟩ := I
  refine ⟨c.setSlot j.toNatClampNeg v, A.same W, ?_, by rw [List.length_set]; exact r2, fun x hx => ?_, r4.wr W⟩
  · show c.slots.setIfInBounds _ _ = _
    rw [r1]; simp
  · rcases mem_set_get hx with rfl | ⟨i, _, hi⟩
    · exact hf
    · exact r3 _ (List.mem_of_getElem? hi)
theorem fits_def (aty : ArrayType) : fits (newarray.typeOf aty) (defaultValue (newarray.typeOf aty)) = true := by cases aty <;> decide
theorem Is.keep {ws : List Addr} (K : Keep h h' ws) (hn : a ∉ ws) (I : Is Z h a o) : Is Z h' a o := by
  cases o with
  | inl q => exact ⟨I.1.keep K, fun f hf => (I.2 f hf).keep K hn⟩
  | inr q => obtain ⟨c, A, r1, r2, r3, r4⟩ := I; exact ⟨c, ⟨K.2.1 a c A.1 hn, A.2⟩, r1, r2, r3, r4.keep K⟩
theorem Pic.setK {i : Nat} (P : Pic Z n0 h L) (K : Keep h h' [a]) (hi : L[i]? = some (a, o)) (I : Is Z h' a o') : Pic Z n0 h' (L.set i (a, o')) := by
  refine ⟨fun q hq => ?_, ?_⟩
  · rcases mem_set_get hq with rfl | ⟨j, ne, hj⟩
    · exact ⟨(P.1 _ (List.mem_of_getElem? hi)).1, I⟩
    · refine ⟨(P.1 _ (List.mem_of_getElem? hj)).1, (P.1 _ (List.mem_of_getElem? hj)).2.keep K fun e => ne ?_⟩
      have e := List.mem_singleton.mp e
      refine nodup_get P.2 (x := a) ?_ ?_
      · rw [List.getElem?_map, hj]; simp [e]
      · rw [List.getElem?_map, hi]; simp
  · rw [map_set_same Prod.fst (y := (a, o')) hi rfl]; exact P.2
theorem Arv.toAra {k : ClassId} {ty : FieldType} {z : Int32} {vs : List Value} {dv : Value} (V : Arv Z h a k ty z vs dv) (hz : z.toNatClampNeg = vs.length) (hl : vs.length < 2 ^ 31) (E : Exa Z h a ("[" ++ ty.toString)) : Ara Z h a ty vs := by
  obtain ⟨c, A, q1, q2, q3, H, G⟩ := V
  refine ⟨c, A, ?_, hl, fun v hv => ?_, E⟩
  · refine Array.ext_getElem? fun i => ?_
    by_cases hi : i < c.slots.size
    · rw [H i hi, List.getElem?_toArray, List.getD_eq_getElem?_getD]
      have : i < vs.length := by omega
      rw [List.getElem?_eq_getElem this]; rfl
    · rw [Array.getElem?_eq_none (by omega), List.getElem?_toArray, List.getElem?_eq_none (by omega)]
  · obtain ⟨i, hi⟩ := List.mem_iff_getElem?.mp hv
    have hlt := (List.getElem?_eq_some_iff.mp hi).1
    have := G i (by omega)
    rw [List.getD_eq_getElem?_getD, hi] at this
    exact this
theorem Ara.toArv {ty : FieldType} {vs : List Value} (I : Ara Z h a ty vs) (dv : Value) : ∃ k, Arv Z h a k ty vs.length.toInt32 vs dv ∧ vs.length.toInt32.toNatClampNeg = vs.length ∧ ¬ vs.length.toInt32 < 0 := by
  obtain ⟨c, A, r1, r2, r3, r4⟩ := I
  have e1 : vs.length.toInt32.toInt = vs.length := len_toInt r2
  have e2 : vs.length.toInt32.toNatClampNeg = vs.length := by simp only [Int32.toNatClampNeg, e1]; omega
  have e3 : ¬ vs.length.toInt32 < 0 := by rw [Int32.lt_iff_toInt_lt, e1]; simp only [Int32.reduceToInt]; omega
  have e4 : c.slots.size = vs.length := by rw [r1]; simp
  refine ⟨c.cls, ⟨c, A, rfl, by omega, e3, fun k hk => ?_, fun k hk => ?_⟩, e2, e3⟩
  · have : k < vs.length := by omega
    rw [r1, List.getElem?_toArray, List.getElem?_eq_getElem this, List.getD_eq_getElem?_getD, List.getElem?_eq_getElem this]; rfl
  · have : k < vs.length := by omega
    rw [List.getD_eq_getElem?_getD, List.getElem?_eq_getElem this]
    exact r3 _ (List.getElem_mem this)
end Pics
def Go (p : Program) (e : Env) (below : List Frame) (F : State → Prop) (U : State) : Prop := ∃ t, Steps p.tables e below U t ∧ F t
theorem Go.st {p : Program} {e : Env} {below : List Frame} {F : State → Prop} {U U' : State} (h : ∀ t, Steps p.tables e below U' t → Steps p.tables e below U t) (g : Go p e below F U') : Go p e below F U := by
  obtain ⟨t, s, f⟩ := g; exact ⟨t, h t s, f⟩
def Here (p : Program) (l : Launch) (e : Env) (R : Room) (s : State) (m : MethodId) (args : Array Value) (below : List Frame) (meth : Method) (c : Code) (Z : State) (a0 : Array Value) (tbl : List Jvm.Cond) (own nm : String) (bc : ByteArray) (mxl : Nat) (rt : Option FieldType) (n0 : Nat) (T : State) (L : Obs) (cells slots : Nat) : Prop :=
  (p.tables.exec = Jvm.exec ∧ Z.Warmed39 s.vm ∧ s.vm.findClass own = some m.cls ∧ c.code = bc ∧ c.maxLocals = mxl ∧ (∀ d ∈ tbl, d.before a0 Z = true) ∧ meth.name = nm ∧ meth.sig.returnType = rt ∧ meth.locks = false) ∧
  ∃ locs, Stand p l e R s m args below meth c T locs cells slots ∧ Fr n0 locs ∧ n0 ≤ T.heap.size ∧ Pic Z n0 T.heap L
def EndS (below : List Frame) (s : State) (n0 : Nat) (Z : State) (kc ks : Nat) (Q : Option Value → Obs → Prop) (t : State) : Prop :=
  ∃ o, t.status = .running ∧ Ended t below o ∧ ∃ v Lc, o = .returned v ∧ (Fr n0 Lc ∧ n0 ≤ t.heap.size ∧ ∃ L', Q v L' ∧ Pic Z n0 t.heap L') ∧ FrameEnd s o t Lc kc ks
def Triple (l : Launch) (Z : State) (n0 : Nat) (y : MethodName) (bytes : ByteArray) (ml : Nat) (rt : Option FieldType) (rm : Room) (kc ks : Nat) (as : List Value) (L : Obs) (Q : Option Value → Obs → Prop) : Prop :=
  ∀ (h0 : Heap) (ws : List Jvm.Cond), n0 ≤ h0.size → Pic Z n0 h0 L →
    MetFree l y (head1 (Jvm.Cond.code y bytes ml rt :: ws) rm) (fun a U => a = as.toArray ∧ Z.Warmed39 U.vm ∧ U.heap = h0) (fun _ _ _ _ _ => True)
      (fun _ U o U' => ∃ v Lc, o = .returned v ∧ (Fr n0 Lc ∧ n0 ≤ U'.heap.size ∧ ∃ L', Q v L' ∧ Pic Z n0 U'.heap L') ∧ FrameEnd U o U' Lc kc ks)
theorem Triple.of_body {l : Launch} {Z : State} {a0 : Array Value} {tbl : List Jvm.Cond} {n0 : Nat} {y : MethodName} {bytes : ByteArray} {ml : Nat} {rt : Option FieldType} {rm : Room} {kc ks : Nat} {as : List Value} {L : Obs} {Q : Option Value → Obs → Prop} {Ls : Array Slot}
    (hp : plainFor y = true) (hw : ∀ d ∈ tbl, d.before a0 Z = true) (ef : (Jvm.Sym.laidSlots as ++ List.replicate (ml - (Jvm.Sym.laidSlots as).length) Slot.unset).toArray = Ls)
    (body : ∀ p e s m below meth c T, Here p l e rm s m as.toArray below meth c Z a0 tbl y.cls y.name bytes ml rt n0 T L 0 0 → Go p e below (EndS below s n0 Z kc ks Q) (T.setTop (mkF m 0 Ls []))) :
    Triple l Z n0 y bytes ml rt rm kc ks as L Q := by
  intro h0 ws Z0 P0
  refine MetFree.of_bodySF hp hisR ?_
  intro p e s m args below meth c s₁ Bd hml0 hP hK
  obtain ⟨rfl, hZ, hh⟩ := hP
  have e0 : s₁.heap = h0 := by rw [← hh, Bd.state]; rfl
  have A : Here p l e rm s m as.toArray below meth c Z a0 tbl y.cls y.name bytes ml rt n0 s₁ L 0 0 :=
    ⟨⟨Bd.exec, hZ, findClass_of_methodNamed Bd.named, Bd.bytes, hml0, hw, (name_of_methodNamed Bd.named Bd.method).1, Bd.returns, Bd.notSynchronized⟩, [], Stand.of_body Bd, Fr.nil n0, by rw [e0]; exact Z0, by rw [e0]; exact P0⟩
  obtain ⟨t, st, o, h1, h2, h3⟩ := body p e s m below meth c s₁ A
  have ef' : entryFrame m as.toArray ml = mkF m 0 Ls [] := by
    have q := Jvm.Sym.argsToLocals_toList as.toArray ml
    have q2 : argsToLocals as.toArray ml = Ls := by rw [← ef, ← q, Array.toArray_toList]
    unfold entryFrame mkF; rw [q2]
  exact ⟨t, o, castTop ef' st, h1, h2, h3⟩

section Walk
variable {p : Program} {l : Launch} {e : Env} {R : Room} {s : State} {m : MethodId} {args : Array Value} {below : List Frame} {meth : Method} {c : Code} {Z : State} {a0 : Array Value} {tbl : List Jvm.Cond} {own nm : String} {bc : ByteArray} {mxl : Nat} {rt : Option FieldType} {n0 : Nat} {T : State} {L : Obs} {cells slots : Nat} {F : State → Prop}
theorem Here.pt (A : Here p l e R s m args below meth c Z a0 tbl own nm bc mxl rt n0 T L cells slots) : At T m c below := by obtain ⟨_, X, _⟩ := A.2; exact X.here
theorem Here.iadd (A : Here p l e R s m args below meth c Z a0 tbl own nm bc mxl rt n0 T L cells slots) {pc q : Nat} {Ls : Array Slot} {st : List Value} {x y v : Int32} (hd : decode bc pc = .ok (.iadd, 1)) (hq : pc + 1 = q) (hv : x + y = v) (k : Go p e below F (T.setTop (mkF m q Ls (.int v :: st)))) : Go p e below F (T.setTop (mkF m pc Ls (.int y :: .int x :: st))) := by
  subst hq hv
  exact Go.st (fun t h => XS.iadd A.pt A.1.1 rfl (hb A.1.2.2.2.1 hd) rfl h) k
theorem Here.isub (A : Here p l e R s m args below meth c Z a0 tbl own nm bc mxl rt n0 T L cells slots) {pc q : Nat} {Ls : Array Slot} {st : List Value} {x y v : Int32} (hd : decode bc pc = .ok (.isub, 1)) (hq : pc + 1 = q) (hv : x - y = v) (k : Go p e below F (T.setTop (mkF m q Ls (.int v :: st)))) : Go p e below F (T.setTop (mkF m pc Ls (.int y :: .int x :: st))) := by
  subst hq hv
  exact Go.st (fun t h => XS.isub A.pt A.1.1 rfl (hb A.1.2.2.2.1 hd) rfl h) k
theorem Here.imul (A : Here p l e R s m args below meth c Z a0 tbl own nm bc mxl rt n0 T L cells slots) {pc q : Nat} {Ls : Array Slot} {st : List Value} {x y v : Int32} (hd : decode bc pc = .ok (.imul, 1)) (hq : pc + 1 = q) (hv : x * y = v) (k : Go p e below F (T.setTop (mkF m q Ls (.int v :: st)))) : Go p e below F (T.setTop (mkF m pc Ls (.int y :: .int x :: st))) := by
  subst hq hv
  exact Go.st (fun t h => XS.imul A.pt A.1.1 rfl (hb A.1.2.2.2.1 hd) rfl h) k
theorem Here.iand (A : Here p l e R s m args below meth c Z a0 tbl own nm bc mxl rt n0 T L cells slots) {pc q : Nat} {Ls : Array Slot} {st : List Value} {x y v : Int32} (hd : decode bc pc = .ok (.iand, 1)) (hq : pc + 1 = q) (hv : x &&& y = v) (k : Go p e below F (T.setTop (mkF m q Ls (.int v :: st)))) : Go p e below F (T.setTop (mkF m pc Ls (.int y :: .int x :: st))) := by
  subst hq hv
  exact Go.st (fun t h => XS.iand A.pt A.1.1 rfl (hb A.1.2.2.2.1 hd) rfl h) k
theorem Here.ior (A : Here p l e R s m args below meth c Z a0 tbl own nm bc mxl rt n0 T L cells slots) {pc q : Nat} {Ls : Array Slot} {st : List Value} {x y v : Int32} (hd : decode bc pc = .ok (.ior, 1)) (hq : pc + 1 = q) (hv : x ||| y = v) (k : Go p e below F (T.setTop (mkF m q Ls (.int v :: st)))) : Go p e below F (T.setTop (mkF m pc Ls (.int y :: .int x :: st))) := by
  subst hq hv
  exact Go.st (fun t h => XS.ior A.pt A.1.1 rfl (hb A.1.2.2.2.1 hd) rfl h) k
theorem Here.ixor (A : Here p l e R s m args below meth c Z a0 tbl own nm bc mxl rt n0 T L cells slots) {pc q : Nat} {Ls : Array Slot} {st : List Value} {x y v : Int32} (hd : decode bc pc = .ok (.ixor, 1)) (hq : pc + 1 = q) (hv : x ^^^ y = v) (k : Go p e below F (T.setTop (mkF m q Ls (.int v :: st)))) : Go p e below F (T.setTop (mkF m pc Ls (.int y :: .int x :: st))) := by
  subst hq hv
  exact Go.st (fun t h => XS.ixor A.pt A.1.1 rfl (hb A.1.2.2.2.1 hd) rfl h) k
theorem Here.ishl (A : Here p l e R s m args below meth c Z a0 tbl own nm bc mxl rt n0 T L cells slots) {pc q : Nat} {Ls : Array Slot} {st : List Value} {x y v : Int32} (hd : decode bc pc = .ok (.ishl, 1)) (hq : pc + 1 = q) (hv : x <<< (y &&& 31) = v) (k : Go p e below F (T.setTop (mkF m q Ls (.int v :: st)))) : Go p e below F (T.setTop (mkF m pc Ls (.int y :: .int x :: st))) := by
  subst hq hv
  exact Go.st (fun t h => XS.ishl A.pt A.1.1 rfl (hb A.1.2.2.2.1 hd) rfl h) k
theorem Here.ishr (A : Here p l e R s m args below meth c Z a0 tbl own nm bc mxl rt n0 T L cells slots) {pc q : Nat} {Ls : Array Slot} {st : List Value} {x y v : Int32} (hd : decode bc pc = .ok (.ishr, 1)) (hq : pc + 1 = q) (hv : x >>> (y &&& 31) = v) (k : Go p e below F (T.setTop (mkF m q Ls (.int v :: st)))) : Go p e below F (T.setTop (mkF m pc Ls (.int y :: .int x :: st))) := by
  subst hq hv
  exact Go.st (fun t h => XS.ishr A.pt A.1.1 rfl (hb A.1.2.2.2.1 hd) rfl h) k
theorem Here.iushr (A : Here p l e R s m args below meth c Z a0 tbl own nm bc mxl rt n0 T L cells slots) {pc q : Nat} {Ls : Array Slot} {st : List Value} {x y v : Int32} (hd : decode bc pc = .ok (.iushr, 1)) (hq : pc + 1 = q) (hv : (x.toUInt32 >>> (y &&& 31).toUInt32).toInt32 = v) (k : Go p e below F (T.setTop (mkF m q Ls (.int v :: st)))) : Go p e below F (T.setTop (mkF m pc Ls (.int y :: .int x :: st))) := by
  subst hq hv
  exact Go.st (fun t h => XS.iushr A.pt A.1.1 rfl (hb A.1.2.2.2.1 hd) rfl h) k
theorem Here.idiv (A : Here p l e R s m args below meth c Z a0 tbl own nm bc mxl rt n0 T L cells slots) {pc q : Nat} {Ls : Array Slot} {st : List Value} {x y v : Int32} (hd : decode bc pc = .ok (.idiv, 1)) (hq : pc + 1 = q) (hy : y ≠ 0) (hv : x / y = v) (k : Go p e below F (T.setTop (mkF m q Ls (.int v :: st)))) : Go p e below F (T.setTop (mkF m pc Ls (.int y :: .int x :: st))) := by
  subst hq hv
  exact Go.st (fun t h => XS.idiv A.pt A.1.1 rfl (hb A.1.2.2.2.1 hd) rfl hy h) k
theorem Here.irem (A : Here p l e R s m args below meth c Z a0 tbl own nm bc mxl rt n0 T L cells slots) {pc q : Nat} {Ls : Array Slot} {st : List Value} {x y v : Int32} (hd : decode bc pc = .ok (.irem, 1)) (hq : pc + 1 = q) (hy : y ≠ 0) (hv : x % y = v) (k : Go p e below F (T.setTop (mkF m q Ls (.int v :: st)))) : Go p e below F (T.setTop (mkF m pc Ls (.int y :: .int x :: st))) := by
  subst hq hv
  obtain ⟨_, X, _⟩ := A.2
  exact Go.st (fun t h => iremM X A.1.1 rfl (hb A.1.2.2.2.1 hd) rfl hy h) k
theorem Here.ineg (A : Here p l e R s m args below meth c Z a0 tbl own nm bc mxl rt n0 T L cells slots) {pc q : Nat} {Ls : Array Slot} {st : List Value} {x v : Int32} (hd : decode bc pc = .ok (.ineg, 1)) (hq : pc + 1 = q) (hv : -x = v) (k : Go p e below F (T.setTop (mkF m q Ls (.int v :: st)))) : Go p e below F (T.setTop (mkF m pc Ls (.int x :: st))) := by
  subst hq hv
  exact Go.st (fun t h => XS.ineg A.pt A.1.1 rfl (hb A.1.2.2.2.1 hd) rfl h) k
theorem Here.ladd (A : Here p l e R s m args below meth c Z a0 tbl own nm bc mxl rt n0 T L cells slots) {pc q : Nat} {Ls : Array Slot} {st : List Value} {x y v : Int64} (hd : decode bc pc = .ok (.ladd, 1)) (hq : pc + 1 = q) (hv : x + y = v) (k : Go p e below F (T.setTop (mkF m q Ls (.long v :: st)))) : Go p e below F (T.setTop (mkF m pc Ls (.long y :: .long x :: st))) := by
  subst hq hv
  exact Go.st (fun t h => XS.ladd A.pt A.1.1 rfl (hb A.1.2.2.2.1 hd) rfl h) k
theorem Here.lsub (A : Here p l e R s m args below meth c Z a0 tbl own nm bc mxl rt n0 T L cells slots) {pc q : Nat} {Ls : Array Slot} {st : List Value} {x y v : Int64} (hd : decode bc pc = .ok (.lsub, 1)) (hq : pc + 1 = q) (hv : x - y = v) (k : Go p e below F (T.setTop (mkF m q Ls (.long v :: st)))) : Go p e below F (T.setTop (mkF m pc Ls (.long y :: .long x :: st))) := by
  subst hq hv
  exact Go.st (fun t h => XS.lsub A.pt A.1.1 rfl (hb A.1.2.2.2.1 hd) rfl h) k
theorem Here.lmul (A : Here p l e R s m args below meth c Z a0 tbl own nm bc mxl rt n0 T L cells slots) {pc q : Nat} {Ls : Array Slot} {st : List Value} {x y v : Int64} (hd : decode bc pc = .ok (.lmul, 1)) (hq : pc + 1 = q) (hv : x * y = v) (k : Go p e below F (T.setTop (mkF m q Ls (.long v :: st)))) : Go p e below F (T.setTop (mkF m pc Ls (.long y :: .long x :: st))) := by
  subst hq hv
  exact Go.st (fun t h => XS.lmul A.pt A.1.1 rfl (hb A.1.2.2.2.1 hd) rfl h) k
theorem Here.land (A : Here p l e R s m args below meth c Z a0 tbl own nm bc mxl rt n0 T L cells slots) {pc q : Nat} {Ls : Array Slot} {st : List Value} {x y v : Int64} (hd : decode bc pc = .ok (.land, 1)) (hq : pc + 1 = q) (hv : x &&& y = v) (k : Go p e below F (T.setTop (mkF m q Ls (.long v :: st)))) : Go p e below F (T.setTop (mkF m pc Ls (.long y :: .long x :: st))) := by
  subst hq hv
  exact Go.st (fun t h => XS.land A.pt A.1.1 rfl (hb A.1.2.2.2.1 hd) rfl h) k
theorem Here.lor (A : Here p l e R s m args below meth c Z a0 tbl own nm bc mxl rt n0 T L cells slots) {pc q : Nat} {Ls : Array Slot} {st : List Value} {x y v : Int64} (hd : decode bc pc = .ok (.lor, 1)) (hq : pc + 1 = q) (hv : x ||| y = v) (k : Go p e below F (T.setTop (mkF m q Ls (.long v :: st)))) : Go p e below F (T.setTop (mkF m pc Ls (.long y :: .long x :: st))) := by
  subst hq hv
  exact Go.st (fun t h => XS.lor A.pt A.1.1 rfl (hb A.1.2.2.2.1 hd) rfl h) k
theorem Here.lxor (A : Here p l e R s m args below meth c Z a0 tbl own nm bc mxl rt n0 T L cells slots) {pc q : Nat} {Ls : Array Slot} {st : List Value} {x y v : Int64} (hd : decode bc pc = .ok (.lxor, 1)) (hq : pc + 1 = q) (hv : x ^^^ y = v) (k : Go p e below F (T.setTop (mkF m q Ls (.long v :: st)))) : Go p e below F (T.setTop (mkF m pc Ls (.long y :: .long x :: st))) := by
  subst hq hv
  exact Go.st (fun t h => XS.lxor A.pt A.1.1 rfl (hb A.1.2.2.2.1 hd) rfl h) k
theorem Here.lshl (A : Here p l e R s m args below meth c Z a0 tbl own nm bc mxl rt n0 T L cells slots) {pc q : Nat} {Ls : Array Slot} {st : List Value} {x v : Int64} {y : Int32} (hd : decode bc pc = .ok (.lshl, 1)) (hq : pc + 1 = q) (hv : x <<< (y &&& 0x3f).toInt64 = v) (k : Go p e below F (T.setTop (mkF m q Ls (.long v :: st)))) : Go p e below F (T.setTop (mkF m pc Ls (.int y :: .long x :: st))) := by
  subst hq hv
  exact Go.st (fun t h => XS.lshl A.pt A.1.1 rfl (hb A.1.2.2.2.1 hd) rfl h) k
theorem Here.lshr (A : Here p l e R s m args below meth c Z a0 tbl own nm bc mxl rt n0 T L cells slots) {pc q : Nat} {Ls : Array Slot} {st : List Value} {x v : Int64} {y : Int32} (hd : decode bc pc = .ok (.lshr, 1)) (hq : pc + 1 = q) (hv : x >>> (y &&& 0x3f).toInt64 = v) (k : Go p e below F (T.setTop (mkF m q Ls (.long v :: st)))) : Go p e below F (T.setTop (mkF m pc Ls (.int y :: .long x :: st))) := by
  subst hq hv
  exact Go.st (fun t h => XS.lshr A.pt A.1.1 rfl (hb A.1.2.2.2.1 hd) rfl h) k
theorem Here.lushr (A : Here p l e R s m args below meth c Z a0 tbl own nm bc mxl rt n0 T L cells slots) {pc q : Nat} {Ls : Array Slot} {st : List Value} {x v : Int64} {y : Int32} (hd : decode bc pc = .ok (.lushr, 1)) (hq : pc + 1 = q) (hv : (x.toUInt64 >>> (y &&& 0x3f).toInt64.toUInt64).toInt64 = v) (k : Go p e below F (T.setTop (mkF m q Ls (.long v :: st)))) : Go p e below F (T.setTop (mkF m pc Ls (.int y :: .long x :: st))) := by
  subst hq hv
  exact Go.st (fun t h => XS.lushr A.pt A.1.1 rfl (hb A.1.2.2.2.1 hd) rfl h) k
theorem Here.ldiv (A : Here p l e R s m args below meth c Z a0 tbl own nm bc mxl rt n0 T L cells slots) {pc q : Nat} {Ls : Array Slot} {st : List Value} {x y v : Int64} (hd : decode bc pc = .ok (.ldiv, 1)) (hq : pc + 1 = q) (hy : y ≠ 0) (hv : x / y = v) (k : Go p e below F (T.setTop (mkF m q Ls (.long v :: st)))) : Go p e below F (T.setTop (mkF m pc Ls (.long y :: .long x :: st))) := by
  subst hq hv
  exact Go.st (fun t h => XS.ldiv A.pt A.1.1 rfl (hb A.1.2.2.2.1 hd) rfl hy h) k
theorem Here.lrem (A : Here p l e R s m args below meth c Z a0 tbl own nm bc mxl rt n0 T L cells slots) {pc q : Nat} {Ls : Array Slot} {st : List Value} {x y v : Int64} (hd : decode bc pc = .ok (.lrem, 1)) (hq : pc + 1 = q) (hy : y ≠ 0) (hv : x - (x / y) * y = v) (k : Go p e below F (T.setTop (mkF m q Ls (.long v :: st)))) : Go p e below F (T.setTop (mkF m pc Ls (.long y :: .long x :: st))) := by
  subst hq hv
  exact Go.st (fun t h => XS.lrem A.pt A.1.1 rfl (hb A.1.2.2.2.1 hd) rfl hy h) k
theorem Here.lneg (A : Here p l e R s m args below meth c Z a0 tbl own nm bc mxl rt n0 T L cells slots) {pc q : Nat} {Ls : Array Slot} {st : List Value} {x v : Int64} (hd : decode bc pc = .ok (.lneg, 1)) (hq : pc + 1 = q) (hv : -x = v) (k : Go p e below F (T.setTop (mkF m q Ls (.long v :: st)))) : Go p e below F (T.setTop (mkF m pc Ls (.long x :: st))) := by
  subst hq hv
  exact Go.st (fun t h => XS.lneg A.pt A.1.1 rfl (hb A.1.2.2.2.1 hd) rfl h) k
theorem Here.i2l (A : Here p l e R s m args below meth c Z a0 tbl own nm bc mxl rt n0 T L cells slots) {pc q : Nat} {Ls : Array Slot} {st : List Value} {x : Int32} {v : Int64} (hd : decode bc pc = .ok (.i2l, 1)) (hq : pc + 1 = q) (hv : x.toInt64 = v) (k : Go p e below F (T.setTop (mkF m q Ls (.long v :: st)))) : Go p e below F (T.setTop (mkF m pc Ls (.int x :: st))) := by
  subst hq hv
  exact Go.st (fun t h => XS.i2l A.pt A.1.1 rfl (hb A.1.2.2.2.1 hd) rfl h) k
theorem Here.l2i (A : Here p l e R s m args below meth c Z a0 tbl own nm bc mxl rt n0 T L cells slots) {pc q : Nat} {Ls : Array Slot} {st : List Value} {x : Int64} {v : Int32} (hd : decode bc pc = .ok (.l2i, 1)) (hq : pc + 1 = q) (hv : x.toInt32 = v) (k : Go p e below F (T.setTop (mkF m q Ls (.int v :: st)))) : Go p e below F (T.setTop (mkF m pc Ls (.long x :: st))) := by
  subst hq hv
  exact Go.st (fun t h => XS.l2i A.pt A.1.1 rfl (hb A.1.2.2.2.1 hd) rfl h) k
theorem Here.i2b (A : Here p l e R s m args below meth c Z a0 tbl own nm bc mxl rt n0 T L cells slots) {pc q : Nat} {Ls : Array Slot} {st : List Value} {x v : Int32} (hd : decode bc pc = .ok (.i2b, 1)) (hq : pc + 1 = q) (hv : x.toInt8.toInt32 = v) (k : Go p e below F (T.setTop (mkF m q Ls (.int v :: st)))) : Go p e below F (T.setTop (mkF m pc Ls (.int x :: st))) := by
  subst hq hv
  exact Go.st (fun t h => XS.i2b A.pt A.1.1 rfl (hb A.1.2.2.2.1 hd) rfl h) k
theorem Here.i2c (A : Here p l e R s m args below meth c Z a0 tbl own nm bc mxl rt n0 T L cells slots) {pc q : Nat} {Ls : Array Slot} {st : List Value} {x v : Int32} (hd : decode bc pc = .ok (.i2c, 1)) (hq : pc + 1 = q) (hv : x.toUInt32.toUInt16.toUInt32.toInt32 = v) (k : Go p e below F (T.setTop (mkF m q Ls (.int v :: st)))) : Go p e below F (T.setTop (mkF m pc Ls (.int x :: st))) := by
  subst hq hv
  exact Go.st (fun t h => XS.i2c A.pt A.1.1 rfl (hb A.1.2.2.2.1 hd) rfl h) k
theorem Here.i2s (A : Here p l e R s m args below meth c Z a0 tbl own nm bc mxl rt n0 T L cells slots) {pc q : Nat} {Ls : Array Slot} {st : List Value} {x v : Int32} (hd : decode bc pc = .ok (.i2s, 1)) (hq : pc + 1 = q) (hv : x.toInt16.toInt32 = v) (k : Go p e below F (T.setTop (mkF m q Ls (.int v :: st)))) : Go p e below F (T.setTop (mkF m pc Ls (.int x :: st))) := by
  subst hq hv
  exact Go.st (fun t h => XS.i2s A.pt A.1.1 rfl (hb A.1.2.2.2.1 hd) rfl h) k
theorem Here.iloadN (A : Here p l e R s m args below meth c Z a0 tbl own nm bc mxl rt n0 T L cells slots) {pc q : Nat} {Ls : Array Slot} {st : List Value} {k : Fin 4} {v : Int32} (hd : decode bc pc = .ok (.iload_n k, 1)) (hq : pc + 1 = q) (hl : Ls[k.val]? = some (.val (.int v))) (k : Go p e below F (T.setTop (mkF m q Ls (.int v :: st)))) : Go p e below F (T.setTop (mkF m pc Ls st)) := by
  subst hq
  exact Go.st (fun t h => XS.iloadN A.pt A.1.1 rfl (hb A.1.2.2.2.1 hd) hl h) k
theorem Here.iload (A : Here p l e R s m args below meth c Z a0 tbl own nm bc mxl rt n0 T L cells slots) {pc q : Nat} {Ls : Array Slot} {st : List Value} {k : Nat} {v : Int32} (hd : decode bc pc = .ok (.iload k, 2)) (hq : pc + 2 = q) (hl : Ls[k]? = some (.val (.int v))) (k : Go p e below F (T.setTop (mkF m q Ls (.int v :: st)))) : Go p e below F (T.setTop (mkF m pc Ls st)) := by
  subst hq
  exact Go.st (fun t h => XS.iload A.pt A.1.1 rfl (hb A.1.2.2.2.1 hd) hl h) k
theorem Here.istoreN (A : Here p l e R s m args below meth c Z a0 tbl own nm bc mxl rt n0 T L cells slots) {pc q : Nat} {Ls : Array Slot} {st : List Value} {k : Fin 4} {v : Int32} {l' : Array Slot} (hd : decode bc pc = .ok (.istore_n k, 1)) (hq : pc + 1 = q) (hl : storeLocals Ls k.val (.int v) = some l') (k : Go p e below F (T.setTop (mkF m q l' st))) : Go p e below F (T.setTop (mkF m pc Ls (.int v :: st))) := by
  subst hq
  exact Go.st (fun t h => XS.istoreN A.pt A.1.1 rfl (hb A.1.2.2.2.1 hd) rfl hl h) k
theorem Here.istore (A : Here p l e R s m args below meth c Z a0 tbl own nm bc mxl rt n0 T L cells slots) {pc q : Nat} {Ls : Array Slot} {st : List Value} {k : Nat} {v : Int32} {l' : Array Slot} (hd : decode bc pc = .ok (.istore k, 2)) (hq : pc + 2 = q) (hl : storeLocals Ls k (.int v) = some l') (k : Go p e below F (T.setTop (mkF m q l' st))) : Go p e below F (T.setTop (mkF m pc Ls (.int v :: st))) := by
  subst hq
  exact Go.st (fun t h => XS.istore A.pt A.1.1 rfl (hb A.1.2.2.2.1 hd) rfl hl h) k
theorem Here.lloadN (A : Here p l e R s m args below meth c Z a0 tbl own nm bc mxl rt n0 T L cells slots) {pc q : Nat} {Ls : Array Slot} {st : List Value} {k : Fin 4} {v : Int64} (hd : decode bc pc = .ok (.lload_n k, 1)) (hq : pc + 1 = q) (hl : Ls[k.val]? = some (.val (.long v))) (k : Go p e below F (T.setTop (mkF m q Ls (.long v :: st)))) : Go p e below F (T.setTop (mkF m pc Ls st)) := by
  subst hq
  exact Go.st (fun t h => XS.lloadN A.pt A.1.1 rfl (hb A.1.2.2.2.1 hd) hl h) k
theorem Here.lload (A : Here p l e R s m args below meth c Z a0 tbl own nm bc mxl rt n0 T L cells slots) {pc q : Nat} {Ls : Array Slot} {st : List Value} {k : Nat} {v : Int64} (hd : decode bc pc = .ok (.lload k, 2)) (hq : pc + 2 = q) (hl : Ls[k]? = some (.val (.long v))) (k : Go p e below F (T.setTop (mkF m q Ls (.long v :: st)))) : Go p e below F (T.setTop (mkF m pc Ls st)) := by
  subst hq
  exact Go.st (fun t h => XS.lload A.pt A.1.1 rfl (hb A.1.2.2.2.1 hd) hl h) k
theorem Here.lstoreN (A : Here p l e R s m args below meth c Z a0 tbl own nm bc mxl rt n0 T L cells slots) {pc q : Nat} {Ls : Array Slot} {st : List Value} {k : Fin 4} {v : Int64} {l' : Array Slot} (hd : decode bc pc = .ok (.lstore_n k, 1)) (hq : pc + 1 = q) (hl : storeLocals Ls k.val (.long v) = some l') (k : Go p e below F (T.setTop (mkF m q l' st))) : Go p e below F (T.setTop (mkF m pc Ls (.long v :: st))) := by
  subst hq
  exact Go.st (fun t h => XS.lstoreN A.pt A.1.1 rfl (hb A.1.2.2.2.1 hd) rfl hl h) k
theorem Here.lstore (A : Here p l e R s m args below meth c Z a0 tbl own nm bc mxl rt n0 T L cells slots) {pc q : Nat} {Ls : Array Slot} {st : List Value} {k : Nat} {v : Int64} {l' : Array Slot} (hd : decode bc pc = .ok (.lstore k, 2)) (hq : pc + 2 = q) (hl : storeLocals Ls k (.long v) = some l') (k : Go p e below F (T.setTop (mkF m q l' st))) : Go p e below F (T.setTop (mkF m pc Ls (.long v :: st))) := by
  subst hq
  exact Go.st (fun t h => XS.lstore A.pt A.1.1 rfl (hb A.1.2.2.2.1 hd) rfl hl h) k
theorem Here.aloadN (A : Here p l e R s m args below meth c Z a0 tbl own nm bc mxl rt n0 T L cells slots) {pc q : Nat} {Ls : Array Slot} {st : List Value} {k : Fin 4} {v : Value} (hd : decode bc pc = .ok (.aload_n k, 1)) (hq : pc + 1 = q) (hl : Ls[k.val]? = some (.val v)) (hr : v.isRef = true) (k : Go p e below F (T.setTop (mkF m q Ls (v :: st)))) : Go p e below F (T.setTop (mkF m pc Ls st)) := by
  subst hq
  exact Go.st (fun t h => XS.aloadN A.pt A.1.1 rfl (hb A.1.2.2.2.1 hd) hl hr h) k
theorem Here.aload (A : Here p l e R s m args below meth c Z a0 tbl own nm bc mxl rt n0 T L cells slots) {pc q : Nat} {Ls : Array Slot} {st : List Value} {k : Nat} {v : Value} (hd : decode bc pc = .ok (.aload k, 2)) (hq : pc + 2 = q) (hl : Ls[k]? = some (.val v)) (hr : v.isRef = true) (k : Go p e below F (T.setTop (mkF m q Ls (v :: st)))) : Go p e below F (T.setTop (mkF m pc Ls st)) := by
  subst hq
  exact Go.st (fun t h => XS.aload A.pt A.1.1 rfl (hb A.1.2.2.2.1 hd) hl hr h) k
theorem Here.astoreN (A : Here p l e R s m args below meth c Z a0 tbl own nm bc mxl rt n0 T L cells slots) {pc q : Nat} {Ls : Array Slot} {st : List Value} {k : Fin 4} {v : Value} {l' : Array Slot} (hd : decode bc pc = .ok (.astore_n k, 1)) (hq : pc + 1 = q) (hr : v.isRef = true) (hl : storeLocals Ls k.val v = some l') (k : Go p e below F (T.setTop (mkF m q l' st))) : Go p e below F (T.setTop (mkF m pc Ls (v :: st))) := by
  subst hq
  exact Go.st (fun t h => XS.astoreN A.pt A.1.1 rfl (hb A.1.2.2.2.1 hd) rfl hr hl h) k
theorem Here.astore (A : Here p l e R s m args below meth c Z a0 tbl own nm bc mxl rt n0 T L cells slots) {pc q : Nat} {Ls : Array Slot} {st : List Value} {k : Nat} {v : Value} {l' : Array Slot} (hd : decode bc pc = .ok (.astore k, 2)) (hq : pc + 2 = q) (hr : v.isRef = true) (hl : storeLocals Ls k v = some l') (k : Go p e below F (T.setTop (mkF m q l' st))) : Go p e below F (T.setTop (mkF m pc Ls (v :: st))) := by
  subst hq
  exact Go.st (fun t h => XS.astore A.pt A.1.1 rfl (hb A.1.2.2.2.1 hd) rfl hr hl h) k
theorem Here.iconst (A : Here p l e R s m args below meth c Z a0 tbl own nm bc mxl rt n0 T L cells slots) {pc q : Nat} {Ls : Array Slot} {st : List Value} {i : Int} {v : Int32} (hd : decode bc pc = .ok (.iconst i, 1)) (hq : pc + 1 = q) (hv : Int32.ofInt i = v) (k : Go p e below F (T.setTop (mkF m q Ls (.int v :: st)))) : Go p e below F (T.setTop (mkF m pc Ls st)) := by
  subst hq hv
  exact Go.st (fun t h => XS.iconst A.pt A.1.1 rfl (hb A.1.2.2.2.1 hd)  h) k
theorem Here.bipush (A : Here p l e R s m args below meth c Z a0 tbl own nm bc mxl rt n0 T L cells slots) {pc q : Nat} {Ls : Array Slot} {st : List Value} {i : Int} {v : Int32} (hd : decode bc pc = .ok (.bipush i, 2)) (hq : pc + 2 = q) (hv : (Int8.ofInt i).toInt32 = v) (k : Go p e below F (T.setTop (mkF m q Ls (.int v :: st)))) : Go p e below F (T.setTop (mkF m pc Ls st)) := by
  subst hq hv
  exact Go.st (fun t h => XS.bipush A.pt A.1.1 rfl (hb A.1.2.2.2.1 hd)  h) k
theorem Here.sipush (A : Here p l e R s m args below meth c Z a0 tbl own nm bc mxl rt n0 T L cells slots) {pc q : Nat} {Ls : Array Slot} {st : List Value} {i : Int} {v : Int32} (hd : decode bc pc = .ok (.sipush i, 3)) (hq : pc + 3 = q) (hv : (Int16.ofInt i).toInt32 = v) (k : Go p e below F (T.setTop (mkF m q Ls (.int v :: st)))) : Go p e below F (T.setTop (mkF m pc Ls st)) := by
  subst hq hv
  exact Go.st (fun t h => XS.sipush A.pt A.1.1 rfl (hb A.1.2.2.2.1 hd)  h) k
theorem Here.lconst (A : Here p l e R s m args below meth c Z a0 tbl own nm bc mxl rt n0 T L cells slots) {pc q : Nat} {Ls : Array Slot} {st : List Value} {i : Fin 2} {v : Int64} (hd : decode bc pc = .ok (.lconst i, 1)) (hq : pc + 1 = q) (hv : Int64.ofNat i = v) (k : Go p e below F (T.setTop (mkF m q Ls (.long v :: st)))) : Go p e below F (T.setTop (mkF m pc Ls st)) := by
  subst hq hv
  exact Go.st (fun t h => XS.lconst A.pt A.1.1 rfl (hb A.1.2.2.2.1 hd)  h) k
theorem Here.aconst_null (A : Here p l e R s m args below meth c Z a0 tbl own nm bc mxl rt n0 T L cells slots) {pc q : Nat} {Ls : Array Slot} {st : List Value}  (hd : decode bc pc = .ok (.aconst_null, 1)) (hq : pc + 1 = q)  (k : Go p e below F (T.setTop (mkF m q Ls (.null :: st)))) : Go p e below F (T.setTop (mkF m pc Ls st)) := by
  subst hq
  exact Go.st (fun t h => XS.aconstNull A.pt A.1.1 rfl (hb A.1.2.2.2.1 hd)  h) k
theorem Here.dup (A : Here p l e R s m args below meth c Z a0 tbl own nm bc mxl rt n0 T L cells slots) {pc q : Nat} {Ls : Array Slot} {st : List Value} {v : Value} (hd : decode bc pc = .ok (.dup, 1)) (hq : pc + 1 = q) (hc : v.category = 1) (k : Go p e below F (T.setTop (mkF m q Ls (v :: v :: st)))) : Go p e below F (T.setTop (mkF m pc Ls (v :: st))) := by
  subst hq
  exact Go.st (fun t h => XS.dup A.pt A.1.1 rfl (hb A.1.2.2.2.1 hd) rfl hc h) k
theorem Here.dup_x1 (A : Here p l e R s m args below meth c Z a0 tbl own nm bc mxl rt n0 T L cells slots) {pc q : Nat} {Ls : Array Slot} {st : List Value} {v w : Value} (hd : decode bc pc = .ok (.dup_x1, 1)) (hq : pc + 1 = q) (hc : v.category = 1) (hc' : w.category = 1) (k : Go p e below F (T.setTop (mkF m q Ls (v :: w :: v :: st)))) : Go p e below F (T.setTop (mkF m pc Ls (v :: w :: st))) := by
  subst hq
  exact Go.st (fun t h => XS.dupX1 A.pt A.1.1 rfl (hb A.1.2.2.2.1 hd) rfl hc hc' h) k
theorem Here.dup2 (A : Here p l e R s m args below meth c Z a0 tbl own nm bc mxl rt n0 T L cells slots) {pc q : Nat} {Ls : Array Slot} {st : List Value} {v w : Value} (hd : decode bc pc = .ok (.dup2, 1)) (hq : pc + 1 = q) (hc : v.category = 1) (hc' : w.category = 1) (k : Go p e below F (T.setTop (mkF m q Ls (v :: w :: v :: w :: st)))) : Go p e below F (T.setTop (mkF m pc Ls (v :: w :: st))) := by
  subst hq
  exact Go.st (fun t h => XT.dup2 A.pt A.1.1 rfl (hb A.1.2.2.2.1 hd) rfl hc hc' h) k
theorem Here.pop (A : Here p l e R s m args below meth c Z a0 tbl own nm bc mxl rt n0 T L cells slots) {pc q : Nat} {Ls : Array Slot} {st : List Value} {v : Value} (hd : decode bc pc = .ok (.pop, 1)) (hq : pc + 1 = q) (hc : v.category = 1) (k : Go p e below F (T.setTop (mkF m q Ls st))) : Go p e below F (T.setTop (mkF m pc Ls (v :: st))) := by
  subst hq
  exact Go.st (fun t h => XS.pop A.pt A.1.1 rfl (hb A.1.2.2.2.1 hd) rfl hc h) k
theorem Here.iinc (A : Here p l e R s m args below meth c Z a0 tbl own nm bc mxl rt n0 T L cells slots) {pc q : Nat} {Ls : Array Slot} {st : List Value} {k : Nat} {cst : Int} {x v : Int32} {l' : Array Slot} (hd : decode bc pc = .ok (.iinc k cst, 3)) (hq : pc + 3 = q) (hl : Ls[k]? = some (.val (.int x))) (hv : x + Int32.ofInt cst = v) (hl' : storeLocals Ls k (.int v) = some l') (k : Go p e below F (T.setTop (mkF m q l' st))) : Go p e below F (T.setTop (mkF m pc Ls st)) := by
  subst hq hv
  exact Go.st (fun t h => XS.iinc A.pt A.1.1 rfl (hb A.1.2.2.2.1 hd) hl hl' h) k
theorem Here.goto (A : Here p l e R s m args below meth c Z a0 tbl own nm bc mxl rt n0 T L cells slots) {pc r : Nat} {Ls : Array Slot} {st : List Value} {o : Int} (hd : decode bc pc = .ok (.goto o, 3)) (hr : (pc : Int) + o = (r : Int)) (k : Go p e below F (T.setTop (mkF m r Ls st))) : Go p e below F (T.setTop (mkF m pc Ls st)) :=
  Go.st (fun t h => XS.goto A.pt A.1.1 rfl (pc0 := pc) (pc' := r) rfl (hb A.1.2.2.2.1 hd) (by omega) (by omega) h) k
theorem Here.icmp_lt (A : Here p l e R s m args below meth c Z a0 tbl own nm bc mxl rt n0 T L cells slots) {pc q r : Nat} {Ls : Array Slot} {st : List Value} {x y : Int32} {o : Int} (hd : decode bc pc = .ok (.if_icmp .lt o, 3)) (hq : pc + 3 = q) (hr : (pc : Int) + o = (r : Int)) (kt : x < y → Go p e below F (T.setTop (mkF m r Ls st))) (kf : ¬ (x < y) → Go p e below F (T.setTop (mkF m q Ls st))) : Go p e below F (T.setTop (mkF m pc Ls (.int y :: .int x :: st))) := by
  by_cases hc : x < y
  · exact Go.st (fun t h => XS.icmpYes A.pt A.1.1 rfl (pc0 := pc) (pc' := r) rfl (hb A.1.2.2.2.1 hd) rfl (tlt hc).1 (by omega) (by omega) h) (kt hc)
  · subst hq; exact Go.st (fun t h => XS.icmpNo A.pt A.1.1 rfl (hb A.1.2.2.2.1 hd) rfl (flt hc).1 h) (kf hc)
theorem Here.if_lt (A : Here p l e R s m args below meth c Z a0 tbl own nm bc mxl rt n0 T L cells slots) {pc q r : Nat} {Ls : Array Slot} {st : List Value} {x : Int32} {o : Int} (hd : decode bc pc = .ok (.ifCond .lt o, 3)) (hq : pc + 3 = q) (hr : (pc : Int) + o = (r : Int)) (kt : x < (0 : Int32) → Go p e below F (T.setTop (mkF m r Ls st))) (kf : ¬ (x < (0 : Int32)) → Go p e below F (T.setTop (mkF m q Ls st))) : Go p e below F (T.setTop (mkF m pc Ls (.int x :: st))) := by
  by_cases hc : x < (0 : Int32)
  · exact Go.st (fun t h => XS.ifYes A.pt A.1.1 rfl (pc0 := pc) (pc' := r) rfl (hb A.1.2.2.2.1 hd) rfl ((if0 _ _).trans (tlt hc).1) (by omega) (by omega) h) (kt hc)
  · subst hq; exact Go.st (fun t h => XS.ifNo A.pt A.1.1 rfl (hb A.1.2.2.2.1 hd) rfl ((if0 _ _).trans (flt hc).1) h) (kf hc)
theorem Here.icmp_ge (A : Here p l e R s m args below meth c Z a0 tbl own nm bc mxl rt n0 T L cells slots) {pc q r : Nat} {Ls : Array Slot} {st : List Value} {x y : Int32} {o : Int} (hd : decode bc pc = .ok (.if_icmp .ge o, 3)) (hq : pc + 3 = q) (hr : (pc : Int) + o = (r : Int)) (kt : ¬ (x < y) → Go p e below F (T.setTop (mkF m r Ls st))) (kf : x < y → Go p e below F (T.setTop (mkF m q Ls st))) : Go p e below F (T.setTop (mkF m pc Ls (.int y :: .int x :: st))) := by
  by_cases hc : x < y
  · subst hq; exact Go.st (fun t h => XS.icmpNo A.pt A.1.1 rfl (hb A.1.2.2.2.1 hd) rfl (tlt hc).2.1 h) (kf hc)
  · exact Go.st (fun t h => XS.icmpYes A.pt A.1.1 rfl (pc0 := pc) (pc' := r) rfl (hb A.1.2.2.2.1 hd) rfl (flt hc).2.1 (by omega) (by omega) h) (kt hc)
theorem Here.if_ge (A : Here p l e R s m args below meth c Z a0 tbl own nm bc mxl rt n0 T L cells slots) {pc q r : Nat} {Ls : Array Slot} {st : List Value} {x : Int32} {o : Int} (hd : decode bc pc = .ok (.ifCond .ge o, 3)) (hq : pc + 3 = q) (hr : (pc : Int) + o = (r : Int)) (kt : ¬ (x < (0 : Int32)) → Go p e below F (T.setTop (mkF m r Ls st))) (kf : x < (0 : Int32) → Go p e below F (T.setTop (mkF m q Ls st))) : Go p e below F (T.setTop (mkF m pc Ls (.int x :: st))) := by
  by_cases hc : x < (0 : Int32)
  · subst hq; exact Go.st (fun t h => XS.ifNo A.pt A.1.1 rfl (hb A.1.2.2.2.1 hd) rfl ((if0 _ _).trans (tlt hc).2.1) h) (kf hc)
  · exact Go.st (fun t h => XS.ifYes A.pt A.1.1 rfl (pc0 := pc) (pc' := r) rfl (hb A.1.2.2.2.1 hd) rfl ((if0 _ _).trans (flt hc).2.1) (by omega) (by omega) h) (kt hc)
theorem Here.icmp_gt (A : Here p l e R s m args below meth c Z a0 tbl own nm bc mxl rt n0 T L cells slots) {pc q r : Nat} {Ls : Array Slot} {st : List Value} {x y : Int32} {o : Int} (hd : decode bc pc = .ok (.if_icmp .gt o, 3)) (hq : pc + 3 = q) (hr : (pc : Int) + o = (r : Int)) (kt : y < x → Go p e below F (T.setTop (mkF m r Ls st))) (kf : ¬ (y < x) → Go p e below F (T.setTop (mkF m q Ls st))) : Go p e below F (T.setTop (mkF m pc Ls (.int y :: .int x :: st))) := by
  by_cases hc : y < x
  · exact Go.st (fun t h => XS.icmpYes A.pt A.1.1 rfl (pc0 := pc) (pc' := r) rfl (hb A.1.2.2.2.1 hd) rfl (tlt hc).2.2.1 (by omega) (by omega) h) (kt hc)
  · subst hq; exact Go.st (fun t h => XS.icmpNo A.pt A.1.1 rfl (hb A.1.2.2.2.1 hd) rfl (flt hc).2.2.1 h) (kf hc)
theorem Here.if_gt (A : Here p l e R s m args below meth c Z a0 tbl own nm bc mxl rt n0 T L cells slots) {pc q r : Nat} {Ls : Array Slot} {st : List Value} {x : Int32} {o : Int} (hd : decode bc pc = .ok (.ifCond .gt o, 3)) (hq : pc + 3 = q) (hr : (pc : Int) + o = (r : Int)) (kt : (0 : Int32) < x → Go p e below F (T.setTop (mkF m r Ls st))) (kf : ¬ ((0 : Int32) < x) → Go p e below F (T.setTop (mkF m q Ls st))) : Go p e below F (T.setTop (mkF m pc Ls (.int x :: st))) := by
  by_cases hc : (0 : Int32) < x
  · exact Go.st (fun t h => XS.ifYes A.pt A.1.1 rfl (pc0 := pc) (pc' := r) rfl (hb A.1.2.2.2.1 hd) rfl ((if0 _ _).trans (tlt hc).2.2.1) (by omega) (by omega) h) (kt hc)
  · subst hq; exact Go.st (fun t h => XS.ifNo A.pt A.1.1 rfl (hb A.1.2.2.2.1 hd) rfl ((if0 _ _).trans (flt hc).2.2.1) h) (kf hc)
theorem Here.icmp_le (A : Here p l e R s m args below meth c Z a0 tbl own nm bc mxl rt n0 T L cells slots) {pc q r : Nat} {Ls : Array Slot} {st : List Value} {x y : Int32} {o : Int} (hd : decode bc pc = .ok (.if_icmp .le o, 3)) (hq : pc + 3 = q) (hr : (pc : Int) + o = (r : Int)) (kt : ¬ (y < x) → Go p e below F (T.setTop (mkF m r Ls st))) (kf : y < x → Go p e below F (T.setTop (mkF m q Ls st))) : Go p e below F (T.setTop (mkF m pc Ls (.int y :: .int x :: st))) := by
  by_cases hc : y < x
  · subst hq; exact Go.st (fun t h => XS.icmpNo A.pt A.1.1 rfl (hb A.1.2.2.2.1 hd) rfl (tlt hc).2.2.2 h) (kf hc)
  · exact Go.st (fun t h => XS.icmpYes A.pt A.1.1 rfl (pc0 := pc) (pc' := r) rfl (hb A.1.2.2.2.1 hd) rfl (flt hc).2.2.2 (by omega) (by omega) h) (kt hc)
theorem Here.if_le (A : Here p l e R s m args below meth c Z a0 tbl own nm bc mxl rt n0 T L cells slots) {pc q r : Nat} {Ls : Array Slot} {st : List Value} {x : Int32} {o : Int} (hd : decode bc pc = .ok (.ifCond .le o, 3)) (hq : pc + 3 = q) (hr : (pc : Int) + o = (r : Int)) (kt : ¬ ((0 : Int32) < x) → Go p e below F (T.setTop (mkF m r Ls st))) (kf : (0 : Int32) < x → Go p e below F (T.setTop (mkF m q Ls st))) : Go p e below F (T.setTop (mkF m pc Ls (.int x :: st))) := by
  by_cases hc : (0 : Int32) < x
  · subst hq; exact Go.st (fun t h => XS.ifNo A.pt A.1.1 rfl (hb A.1.2.2.2.1 hd) rfl ((if0 _ _).trans (tlt hc).2.2.2) h) (kf hc)
  · exact Go.st (fun t h => XS.ifYes A.pt A.1.1 rfl (pc0 := pc) (pc' := r) rfl (hb A.1.2.2.2.1 hd) rfl ((if0 _ _).trans (flt hc).2.2.2) (by omega) (by omega) h) (kt hc)
theorem Here.icmp_eq (A : Here p l e R s m args below meth c Z a0 tbl own nm bc mxl rt n0 T L cells slots) {pc q r : Nat} {Ls : Array Slot} {st : List Value} {x y : Int32} {o : Int} (hd : decode bc pc = .ok (.if_icmp .eq o, 3)) (hq : pc + 3 = q) (hr : (pc : Int) + o = (r : Int)) (kt : x = y → Go p e below F (T.setTop (mkF m r Ls st))) (kf : ¬ (x = y) → Go p e below F (T.setTop (mkF m q Ls st))) : Go p e below F (T.setTop (mkF m pc Ls (.int y :: .int x :: st))) := by
  by_cases hc : x = y
  · exact Go.st (fun t h => XS.icmpYes A.pt A.1.1 rfl (pc0 := pc) (pc' := r) rfl (hb A.1.2.2.2.1 hd) rfl (teq hc).1 (by omega) (by omega) h) (kt hc)
  · subst hq; exact Go.st (fun t h => XS.icmpNo A.pt A.1.1 rfl (hb A.1.2.2.2.1 hd) rfl (feq hc).1 h) (kf hc)
theorem Here.if_eq (A : Here p l e R s m args below meth c Z a0 tbl own nm bc mxl rt n0 T L cells slots) {pc q r : Nat} {Ls : Array Slot} {st : List Value} {x : Int32} {o : Int} (hd : decode bc pc = .ok (.ifCond .eq o, 3)) (hq : pc + 3 = q) (hr : (pc : Int) + o = (r : Int)) (kt : x = (0 : Int32) → Go p e below F (T.setTop (mkF m r Ls st))) (kf : ¬ (x = (0 : Int32)) → Go p e below F (T.setTop (mkF m q Ls st))) : Go p e below F (T.setTop (mkF m pc Ls (.int x :: st))) := by
  by_cases hc : x = (0 : Int32)
  · exact Go.st (fun t h => XS.ifYes A.pt A.1.1 rfl (pc0 := pc) (pc' := r) rfl (hb A.1.2.2.2.1 hd) rfl ((if0 _ _).trans (teq hc).1) (by omega) (by omega) h) (kt hc)
  · subst hq; exact Go.st (fun t h => XS.ifNo A.pt A.1.1 rfl (hb A.1.2.2.2.1 hd) rfl ((if0 _ _).trans (feq hc).1) h) (kf hc)
theorem Here.icmp_ne (A : Here p l e R s m args below meth c Z a0 tbl own nm bc mxl rt n0 T L cells slots) {pc q r : Nat} {Ls : Array Slot} {st : List Value} {x y : Int32} {o : Int} (hd : decode bc pc = .ok (.if_icmp .ne o, 3)) (hq : pc + 3 = q) (hr : (pc : Int) + o = (r : Int)) (kt : ¬ (x = y) → Go p e below F (T.setTop (mkF m r Ls st))) (kf : x = y → Go p e below F (T.setTop (mkF m q Ls st))) : Go p e below F (T.setTop (mkF m pc Ls (.int y :: .int x :: st))) := by
  by_cases hc : x = y
  · subst hq; exact Go.st (fun t h => XS.icmpNo A.pt A.1.1 rfl (hb A.1.2.2.2.1 hd) rfl (teq hc).2 h) (kf hc)
  · exact Go.st (fun t h => XS.icmpYes A.pt A.1.1 rfl (pc0 := pc) (pc' := r) rfl (hb A.1.2.2.2.1 hd) rfl (feq hc).2 (by omega) (by omega) h) (kt hc)
theorem Here.if_ne (A : Here p l e R s m args below meth c Z a0 tbl own nm bc mxl rt n0 T L cells slots) {pc q r : Nat} {Ls : Array Slot} {st : List Value} {x : Int32} {o : Int} (hd : decode bc pc = .ok (.ifCond .ne o, 3)) (hq : pc + 3 = q) (hr : (pc : Int) + o = (r : Int)) (kt : ¬ (x = (0 : Int32)) → Go p e below F (T.setTop (mkF m r Ls st))) (kf : x = (0 : Int32) → Go p e below F (T.setTop (mkF m q Ls st))) : Go p e below F (T.setTop (mkF m pc Ls (.int x :: st))) := by
  by_cases hc : x = (0 : Int32)
  · subst hq; exact Go.st (fun t h => XS.ifNo A.pt A.1.1 rfl (hb A.1.2.2.2.1 hd) rfl ((if0 _ _).trans (teq hc).2) h) (kf hc)
  · exact Go.st (fun t h => XS.ifYes A.pt A.1.1 rfl (pc0 := pc) (pc' := r) rfl (hb A.1.2.2.2.1 hd) rfl ((if0 _ _).trans (feq hc).2) (by omega) (by omega) h) (kt hc)
theorem Here.icmpT (A : Here p l e R s m args below meth c Z a0 tbl own nm bc mxl rt n0 T L cells slots) {pc r : Nat} {Ls : Array Slot} {st : List Value} {x y : Int32} {o : Int} {cd : ClassFile.Cond} (hd : decode bc pc = .ok (.if_icmp cd o, 3)) (hr : (pc : Int) + o = (r : Int)) (hc : if_icmp.holds cd x y = true) (k : Go p e below F (T.setTop (mkF m r Ls st))) : Go p e below F (T.setTop (mkF m pc Ls (.int y :: .int x :: st))) :=
  Go.st (fun t h => XS.icmpYes A.pt A.1.1 rfl (pc0 := pc) (pc' := r) rfl (hb A.1.2.2.2.1 hd) rfl hc (by omega) (by omega) h) k
theorem Here.icmpF (A : Here p l e R s m args below meth c Z a0 tbl own nm bc mxl rt n0 T L cells slots) {pc q : Nat} {Ls : Array Slot} {st : List Value} {x y : Int32} {o : Int} {cd : ClassFile.Cond} (hd : decode bc pc = .ok (.if_icmp cd o, 3)) (hq : pc + 3 = q) (hc : if_icmp.holds cd x y = false) (k : Go p e below F (T.setTop (mkF m q Ls st))) : Go p e below F (T.setTop (mkF m pc Ls (.int y :: .int x :: st))) := by
  subst hq; exact Go.st (fun t h => XS.icmpNo A.pt A.1.1 rfl (hb A.1.2.2.2.1 hd) rfl hc h) k
theorem Here.ifT (A : Here p l e R s m args below meth c Z a0 tbl own nm bc mxl rt n0 T L cells slots) {pc r : Nat} {Ls : Array Slot} {st : List Value} {x : Int32} {o : Int} {cd : ClassFile.Cond} (hd : decode bc pc = .ok (.ifCond cd o, 3)) (hr : (pc : Int) + o = (r : Int)) (hc : ifCond.holds cd x = true) (k : Go p e below F (T.setTop (mkF m r Ls st))) : Go p e below F (T.setTop (mkF m pc Ls (.int x :: st))) :=
  Go.st (fun t h => XS.ifYes A.pt A.1.1 rfl (pc0 := pc) (pc' := r) rfl (hb A.1.2.2.2.1 hd) rfl hc (by omega) (by omega) h) k
theorem Here.ifF (A : Here p l e R s m args below meth c Z a0 tbl own nm bc mxl rt n0 T L cells slots) {pc q : Nat} {Ls : Array Slot} {st : List Value} {x : Int32} {o : Int} {cd : ClassFile.Cond} (hd : decode bc pc = .ok (.ifCond cd o, 3)) (hq : pc + 3 = q) (hc : ifCond.holds cd x = false) (k : Go p e below F (T.setTop (mkF m q Ls st))) : Go p e below F (T.setTop (mkF m pc Ls (.int x :: st))) := by
  subst hq; exact Go.st (fun t h => XS.ifNo A.pt A.1.1 rfl (hb A.1.2.2.2.1 hd) rfl hc h) k
theorem Here.lcmp_lt (A : Here p l e R s m args below meth c Z a0 tbl own nm bc mxl rt n0 T L cells slots) {pc q q2 r : Nat} {Ls : Array Slot} {st : List Value} {x y : Int64} {o : Int} (hd : decode bc pc = .ok (.lcmp, 1)) (hq : pc + 1 = q) (hd2 : decode bc q = .ok (.ifCond .lt o, 3)) (hq2 : q + 3 = q2) (hr : (q : Int) + o = (r : Int)) (kt : x < y → Go p e below F (T.setTop (mkF m r Ls st))) (kf : ¬ (x < y) → Go p e below F (T.setTop (mkF m q2 Ls st))) : Go p e below F (T.setTop (mkF m pc Ls (.long y :: .long x :: st))) := by
  have key : Go p e below F (T.setTop (mkF m q Ls (.int (lcmpW x y) :: st))) := by
    by_cases hc : x < y
    · exact A.ifT hd2 hr ((if0 _ _).trans (tlt ((lw_lt x y).mpr hc)).1) (kt hc)
    · exact A.ifF hd2 hq2 ((if0 _ _).trans (flt (mt (lw_lt x y).mp hc)).1) (kf hc)
  subst hq
  exact Go.st (fun t h => XS.lcmp A.pt A.1.1 rfl (hb A.1.2.2.2.1 hd) rfl h) key
theorem Here.lcmp_ge (A : Here p l e R s m args below meth c Z a0 tbl own nm bc mxl rt n0 T L cells slots) {pc q q2 r : Nat} {Ls : Array Slot} {st : List Value} {x y : Int64} {o : Int} (hd : decode bc pc = .ok (.lcmp, 1)) (hq : pc + 1 = q) (hd2 : decode bc q = .ok (.ifCond .ge o, 3)) (hq2 : q + 3 = q2) (hr : (q : Int) + o = (r : Int)) (kt : ¬ (x < y) → Go p e below F (T.setTop (mkF m r Ls st))) (kf : x < y → Go p e below F (T.setTop (mkF m q2 Ls st))) : Go p e below F (T.setTop (mkF m pc Ls (.long y :: .long x :: st))) := by
  have key : Go p e below F (T.setTop (mkF m q Ls (.int (lcmpW x y) :: st))) := by
    by_cases hc : x < y
    · exact A.ifF hd2 hq2 ((if0 _ _).trans (tlt ((lw_lt x y).mpr hc)).2.1) (kf hc)
    · exact A.ifT hd2 hr ((if0 _ _).trans (flt (mt (lw_lt x y).mp hc)).2.1) (kt hc)
  subst hq
  exact Go.st (fun t h => XS.lcmp A.pt A.1.1 rfl (hb A.1.2.2.2.1 hd) rfl h) key
theorem Here.lcmp_gt (A : Here p l e R s m args below meth c Z a0 tbl own nm bc mxl rt n0 T L cells slots) {pc q q2 r : Nat} {Ls : Array Slot} {st : List Value} {x y : Int64} {o : Int} (hd : decode bc pc = .ok (.lcmp, 1)) (hq : pc + 1 = q) (hd2 : decode bc q = .ok (.ifCond .gt o, 3)) (hq2 : q + 3 = q2) (hr : (q : Int) + o = (r : Int)) (kt : y < x → Go p e below F (T.setTop (mkF m r Ls st))) (kf : ¬ (y < x) → Go p e below F (T.setTop (mkF m q2 Ls st))) : Go p e below F (T.setTop (mkF m pc Ls (.long y :: .long x :: st))) := by
  have key : Go p e below F (T.setTop (mkF m q Ls (.int (lcmpW x y) :: st))) := by
    by_cases hc : y < x
    · exact A.ifT hd2 hr ((if0 _ _).trans (tlt ((lw_gt x y).mpr hc)).2.2.1) (kt hc)
    · exact A.ifF hd2 hq2 ((if0 _ _).trans (flt (mt (lw_gt x y).mp hc)).2.2.1) (kf hc)
  subst hq
  exact Go.st (fun t h => XS.lcmp A.pt A.1.1 rfl (hb A.1.2.2.2.1 hd) rfl h) key
theorem Here.lcmp_le (A : Here p l e R s m args below meth c Z a0 tbl own nm bc mxl rt n0 T L cells slots) {pc q q2 r : Nat} {Ls : Array Slot} {st : List Value} {x y : Int64} {o : Int} (hd : decode bc pc = .ok (.lcmp, 1)) (hq : pc + 1 = q) (hd2 : decode bc q = .ok (.ifCond .le o, 3)) (hq2 : q + 3 = q2) (hr : (q : Int) + o = (r : Int)) (kt : ¬ (y < x) → Go p e below F (T.setTop (mkF m r Ls st))) (kf : y < x → Go p e below F (T.setTop (mkF m q2 Ls st))) : Go p e below F (T.setTop (mkF m pc Ls (.long y :: .long x :: st))) := by
  have key : Go p e below F (T.setTop (mkF m q Ls (.int (lcmpW x y) :: st))) := by
    by_cases hc : y < x
    · exact A.ifF hd2 hq2 ((if0 _ _).trans (tlt ((lw_gt x y).mpr hc)).2.2.2) (kf hc)
    · exact A.ifT hd2 hr ((if0 _ _).trans (flt (mt (lw_gt x y).mp hc)).2.2.2) (kt hc)
  subst hq
  exact Go.st (fun t h => XS.lcmp A.pt A.1.1 rfl (hb A.1.2.2.2.1 hd) rfl h) key
theorem Here.lcmp_eq (A : Here p l e R s m args below meth c Z a0 tbl own nm bc mxl rt n0 T L cells slots) {pc q q2 r : Nat} {Ls : Array Slot} {st : List Value} {x y : Int64} {o : Int} (hd : decode bc pc = .ok (.lcmp, 1)) (hq : pc + 1 = q) (hd2 : decode bc q = .ok (.ifCond .eq o, 3)) (hq2 : q + 3 = q2) (hr : (q : Int) + o = (r : Int)) (kt : x = y → Go p e below F (T.setTop (mkF m r Ls st))) (kf : ¬ (x = y) → Go p e below F (T.setTop (mkF m q2 Ls st))) : Go p e below F (T.setTop (mkF m pc Ls (.long y :: .long x :: st))) := by
  have key : Go p e below F (T.setTop (mkF m q Ls (.int (lcmpW x y) :: st))) := by
    by_cases hc : x = y
    · exact A.ifT hd2 hr ((if0 _ _).trans (teq ((lw_eq x y).mpr hc)).1) (kt hc)
    · exact A.ifF hd2 hq2 ((if0 _ _).trans (feq (mt (lw_eq x y).mp hc)).1) (kf hc)
  subst hq
  exact Go.st (fun t h => XS.lcmp A.pt A.1.1 rfl (hb A.1.2.2.2.1 hd) rfl h) key
theorem Here.lcmp_ne (A : Here p l e R s m args below meth c Z a0 tbl own nm bc mxl rt n0 T L cells slots) {pc q q2 r : Nat} {Ls : Array Slot} {st : List Value} {x y : Int64} {o : Int} (hd : decode bc pc = .ok (.lcmp, 1)) (hq : pc + 1 = q) (hd2 : decode bc q = .ok (.ifCond .ne o, 3)) (hq2 : q + 3 = q2) (hr : (q : Int) + o = (r : Int)) (kt : ¬ (x = y) → Go p e below F (T.setTop (mkF m r Ls st))) (kf : x = y → Go p e below F (T.setTop (mkF m q2 Ls st))) : Go p e below F (T.setTop (mkF m pc Ls (.long y :: .long x :: st))) := by
  have key : Go p e below F (T.setTop (mkF m q Ls (.int (lcmpW x y) :: st))) := by
    by_cases hc : x = y
    · exact A.ifF hd2 hq2 ((if0 _ _).trans (teq ((lw_eq x y).mpr hc)).2) (kf hc)
    · exact A.ifT hd2 hr ((if0 _ _).trans (feq (mt (lw_eq x y).mp hc)).2) (kt hc)
  subst hq
  exact Go.st (fun t h => XS.lcmp A.pt A.1.1 rfl (hb A.1.2.2.2.1 hd) rfl h) key
theorem Here.ifnonnullT (A : Here p l e R s m args below meth c Z a0 tbl own nm bc mxl rt n0 T L cells slots) {pc r : Nat} {Ls : Array Slot} {st : List Value} {b : Addr} {o : Int} (hd : decode bc pc = .ok (.ifnonnull o, 3)) (hr : (pc : Int) + o = (r : Int)) (k : Go p e below F (T.setTop (mkF m r Ls st))) : Go p e below F (T.setTop (mkF m pc Ls (.ref b :: st))) :=
  Go.st (fun t h => XS.ifnonnullYes A.pt A.1.1 rfl (pc0 := pc) (pc' := r) rfl (hb A.1.2.2.2.1 hd) rfl (by omega) (by omega) h) k
theorem Here.ifnonnullF (A : Here p l e R s m args below meth c Z a0 tbl own nm bc mxl rt n0 T L cells slots) {pc q : Nat} {Ls : Array Slot} {st : List Value} {o : Int} (hd : decode bc pc = .ok (.ifnonnull o, 3)) (hq : pc + 3 = q) (k : Go p e below F (T.setTop (mkF m q Ls st))) : Go p e below F (T.setTop (mkF m pc Ls (.null :: st))) := by
  subst hq; exact Go.st (fun t h => XS.ifnonnullNo A.pt A.1.1 rfl (hb A.1.2.2.2.1 hd) rfl h) k
theorem Here.ifnullT (A : Here p l e R s m args below meth c Z a0 tbl own nm bc mxl rt n0 T L cells slots) {pc r : Nat} {Ls : Array Slot} {st : List Value} {o : Int} (hd : decode bc pc = .ok (.ifnull o, 3)) (hr : (pc : Int) + o = (r : Int)) (k : Go p e below F (T.setTop (mkF m r Ls st))) : Go p e below F (T.setTop (mkF m pc Ls (.null :: st))) :=
  Go.st (fun t h => XS.ifnullYes A.pt A.1.1 rfl (pc0 := pc) (pc' := r) rfl (hb A.1.2.2.2.1 hd) rfl (by omega) (by omega) h) k
theorem Here.ifnullF (A : Here p l e R s m args below meth c Z a0 tbl own nm bc mxl rt n0 T L cells slots) {pc q : Nat} {Ls : Array Slot} {st : List Value} {b : Addr} {o : Int} (hd : decode bc pc = .ok (.ifnull o, 3)) (hq : pc + 3 = q) (k : Go p e below F (T.setTop (mkF m q Ls st))) : Go p e below F (T.setTop (mkF m pc Ls (.ref b :: st))) := by
  subst hq; exact Go.st (fun t h => XS.ifnullNo A.pt A.1.1 rfl (hb A.1.2.2.2.1 hd) rfl h) k
theorem Here.acmp (A : Here p l e R s m args below meth c Z a0 tbl own nm bc mxl rt n0 T L cells slots) {pc r : Nat} {Ls : Array Slot} {st : List Value} {x y : Value} {cd : ACond} {o : Int} {same : Bool} (hd : decode bc pc = .ok (.if_acmp cd o, 3)) (h1 : x.isRef = true) (h2 : y.isRef = true) (hs : decide (x = y) = same) (ho : 0 ≤ (pc : Int) + o) (hp : r = if acV cd same = true then ((pc : Int) + o).toNat else pc + 3) (k : Go p e below F (T.setTop (mkF m r Ls st))) : Go p e below F (T.setTop (mkF m pc Ls (y :: x :: st))) := by
  obtain ⟨_, X, _⟩ := A.2
  exact Go.st (fun t h => Jvm.RoadKit.acmp X A.1.1 rfl h1 h2 (pc0 := pc) (pc' := r) (same := same) rfl (hb A.1.2.2.2.1 hd) rfl hs ho hp h) k
theorem Here.ldc (A : Here p l e R s m args below meth c Z a0 tbl own nm bc mxl rt n0 T L cells slots) {pc q w index : Nat} {Ls : Array Slot} {st : List Value} {v : Int32} (hd : decode bc pc = .ok (.ldc index, 2)) (hq : pc + 2 = q) (hw : tbl[w]? = some (Jvm.Cond.constant own index v)) (k : Go p e below F (T.setTop (mkF m q Ls (.int v :: st)))) : Go p e below F (T.setTop (mkF m pc Ls st)) := by
  obtain ⟨⟨hx, hZ, hown, hby, hml, hww, hnm, hrt, hlk⟩, locs, X, N, Z0, P⟩ := id A
  subst hq
  exact Go.st (X.ldcInt hx hown (mvT hZ (hww _ (List.mem_of_getElem? hw))) (g := mkF m pc Ls st) rfl (hb hby hd)) k
theorem Here.ldc_w (A : Here p l e R s m args below meth c Z a0 tbl own nm bc mxl rt n0 T L cells slots) {pc q w index : Nat} {Ls : Array Slot} {st : List Value} {v : Int32} (hd : decode bc pc = .ok (.ldc_w index, 3)) (hq : pc + 3 = q) (hw : tbl[w]? = some (Jvm.Cond.constant own index v)) (k : Go p e below F (T.setTop (mkF m q Ls (.int v :: st)))) : Go p e below F (T.setTop (mkF m pc Ls st)) := by
  obtain ⟨⟨hx, hZ, hown, hby, hml, hww, hnm, hrt, hlk⟩, locs, X, N, Z0, P⟩ := id A
  subst hq
  exact Go.st (X.ldcwInt hx hown (mvT hZ (hww _ (List.mem_of_getElem? hw))) (g := mkF m pc Ls st) rfl (hb hby hd)) k
theorem Here.ldc2_w (A : Here p l e R s m args below meth c Z a0 tbl own nm bc mxl rt n0 T L cells slots) {pc q w index : Nat} {Ls : Array Slot} {st : List Value} {v : Int64} (hd : decode bc pc = .ok (.ldc2_w index, 3)) (hq : pc + 3 = q) (hw : tbl[w]? = some (Jvm.Cond.constantLong own index v)) (k : Go p e below F (T.setTop (mkF m q Ls (.long v :: st)))) : Go p e below F (T.setTop (mkF m pc Ls st)) := by
  obtain ⟨⟨hx, hZ, hown, hby, hml, hww, hnm, hrt, hlk⟩, locs, X, N, Z0, P⟩ := id A
  subst hq
  exact Go.st (X.ldc2Long hx hown (mvT hZ (hww _ (List.mem_of_getElem? hw))) (g := mkF m pc Ls st) rfl (hb hby hd)) k
theorem Here.getF (A : Here p l e R s m args below meth c Z a0 tbl own nm bc mxl rt n0 T L cells slots) {pc q w i j index : Nat} {Ls : Array Slot} {st : List Value} {O n d C : String} {a : Addr} {fs : List ((String × String × String) × Value)} {v : Value} (hd : decode bc pc = .ok (.getfield index, 3)) (hq : pc + 3 = q) (hw : tbl[w]? = some (Jvm.Cond.fieldLink own index O n d)) (hL : L[i]? = some (a, .inl (C, fs))) (hf : fs[j]? = some ((O, n, d), v))
    (k : ∀ T', Here p l e R s m args below meth c Z a0 tbl own nm bc mxl rt n0 T' L cells slots → Go p e below F (T'.setTop (mkF m q Ls (v :: st)))) : Go p e below F (T.setTop (mkF m pc Ls (.ref a :: st))) := by
  obtain ⟨⟨hx, hZ, hown, hby, hml, hww, hnm, hrt, hlk⟩, locs, X, N, Z0, P⟩ := id A
  have Fd := (P.1 _ (List.mem_of_getElem? hL)).2.2 _ (List.mem_of_getElem? hf)
  obtain ⟨T', X', e', st'⟩ := Jvm.RoadKit.getF X hx hZ hown (host := "") (Or.inl (hww _ (List.mem_of_getElem? hw))) Via.refl rfl Fd (g := mkF m pc Ls (.ref a :: st)) rfl rfl (hb hby hd)
  subst hq
  exact Go.st st' (k T' ⟨A.1, locs, X', N, by rw [e']; exact Z0, by rw [e']; exact P⟩)
theorem Here.putF (A : Here p l e R s m args below meth c Z a0 tbl own nm bc mxl rt n0 T L cells slots) {pc q w w2 w3 i j index kk : Nat} {Ls : Array Slot} {st : List Value} {O n d C : String} {a : Addr} {fs : List ((String × String × String) × Value)} {v v' old : Value} {ty : FieldType} {L' : Obs} (hd : decode bc pc = .ok (.putfield index, 3)) (hq : pc + 3 = q) (hw : tbl[w]? = some (Jvm.Cond.fieldLink own index O n d)) (hL : L[i]? = some (a, .inl (C, fs))) (hf : fs[j]? = some ((O, n, d), old))
    (hl : Lays Z a0 C (fs.map Prod.fst)) (hp : tbl[w2]? = some (Jvm.Cond.lays C O n d) ∨ (tbl[w2]? = some (Jvm.Cond.laysFinal C O n d) ∧ own = O ∧ nm = "<init>")) (hi : tbl[w3]? = some (Jvm.Cond.instantiable C kk)) (hty : parseFieldDescriptor d = some ty) (hn : narrow ty v = v') (hfit : fits ty v' = true) (hL' : L.set i (a, .inl (C, fs.set j ((O, n, d), v'))) = L')
    (k : ∀ T', Here p l e R s m args below meth c Z a0 tbl own nm bc mxl rt n0 T' L' cells slots → Go p e below F (T'.setTop (mkF m q Ls st))) : Go p e below F (T.setTop (mkF m pc Ls (v :: .ref a :: st))) := by
  obtain ⟨⟨hx, hZ, hown, hby, hml, hww, hnm, hrt, hlk⟩, locs, X, N, Z0, P⟩ := id A
  have I := P.1 _ (List.mem_of_getElem? hL)
  obtain ⟨T', h', X', e', W, st'⟩ := Jvm.RoadKit.putFN X hx hZ hown (hww _ (List.mem_of_getElem? hw)) Via.refl rfl (I.2.2 _ (List.mem_of_getElem? hf)) I.2.1 (hp.imp (fun q => hww _ (List.mem_of_getElem? q)) (fun q => ⟨hww _ (List.mem_of_getElem? q.1), q.2.1, by rw [hnm]; exact q.2.2⟩)) (hww _ (List.mem_of_getElem? hi)) hty hn hfit (g := mkF m pc Ls (v :: .ref a :: st)) rfl rfl (hb hby hd)
  subst hq hL' e'
  exact Go.st st' (k T' ⟨A.1, _, X', Fr.snoc X' N I.1, by rw [W.size]; exact Z0, P.set W hL (I.2.put W hl hf)⟩)
theorem Here.newO (A : Here p l e R s m args below meth c Z a0 tbl own nm bc mxl rt n0 T L cells slots) {pc q w1 w2 w3 index n : Nat} {Ls : Array Slot} {st : List Value} {C : String} {fs : List ((String × String × String) × Value)} (hd : decode bc pc = .ok (.new index, 3)) (hq : pc + 3 = q) (h1 : tbl[w1]? = some (Jvm.Cond.classLink own index C)) (h2 : tbl[w2]? = some (Jvm.Cond.instantiable C n)) (h3 : tbl[w3]? = some (Jvm.Cond.initialized C)) (hl : Lays Z a0 C (fs.map Prod.fst))
    (hdef : (fs.all fun q => match parseFieldDescriptor q.1.2.2 with | some t => decide (defaultValue t = q.2) | none => false) = true) (hc : cells + 1 ≤ R.cells) (hs : slots + n ≤ R.slots)
    (k : ∀ T' a, Here p l e R s m args below meth c Z a0 tbl own nm bc mxl rt n0 T' ((a, .inl (C, fs)) :: L) (cells + 1) (slots + n) → Go p e below F (T'.setTop (mkF m q Ls (.ref a :: st)))) : Go p e below F (T.setTop (mkF m pc Ls st)) := by
  obtain ⟨⟨hx, hZ, hown, hby, hml, hww, hnm, hrt, hlk⟩, locs, X, N, Z0, P⟩ := id A
  obtain ⟨T', h', X', e', E, Ex, D, -, st'⟩ := Jvm.RoadKit.newO X hx hZ hown (hww _ (List.mem_of_getElem? h1)) (hww _ (List.mem_of_getElem? h2)) (hww _ (List.mem_of_getElem? h3)) rfl (g := mkF m pc Ls st) rfl (hb hby hd) hc hs
  subst hq e'
  refine Go.st st' (k T' _ ⟨A.1, locs, X', N, Nat.le_trans Z0 E.1, P.new E Z0 ⟨Ex, fun f hf => ?_⟩⟩)
  obtain ⟨lf, -⟩ := hl.1 _ (List.mem_map.mpr ⟨f, hf, rfl⟩)
  have q := List.all_eq_true.mp hdef f hf
  cases ht : parseFieldDescriptor f.1.2.2 with
  | none => rw [ht] at q; cases q
  | some t =>
    rw [ht] at q
    have q' : defaultValue t = f.2 := of_decide_eq_true q
    rw [← q']; exact D lf ht
theorem Here.newA (A : Here p l e R s m args below meth c Z a0 tbl own nm bc mxl rt n0 T L cells slots) {pc q w cap : Nat} {Ls : Array Slot} {st : List Value} {aty : ArrayType} {n : Int32} {ty : FieldType} {vs : List Value} (hd : decode bc pc = .ok (.newarray aty, 2)) (hq : pc + 2 = q) (hty : newarray.typeOf aty = ty) (hw : tbl[w]? = some (Jvm.Cond.arrayClass ty)) (hn : ¬ n < 0) (hcap : n.toNatClampNeg ≤ cap) (hb8 : cap * 8 ≤ 536870912) (hvs : List.replicate n.toNatClampNeg (defaultValue ty) = vs) (hc : cells + 1 ≤ R.cells) (hs : slots + cap ≤ R.slots)
    (k : ∀ T' a, Here p l e R s m args below meth c Z a0 tbl own nm bc mxl rt n0 T' ((a, .inr (ty, vs)) :: L) (cells + 1) (slots + cap) → Go p e below F (T'.setTop (mkF m q Ls (.ref a :: st)))) : Go p e below F (T.setTop (mkF m pc Ls (.int n :: st))) := by
  obtain ⟨⟨hx, hZ, hown, hby, hml, hww, hnm, hrt, hlk⟩, locs, X, N, Z0, P⟩ := id A
  subst hty
  obtain ⟨T', h', cA, X', e', E, Ar, Ex, st'⟩ := newPE X hx hZ (hww _ (List.mem_of_getElem? hw)) rfl (g := mkF m pc Ls (.int n :: st)) rfl (hb hby hd) rfl hn hcap hb8 hc hs rfl
  subst hq e' hvs
  refine Go.st st' (k T' _ ⟨A.1, locs, X', N, Nat.le_trans Z0 E.1, P.new E Z0 ⟨_, Ar, ?_, ?_, ?_, Ex⟩⟩)
  · simp [Jvm.RoadKit.newA]
  · rw [List.length_replicate]; omega
  · intro v hv
    rw [(List.mem_replicate.mp hv).2]; exact fits_def aty

theorem Here.iaload (A : Here p l e R s m args below meth c Z a0 tbl own nm bc mxl rt n0 T L cells slots) {pc q i : Nat} {Ls : Array Slot} {st : List Value} {a : Addr} {j : Int32} {vs : List Value} {v : Value} (hd : decode bc pc = .ok (.iaload, 1)) (hq : pc + 1 = q) (hL : L[i]? = some (a, .inr (.int, vs))) (hj : ¬ j < 0) (hv : vs[j.toNatClampNeg]? = some v) (k : Go p e below F (T.setTop (mkF m q Ls (v :: st)))) : Go p e below F (T.setTop (mkF m pc Ls (.int j :: .ref a :: st))) := by
  obtain ⟨⟨hx, hZ, hown, hby, hml, hww, hnm, hrt, hlk⟩, locs, X, N, Z0, P⟩ := id A
  obtain ⟨cl, Ar, r1, r2, r3, r4⟩ := (P.1 _ (List.mem_of_getElem? hL)).2
  have hlt : j.toNatClampNeg < vs.length := (List.getElem?_eq_some_iff.mp hv).1
  subst hq
  exact Go.st (fun t h => X.iaload hx (j := j) (v := v) Ar.1 (State.isArrayOf_alike hZ.alike Ar.2.1) Ar.2.2 (fun q => q.elim hj (fun q => by rw [r1] at q; simp at q; omega)) (by rw [r1]; simpa using hv) (g := mkF m pc Ls (.int j :: .ref a :: st)) rfl rfl (hb hby hd) t h) k
theorem Here.laload (A : Here p l e R s m args below meth c Z a0 tbl own nm bc mxl rt n0 T L cells slots) {pc q i : Nat} {Ls : Array Slot} {st : List Value} {a : Addr} {j : Int32} {vs : List Value} {v : Value} (hd : decode bc pc = .ok (.laload, 1)) (hq : pc + 1 = q) (hL : L[i]? = some (a, .inr (.long, vs))) (hj : ¬ j < 0) (hv : vs[j.toNatClampNeg]? = some v) (k : Go p e below F (T.setTop (mkF m q Ls (v :: st)))) : Go p e below F (T.setTop (mkF m pc Ls (.int j :: .ref a :: st))) := by
  obtain ⟨⟨hx, hZ, hown, hby, hml, hww, hnm, hrt, hlk⟩, locs, X, N, Z0, P⟩ := id A
  obtain ⟨cl, Ar, r1, r2, r3, r4⟩ := (P.1 _ (List.mem_of_getElem? hL)).2
  have hlt : j.toNatClampNeg < vs.length := (List.getElem?_eq_some_iff.mp hv).1
  subst hq
  exact Go.st (fun t h => X.laload hx (j := j) (v := v) Ar.1 (State.isArrayOf_alike hZ.alike Ar.2.1) Ar.2.2 (fun q => q.elim hj (fun q => by rw [r1] at q; simp at q; omega)) (by rw [r1]; simpa using hv) (g := mkF m pc Ls (.int j :: .ref a :: st)) rfl rfl (hb hby hd) t h) k
theorem Here.baloadB (A : Here p l e R s m args below meth c Z a0 tbl own nm bc mxl rt n0 T L cells slots) {pc q i : Nat} {Ls : Array Slot} {st : List Value} {a : Addr} {j : Int32} {vs : List Value} {v : Value} (hd : decode bc pc = .ok (.baload, 1)) (hq : pc + 1 = q) (hL : L[i]? = some (a, .inr (.byte, vs))) (hj : ¬ j < 0) (hv : vs[j.toNatClampNeg]? = some v) (k : Go p e below F (T.setTop (mkF m q Ls (v :: st)))) : Go p e below F (T.setTop (mkF m pc Ls (.int j :: .ref a :: st))) := by
  obtain ⟨⟨hx, hZ, hown, hby, hml, hww, hnm, hrt, hlk⟩, locs, X, N, Z0, P⟩ := id A
  obtain ⟨cl, Ar, r1, r2, r3, r4⟩ := (P.1 _ (List.mem_of_getElem? hL)).2
  have hlt : j.toNatClampNeg < vs.length := (List.getElem?_eq_some_iff.mp hv).1
  subst hq
  exact Go.st (fun t h => X.baloadBytes hx (j := j) (v := v) Ar.1 (State.isArrayOf_alike hZ.alike Ar.2.1) Ar.2.2 (fun q => q.elim hj (fun q => by rw [r1] at q; simp at q; omega)) (by rw [r1]; simpa using hv) (g := mkF m pc Ls (.int j :: .ref a :: st)) rfl rfl (hb hby hd) t h) k
theorem Here.baloadZ (A : Here p l e R s m args below meth c Z a0 tbl own nm bc mxl rt n0 T L cells slots) {pc q i : Nat} {Ls : Array Slot} {st : List Value} {a : Addr} {j : Int32} {vs : List Value} {v : Value} (hd : decode bc pc = .ok (.baload, 1)) (hq : pc + 1 = q) (hL : L[i]? = some (a, .inr (.boolean, vs))) (hj : ¬ j < 0) (hv : vs[j.toNatClampNeg]? = some v) (k : Go p e below F (T.setTop (mkF m q Ls (v :: st)))) : Go p e below F (T.setTop (mkF m pc Ls (.int j :: .ref a :: st))) := by
  obtain ⟨⟨hx, hZ, hown, hby, hml, hww, hnm, hrt, hlk⟩, locs, X, N, Z0, P⟩ := id A
  obtain ⟨cl, Ar, r1, r2, r3, r4⟩ := (P.1 _ (List.mem_of_getElem? hL)).2
  have hlt : j.toNatClampNeg < vs.length := (List.getElem?_eq_some_iff.mp hv).1
  subst hq
  exact Go.st (fun t h => X.baloadBooleans hx (j := j) (v := v) Ar.1 (State.isArrayOf_alike hZ.alike Ar.2.1) Ar.2.2 (fun q => q.elim hj (fun q => by rw [r1] at q; simp at q; omega)) (by rw [r1]; simpa using hv) (g := mkF m pc Ls (.int j :: .ref a :: st)) rfl rfl (hb hby hd) t h) k
theorem Here.iastore (A : Here p l e R s m args below meth c Z a0 tbl own nm bc mxl rt n0 T L cells slots) {pc q i : Nat} {Ls : Array Slot} {st : List Value} {a : Addr} {j : Int32} {x x' : Int32} {vs : List Value} {L' : Obs} (hd : decode bc pc = .ok (.iastore, 1)) (hq : pc + 1 = q) (hL : L[i]? = some (a, .inr (.int, vs))) (hj : ¬ j < 0) (hlt : j.toNatClampNeg < vs.length) (hx' : x = x') (hL' : L.set i (a, .inr (.int, vs.set j.toNatClampNeg (.int x'))) = L') (k : ∀ T', Here p l e R s m args below meth c Z a0 tbl own nm bc mxl rt n0 T' L' cells slots → Go p e below F (T'.setTop (mkF m q Ls st))) : Go p e below F (T.setTop (mkF m pc Ls (.int x :: .int j :: .ref a :: st))) := by
  obtain ⟨⟨hx, hZ, hown, hby, hml, hww, hnm, hrt, hlk⟩, locs, X, N, Z0, P⟩ := id A
  have I := P.1 _ (List.mem_of_getElem? hL)
  obtain ⟨cl, Ar, r1, r2, r3, r4⟩ := id I.2
  obtain ⟨T', h', X', e', W, st'⟩ := stI X hx hZ rfl Ar (j := j) (x := x) (fun q => q.elim hj (fun q => by rw [r1] at q; simp at q; omega)) (g := mkF m pc Ls (.int x :: .int j :: .ref a :: st)) rfl rfl (hb hby hd)
  subst hq hL' e' hx'
  exact Go.st st' (k T' ⟨A.1, _, X', Fr.snoc X' N I.1, by rw [W.size]; exact Z0, P.set W hL (Ara.put (show Ara Z T.heap a .int vs from I.2) W rfl)⟩)
theorem Here.lastore (A : Here p l e R s m args below meth c Z a0 tbl own nm bc mxl rt n0 T L cells slots) {pc q i : Nat} {Ls : Array Slot} {st : List Value} {a : Addr} {j : Int32} {x x' : Int64} {vs : List Value} {L' : Obs} (hd : decode bc pc = .ok (.lastore, 1)) (hq : pc + 1 = q) (hL : L[i]? = some (a, .inr (.long, vs))) (hj : ¬ j < 0) (hlt : j.toNatClampNeg < vs.length) (hx' : x = x') (hL' : L.set i (a, .inr (.long, vs.set j.toNatClampNeg (.long x'))) = L') (k : ∀ T', Here p l e R s m args below meth c Z a0 tbl own nm bc mxl rt n0 T' L' cells slots → Go p e below F (T'.setTop (mkF m q Ls st))) : Go p e below F (T.setTop (mkF m pc Ls (.long x :: .int j :: .ref a :: st))) := by
  obtain ⟨⟨hx, hZ, hown, hby, hml, hww, hnm, hrt, hlk⟩, locs, X, N, Z0, P⟩ := id A
  have I := P.1 _ (List.mem_of_getElem? hL)
  obtain ⟨cl, Ar, r1, r2, r3, r4⟩ := id I.2
  obtain ⟨T', h', X', e', W, st'⟩ := stJ X hx hZ rfl Ar (j := j) (x := x) (fun q => q.elim hj (fun q => by rw [r1] at q; simp at q; omega)) (g := mkF m pc Ls (.long x :: .int j :: .ref a :: st)) rfl rfl (hb hby hd)
  subst hq hL' e' hx'
  exact Go.st st' (k T' ⟨A.1, _, X', Fr.snoc X' N I.1, by rw [W.size]; exact Z0, P.set W hL (Ara.put (show Ara Z T.heap a .long vs from I.2) W rfl)⟩)
theorem Here.bastoreB (A : Here p l e R s m args below meth c Z a0 tbl own nm bc mxl rt n0 T L cells slots) {pc q i : Nat} {Ls : Array Slot} {st : List Value} {a : Addr} {j : Int32} {x x' : Int32} {vs : List Value} {L' : Obs} (hd : decode bc pc = .ok (.bastore, 1)) (hq : pc + 1 = q) (hL : L[i]? = some (a, .inr (.byte, vs))) (hj : ¬ j < 0) (hlt : j.toNatClampNeg < vs.length) (hx' : (nar .byte x) = x') (hL' : L.set i (a, .inr (.byte, vs.set j.toNatClampNeg (.int x'))) = L') (k : ∀ T', Here p l e R s m args below meth c Z a0 tbl own nm bc mxl rt n0 T' L' cells slots → Go p e below F (T'.setTop (mkF m q Ls st))) : Go p e below F (T.setTop (mkF m pc Ls (.int x :: .int j :: .ref a :: st))) := by
  obtain ⟨⟨hx, hZ, hown, hby, hml, hww, hnm, hrt, hlk⟩, locs, X, N, Z0, P⟩ := id A
  have I := P.1 _ (List.mem_of_getElem? hL)
  obtain ⟨cl, Ar, r1, r2, r3, r4⟩ := id I.2
  obtain ⟨T', h', X', e', W, st'⟩ := stB X hx hZ rfl Ar (j := j) (x := x) (fun q => q.elim hj (fun q => by rw [r1] at q; simp at q; omega)) (g := mkF m pc Ls (.int x :: .int j :: .ref a :: st)) rfl rfl (hb hby hd)
  subst hq hL' e' hx'
  exact Go.st st' (k T' ⟨A.1, _, X', Fr.snoc X' N I.1, by rw [W.size]; exact Z0, P.set W hL (Ara.put (show Ara Z T.heap a .byte vs from I.2) W (fits_nar_byte _))⟩)
theorem Here.bastoreZ (A : Here p l e R s m args below meth c Z a0 tbl own nm bc mxl rt n0 T L cells slots) {pc q i : Nat} {Ls : Array Slot} {st : List Value} {a : Addr} {j : Int32} {x x' : Int32} {vs : List Value} {L' : Obs} (hd : decode bc pc = .ok (.bastore, 1)) (hq : pc + 1 = q) (hL : L[i]? = some (a, .inr (.boolean, vs))) (hj : ¬ j < 0) (hlt : j.toNatClampNeg < vs.length) (hx' : (nar .boolean x) = x') (hL' : L.set i (a, .inr (.boolean, vs.set j.toNatClampNeg (.int x'))) = L') (k : ∀ T', Here p l e R s m args below meth c Z a0 tbl own nm bc mxl rt n0 T' L' cells slots → Go p e below F (T'.setTop (mkF m q Ls st))) : Go p e below F (T.setTop (mkF m pc Ls (.int x :: .int j :: .ref a :: st))) := by
  obtain ⟨⟨hx, hZ, hown, hby, hml, hww, hnm, hrt, hlk⟩, locs, X, N, Z0, P⟩ := id A
  have I := P.1 _ (List.mem_of_getElem? hL)
  obtain ⟨cl, Ar, r1, r2, r3, r4⟩ := id I.2
  obtain ⟨T', h', X', e', W, st'⟩ := stZ X hx hZ rfl Ar (j := j) (x := x) (fun q => q.elim hj (fun q => by rw [r1] at q; simp at q; omega)) (g := mkF m pc Ls (.int x :: .int j :: .ref a :: st)) rfl rfl (hb hby hd)
  subst hq hL' e' hx'
  exact Go.st st' (k T' ⟨A.1, _, X', Fr.snoc X' N I.1, by rw [W.size]; exact Z0, P.set W hL (Ara.put (show Ara Z T.heap a .boolean vs from I.2) W (fits_nar_bool _))⟩)
theorem Here.arraylength (A : Here p l e R s m args below meth c Z a0 tbl own nm bc mxl rt n0 T L cells slots) {pc q i : Nat} {Ls : Array Slot} {st : List Value} {a : Addr} {ty : FieldType} {vs : List Value} {v : Int32} (hd : decode bc pc = .ok (.arraylength, 1)) (hq : pc + 1 = q) (hL : L[i]? = some (a, .inr (ty, vs))) (hv : vs.length.toInt32 = v) (k : Go p e below F (T.setTop (mkF m q Ls (.int v :: st)))) : Go p e below F (T.setTop (mkF m pc Ls (.ref a :: st))) := by
  obtain ⟨⟨hx, hZ, hown, hby, hml, hww, hnm, hrt, hlk⟩, locs, X, N, Z0, P⟩ := id A
  obtain ⟨cl, Ar, r1, r2, r3, r4⟩ := (P.1 _ (List.mem_of_getElem? hL)).2
  have hn : cl.slots.size = vs.length := by rw [r1]; simp
  subst hq hv
  exact Go.st (fun t h => X.arraylength hx Ar.1 (State.isArrayOf_alike hZ.alike Ar.2.1) (g := mkF m pc Ls (.ref a :: st)) rfl rfl (hb hby hd) t (by rw [hn]; exact h)) k
theorem Here.castArr (A : Here p l e R s m args below meth c Z a0 tbl own nm bc mxl rt n0 T L cells slots) {pc q i w index : Nat} {Ls : Array Slot} {st : List Value} {a : Addr} {ty : FieldType} {vs : List Value} {K : String} (hd : decode bc pc = .ok (.checkcast index, 3)) (hq : pc + 3 = q) (hw : tbl[w]? = some (Jvm.Cond.classLink own index K)) (hL : L[i]? = some (a, .inr (ty, vs))) (hK : "[" ++ ty.toString = K) (k : ∀ T', Here p l e R s m args below meth c Z a0 tbl own nm bc mxl rt n0 T' L cells slots → Go p e below F (T'.setTop (mkF m q Ls (.ref a :: st)))) : Go p e below F (T.setTop (mkF m pc Ls (.ref a :: st))) := by
  obtain ⟨⟨hx, hZ, hown, hby, hml, hww, hnm, hrt, hlk⟩, locs, X, N, Z0, P⟩ := id A
  obtain ⟨cl, Ar, r1, r2, r3, r4⟩ := (P.1 _ (List.mem_of_getElem? hL)).2
  subst hK hq
  obtain ⟨T', X', e', st'⟩ := castY X hx hZ hown (hww _ (List.mem_of_getElem? hw)) rfl (Ins.self r4) (g := mkF m pc Ls (.ref a :: st)) rfl rfl (hb hby hd)
  exact Go.st st' (k T' ⟨A.1, locs, X', N, by rw [e']; exact Z0, by rw [e']; exact P⟩)
theorem Here.clone (A : Here p l e R s m args below meth c Z a0 tbl own nm bc mxl rt n0 T L cells slots) {pc q i index W w1 w2 w3 w4 w5 w6 cap : Nat} {Ls : Array Slot} {st : List Value} {a : Addr} {ty : FieldType} {vs : List Value} {ad : String} (hd : decode bc pc = .ok (.invokevirtual index, 3)) (hq : pc + 3 = q) (hL : L[i]? = some (a, .inr (ty, vs))) (hK : "[" ++ ty.toString = ad)
    (h1 : tbl[w1]? = some (Jvm.Cond.methodLink own index ⟨ad, "clone", "()Ljava/lang/Object;"⟩)) (h2 : tbl[w2]? = some (Jvm.Cond.sameMethod ad "java/lang/Object" "clone" "()Ljava/lang/Object;")) (h3 : tbl[w3]? = some (Jvm.Cond.native ⟨"java/lang/Object", "clone", "()Ljava/lang/Object;"⟩)) (h4 : tbl[w4]? = some (Jvm.Cond.instanceMethod ⟨"java/lang/Object", "clone", "()Ljava/lang/Object;"⟩)) (h5 : tbl[w5]? = some (Jvm.Cond.selects ad ⟨ad, "clone", "()Ljava/lang/Object;"⟩ ⟨"java/lang/Object", "clone", "()Ljava/lang/Object;"⟩)) (h6 : tbl[w6]? = some (Jvm.Cond.castable ad "java/lang/Cloneable"))
    (hsz : Ls.size = mxl) (hW : (st.map fun v => v.category).sum = W) (hf : 1 ≤ R.frames) (hl : W + 14 ≤ R.locals) (hcap : vs.length ≤ cap) (hc : cells + 1 ≤ R.cells) (hs : slots + cap ≤ R.slots)
    (k : ∀ T' b, Here p l e R s m args below meth c Z a0 tbl own nm bc mxl rt n0 T' ((b, .inr (ty, vs)) :: L) (cells + 1) (slots + cap) → Go p e below F (T'.setTop (mkF m q Ls (.ref b :: st)))) : Go p e below F (T.setTop (mkF m pc Ls (.ref a :: st))) := by
  obtain ⟨⟨hx, hZ, hown, hby, hml, hww, hnm, hrt, hlk⟩, locs, X, N, Z0, P⟩ := id A
  obtain ⟨cl, Ar, r1, r2, r3, r4⟩ := (P.1 _ (List.mem_of_getElem? hL)).2
  subst hK hq
  have hn : cl.slots.size = vs.length := by rw [r1]; simp
  have FC : FitC Z cl := fitC_of Ar fun i hi v hv => r3 v (by rw [r1] at hv; exact List.mem_of_getElem? (by simpa using hv))
  obtain ⟨T', h', X', e', E, Ar', Ex, st'⟩ := cloneA X hx hZ hown (hww _ (List.mem_of_getElem? h1)) (hww _ (List.mem_of_getElem? h2)) (hww _ (List.mem_of_getElem? h3)) (hww _ (List.mem_of_getElem? h4)) (hww _ (List.mem_of_getElem? h5)) (hww _ (List.mem_of_getElem? h6)) rfl Ar r4 FC (g := mkF m pc Ls (.ref a :: st)) rfl (by rw [hml]; exact hsz) rfl (hb hby hd) hf (W := W) (cap := cap) (by show 2 * 0 + _ ≤ _; omega) hl (by omega) hc hs
  subst e'
  exact Go.st st' (k T' _ ⟨A.1, locs, X', N, Nat.le_trans Z0 E.1, P.new E Z0 ⟨_, Ar', r1, r2, r3, Ex⟩⟩)
theorem Here.initObj (A : Here p l e R s m args below meth c Z a0 tbl own nm bc mxl rt n0 T L cells slots) {pc q index w1 w2 w3 W : Nat} {Ls : Array Slot} {st : List Value} {a : Addr} (hd : decode bc pc = .ok (.invokespecial index, 3)) (hq : pc + 3 = q) (h1 : tbl[w1]? = some (Jvm.Cond.methodLink own index Lib.objectInit)) (h2 : tbl[w2]? = some (Jvm.Cond.instanceMethod Lib.objectInit)) (h3 : tbl[w3]? = some (Jvm.Cond.code Lib.objectInit ⟨#[0xb1]⟩ 1 none)) (hsz : Ls.size = mxl) (hW : (st.map fun v => v.category).sum = W) (hf : 1 ≤ R.frames) (hl : W + 12 ≤ R.locals) (k : ∀ T', Here p l e R s m args below meth c Z a0 tbl own nm bc mxl rt n0 T' L cells slots → Go p e below F (T'.setTop (mkF m q Ls st))) : Go p e below F (T.setTop (mkF m pc Ls (.ref a :: st))) := by
  obtain ⟨⟨hx, hZ, hown, hby, hml, hww, hnm, hrt, hlk⟩, locs, X, N, Z0, P⟩ := id A
  subst hq
  obtain ⟨T', X', e', st'⟩ := initO X hx hZ hown (hww _ (List.mem_of_getElem? h1)) (hww _ (List.mem_of_getElem? h2)) (hww _ (List.mem_of_getElem? h3)) rfl (g := mkF m pc Ls (.ref a :: st)) rfl (by rw [hml]; exact hsz) rfl (hb hby hd) hf (W := W) (by show 2 * 0 + _ ≤ _; omega) hl
  exact Go.st st' (k T' ⟨A.1, locs, X', N, by rw [e']; exact Z0, by rw [e']; exact P⟩)
theorem Here.front (A : Here p l e R s m args below meth c Z a0 tbl own nm bc mxl rt n0 T L cells slots) {i : Nat} {x : Addr × Ob} {L' : Obs} (hi : L[i]? = some x) (hL' : x :: L.eraseIdx i = L') : Here p l e R s m args below meth c Z a0 tbl own nm bc mxl rt n0 T L' cells slots := by
  obtain ⟨⟨hx, hZ, hown, hby, hml, hww, hnm, hrt, hlk⟩, locs, X, N, Z0, P⟩ := id A
  subst hL'
  exact ⟨A.1, locs, X, N, Z0, P.front hi⟩
theorem Here.ne (A : Here p l e R s m args below meth c Z a0 tbl own nm bc mxl rt n0 T L cells slots) {i j : Nat} {a b : Addr} {x y : Ob} (hi : L[i]? = some (a, x)) (hj : L[j]? = some (b, y)) (hn : i ≠ j) : a ≠ b := by
  obtain ⟨⟨hx, hZ, hown, hby, hml, hww, hnm, hrt, hlk⟩, locs, X, N, Z0, P⟩ := id A
  exact P.ne hi hj hn

theorem Here.ialoadM (A : Here p l e R s m args below meth c Z a0 tbl own nm bc mxl rt n0 T L cells slots) {pc q i : Nat} {Ls : Array Slot} {st : List Value} {a : Addr} {j : Int32} {xs : List Int32} {v : Int32} (hd : decode bc pc = .ok (.iaload, 1)) (hq : pc + 1 = q) (hL : L[i]? = some (a, .inr (.int, xs.map Value.int))) (hj : ¬ j < 0) (hv : xs[j.toNatClampNeg]? = some v) (k : Go p e below F (T.setTop (mkF m q Ls (Value.int v :: st)))) : Go p e below F (T.setTop (mkF m pc Ls (.int j :: .ref a :: st))) :=
  A.iaload hd hq hL hj (by rw [List.getElem?_map, hv]; rfl) k
theorem Here.laloadM (A : Here p l e R s m args below meth c Z a0 tbl own nm bc mxl rt n0 T L cells slots) {pc q i : Nat} {Ls : Array Slot} {st : List Value} {a : Addr} {j : Int32} {xs : List Int64} {v : Int64} (hd : decode bc pc = .ok (.laload, 1)) (hq : pc + 1 = q) (hL : L[i]? = some (a, .inr (.long, xs.map Value.long))) (hj : ¬ j < 0) (hv : xs[j.toNatClampNeg]? = some v) (k : Go p e below F (T.setTop (mkF m q Ls (Value.long v :: st)))) : Go p e below F (T.setTop (mkF m pc Ls (.int j :: .ref a :: st))) :=
  A.laload hd hq hL hj (by rw [List.getElem?_map, hv]; rfl) k
theorem Here.baloadBM (A : Here p l e R s m args below meth c Z a0 tbl own nm bc mxl rt n0 T L cells slots) {pc q i : Nat} {Ls : Array Slot} {st : List Value} {a : Addr} {j : Int32} {xs : List Int32} {v : Int32} (hd : decode bc pc = .ok (.baload, 1)) (hq : pc + 1 = q) (hL : L[i]? = some (a, .inr (.byte, xs.map Value.int))) (hj : ¬ j < 0) (hv : xs[j.toNatClampNeg]? = some v) (k : Go p e below F (T.setTop (mkF m q Ls (Value.int v :: st)))) : Go p e below F (T.setTop (mkF m pc Ls (.int j :: .ref a :: st))) :=
  A.baloadB hd hq hL hj (by rw [List.getElem?_map, hv]; rfl) k
theorem Here.baloadZM (A : Here p l e R s m args below meth c Z a0 tbl own nm bc mxl rt n0 T L cells slots) {pc q i : Nat} {Ls : Array Slot} {st : List Value} {a : Addr} {j : Int32} {xs : List Int32} {v : Int32} (hd : decode bc pc = .ok (.baload, 1)) (hq : pc + 1 = q) (hL : L[i]? = some (a, .inr (.boolean, xs.map Value.int))) (hj : ¬ j < 0) (hv : xs[j.toNatClampNeg]? = some v) (k : Go p e below F (T.setTop (mkF m q Ls (Value.int v :: st)))) : Go p e below F (T.setTop (mkF m pc Ls (.int j :: .ref a :: st))) :=
  A.baloadZ hd hq hL hj (by rw [List.getElem?_map, hv]; rfl) k
theorem Here.iastoreM (A : Here p l e R s m args below meth c Z a0 tbl own nm bc mxl rt n0 T L cells slots) {pc q i : Nat} {Ls : Array Slot} {st : List Value} {a : Addr} {j : Int32} {x x' : Int32} {xs : List Int32} {L' : Obs} (hd : decode bc pc = .ok (.iastore, 1)) (hq : pc + 1 = q) (hL : L[i]? = some (a, .inr (.int, xs.map Value.int))) (hj : ¬ j < 0) (hlt : j.toNatClampNeg < xs.length) (hx' : x = x') (hL' : L.set i (a, .inr (.int, (xs.set j.toNatClampNeg x').map Value.int)) = L') (k : ∀ T', Here p l e R s m args below meth c Z a0 tbl own nm bc mxl rt n0 T' L' cells slots → Go p e below F (T'.setTop (mkF m q Ls st))) : Go p e below F (T.setTop (mkF m pc Ls (Value.int x :: .int j :: .ref a :: st))) :=
  A.iastore hd hq hL hj (by rw [List.length_map]; exact hlt) hx' (by rw [← hL', List.map_set]) k
theorem Here.lastoreM (A : Here p l e R s m args below meth c Z a0 tbl own nm bc mxl rt n0 T L cells slots) {pc q i : Nat} {Ls : Array Slot} {st : List Value} {a : Addr} {j : Int32} {x x' : Int64} {xs : List Int64} {L' : Obs} (hd : decode bc pc = .ok (.lastore, 1)) (hq : pc + 1 = q) (hL : L[i]? = some (a, .inr (.long, xs.map Value.long))) (hj : ¬ j < 0) (hlt : j.toNatClampNeg < xs.length) (hx' : x = x') (hL' : L.set i (a, .inr (.long, (xs.set j.toNatClampNeg x').map Value.long)) = L') (k : ∀ T', Here p l e R s m args below meth c Z a0 tbl own nm bc mxl rt n0 T' L' cells slots → Go p e below F (T'.setTop (mkF m q Ls st))) : Go p e below F (T.setTop (mkF m pc Ls (Value.long x :: .int j :: .ref a :: st))) :=
  A.lastore hd hq hL hj (by rw [List.length_map]; exact hlt) hx' (by rw [← hL', List.map_set]) k
theorem Here.bastoreBM (A : Here p l e R s m args below meth c Z a0 tbl own nm bc mxl rt n0 T L cells slots) {pc q i : Nat} {Ls : Array Slot} {st : List Value} {a : Addr} {j : Int32} {x x' : Int32} {xs : List Int32} {L' : Obs} (hd : decode bc pc = .ok (.bastore, 1)) (hq : pc + 1 = q) (hL : L[i]? = some (a, .inr (.byte, xs.map Value.int))) (hj : ¬ j < 0) (hlt : j.toNatClampNeg < xs.length) (hx' : (nar .byte x) = x') (hL' : L.set i (a, .inr (.byte, (xs.set j.toNatClampNeg x').map Value.int)) = L') (k : ∀ T', Here p l e R s m args below meth c Z a0 tbl own nm bc mxl rt n0 T' L' cells slots → Go p e below F (T'.setTop (mkF m q Ls st))) : Go p e below F (T.setTop (mkF m pc Ls (Value.int x :: .int j :: .ref a :: st))) :=
  A.bastoreB hd hq hL hj (by rw [List.length_map]; exact hlt) hx' (by rw [← hL', List.map_set]) k
theorem Here.bastoreZM (A : Here p l e R s m args below meth c Z a0 tbl own nm bc mxl rt n0 T L cells slots) {pc q i : Nat} {Ls : Array Slot} {st : List Value} {a : Addr} {j : Int32} {x x' : Int32} {xs : List Int32} {L' : Obs} (hd : decode bc pc = .ok (.bastore, 1)) (hq : pc + 1 = q) (hL : L[i]? = some (a, .inr (.boolean, xs.map Value.int))) (hj : ¬ j < 0) (hlt : j.toNatClampNeg < xs.length) (hx' : (nar .boolean x) = x') (hL' : L.set i (a, .inr (.boolean, (xs.set j.toNatClampNeg x').map Value.int)) = L') (k : ∀ T', Here p l e R s m args below meth c Z a0 tbl own nm bc mxl rt n0 T' L' cells slots → Go p e below F (T'.setTop (mkF m q Ls st))) : Go p e below F (T.setTop (mkF m pc Ls (Value.int x :: .int j :: .ref a :: st))) :=
  A.bastoreZ hd hq hL hj (by rw [List.length_map]; exact hlt) hx' (by rw [← hL', List.map_set]) k
theorem Here.arraylengthM (A : Here p l e R s m args below meth c Z a0 tbl own nm bc mxl rt n0 T L cells slots) {pc q i : Nat} {Ls : Array Slot} {st : List Value} {a : Addr} {ty : FieldType} {α : Type} {f : α → Value} {xs : List α} {v : Int32} (hd : decode bc pc = .ok (.arraylength, 1)) (hq : pc + 1 = q) (hL : L[i]? = some (a, .inr (ty, xs.map f))) (hv : xs.length.toInt32 = v) (k : Go p e below F (T.setTop (mkF m q Ls (.int v :: st)))) : Go p e below F (T.setTop (mkF m pc Ls (.ref a :: st))) :=
  A.arraylength hd hq hL (by rw [List.length_map]; exact hv) k
theorem own_gd {α : Type} {xs : List α} {n : Nat} {d : α} (h : n < xs.length) : xs[n]? = some (xs.getD n d) := by simp [List.getD, h]
theorem Here.callS (A : Here p l e R s m args below meth c Z a0 tbl own nm bc mxl rt n0 T L cells slots) {pc q index W w1 w2 w3 w4 : Nat} {Ls : Array Slot} {st stk : List Value} {y : MethodName} {bytes : ByteArray} {ml : Nat} {rt' : Option FieldType} {rm : Room} {as : List Value} {Q : Option Value → Obs → Prop} (hd : decode bc pc = .ok (.invokestatic index, 3)) (hq : pc + 3 = q) (h1 : tbl[w1]? = some (Jvm.Cond.methodLink own index y)) (h2 : tbl[w2]? = some (Jvm.Cond.static y)) (h3 : tbl[w3]? = some (Jvm.Cond.initialized y.cls)) (h4 : tbl[w4]? = some (Jvm.Cond.code y bytes ml rt')) (hT : Triple l Z n0 y bytes ml rt' rm rm.cells rm.slots as L Q) (hy : y.cls ≠ "java/lang/invoke/MethodHandle" ∧ y.cls ≠ "java/lang/invoke/VarHandle") (hlen : ∃ ps r, parseMethodDescriptor y.desc = some ⟨ps, r⟩ ∧ as.length = ps.length) (hst : stk = as.reverse ++ st) (hsz : Ls.size = mxl) (hW : (st.map fun v => v.category).sum = W) (hf : rm.frames + 1 ≤ R.frames) (hl : W + (ml + 11) + rm.locals ≤ R.locals) (hc : cells + rm.cells ≤ R.cells) (hs : slots + rm.slots ≤ R.slots)
    (k : ∀ v T' L', Q v L' → Here p l e R s m args below meth c Z a0 tbl own nm bc mxl rt n0 T' L' (cells + rm.cells) (slots + rm.slots) → Go p e below F (T'.setTop (mkF m q Ls (v.toList ++ st)))) : Go p e below F (T.setTop (mkF m pc Ls stk)) := by
  obtain ⟨⟨hx, hZ, hown, hby, hml, hww, hnm, hrt, hlk⟩, locs, X, N, Z0, P⟩ := id A
  obtain ⟨ps, r, hps, hle⟩ := hlen
  subst hst hq
  obtain ⟨v, _, ⟨T1, L1, k1, n1⟩, -, X1, ⟨Lc, hQ, l1, y1, z1⟩, st1⟩ := Jvm.LawKit.callS X hx (y := y) hown (mvT hZ (hww _ (List.mem_of_getElem? h1))) (mvT hZ (hww _ (List.mem_of_getElem? h2))) (mvT hZ (hww _ (List.mem_of_getElem? h3))) (mvT hZ (hww _ (List.mem_of_getElem? h4))) hy (backOf (W := W) (Q := fun v h Lc => Fr n0 Lc ∧ n0 ≤ h.size ∧ ∃ L', Q v L' ∧ Pic Z n0 h L') (hT T.heap [] Z0 P) hZ (hww _ (List.mem_of_getElem? h4)) (hww _ (List.mem_of_getElem? h3)) hf hl) (g := mkF m pc Ls (as.reverse ++ st)) rfl (by rw [hml]; exact hsz) (argsL := as) (rest := st) (lenOf hps hle) rfl (by show 2 * 0 + _ ≤ _; omega) (hb hby hd) (fun _ _ => ⟨rfl, rfl, hc, hs⟩)
  dsimp only [Pt.U, Pt.locs, Pt.cells, Pt.slots] at X1 l1 y1 z1 st1 hQ
  subst l1 y1 z1
  obtain ⟨Nq, Zq, L', q, Pq⟩ := hQ
  exact Go.st st1 (k v T1 L' q ⟨A.1, _, X1, N.app Nq, Zq, Pq⟩)
theorem Here.callI (A : Here p l e R s m args below meth c Z a0 tbl own nm bc mxl rt n0 T L cells slots) {pc q index W w1 w2 w3 w4 : Nat} {Ls : Array Slot} {st stk : List Value} {a : Addr} {y : MethodName} {bytes : ByteArray} {ml : Nat} {rm : Room} {as : List Value} {Q : Option Value → Obs → Prop} (hd : decode bc pc = .ok (.invokespecial index, 3)) (hq : pc + 3 = q) (hy1 : y.name = "<init>") (h1 : tbl[w1]? = some (Jvm.Cond.methodLink own index y)) (h2 : tbl[w2]? = some (Jvm.Cond.instanceMethod y)) (h3 : tbl[w3]? = some (Jvm.Cond.initialized y.cls)) (h4 : tbl[w4]? = some (Jvm.Cond.code y bytes ml none)) (hT : Triple l Z n0 y bytes ml none rm rm.cells rm.slots (.ref a :: as) L Q) (hy : y.cls ≠ "java/lang/invoke/MethodHandle" ∧ y.cls ≠ "java/lang/invoke/VarHandle") (hlen : ∃ ps r, parseMethodDescriptor y.desc = some ⟨ps, r⟩ ∧ as.length = ps.length) (hst : stk = as.reverse ++ .ref a :: st) (hsz : Ls.size = mxl) (hW : (st.map fun v => v.category).sum = W) (hf : rm.frames + 1 ≤ R.frames) (hl : W + (ml + 11) + rm.locals ≤ R.locals) (hc : cells + rm.cells ≤ R.cells) (hs : slots + rm.slots ≤ R.slots)
    (k : ∀ v T' L', Q v L' → Here p l e R s m args below meth c Z a0 tbl own nm bc mxl rt n0 T' L' (cells + rm.cells) (slots + rm.slots) → Go p e below F (T'.setTop (mkF m q Ls (v.toList ++ st)))) : Go p e below F (T.setTop (mkF m pc Ls stk)) := by
  obtain ⟨⟨hx, hZ, hown, hby, hml, hww, hnm, hrt, hlk⟩, locs, X, N, Z0, P⟩ := id A
  obtain ⟨ps, r, hps, hle⟩ := hlen
  subst hst hq
  obtain ⟨v, _, ⟨T1, L1, k1, n1⟩, -, X1, ⟨Lc, hQ, l1, y1, z1⟩, st1⟩ := X.specialBack hx (y := y) hy1 hown (mvT hZ (hww _ (List.mem_of_getElem? h1))) (mvT hZ (hww _ (List.mem_of_getElem? h2))) (mvT hZ (hww _ (List.mem_of_getElem? h4))) hy (backOf (W := W) (Q := fun v h Lc => Fr n0 Lc ∧ n0 ≤ h.size ∧ ∃ L', Q v L' ∧ Pic Z n0 h L') (hT T.heap [] Z0 P) hZ (hww _ (List.mem_of_getElem? h4)) (hww _ (List.mem_of_getElem? h3)) hf hl) (g := mkF m pc Ls (as.reverse ++ .ref a :: st)) rfl (by rw [hml]; exact hsz) (Steps.refl _) (a := a) (argsL := as) (rest := st) (lenOf hps hle) rfl (by show 2 * 0 + _ ≤ _; omega) (hb hby hd) (fun _ _ => ⟨rfl, rfl, hc, hs⟩)
  dsimp only [Pt.U, Pt.locs, Pt.cells, Pt.slots] at X1 l1 y1 z1 st1 hQ
  subst l1 y1 z1
  obtain ⟨Nq, Zq, L', q, Pq⟩ := hQ
  exact Go.st (fun t h => st1.trans h) (k v T1 L' q ⟨A.1, _, X1, N.app Nq, Zq, Pq⟩)
theorem Here.callV (A : Here p l e R s m args below meth c Z a0 tbl own nm bc mxl rt n0 T L cells slots) {pc q index W i w1 w2 w3 w4 w5 w6 : Nat} {Ls : Array Slot} {st stk : List Value} {a : Addr} {C : String} {fs : List ((String × String × String) × Value)} {y : MethodName} {bytes : ByteArray} {ml : Nat} {rt' : Option FieldType} {rm : Room} {as : List Value} {Q : Option Value → Obs → Prop} (hd : decode bc pc = .ok (.invokevirtual index, 3)) (hq : pc + 3 = q) (hL : L[i]? = some (a, .inl (C, fs))) (h1 : tbl[w1]? = some (Jvm.Cond.methodLink own index y)) (h2 : tbl[w2]? = some (Jvm.Cond.declares y)) (h5 : tbl[w5]? = some (Jvm.Cond.selects C y y)) (h6 : tbl[w6]? = some (Jvm.Cond.instanceMethod y)) (h3 : tbl[w3]? = some (Jvm.Cond.initialized y.cls)) (h4 : tbl[w4]? = some (Jvm.Cond.code y bytes ml rt')) (hT : Triple l Z n0 y bytes ml rt' rm rm.cells rm.slots (.ref a :: as) L Q) (hy : y.cls ≠ "java/lang/invoke/MethodHandle" ∧ y.cls ≠ "java/lang/invoke/VarHandle") (hlen : ∃ ps r, parseMethodDescriptor y.desc = some ⟨ps, r⟩ ∧ as.length = ps.length) (hst : stk = as.reverse ++ .ref a :: st) (hsz : Ls.size = mxl) (hW : (st.map fun v => v.category).sum = W) (hf : rm.frames + 1 ≤ R.frames) (hl : W + (ml + 11) + rm.locals ≤ R.locals) (hc : cells + rm.cells ≤ R.cells) (hs : slots + rm.slots ≤ R.slots)
    (k : ∀ v T' L', Q v L' → Here p l e R s m args below meth c Z a0 tbl own nm bc mxl rt n0 T' L' (cells + rm.cells) (slots + rm.slots) → Go p e below F (T'.setTop (mkF m q Ls (v.toList ++ st)))) : Go p e below F (T.setTop (mkF m pc Ls stk)) := by
  obtain ⟨⟨hx, hZ, hown, hby, hml, hww, hnm, hrt, hlk⟩, locs, X, N, Z0, P⟩ := id A
  obtain ⟨ps, r, hps, hle⟩ := hlen
  subst hst hq
  obtain ⟨cq, kq, qa, qb, qc⟩ := isOf (T := T) hZ rfl (P.1 _ (List.mem_of_getElem? hL)).2.1
  obtain ⟨v, _, ⟨T1, L1, k1, n1⟩, -, X1, ⟨Lc, hQ, l1, y1, z1⟩, st1⟩ := X.virtualBack hx (y := y) (z := y) hown (mvT hZ (hww _ (List.mem_of_getElem? h1))) (mvT hZ (hww _ (List.mem_of_getElem? h2))) (notFace_of_selects (args := #[]) (mvT hZ (hww _ (List.mem_of_getElem? h5)))) (mvT hZ (hww _ (List.mem_of_getElem? h5))) (mvT hZ (hww _ (List.mem_of_getElem? h6))) hy (backOf (W := W) (Q := fun v h Lc => Fr n0 Lc ∧ n0 ≤ h.size ∧ ∃ L', Q v L' ∧ Pic Z n0 h L') (hT T.heap [] Z0 P) hZ (hww _ (List.mem_of_getElem? h4)) (hww _ (List.mem_of_getElem? h3)) hf hl) qa qc (g := mkF m pc Ls (as.reverse ++ .ref a :: st)) rfl (by rw [hml]; exact hsz) (Steps.refl _) (argsL := as) (rest := st) (lenOf hps hle) rfl (by show 2 * 0 + _ ≤ _; omega) (hb hby hd) (fun _ _ => ⟨rfl, rfl, hc, hs⟩)
  dsimp only [Pt.U, Pt.locs, Pt.cells, Pt.slots] at X1 l1 y1 z1 st1 hQ
  subst l1 y1 z1
  obtain ⟨Nq, Zq, L', q, Pq⟩ := hQ
  exact Go.st (fun t h => st1.trans h) (k v T1 L' q ⟨A.1, _, X1, N.app Nq, Zq, Pq⟩)

theorem Here.callP (A : Here p l e R s m args below meth c Z a0 tbl own nm bc mxl rt n0 T L cells slots) {pc q index W i w1 w2 w3 w4 w5 w6 kk : Nat} {Ls : Array Slot} {st stk : List Value} {a : Addr} {C : String} {fs : List ((String × String × String) × Value)} {y : MethodName} {bytes : ByteArray} {ml : Nat} {rt' : Option FieldType} {rm : Room} {as : List Value} {Q : Option Value → Obs → Prop} (hd : decode bc pc = .ok (.invokevirtual index, 3)) (hq : pc + 3 = q) (hL : L[i]? = some (a, .inl (C, fs))) (h1 : tbl[w1]? = some (Jvm.Cond.methodLink own index y)) (h2 : tbl[w2]? = some (Jvm.Cond.privateMethod y)) (h5 : tbl[w5]? = some (Jvm.Cond.instantiable y.cls kk)) (h6 : tbl[w6]? = some (Jvm.Cond.instanceMethod y)) (h3 : tbl[w3]? = some (Jvm.Cond.initialized y.cls)) (h4 : tbl[w4]? = some (Jvm.Cond.code y bytes ml rt')) (hT : Triple l Z n0 y bytes ml rt' rm rm.cells rm.slots (.ref a :: as) L Q) (hy : y.cls ≠ "java/lang/invoke/MethodHandle" ∧ y.cls ≠ "java/lang/invoke/VarHandle") (hlen : ∃ ps r, parseMethodDescriptor y.desc = some ⟨ps, r⟩ ∧ as.length = ps.length) (hst : stk = as.reverse ++ .ref a :: st) (hsz : Ls.size = mxl) (hW : (st.map fun v => v.category).sum = W) (hf : rm.frames + 1 ≤ R.frames) (hl : W + (ml + 11) + rm.locals ≤ R.locals) (hc : cells + rm.cells ≤ R.cells) (hs : slots + rm.slots ≤ R.slots)
    (k : ∀ v T' L', Q v L' → Here p l e R s m args below meth c Z a0 tbl own nm bc mxl rt n0 T' L' (cells + rm.cells) (slots + rm.slots) → Go p e below F (T'.setTop (mkF m q Ls (v.toList ++ st)))) : Go p e below F (T.setTop (mkF m pc Ls stk)) := by
  obtain ⟨⟨hx, hZ, hown, hby, hml, hww, hnm, hrt, hlk⟩, locs, X, N, Z0, P⟩ := id A
  obtain ⟨ps, r, hps, hle⟩ := hlen
  subst hst hq
  have hp : s.PrivateAt y := Cond.privateMethod_at (mvP hZ (hww _ (List.mem_of_getElem? h2)) (args := #[]))
  have hin : (Jvm.Cond.instanceMethod y).before args s = true := mvT hZ (hww _ (List.mem_of_getElem? h6))
  have hit : (Jvm.Cond.instantiable y.cls kk).before args s = true := mvT hZ (hww _ (List.mem_of_getElem? h5))
  obtain ⟨cI, kI, i1, i2, -, i4, -⟩ := Cond.instantiable_spec hit
  have hni : kI.isInterface = false := by simp only [Bool.or_eq_false_iff] at i4; exact i4.1
  have hsel := selects_self_of_private (args := args) i1 i2 hni hp hin hy
  obtain ⟨cq, q1, q2⟩ := (P.1 _ (List.mem_of_getElem? hL)).2.1.cell
  obtain ⟨v, _, ⟨T1, L1, k1, n1⟩, -, X1, ⟨Lc, hQ, l1, y1, z1⟩, st1⟩ := X.privateBack hx (y := y) hown (mvT hZ (hww _ (List.mem_of_getElem? h1))) hin hsel hp (mvT hZ (hww _ (List.mem_of_getElem? h4))) hy (backOf (W := W) (Q := fun v h Lc => Fr n0 Lc ∧ n0 ≤ h.size ∧ ∃ L', Q v L' ∧ Pic Z n0 h L') (hT T.heap [] Z0 P) hZ (hww _ (List.mem_of_getElem? h4)) (hww _ (List.mem_of_getElem? h3)) hf hl) (g := mkF m pc Ls (as.reverse ++ .ref a :: st)) rfl (by rw [hml]; exact hsz) (Steps.refl _) (a := a) q1 q2 (argsL := as) (rest := st) (lenOf hps hle) rfl (by show 2 * 0 + _ ≤ _; omega) (hb hby hd) (fun _ _ => ⟨rfl, rfl, hc, hs⟩)
  dsimp only [Pt.U, Pt.locs, Pt.cells, Pt.slots] at X1 l1 y1 z1 st1 hQ
  subst l1 y1 z1
  obtain ⟨Nq, Zq, L', q, Pq⟩ := hQ
  exact Go.st (fun t h => st1.trans h) (k v T1 L' q ⟨A.1, _, X1, N.app Nq, Zq, Pq⟩)
theorem Here.pop2L (A : Here p l e R s m args below meth c Z a0 tbl own nm bc mxl rt n0 T L cells slots) {pc q : Nat} {Ls : Array Slot} {st : List Value} {x : Int64} (hd : decode bc pc = .ok (.pop2, 1)) (hq : pc + 1 = q) (k : Go p e below F (T.setTop (mkF m q Ls st))) : Go p e below F (T.setTop (mkF m pc Ls (.long x :: st))) := by
  obtain ⟨⟨hx, hZ, hown, hby, hml, hww, hnm, hrt, hlk⟩, locs, X, N, Z0, P⟩ := id A
  subst hq
  have hd' := hb hby hd
  refine Go.st (fun t h => ?_) k
  show Steps p.tables e below (T.setTop { method := m, pc := pc, locals := Ls, stack := _ :: st, locked := none }) _
  jvm_step X.here [X.here.top, hx, hd', Value.category]
  exact h

theorem Here.copyAll (A : Here p l e R s m args below meth c Z a0 tbl own nm bc mxl rt n0 T L cells slots) {pc q index W w1 w2 w3 w4 i j : Nat} {Ls : Array Slot} {st : List Value} {a b : Addr} {ty : FieldType} {vs vd : List Value} {nn : Int32} {L' : Obs} (hd : decode bc pc = .ok (.invokestatic index, 3)) (hq : pc + 3 = q) (h1 : tbl[w1]? = some (Jvm.Cond.methodLink own index Jvm.Stand.acN)) (h2 : tbl[w2]? = some (Jvm.Cond.native Jvm.Stand.acN)) (h3 : tbl[w3]? = some (Jvm.Cond.static Jvm.Stand.acN)) (h4 : tbl[w4]? = some (Jvm.Cond.initialized "java/lang/System")) (hi : L[i]? = some (a, .inr (ty, vs))) (hj : L[j]? = some (b, .inr (ty, vd))) (hr : refKind ty = false) (hn : vd.length = vs.length) (hnn : vs.length.toInt32 = nn)
    (hsz : Ls.size = mxl) (hW : (st.map fun v => v.category).sum = W) (hf : 1 ≤ R.frames) (hlo : W + (nativeFrameWords "java/lang/System" "arraycopy" 5 + 11) ≤ R.locals) (hL' : L.set j (b, .inr (ty, vs)) = L') (k : ∀ T', Here p l e R s m args below meth c Z a0 tbl own nm bc mxl rt n0 T' L' cells slots → Go p e below F (T'.setTop (mkF m q Ls st))) : Go p e below F (T.setTop (mkF m pc Ls (.int nn :: .int 0 :: .ref b :: .int 0 :: .ref a :: st))) := by
  obtain ⟨⟨hx, hZ, hown, hby, hml, hww, hnm, hrt, hlk⟩, locs, X, N, Z0, P⟩ := id A
  have Ia := P.1 _ (List.mem_of_getElem? hi)
  have Ib := P.1 _ (List.mem_of_getElem? hj)
  have Ib2 : Ara Z T.heap b ty vd := Ib.2
  have Ia2 : Ara Z T.heap a ty vs := Ia.2
  obtain ⟨ka, VA, la, na⟩ := Ia2.toArv (defaultValue ty)
  obtain ⟨kb, VB, lb, nb⟩ := Ib2.toArv (defaultValue ty)
  rw [hn] at VB lb
  subst hq hnn hL'
  have z0 : (0 : Int32).toNatClampNeg = 0 := by decide
  obtain ⟨T', h', L1, X', e', N', K, V', st'⟩ := cpA X hx hZ hown (hww _ (List.mem_of_getElem? h1)) (hww _ (List.mem_of_getElem? h2)) (hww _ (List.mem_of_getElem? h3)) (hww _ (List.mem_of_getElem? h4)) rfl VA VB (Or.inl ⟨rfl, hr⟩) (sp := 0) (dp := 0) (by decide) (by decide) na (by rw [z0]; omega) (by rw [z0]; omega) rfl (by rw [z0]; omega) N Ib.1 (g := mkF m pc Ls (.int vs.length.toInt32 :: .int 0 :: .ref b :: .int 0 :: .ref a :: st)) rfl (by rw [hml]; exact hsz) rfl (hb hby hd) hf (W := W) (by show 2 * 0 + _ ≤ _; omega) hlo
  subst e'
  have ev : vd.take (0 : Int32).toNatClampNeg ++ (List.range vs.length.toInt32.toNatClampNeg).map (fun i => vs.getD ((0 : Int32).toNatClampNeg + i) (defaultValue ty)) ++ vd.drop ((0 : Int32).toNatClampNeg + vs.length.toInt32.toNatClampNeg) = vs := by
    rw [z0, la, List.take_zero, List.nil_append, List.drop_eq_nil_of_le (by omega), List.append_nil]
    refine List.ext_getElem? fun i => ?_
    by_cases hi' : i < vs.length
    · rw [List.getElem?_map, List.getElem?_range hi']; simp [List.getD_eq_getElem?_getD, hi']
    · rw [List.getElem?_eq_none (by simp; omega), List.getElem?_eq_none (by omega)]
  rw [ev] at V'
  obtain ⟨_, _, _, l31, _, Eb⟩ := Ib2
  exact Go.st st' (k T' ⟨A.1, L1, X', N', Nat.le_trans Z0 K.1, P.setK K hj (Arv.toAra V' la (by rw [hn] at l31; exact l31) (Eb.keep K))⟩)

theorem Here.retV  (A : Here p l e R s m args below meth c Z a0 tbl own nm bc mxl none n0 T L cells slots) {pc kc ks : Nat} {Ls : Array Slot} {Q : Option Value → Obs → Prop} (hd : decode bc pc = .ok (.return_, 1)) (hc : cells ≤ kc) (hs : slots ≤ ks) (hQ : Q none L) : Go p e below (EndS below s n0 Z kc ks Q) (T.setTop (mkF m pc Ls [])) := by
  obtain ⟨⟨hx, hZ, hown, hby, hml, hww, hnm, hrt, hlk⟩, locs, X, N, Z0, P⟩ := id A
  obtain ⟨fs, hr, hrun, hended, hW, hsame⟩ := X.leave (v := none) (fun _ => rfl)
  refine ⟨T.setFrames fs, ?_, _, hrun, hended, _, locs, rfl, ⟨N, Z0, L, hQ, P⟩, ⟨_, rfl⟩, hW, hsame.mono hc hs⟩
  exact X.returnOut hx hrt (hb hby hd) hr
theorem Here.retZ {x v : Int32} (A : Here p l e R s m args below meth c Z a0 tbl own nm bc mxl (some .boolean) n0 T L cells slots) {pc kc ks : Nat} {Ls : Array Slot} {st : List Value} {Q : Option Value → Obs → Prop} (hd : decode bc pc = .ok (.ireturn, 1)) (hv : nar .boolean x = v) (hc : cells ≤ kc) (hs : slots ≤ ks) (hQ : Q (some (.int v)) L) : Go p e below (EndS below s n0 Z kc ks Q) (T.setTop (mkF m pc Ls (.int x :: st))) := by
  obtain ⟨⟨hx, hZ, hown, hby, hml, hww, hnm, hrt, hlk⟩, locs, X, N, Z0, P⟩ := id A
  obtain ⟨fs, hr, hrun, hended, hW, hsame⟩ := X.leave (v := (some (.int v))) (fun h => by rw [hrt] at h; cases h)
  refine ⟨T.setFrames fs, ?_, _, hrun, hended, _, locs, rfl, ⟨N, Z0, L, hQ, P⟩, ⟨_, rfl⟩, hW, hsame.mono hc hs⟩
  subst hv; exact retN X hx (t := .boolean) hrt (by simp) (hb hby hd) hr
theorem Here.retB {x v : Int32} (A : Here p l e R s m args below meth c Z a0 tbl own nm bc mxl (some .byte) n0 T L cells slots) {pc kc ks : Nat} {Ls : Array Slot} {st : List Value} {Q : Option Value → Obs → Prop} (hd : decode bc pc = .ok (.ireturn, 1)) (hv : nar .byte x = v) (hc : cells ≤ kc) (hs : slots ≤ ks) (hQ : Q (some (.int v)) L) : Go p e below (EndS below s n0 Z kc ks Q) (T.setTop (mkF m pc Ls (.int x :: st))) := by
  obtain ⟨⟨hx, hZ, hown, hby, hml, hww, hnm, hrt, hlk⟩, locs, X, N, Z0, P⟩ := id A
  obtain ⟨fs, hr, hrun, hended, hW, hsame⟩ := X.leave (v := (some (.int v))) (fun h => by rw [hrt] at h; cases h)
  refine ⟨T.setFrames fs, ?_, _, hrun, hended, _, locs, rfl, ⟨N, Z0, L, hQ, P⟩, ⟨_, rfl⟩, hW, hsame.mono hc hs⟩
  subst hv; exact retN X hx (t := .byte) hrt (by simp) (hb hby hd) hr
theorem Here.retI {x : Int32} (A : Here p l e R s m args below meth c Z a0 tbl own nm bc mxl (some .int) n0 T L cells slots) {pc kc ks : Nat} {Ls : Array Slot} {st : List Value} {Q : Option Value → Obs → Prop} (hd : decode bc pc = .ok (.ireturn, 1)) (hc : cells ≤ kc) (hs : slots ≤ ks) (hQ : Q (some (.int x)) L) : Go p e below (EndS below s n0 Z kc ks Q) (T.setTop (mkF m pc Ls (.int x :: st))) := by
  obtain ⟨⟨hx, hZ, hown, hby, hml, hww, hnm, hrt, hlk⟩, locs, X, N, Z0, P⟩ := id A
  obtain ⟨fs, hr, hrun, hended, hW, hsame⟩ := X.leave (v := (some (.int x))) (fun h => by rw [hrt] at h; cases h)
  refine ⟨T.setFrames fs, ?_, _, hrun, hended, _, locs, rfl, ⟨N, Z0, L, hQ, P⟩, ⟨_, rfl⟩, hW, hsame.mono hc hs⟩
  exact retOut X hx (t := .int) hrt rfl (Or.inl ⟨rfl, Or.inl rfl, _, rfl⟩) (hb hby hd) hr
theorem Here.retJ {x : Int64} (A : Here p l e R s m args below meth c Z a0 tbl own nm bc mxl (some .long) n0 T L cells slots) {pc kc ks : Nat} {Ls : Array Slot} {st : List Value} {Q : Option Value → Obs → Prop} (hd : decode bc pc = .ok (.lreturn, 1)) (hc : cells ≤ kc) (hs : slots ≤ ks) (hQ : Q (some (.long x)) L) : Go p e below (EndS below s n0 Z kc ks Q) (T.setTop (mkF m pc Ls (.long x :: st))) := by
  obtain ⟨⟨hx, hZ, hown, hby, hml, hww, hnm, hrt, hlk⟩, locs, X, N, Z0, P⟩ := id A
  obtain ⟨fs, hr, hrun, hended, hW, hsame⟩ := X.leave (v := (some (.long x))) (fun h => by rw [hrt] at h; cases h)
  refine ⟨T.setFrames fs, ?_, _, hrun, hended, _, locs, rfl, ⟨N, Z0, L, hQ, P⟩, ⟨_, rfl⟩, hW, hsame.mono hc hs⟩
  exact retOut X hx (t := .long) hrt rfl (Or.inr (Or.inl ⟨rfl, rfl, _, rfl⟩)) (hb hby hd) hr
theorem Here.retA {x : Value} {t : FieldType} (A : Here p l e R s m args below meth c Z a0 tbl own nm bc mxl (some t) n0 T L cells slots) {pc kc ks : Nat} {Ls : Array Slot} {st : List Value} {Q : Option Value → Obs → Prop} (hd : decode bc pc = .ok (.areturn, 1)) (hrf : x.isRef = true) (htr : t.isReference = true) (hnn : narrow t x = x) (hc : cells ≤ kc) (hs : slots ≤ ks) (hQ : Q (some x) L) : Go p e below (EndS below s n0 Z kc ks Q) (T.setTop (mkF m pc Ls (x :: st))) := by
  obtain ⟨⟨hx, hZ, hown, hby, hml, hww, hnm, hrt, hlk⟩, locs, X, N, Z0, P⟩ := id A
  obtain ⟨fs, hr, hrun, hended, hW, hsame⟩ := X.leave (v := (some x)) (fun h => by rw [hrt] at h; cases h)
  refine ⟨T.setFrames fs, ?_, _, hrun, hended, _, locs, rfl, ⟨N, Z0, L, hQ, P⟩, ⟨_, rfl⟩, hW, hsame.mono hc hs⟩
  exact retOut X hx (t := t) hrt hnn (Or.inr (Or.inr (Or.inr (Or.inr ⟨rfl, htr, hrf⟩)))) (hb hby hd) hr
end Walk
abbrev ob0 (v0 v1 v2 v3 v4 : Value) : Ob := .inl ("com/example/forebound/forebound/problem/Problem$Table", [(("com/example/forebound/forebound/problem/Problem$Table", "positions", "[I"), v0), (("com/example/forebound/forebound/problem/Problem$Table", "costs", "[J"), v1), (("com/example/forebound/forebound/problem/Problem$Table", "forbidden", "[Z"), v2), (("com/example/forebound/forebound/problem/Problem$Table", "defaultCost", "J"), v3), (("com/example/forebound/forebound/problem/Problem$Table", "defaultForbidden", "Z"), v4)])
abbrev ob1 (v0 v1 v2 v3 v4 v5 v6 v7 : Value) : Ob := .inl ("com/example/forebound/forebound/problem/Sum", [(("com/example/forebound/forebound/problem/Sum", "offsets", "[J"), v0), (("com/example/forebound/forebound/problem/Sum", "flags", "[B"), v1), (("com/example/forebound/forebound/problem/Sum", "allowed", "I"), v2), (("com/example/forebound/forebound/problem/Sum", "shift", "J"), v3), (("com/example/forebound/forebound/problem/Sum", "highest", "J"), v4), (("com/example/forebound/forebound/problem/Sum", "lowest", "J"), v5), (("com/example/forebound/forebound/problem/Sum", "extremes", "Lcom/example/forebound/forebound/problem/Sum$Extremes;"), v6), (("com/example/forebound/forebound/problem/Sum", "survivors", "[I"), v7)])
def TripleW (l : Launch) (Z : State) (n0 : Nat) (y : MethodName) (bytes : ByteArray) (ml : Nat) (rt : Option FieldType) (rm : Room) (kc ks : Nat) (as : List Value) (L : Obs) (Q : Option Value → Obs → Prop) : Prop :=
  ∀ (h0 : Heap) (hdl : List (Nat × Nat × Nat × Nat)) (ws : List Jvm.Cond), n0 ≤ h0.size → Pic Z n0 h0 L →
    MetFree l y (head1 (Jvm.Cond.codeWith y bytes ml rt hdl :: ws) rm) (fun a U => a = as.toArray ∧ Z.Warmed39 U.vm ∧ U.heap = h0) (fun _ _ _ _ _ => True)
      (fun _ U o U' => ∃ v Lc, o = .returned v ∧ (Fr n0 Lc ∧ n0 ≤ U'.heap.size ∧ ∃ L', Q v L' ∧ Pic Z n0 U'.heap L') ∧ FrameEnd U o U' Lc kc ks)
theorem TripleW.of_body {l : Launch} {Z : State} {a0 : Array Value} {tbl : List Jvm.Cond} {n0 : Nat} {y : MethodName} {bytes : ByteArray} {ml : Nat} {rt : Option FieldType} {rm : Room} {kc ks : Nat} {as : List Value} {L : Obs} {Q : Option Value → Obs → Prop} {Ls : Array Slot}
    (hp : plainFor y = true) (hw : ∀ d ∈ tbl, d.before a0 Z = true) (ef : (Jvm.Sym.laidSlots as ++ List.replicate (ml - (Jvm.Sym.laidSlots as).length) Slot.unset).toArray = Ls)
    (body : ∀ p e s m below meth c T, Here p l e rm s m as.toArray below meth c Z a0 tbl y.cls y.name bytes ml rt n0 T L 0 0 → Go p e below (EndS below s n0 Z kc ks Q) (T.setTop (mkF m 0 Ls []))) :
    TripleW l Z n0 y bytes ml rt rm kc ks as L Q := by
  intro h0 hdl ws Z0 P0
  refine MetFree.of_bodySF hp hisWith ?_
  intro p e s m args below meth c s₁ Bd hml0 hP hK
  obtain ⟨rfl, hZ, hh⟩ := hP
  have e0 : s₁.heap = h0 := by rw [← hh, Bd.state]; rfl
  have A : Here p l e rm s m as.toArray below meth c Z a0 tbl y.cls y.name bytes ml rt n0 s₁ L 0 0 :=
    ⟨⟨Bd.exec, hZ, findClass_of_methodNamed Bd.named, Bd.bytes, hml0, hw, (name_of_methodNamed Bd.named Bd.method).1, Bd.returns, Bd.notSynchronized⟩, [], Stand.of_body Bd, Fr.nil n0, by rw [e0]; exact Z0, by rw [e0]; exact P0⟩
  obtain ⟨t, st, o, h1, h2, h3⟩ := body p e s m below meth c s₁ A
  have ef' : entryFrame m as.toArray ml = mkF m 0 Ls [] := by
    have q := Jvm.Sym.argsToLocals_toList as.toArray ml
    have q2 : argsToLocals as.toArray ml = Ls := by rw [← ef, ← q, Array.toArray_toList]
    unfold entryFrame mkF; rw [q2]
  exact ⟨t, o, castTop ef' st, h1, h2, h3⟩
section WalkW
variable {p : Program} {l : Launch} {e : Env} {R : Room} {s : State} {m : MethodId} {args : Array Value} {below : List Frame} {meth : Method} {c : Code} {Z : State} {a0 : Array Value} {tbl : List Jvm.Cond} {own nm : String} {bc : ByteArray} {mxl : Nat} {rt : Option FieldType} {n0 : Nat} {T : State} {L : Obs} {cells slots : Nat} {F : State → Prop}
theorem Here.callVW (A : Here p l e R s m args below meth c Z a0 tbl own nm bc mxl rt n0 T L cells slots) {pc q index W i w1 w2 w3 w4 w5 w6 : Nat} {Ls : Array Slot} {st stk : List Value} {a : Addr} {C : String} {fs : List ((String × String × String) × Value)} {y : MethodName} {bytes : ByteArray} {ml : Nat} {rt' : Option FieldType} {hdl : List (Nat × Nat × Nat × Nat)} {rm : Room} {as : List Value} {Q : Option Value → Obs → Prop} (hd : decode bc pc = .ok (.invokevirtual index, 3)) (hq : pc + 3 = q) (hL : L[i]? = some (a, .inl (C, fs))) (h1 : tbl[w1]? = some (Jvm.Cond.methodLink own index y)) (h2 : tbl[w2]? = some (Jvm.Cond.declares y)) (h5 : tbl[w5]? = some (Jvm.Cond.selects C y y)) (h6 : tbl[w6]? = some (Jvm.Cond.instanceMethod y)) (h3 : tbl[w3]? = some (Jvm.Cond.initialized y.cls)) (h4 : tbl[w4]? = some (Jvm.Cond.codeWith y bytes ml rt' hdl)) (hT : TripleW l Z n0 y bytes ml rt' rm rm.cells rm.slots (.ref a :: as) L Q) (hy : y.cls ≠ "java/lang/invoke/MethodHandle" ∧ y.cls ≠ "java/lang/invoke/VarHandle") (hlen : ∃ ps r, parseMethodDescriptor y.desc = some ⟨ps, r⟩ ∧ as.length = ps.length) (hst : stk = as.reverse ++ .ref a :: st) (hsz : Ls.size = mxl) (hW : (st.map fun v => v.category).sum = W) (hf : rm.frames + 1 ≤ R.frames) (hl : W + (ml + 11) + rm.locals ≤ R.locals) (hc : cells + rm.cells ≤ R.cells) (hs : slots + rm.slots ≤ R.slots)
    (k : ∀ v T' L', Q v L' → Here p l e R s m args below meth c Z a0 tbl own nm bc mxl rt n0 T' L' (cells + rm.cells) (slots + rm.slots) → Go p e below F (T'.setTop (mkF m q Ls (v.toList ++ st)))) : Go p e below F (T.setTop (mkF m pc Ls stk)) := by
  obtain ⟨⟨hx, hZ, hown, hby, hml, hww, hnm, hrt, hlk⟩, locs, X, N, Z0, P⟩ := id A
  obtain ⟨ps, r, hps, hle⟩ := hlen
  subst hst hq
  obtain ⟨cq, kq, qa, qb, qc⟩ := isOf (T := T) hZ rfl (P.1 _ (List.mem_of_getElem? hL)).2.1
  obtain ⟨v, _, ⟨T1, L1, k1, n1⟩, -, X1, ⟨Lc, hQ, l1, y1, z1⟩, st1⟩ := X.virtualBack hx (y := y) (z := y) hown (mvT hZ (hww _ (List.mem_of_getElem? h1))) (mvT hZ (hww _ (List.mem_of_getElem? h2))) (notFace_of_selects (args := #[]) (mvT hZ (hww _ (List.mem_of_getElem? h5)))) (mvT hZ (hww _ (List.mem_of_getElem? h5))) (mvT hZ (hww _ (List.mem_of_getElem? h6))) hy (backOfWith (W := W) (Q := fun v h Lc => Fr n0 Lc ∧ n0 ≤ h.size ∧ ∃ L', Q v L' ∧ Pic Z n0 h L') (hT T.heap _ [] Z0 P) hZ (hww _ (List.mem_of_getElem? h4)) (hww _ (List.mem_of_getElem? h3)) hf hl) qa qc (g := mkF m pc Ls (as.reverse ++ .ref a :: st)) rfl (by rw [hml]; exact hsz) (Steps.refl _) (argsL := as) (rest := st) (lenOf hps hle) rfl (by show 2 * 0 + _ ≤ _; omega) (hb hby hd) (fun _ _ => ⟨rfl, rfl, hc, hs⟩)
  dsimp only [Pt.U, Pt.locs, Pt.cells, Pt.slots] at X1 l1 y1 z1 st1 hQ
  subst l1 y1 z1
  obtain ⟨Nq, Zq, L', q, Pq⟩ := hQ
  exact Go.st (fun t h => st1.trans h) (k v T1 L' q ⟨A.1, _, X1, N.app Nq, Zq, Pq⟩)
end WalkW
def Two (a b : Slot) : Prop := (a = .unset ∧ b = .unset) ∨ ∃ x, a = .val (.long x) ∧ b = .second
theorem Two.u : Two .unset .unset := Or.inl ⟨rfl, rfl⟩
theorem Two.v {x : Int64} : Two (.val (.long x)) .second := Or.inr ⟨x, rfl, rfl⟩
theorem own_r3 {v : Int32} (h : 0 ≤ v.toInt ∧ v.toInt < 3) : v = 0 ∨ v = 1 ∨ v = 2 := by
  have q : v.toInt = (0 : Int32).toInt ∨ v.toInt = (1 : Int32).toInt ∨ v.toInt = (2 : Int32).toInt := by simp only [Int32.reduceToInt]; omega
  exact q.imp Int32.toInt_inj.mp (Or.imp Int32.toInt_inj.mp Int32.toInt_inj.mp)
theorem own_r4 {v : Int32} (h : 0 ≤ v.toInt ∧ v.toInt < 4) : v = 0 ∨ v = 1 ∨ v = 2 ∨ v = 3 := by
  have q : v.toInt = (0 : Int32).toInt ∨ v.toInt = (1 : Int32).toInt ∨ v.toInt = (2 : Int32).toInt ∨ v.toInt = (3 : Int32).toInt := by simp only [Int32.reduceToInt]; omega
  exact q.imp Int32.toInt_inj.mp (Or.imp Int32.toInt_inj.mp (Or.imp Int32.toInt_inj.mp Int32.toInt_inj.mp))
theorem own_r5 {v : Int32} (h : 0 ≤ v.toInt ∧ v.toInt < 5) : v = 0 ∨ v = 1 ∨ v = 2 ∨ v = 3 ∨ v = 4 := by
  have q : v.toInt = (0 : Int32).toInt ∨ v.toInt = (1 : Int32).toInt ∨ v.toInt = (2 : Int32).toInt ∨ v.toInt = (3 : Int32).toInt ∨ v.toInt = (4 : Int32).toInt := by simp only [Int32.reduceToInt]; omega
  exact q.imp Int32.toInt_inj.mp (Or.imp Int32.toInt_inj.mp (Or.imp Int32.toInt_inj.mp (Or.imp Int32.toInt_inj.mp Int32.toInt_inj.mp)))
theorem own_and3 (x : Int32) : x &&& (3 : Int32) = 0 ∨ x &&& (3 : Int32) = 1 ∨ x &&& (3 : Int32) = 2 ∨ x &&& (3 : Int32) = 3 :=
  own_r4 (by have h := c_mask x 3 2 (by decide) (by decide); omega)
theorem own_mod3 (x : Int32) : (x &&& (2147483647 : Int32)) % (3 : Int32) = 0 ∨ (x &&& (2147483647 : Int32)) % (3 : Int32) = 1 ∨ (x &&& (2147483647 : Int32)) % (3 : Int32) = 2 :=
  own_r3 (by
    have h1 := c_mask x 2147483647 31 (by decide) (by decide)
    have h2 := c_irem (x &&& (2147483647 : Int32)) 3 3 (by decide)
    omega)
theorem own_mod5 (x : Int32) : (x &&& (2147483647 : Int32)) % (5 : Int32) = 0 ∨ (x &&& (2147483647 : Int32)) % (5 : Int32) = 1 ∨ (x &&& (2147483647 : Int32)) % (5 : Int32) = 2 ∨ (x &&& (2147483647 : Int32)) % (5 : Int32) = 3 ∨ (x &&& (2147483647 : Int32)) % (5 : Int32) = 4 :=
  own_r5 (by
    have h1 := c_mask x 2147483647 31 (by decide) (by decide)
    have h2 := c_irem (x &&& (2147483647 : Int32)) 5 5 (by decide)
    omega)
theorem own_r2 {v : Int32} (h : 0 ≤ v.toInt ∧ v.toInt < 2) : v = 0 ∨ v = 1 := by
  have q : v.toInt = (0 : Int32).toInt ∨ v.toInt = (1 : Int32).toInt := by simp only [Int32.reduceToInt]; omega
  exact q.imp Int32.toInt_inj.mp Int32.toInt_inj.mp
theorem own_r1 {v : Int32} (h : 0 ≤ v.toInt ∧ v.toInt < 1) : v = 0 := by
  have q : v.toInt = (0 : Int32).toInt := by simp only [Int32.reduceToInt]; omega
  exact Int32.toInt_inj.mp q
theorem own_modb (x k : Int32) (d : Int) (hk : k.toInt = d) (hd : 0 < d) : 0 ≤ ((x &&& (2147483647 : Int32)) % k).toInt ∧ ((x &&& (2147483647 : Int32)) % k).toInt < d := by
  have h1 := c_mask x 2147483647 31 (by decide) (by decide)
  have h2 := (c_irem (x &&& (2147483647 : Int32)) k d hk).1 (by omega)
  rw [h2]
  exact ⟨Int.emod_nonneg _ (by omega), Int.emod_lt_of_pos _ hd⟩
theorem own_nb (x : Int32) : nar .byte (x.toInt8.toInt32) = x.toInt8.toInt32 := by
  have h1 := c_i2b x
  have h2 := c_i2b (x.toInt8.toInt32)
  refine Int32.toInt_inj.mp ?_
  show (x.toInt8.toInt32).toInt8.toInt32.toInt = _
  omega

def pT : List (Int32 × Int32) := [(0, 1), (0, 2), (0, 3), (1, 0), (1, 2), (1, 3), (2, 0), (2, 1), (2, 3), (3, 0), (3, 1), (3, 2)]
def sT : List (List Int32 × List Int32) := [([0, 0, 0, 0], []), ([1, 0, 0, 0], []), ([0, 1, 0, 0], []), ([1, 1, 0, 0], []), ([0, 0, 1, 0], []), ([1, 0, 1, 0], []), ([0, 1, 1, 0], []), ([0, 0, 0, 1], []), ([1, 0, 0, 1], []), ([0, 1, 0, 1], []), ([0, 0, 1, 1], []), ([1, 1, 1, 1], []), ([0, 1, 1, 1], [0]), ([1, 0, 1, 1], [1]), ([1, 1, 0, 1], [2]), ([1, 1, 1, 0], [3]), ([0, 0, 1, 1], [0, 1]), ([0, 1, 0, 1], [0, 2]), ([0, 1, 1, 0], [0, 3]), ([0, 0, 1, 1], [1, 0]), ([1, 0, 0, 1], [1, 2]), ([1, 0, 1, 0], [1, 3]), ([0, 1, 0, 1], [2, 0]), ([1, 0, 0, 1], [2, 1]), ([1, 1, 0, 0], [2, 3]), ([0, 1, 1, 0], [3, 0]), ([1, 0, 1, 0], [3, 1]), ([1, 1, 0, 0], [3, 2])]
def pA (g : Fin 12) : Int32 := (pT.getD g.val (0, 0)).1
def pB (g : Fin 12) : Int32 := (pT.getD g.val (0, 0)).2
def flO (s : Fin 28) : List Int32 := (sT.getD s.val ([], [])).1
def svO (s : Fin 28) : List Int32 := (sT.getD s.val ([], [])).2
def slO (s : Fin 28) : Int32 := (svO s).length.toInt32
def z4 : List Int64 := [0, 0, 0, 0]
def gt (l : List Int32) (p : Int32) : Int32 := l.getD p.toNatClampNeg 0
def su (l : List Int32) (p x : Int32) : List Int32 := l.set p.toNatClampNeg x
def cnt (l : List Int32) : Int32 := l.foldl (fun a x => if x &&& 1 = 0 then a + 1 else a) 0
def fb (l : List Int32) (p f : Int32) : List Int32 := if gt l p &&& 1 = 0 ∧ ¬ f = 0 then su l p (gt l p ||| 1) else l
def mkL (l : List Int32) (p q : Int32) : List Int32 := su (su l p (gt l p ||| 2)) q (gt l q ||| 2)
def l2L (l : List Int32) (p q f1 f2 : Int32) : List Int32 := fb (fb l p f1) q f2
def u1 (l : List Int32) (k : Int32) : List Int32 := if (l.getD (k).toNatClampNeg (0 : Int32)) = (0 : Int32) then (l.set (k).toNatClampNeg (1 : Int32)) else l
def a1 (l : List Int32) (k a : Int32) : Int32 := if (l.getD (k).toNatClampNeg (0 : Int32)) = (0 : Int32) then a - (1 : Int32) else a
def uL (l : List Int32) : List Int32 := u1 (u1 (u1 (u1 l (0 : Int32)) (1 : Int32)) (2 : Int32)) (3 : Int32)
def um (l : List Int32) (p : Int32) : List Int32 := su l p (gt l p &&& (-3))
def umL (l : List Int32) (p q : Int32) : List Int32 := um (um l p) q
def svL (l : List Int32) (p q : Int32) : List Int32 := [p, q].filter fun p => gt l p &&& 1 = 0
def mkO (s : Fin 28) (g : Fin 12) : List Int32 := mkL (flO s) (pA g) (pB g)
def l2O (s : Fin 28) (g : Fin 12) (f1 f2 : Int32) : List Int32 := l2L (mkO s g) (pA g) (pB g) f1 f2
def uO (s : Fin 28) (g : Fin 12) (f1 f2 : Int32) : List Int32 := uL (l2O s g f1 f2)
def rO (s : Fin 28) (g : Fin 12) (f1 f2 : Int32) (d : Int32) : List Int32 := umL (if d = 0 then l2O s g f1 f2 else uO s g f1 f2) (pA g) (pB g)
def svR (s : Fin 28) (g : Fin 12) (f1 f2 : Int32) : List Int32 := svL (uO s g f1 f2) (pA g) (pB g)
theorem own_pp (g : Fin 12) : ¬ pA g < 0 ∧ ¬ pB g < 0 ∧ (pA g).toNatClampNeg < 4 ∧ (pB g).toNatClampNeg < 4 ∧ z4[(pA g).toNatClampNeg]? = some 0 ∧ z4[(pB g).toNatClampNeg]? = some 0 ∧ z4.set (pA g).toNatClampNeg 0 = z4 ∧ z4.set (pB g).toNatClampNeg 0 = z4 := by revert g; decide +kernel
theorem own_flen (s : Fin 28) : (flO s).length = 4 := by revert s; decide +kernel
theorem own_sulen (l : List Int32) (p x : Int32) : (su l p x).length = l.length := List.length_set ..
theorem own_fblen (l : List Int32) (p f : Int32) : (fb l p f).length = l.length := by unfold fb; split <;> simp [own_sulen]
theorem own_u1len (l : List Int32) (k : Int32) : (u1 l k).length = l.length := by unfold u1; split <;> simp
theorem own_mkLlen (l : List Int32) (p q : Int32) : (mkL l p q).length = l.length := by unfold mkL; rw [own_sulen, own_sulen]
theorem own_l2Llen (l : List Int32) (p q f1 f2 : Int32) : (l2L l p q f1 f2).length = l.length := by unfold l2L; rw [own_fblen, own_fblen]
theorem own_uLlen (l : List Int32) : (uL l).length = l.length := by unfold uL; rw [own_u1len, own_u1len, own_u1len, own_u1len]
theorem own_umlen (l : List Int32) (p : Int32) : (um l p).length = l.length := by unfold um; rw [own_sulen]
theorem own_mlen (s : Fin 28) (g : Fin 12) : (mkO s g).length = 4 := by unfold mkO; rw [own_mkLlen, own_flen]
theorem own_l2len (s : Fin 28) (g : Fin 12) (f1 f2 : Int32) : (l2O s g f1 f2).length = 4 := by unfold l2O; rw [own_l2Llen, own_mlen]
theorem own_ulen (s : Fin 28) (g : Fin 12) (f1 f2 : Int32) : (uO s g f1 f2).length = 4 := by unfold uO; rw [own_uLlen, own_l2len]
theorem d9_0 : decode jdk_30_method_1_code 0 = .ok (.aload_n 0, 1) := by decide +kernel
theorem d9_1 : decode jdk_30_method_1_code 1 = .ok (.invokespecial 1, 3) := by decide +kernel
theorem d9_4 : decode jdk_30_method_1_code 4 = .ok (.return_, 1) := by decide +kernel
theorem pn_9 : plainFor (⟨"java/lang/Record", "<init>", "()V"⟩ : MethodName) = true := plainFor_of_name (by first | (simp [plainName, overriddenIn]; done) | decide +kernel)
set_option maxRecDepth 65536 in
set_option maxHeartbeats 8000000 in
theorem rm9 (l : Launch) (Z : State) (a0 : Array Value) (hw : ∀ d ∈ tables_1, d.before a0 Z = true) (n0 : Nat) (r0 : Addr) (RR : Obs) :
    Triple l Z n0 (⟨"java/lang/Record", "<init>", "()V"⟩ : MethodName) jdk_30_method_1_code 1 none ({ frames := 1, cells := 0, slots := 0, locals := 12 } : Room) 0 0 [(.ref r0)] (RR) (fun v L' => v = none ∧ L' = (RR)) := by
  refine Triple.of_body (tbl := tables_1) (a0 := a0) (Ls := #[.val (.ref r0)]) pn_9 hw rfl ?_
  intro p e s m below meth c T A
  refine A.aloadN (q := 1) d9_0 rfl rfl rfl ?_
  refine A.initObj (q := 4) (w1 := 48) (w2 := 7) (w3 := 8) (W := 0) d9_1 rfl rfl rfl rfl rfl rfl (by decide) (by decide) ?_
  intro T A
  exact A.retV d9_4 (by decide) (by decide) ⟨rfl, rfl⟩
theorem d5_0 : decode method_3_code 0 = .ok (.iload_n 0, 1) := by decide +kernel
theorem d5_1 : decode method_3_code 1 = .ok (.iconst 3, 1) := by decide +kernel
theorem d5_2 : decode method_3_code 2 = .ok (.iand, 1) := by decide +kernel
theorem d5_3 : decode method_3_code 3 = .ok (.ireturn, 1) := by decide +kernel
theorem pn_5 : plainFor (⟨"com/example/forebound/forebound/problem/SumForbiddenPinLaw", "first", "(I)I"⟩ : MethodName) = true := plainFor_of_name (by first | (simp [plainName, overriddenIn]; done) | decide +kernel)
set_option maxRecDepth 65536 in
set_option maxHeartbeats 8000000 in
theorem rmA (l : Launch) (Z : State) (a0 : Array Value) (hw : ∀ d ∈ tables_1, d.before a0 Z = true) (n0 : Nat) (t : Int32) (RR : Obs) :
    Triple l Z n0 (⟨"com/example/forebound/forebound/problem/SumForbiddenPinLaw", "first", "(I)I"⟩ : MethodName) method_3_code 1 (some .int) ({ frames := 0, cells := 0, slots := 0, locals := 0 } : Room) 0 0 [(.int t)] (RR) (fun v L' => v = some (.int (t &&& (3 : Int32))) ∧ L' = (RR)) := by
  refine Triple.of_body (tbl := tables_1) (a0 := a0) (Ls := #[.val (.int t)]) pn_5 hw rfl ?_
  intro p e s m below meth c T A
  refine A.iloadN (q := 1) d5_0 rfl rfl ?_
  refine A.iconst (q := 2) (v := (3 : Int32)) d5_1 rfl (by decide) ?_
  obtain ⟨v1, e1⟩ : ∃ v : Int32, t &&& (3 : Int32) = v := ⟨_, rfl⟩
  refine A.iand (q := 3) d5_2 rfl e1 ?_
  have Aq := A
  subst e1
  have A := Aq
  exact A.retI d5_3 (by decide) (by decide) ⟨rfl, rfl⟩
theorem pd_0 : parseMethodDescriptor "(I)I" = some ⟨[.int], some .int⟩ := by decide +kernel
theorem d6_0 : decode method_4_code 0 = .ok (.iload_n 0, 1) := by decide +kernel
theorem d6_1 : decode method_4_code 1 = .ok (.invokestatic 30, 3) := by decide +kernel
theorem d6_4 : decode method_4_code 4 = .ok (.iconst 1, 1) := by decide +kernel
theorem d6_5 : decode method_4_code 5 = .ok (.iadd, 1) := by decide +kernel
theorem d6_6 : decode method_4_code 6 = .ok (.iload_n 0, 1) := by decide +kernel
theorem d6_7 : decode method_4_code 7 = .ok (.iconst 2, 1) := by decide +kernel
theorem d6_8 : decode method_4_code 8 = .ok (.iushr, 1) := by decide +kernel
theorem d6_9 : decode method_4_code 9 = .ok (.iconst 3, 1) := by decide +kernel
theorem d6_10 : decode method_4_code 10 = .ok (.iand, 1) := by decide +kernel
theorem d6_11 : decode method_4_code 11 = .ok (.iconst 3, 1) := by decide +kernel
theorem d6_12 : decode method_4_code 12 = .ok (.irem, 1) := by decide +kernel
theorem d6_13 : decode method_4_code 13 = .ok (.iadd, 1) := by decide +kernel
theorem d6_14 : decode method_4_code 14 = .ok (.iconst 3, 1) := by decide +kernel
theorem d6_15 : decode method_4_code 15 = .ok (.iand, 1) := by decide +kernel
theorem d6_16 : decode method_4_code 16 = .ok (.ireturn, 1) := by decide +kernel
theorem pn_6 : plainFor (⟨"com/example/forebound/forebound/problem/SumForbiddenPinLaw", "second", "(I)I"⟩ : MethodName) = true := plainFor_of_name (by first | (simp [plainName, overriddenIn]; done) | decide +kernel)
set_option maxRecDepth 65536 in
set_option maxHeartbeats 8000000 in
theorem rmB (l : Launch) (Z : State) (a0 : Array Value) (hw : ∀ d ∈ tables_1, d.before a0 Z = true) (n0 : Nat) (t : Int32) (RR : Obs) :
    Triple l Z n0 (⟨"com/example/forebound/forebound/problem/SumForbiddenPinLaw", "second", "(I)I"⟩ : MethodName) method_4_code 1 (some .int) ({ frames := 1, cells := 0, slots := 0, locals := 12 } : Room) 0 0 [(.int t)] (RR) (fun v L' => v = some (.int (((((t &&& (3 : Int32))) + (1 : Int32)) + ((((t.toUInt32 >>> ((2 : Int32) &&& 31).toUInt32).toInt32) &&& (3 : Int32)) % (3 : Int32))) &&& (3 : Int32))) ∧ L' = (RR)) := by
  refine Triple.of_body (tbl := tables_1) (a0 := a0) (Ls := #[.val (.int t)]) pn_6 hw rfl ?_
  intro p e s m below meth c T A
  refine A.iloadN (q := 1) d6_0 rfl rfl ?_
  refine A.callS (q := 4) (w1 := 27) (w2 := 28) (w3 := 24) (w4 := 29) (as := [(.int t)]) (st := []) (W := 0) d6_1 rfl rfl rfl rfl rfl (rmA l Z a0 hw n0 t _) (by decide) ⟨_, _, pd_0, rfl⟩ rfl rfl rfl (by decide) (by decide) (by decide) (by decide) ?_
  rintro _ T _ ⟨rfl, rfl⟩ A
  show Go p e below _ (T.setTop (mkF m 4 #[.val (.int t)] [(.int (t &&& (3 : Int32)))]))
  obtain ⟨v1, e1⟩ : ∃ v : Int32, (t &&& (3 : Int32)) = v := ⟨_, rfl⟩
  rw [e1]
  refine A.iconst (q := 5) (v := (1 : Int32)) d6_4 rfl (by decide) ?_
  obtain ⟨v2, e2⟩ : ∃ v : Int32, v1 + (1 : Int32) = v := ⟨_, rfl⟩
  refine A.iadd (q := 6) d6_5 rfl e2 ?_
  refine A.iloadN (q := 7) d6_6 rfl rfl ?_
  refine A.iconst (q := 8) (v := (2 : Int32)) d6_7 rfl (by decide) ?_
  obtain ⟨v3, e3⟩ : ∃ v : Int32, (t.toUInt32 >>> ((2 : Int32) &&& 31).toUInt32).toInt32 = v := ⟨_, rfl⟩
  refine A.iushr (q := 9) d6_8 rfl e3 ?_
  refine A.iconst (q := 10) (v := (3 : Int32)) d6_9 rfl (by decide) ?_
  obtain ⟨v4, e4⟩ : ∃ v : Int32, v3 &&& (3 : Int32) = v := ⟨_, rfl⟩
  refine A.iand (q := 11) d6_10 rfl e4 ?_
  refine A.iconst (q := 12) (v := (3 : Int32)) d6_11 rfl (by decide) ?_
  obtain ⟨v5, e5⟩ : ∃ v : Int32, v4 % (3 : Int32) = v := ⟨_, rfl⟩
  refine A.irem (q := 13) d6_12 rfl (by decide) e5 ?_
  obtain ⟨v6, e6⟩ : ∃ v : Int32, v2 + v5 = v := ⟨_, rfl⟩
  refine A.iadd (q := 14) d6_13 rfl e6 ?_
  refine A.iconst (q := 15) (v := (3 : Int32)) d6_14 rfl (by decide) ?_
  obtain ⟨v7, e7⟩ : ∃ v : Int32, v6 &&& (3 : Int32) = v := ⟨_, rfl⟩
  refine A.iand (q := 16) d6_15 rfl e7 ?_
  have Aq := A
  subst e1 e2 e3 e4 e5 e6 e7
  have A := Aq
  exact A.retI d6_16 (by decide) (by decide) ⟨rfl, rfl⟩
def FL (t : Int32) (k : Int32) : Int32 := (if (((t.toUInt32 >>> (k &&& 31).toUInt32).toInt32) &&& (1 : Int32)) = (0 : Int32) then (0 : Int32) else (1 : Int32))
theorem d7_0 : decode method_5_code 0 = .ok (.iload_n 0, 1) := by decide +kernel
theorem d7_1 : decode method_5_code 1 = .ok (.iload_n 1, 1) := by decide +kernel
theorem d7_2 : decode method_5_code 2 = .ok (.iushr, 1) := by decide +kernel
theorem d7_3 : decode method_5_code 3 = .ok (.iconst 1, 1) := by decide +kernel
theorem d7_4 : decode method_5_code 4 = .ok (.iand, 1) := by decide +kernel
theorem d7_5 : decode method_5_code 5 = .ok (.ifCond .eq 7, 3) := by decide +kernel
theorem d7_8 : decode method_5_code 8 = .ok (.iconst 1, 1) := by decide +kernel
theorem d7_9 : decode method_5_code 9 = .ok (.goto 4, 3) := by decide +kernel
theorem d7_12 : decode method_5_code 12 = .ok (.iconst 0, 1) := by decide +kernel
theorem d7_13 : decode method_5_code 13 = .ok (.ireturn, 1) := by decide +kernel
theorem pn_7 : plainFor (⟨"com/example/forebound/forebound/problem/SumForbiddenPinLaw", "flagAt", "(II)Z"⟩ : MethodName) = true := plainFor_of_name (by first | (simp [plainName, overriddenIn]; done) | decide +kernel)
set_option maxRecDepth 65536 in
set_option maxHeartbeats 8000000 in
theorem rmL (l : Launch) (Z : State) (a0 : Array Value) (hw : ∀ d ∈ tables_1, d.before a0 Z = true) (n0 : Nat) (t : Int32) (k : Int32) (RR : Obs) :
    Triple l Z n0 (⟨"com/example/forebound/forebound/problem/SumForbiddenPinLaw", "flagAt", "(II)Z"⟩ : MethodName) method_5_code 2 (some .boolean) ({ frames := 0, cells := 0, slots := 0, locals := 0 } : Room) 0 0 [(.int t), (.int k)] (RR) (fun v L' => v = some (.int (FL t k)) ∧ L' = (RR)) := by
  refine Triple.of_body (tbl := tables_1) (a0 := a0) (Ls := #[.val (.int t), .val (.int k)]) pn_7 hw rfl ?_
  intro p e s m below meth c T A
  refine A.iloadN (q := 1) d7_0 rfl rfl ?_
  refine A.iloadN (q := 2) d7_1 rfl rfl ?_
  obtain ⟨v1, e1⟩ : ∃ v : Int32, (t.toUInt32 >>> (k &&& 31).toUInt32).toInt32 = v := ⟨_, rfl⟩
  refine A.iushr (q := 3) d7_2 rfl e1 ?_
  refine A.iconst (q := 4) (v := (1 : Int32)) d7_3 rfl (by decide) ?_
  obtain ⟨v2, e2⟩ : ∃ v : Int32, v1 &&& (1 : Int32) = v := ⟨_, rfl⟩
  refine A.iand (q := 5) d7_4 rfl e2 ?_
  refine A.if_eq (q := 8) (r := 12) d7_5 rfl (by decide) (fun h3 => ?_) (fun h3 => ?_)
  · refine A.iconst (q := 13) (v := (0 : Int32)) d7_12 rfl (by decide) ?_
    have Aq := A
    subst e1 e2
    have A := Aq
    exact A.retZ (v := (FL t k)) d7_13 (by simp only [FL, if_pos h3] <;> (first | rfl | assumption)) (by decide) (by decide) ⟨rfl, by first | rfl | (simp only [if_pos h3])⟩
  · refine A.iconst (q := 9) (v := (1 : Int32)) d7_8 rfl (by decide) ?_
    refine A.goto (r := 13) d7_9 (by decide) ?_
    have Aq := A
    subst e1 e2
    have A := Aq
    exact A.retZ (v := (FL t k)) d7_13 (by simp only [FL, if_neg h3] <;> (first | rfl | assumption)) (by decide) (by decide) ⟨rfl, by first | rfl | (simp only [if_neg h3])⟩
def Fmax (a : Int64) (b : Int64) : Int64 := (if a < b then b else a)
theorem d20_0 : decode jdk_29_method_66_code 0 = .ok (.lload_n 0, 1) := by decide +kernel
theorem d20_1 : decode jdk_29_method_66_code 1 = .ok (.lload_n 2, 1) := by decide +kernel
theorem d20_2 : decode jdk_29_method_66_code 2 = .ok (.lcmp, 1) := by decide +kernel
theorem d20_3 : decode jdk_29_method_66_code 3 = .ok (.ifCond .lt 7, 3) := by decide +kernel
theorem d20_6 : decode jdk_29_method_66_code 6 = .ok (.lload_n 0, 1) := by decide +kernel
theorem d20_7 : decode jdk_29_method_66_code 7 = .ok (.goto 4, 3) := by decide +kernel
theorem d20_10 : decode jdk_29_method_66_code 10 = .ok (.lload_n 2, 1) := by decide +kernel
theorem d20_11 : decode jdk_29_method_66_code 11 = .ok (.lreturn, 1) := by decide +kernel
theorem pn_20 : plainFor (⟨"java/lang/Math", "max", "(JJ)J"⟩ : MethodName) = true := Jvm.Free.JP.mathPlain rfl (by decide +kernel)
set_option maxRecDepth 65536 in
set_option maxHeartbeats 8000000 in
theorem rmmax (l : Launch) (Z : State) (a0 : Array Value) (hw : ∀ d ∈ tables_1, d.before a0 Z = true) (n0 : Nat) (a : Int64) (b : Int64) (RR : Obs) :
    Triple l Z n0 (⟨"java/lang/Math", "max", "(JJ)J"⟩ : MethodName) jdk_29_method_66_code 4 (some .long) ({ frames := 0, cells := 0, slots := 0, locals := 0 } : Room) 0 0 [(.long a), (.long b)] (RR) (fun v L' => v = some (.long (Fmax a b)) ∧ L' = (RR)) := by
  refine Triple.of_body (tbl := tables_1) (a0 := a0) (Ls := #[.val (.long a), .second, .val (.long b), .second]) pn_20 hw rfl ?_
  intro p e s m below meth c T A
  refine A.lloadN (q := 1) d20_0 rfl rfl ?_
  refine A.lloadN (q := 2) d20_1 rfl rfl ?_
  refine A.lcmp_lt (q := 3) (q2 := 6) (r := 10) d20_2 rfl d20_3 rfl (by decide) (fun h1 => ?_) (fun h1 => ?_)
  · refine A.lloadN (q := 11) d20_10 rfl rfl ?_
    exact A.retJ d20_11 (by decide) (by decide) ⟨(by simp only [Fmax, if_pos h1]), by first | rfl | (simp only [if_pos h1])⟩
  · refine A.lloadN (q := 7) d20_6 rfl rfl ?_
    refine A.goto (r := 11) d20_7 (by decide) ?_
    exact A.retJ d20_11 (by decide) (by decide) ⟨(by simp only [Fmax, if_neg h1]), by first | rfl | (simp only [if_neg h1])⟩
def Fmin (a : Int64) (b : Int64) : Int64 := (if b < a then b else a)
theorem d21_0 : decode jdk_29_method_70_code 0 = .ok (.lload_n 0, 1) := by decide +kernel
theorem d21_1 : decode jdk_29_method_70_code 1 = .ok (.lload_n 2, 1) := by decide +kernel
theorem d21_2 : decode jdk_29_method_70_code 2 = .ok (.lcmp, 1) := by decide +kernel
theorem d21_3 : decode jdk_29_method_70_code 3 = .ok (.ifCond .gt 7, 3) := by decide +kernel
theorem d21_6 : decode jdk_29_method_70_code 6 = .ok (.lload_n 0, 1) := by decide +kernel
theorem d21_7 : decode jdk_29_method_70_code 7 = .ok (.goto 4, 3) := by decide +kernel
theorem d21_10 : decode jdk_29_method_70_code 10 = .ok (.lload_n 2, 1) := by decide +kernel
theorem d21_11 : decode jdk_29_method_70_code 11 = .ok (.lreturn, 1) := by decide +kernel
theorem pn_21 : plainFor (⟨"java/lang/Math", "min", "(JJ)J"⟩ : MethodName) = true := Jvm.Free.JP.mathPlain rfl (by decide +kernel)
set_option maxRecDepth 65536 in
set_option maxHeartbeats 8000000 in
theorem rmmin (l : Launch) (Z : State) (a0 : Array Value) (hw : ∀ d ∈ tables_1, d.before a0 Z = true) (n0 : Nat) (a : Int64) (b : Int64) (RR : Obs) :
    Triple l Z n0 (⟨"java/lang/Math", "min", "(JJ)J"⟩ : MethodName) jdk_29_method_70_code 4 (some .long) ({ frames := 0, cells := 0, slots := 0, locals := 0 } : Room) 0 0 [(.long a), (.long b)] (RR) (fun v L' => v = some (.long (Fmin a b)) ∧ L' = (RR)) := by
  refine Triple.of_body (tbl := tables_1) (a0 := a0) (Ls := #[.val (.long a), .second, .val (.long b), .second]) pn_21 hw rfl ?_
  intro p e s m below meth c T A
  refine A.lloadN (q := 1) d21_0 rfl rfl ?_
  refine A.lloadN (q := 2) d21_1 rfl rfl ?_
  refine A.lcmp_gt (q := 3) (q2 := 6) (r := 10) d21_2 rfl d21_3 rfl (by decide) (fun h1 => ?_) (fun h1 => ?_)
  · refine A.lloadN (q := 11) d21_10 rfl rfl ?_
    exact A.retJ d21_11 (by decide) (by decide) ⟨(by simp only [Fmin, if_pos h1]), by first | rfl | (simp only [if_pos h1])⟩
  · refine A.lloadN (q := 7) d21_6 rfl rfl ?_
    refine A.goto (r := 11) d21_7 (by decide) ?_
    exact A.retJ d21_11 (by decide) (by decide) ⟨(by simp only [Fmin, if_neg h1]), by first | rfl | (simp only [if_neg h1])⟩
theorem d11_0 : decode prog_27_method_7_code 0 = .ok (.aload_n 0, 1) := by decide +kernel
theorem d11_1 : decode prog_27_method_7_code 1 = .ok (.getfield 16, 3) := by decide +kernel
theorem d11_4 : decode prog_27_method_7_code 4 = .ok (.areturn, 1) := by decide +kernel
theorem pn_11 : plainFor (⟨"com/example/forebound/forebound/problem/Problem$Table", "positions", "()[I"⟩ : MethodName) = true := plainFor_of_name (by first | (simp [plainName, overriddenIn]; done) | decide +kernel)
set_option maxRecDepth 65536 in
set_option maxHeartbeats 8000000 in
theorem rm11 (l : Launch) (Z : State) (a0 : Array Value) (hw : ∀ d ∈ tables_1, d.before a0 Z = true) (n0 : Nat) (r0 : Addr) (f_positions : Addr) (f_costs : Addr) (f_forbidden : Addr) (f_defaultCost : Int64) (f_defaultForbidden : Int32) (RR : Obs) :
    Triple l Z n0 (⟨"com/example/forebound/forebound/problem/Problem$Table", "positions", "()[I"⟩ : MethodName) prog_27_method_7_code 1 (some (.array .int)) ({ frames := 0, cells := 0, slots := 0, locals := 0 } : Room) 0 0 [(.ref r0)] ((r0, ob0 (.ref f_positions) (.ref f_costs) (.ref f_forbidden) (.long f_defaultCost) (.int f_defaultForbidden)) :: RR) (fun v L' => v = some (.ref f_positions) ∧ L' = ((r0, ob0 (.ref f_positions) (.ref f_costs) (.ref f_forbidden) (.long f_defaultCost) (.int f_defaultForbidden)) :: RR)) := by
  refine Triple.of_body (tbl := tables_1) (a0 := a0) (Ls := #[.val (.ref r0)]) pn_11 hw rfl ?_
  intro p e s m below meth c T A
  refine A.aloadN (q := 1) d11_0 rfl rfl rfl ?_
  refine A.getF (q := 4) (w := 49) (i := 0) (j := 0) d11_1 rfl rfl rfl rfl ?_
  intro T A
  exact A.retA d11_4 rfl rfl rfl (by decide) (by decide) ⟨rfl, rfl⟩
theorem d15_0 : decode prog_27_method_8_code 0 = .ok (.aload_n 0, 1) := by decide +kernel
theorem d15_1 : decode prog_27_method_8_code 1 = .ok (.getfield 22, 3) := by decide +kernel
theorem d15_4 : decode prog_27_method_8_code 4 = .ok (.areturn, 1) := by decide +kernel
theorem pn_15 : plainFor (⟨"com/example/forebound/forebound/problem/Problem$Table", "costs", "()[J"⟩ : MethodName) = true := plainFor_of_name (by first | (simp [plainName, overriddenIn]; done) | decide +kernel)
set_option maxRecDepth 65536 in
set_option maxHeartbeats 8000000 in
theorem rm15 (l : Launch) (Z : State) (a0 : Array Value) (hw : ∀ d ∈ tables_1, d.before a0 Z = true) (n0 : Nat) (r0 : Addr) (f_positions : Addr) (f_costs : Addr) (f_forbidden : Addr) (f_defaultCost : Int64) (f_defaultForbidden : Int32) (RR : Obs) :
    Triple l Z n0 (⟨"com/example/forebound/forebound/problem/Problem$Table", "costs", "()[J"⟩ : MethodName) prog_27_method_8_code 1 (some (.array .long)) ({ frames := 0, cells := 0, slots := 0, locals := 0 } : Room) 0 0 [(.ref r0)] ((r0, ob0 (.ref f_positions) (.ref f_costs) (.ref f_forbidden) (.long f_defaultCost) (.int f_defaultForbidden)) :: RR) (fun v L' => v = some (.ref f_costs) ∧ L' = ((r0, ob0 (.ref f_positions) (.ref f_costs) (.ref f_forbidden) (.long f_defaultCost) (.int f_defaultForbidden)) :: RR)) := by
  refine Triple.of_body (tbl := tables_1) (a0 := a0) (Ls := #[.val (.ref r0)]) pn_15 hw rfl ?_
  intro p e s m below meth c T A
  refine A.aloadN (q := 1) d15_0 rfl rfl rfl ?_
  refine A.getF (q := 4) (w := 51) (i := 0) (j := 1) d15_1 rfl rfl rfl rfl ?_
  intro T A
  exact A.retA d15_4 rfl rfl rfl (by decide) (by decide) ⟨rfl, rfl⟩
theorem d13_0 : decode prog_27_method_9_code 0 = .ok (.aload_n 0, 1) := by decide +kernel
theorem d13_1 : decode prog_27_method_9_code 1 = .ok (.getfield 26, 3) := by decide +kernel
theorem d13_4 : decode prog_27_method_9_code 4 = .ok (.areturn, 1) := by decide +kernel
theorem pn_13 : plainFor (⟨"com/example/forebound/forebound/problem/Problem$Table", "forbidden", "()[Z"⟩ : MethodName) = true := plainFor_of_name (by first | (simp [plainName, overriddenIn]; done) | decide +kernel)
set_option maxRecDepth 65536 in
set_option maxHeartbeats 8000000 in
theorem rm13 (l : Launch) (Z : State) (a0 : Array Value) (hw : ∀ d ∈ tables_1, d.before a0 Z = true) (n0 : Nat) (r0 : Addr) (f_positions : Addr) (f_costs : Addr) (f_forbidden : Addr) (f_defaultCost : Int64) (f_defaultForbidden : Int32) (RR : Obs) :
    Triple l Z n0 (⟨"com/example/forebound/forebound/problem/Problem$Table", "forbidden", "()[Z"⟩ : MethodName) prog_27_method_9_code 1 (some (.array .boolean)) ({ frames := 0, cells := 0, slots := 0, locals := 0 } : Room) 0 0 [(.ref r0)] ((r0, ob0 (.ref f_positions) (.ref f_costs) (.ref f_forbidden) (.long f_defaultCost) (.int f_defaultForbidden)) :: RR) (fun v L' => v = some (.ref f_forbidden) ∧ L' = ((r0, ob0 (.ref f_positions) (.ref f_costs) (.ref f_forbidden) (.long f_defaultCost) (.int f_defaultForbidden)) :: RR)) := by
  refine Triple.of_body (tbl := tables_1) (a0 := a0) (Ls := #[.val (.ref r0)]) pn_13 hw rfl ?_
  intro p e s m below meth c T A
  refine A.aloadN (q := 1) d13_0 rfl rfl rfl ?_
  refine A.getF (q := 4) (w := 53) (i := 0) (j := 2) d13_1 rfl rfl rfl rfl ?_
  intro T A
  exact A.retA d13_4 rfl rfl rfl (by decide) (by decide) ⟨rfl, rfl⟩
def FF (pp : Int32) (fl : List Int32) : Int32 := (if ((fl.getD (pp).toNatClampNeg (0 : Int32)) &&& (1 : Int32)) = (0 : Int32) then (0 : Int32) else (1 : Int32))
theorem d3_0 : decode prog_28_method_3_code 0 = .ok (.aload_n 0, 1) := by decide +kernel
theorem d3_1 : decode prog_28_method_3_code 1 = .ok (.getfield 13, 3) := by decide +kernel
theorem d3_4 : decode prog_28_method_3_code 4 = .ok (.iload_n 1, 1) := by decide +kernel
theorem d3_5 : decode prog_28_method_3_code 5 = .ok (.baload, 1) := by decide +kernel
theorem d3_6 : decode prog_28_method_3_code 6 = .ok (.iconst 1, 1) := by decide +kernel
theorem d3_7 : decode prog_28_method_3_code 7 = .ok (.iand, 1) := by decide +kernel
theorem d3_8 : decode prog_28_method_3_code 8 = .ok (.ifCond .eq 7, 3) := by decide +kernel
theorem d3_11 : decode prog_28_method_3_code 11 = .ok (.iconst 1, 1) := by decide +kernel
theorem d3_12 : decode prog_28_method_3_code 12 = .ok (.goto 4, 3) := by decide +kernel
theorem d3_15 : decode prog_28_method_3_code 15 = .ok (.iconst 0, 1) := by decide +kernel
theorem d3_16 : decode prog_28_method_3_code 16 = .ok (.ireturn, 1) := by decide +kernel
theorem pn_3 : plainFor (⟨"com/example/forebound/forebound/problem/Sum", "forbidden", "(I)Z"⟩ : MethodName) = true := plainFor_of_name (by first | (simp [plainName, overriddenIn]; done) | decide +kernel)
set_option maxRecDepth 65536 in
set_option maxHeartbeats 8000000 in
theorem rmF (l : Launch) (Z : State) (a0 : Array Value) (hw : ∀ d ∈ tables_1, d.before a0 Z = true) (n0 : Nat) (r0 : Addr) (pp : Int32) (r1 : Addr) (r2 : Addr) (f_allowed : Int32) (f_shift : Int64) (f_highest : Int64) (f_lowest : Int64) (wx : Value) (ws : Value) (fl : List Int32) (RR : Obs) (h0 : ¬ pp < 0) (hl : pp.toNatClampNeg < fl.length) :
    Triple l Z n0 (⟨"com/example/forebound/forebound/problem/Sum", "forbidden", "(I)Z"⟩ : MethodName) prog_28_method_3_code 2 (some .boolean) ({ frames := 0, cells := 0, slots := 0, locals := 0 } : Room) 0 0 [(.ref r0), (.int pp)] ((r0, ob1 (.ref r1) (.ref r2) (.int f_allowed) (.long f_shift) (.long f_highest) (.long f_lowest) wx ws) :: (r2, .inr (.byte, List.map Value.int fl)) :: RR) (fun v L' => v = some (.int (FF pp fl)) ∧ L' = ((r0, ob1 (.ref r1) (.ref r2) (.int f_allowed) (.long f_shift) (.long f_highest) (.long f_lowest) wx ws) :: (r2, .inr (.byte, List.map Value.int fl)) :: RR)) := by
  refine Triple.of_body (tbl := tables_1) (a0 := a0) (Ls := #[.val (.ref r0), .val (.int pp)]) pn_3 hw rfl ?_
  intro p e s m below meth c T A
  refine A.aloadN (q := 1) d3_0 rfl rfl rfl ?_
  refine A.getF (q := 4) (w := 13) (i := 0) (j := 1) d3_1 rfl rfl rfl rfl ?_
  intro T A
  refine A.iloadN (q := 5) d3_4 rfl rfl ?_
  refine A.baloadBM (q := 6) (i := 1) (v := (fl.getD (pp).toNatClampNeg (0 : Int32))) d3_5 rfl rfl h0 (own_gd hl) ?_
  refine A.iconst (q := 7) (v := (1 : Int32)) d3_6 rfl (by decide) ?_
  obtain ⟨v1, e1⟩ : ∃ v : Int32, (fl.getD (pp).toNatClampNeg (0 : Int32)) &&& (1 : Int32) = v := ⟨_, rfl⟩
  refine A.iand (q := 8) d3_7 rfl e1 ?_
  refine A.if_eq (q := 11) (r := 15) d3_8 rfl (by decide) (fun h2 => ?_) (fun h2 => ?_)
  · refine A.iconst (q := 16) (v := (0 : Int32)) d3_15 rfl (by decide) ?_
    have Aq := A
    subst e1
    have A := Aq
    exact A.retZ (v := (FF pp fl)) d3_16 (by simp only [FF, if_pos h2] <;> (first | rfl | assumption)) (by decide) (by decide) ⟨rfl, by first | rfl | (simp only [if_pos h2])⟩
  · refine A.iconst (q := 12) (v := (1 : Int32)) d3_11 rfl (by decide) ?_
    refine A.goto (r := 16) d3_12 (by decide) ?_
    have Aq := A
    subst e1
    have A := Aq
    exact A.retZ (v := (FF pp fl)) d3_16 (by simp only [FF, if_neg h2] <;> (first | rfl | assumption)) (by decide) (by decide) ⟨rfl, by first | rfl | (simp only [if_neg h2])⟩
theorem d14_0 : decode prog_28_method_4_code 0 = .ok (.aload_n 0, 1) := by decide +kernel
theorem d14_1 : decode prog_28_method_4_code 1 = .ok (.getfield 21, 3) := by decide +kernel
theorem d14_4 : decode prog_28_method_4_code 4 = .ok (.aload_n 0, 1) := by decide +kernel
theorem d14_5 : decode prog_28_method_4_code 5 = .ok (.getfield 7, 3) := by decide +kernel
theorem d14_8 : decode prog_28_method_4_code 8 = .ok (.iload_n 1, 1) := by decide +kernel
theorem d14_9 : decode prog_28_method_4_code 9 = .ok (.laload, 1) := by decide +kernel
theorem d14_10 : decode prog_28_method_4_code 10 = .ok (.ladd, 1) := by decide +kernel
theorem d14_11 : decode prog_28_method_4_code 11 = .ok (.lreturn, 1) := by decide +kernel
theorem pn_14 : plainFor (⟨"com/example/forebound/forebound/problem/Sum", "cost", "(I)J"⟩ : MethodName) = true := plainFor_of_name (by first | (simp [plainName, overriddenIn]; done) | decide +kernel)
set_option maxRecDepth 65536 in
set_option maxHeartbeats 8000000 in
theorem rmC (l : Launch) (Z : State) (a0 : Array Value) (hw : ∀ d ∈ tables_1, d.before a0 Z = true) (n0 : Nat) (r0 : Addr) (pp : Int32) (r1 : Addr) (r2 : Addr) (f_allowed : Int32) (f_highest : Int64) (f_lowest : Int64) (wx : Value) (ws : Value) (zz : List Int64) (RR : Obs) (h0 : ¬ pp < 0) (hz : zz[pp.toNatClampNeg]? = some 0) :
    Triple l Z n0 (⟨"com/example/forebound/forebound/problem/Sum", "cost", "(I)J"⟩ : MethodName) prog_28_method_4_code 2 (some .long) ({ frames := 0, cells := 0, slots := 0, locals := 0 } : Room) 0 0 [(.ref r0), (.int pp)] ((r0, ob1 (.ref r1) (.ref r2) (.int f_allowed) (.long (0 : Int64)) (.long f_highest) (.long f_lowest) wx ws) :: (r1, .inr (.long, List.map Value.long zz)) :: RR) (fun v L' => v = some (.long (0 : Int64)) ∧ L' = ((r0, ob1 (.ref r1) (.ref r2) (.int f_allowed) (.long (0 : Int64)) (.long f_highest) (.long f_lowest) wx ws) :: (r1, .inr (.long, List.map Value.long zz)) :: RR)) := by
  refine Triple.of_body (tbl := tables_1) (a0 := a0) (Ls := #[.val (.ref r0), .val (.int pp)]) pn_14 hw rfl ?_
  intro p e s m below meth c T A
  refine A.aloadN (q := 1) d14_0 rfl rfl rfl ?_
  refine A.getF (q := 4) (w := 84) (i := 0) (j := 3) d14_1 rfl rfl rfl rfl ?_
  intro T A
  refine A.aloadN (q := 5) d14_4 rfl rfl rfl ?_
  refine A.getF (q := 8) (w := 10) (i := 0) (j := 0) d14_5 rfl rfl rfl rfl ?_
  intro T A
  refine A.iloadN (q := 9) d14_8 rfl rfl ?_
  refine A.laloadM (q := 10) (i := 1) (v := (0 : Int64)) d14_9 rfl rfl h0 hz ?_
  refine A.ladd (q := 11) (v := (0 : Int64)) d14_10 rfl (by decide) ?_
  exact A.retJ d14_11 (by decide) (by decide) ⟨rfl, rfl⟩
theorem d19_0 : decode prog_28_method_10_code 0 = .ok (.aload_n 0, 1) := by decide +kernel
theorem d19_1 : decode prog_28_method_10_code 1 = .ok (.getfield 131, 3) := by decide +kernel
theorem d19_4 : decode prog_28_method_10_code 4 = .ok (.ifnull 11, 3) := by decide +kernel
theorem d19_7 : decode prog_28_method_10_code 7 = .ok (.aload_n 0, 1) := by decide +kernel
theorem d19_8 : decode prog_28_method_10_code 8 = .ok (.getfield 131, 3) := by decide +kernel
theorem d19_11 : decode prog_28_method_10_code 11 = .ok (.iload_n 1, 1) := by decide +kernel
theorem d19_12 : decode prog_28_method_10_code 12 = .ok (.invokevirtual 134, 3) := by decide +kernel
theorem d19_15 : decode prog_28_method_10_code 15 = .ok (.return_, 1) := by decide +kernel
theorem pn_19 : plainFor (⟨"com/example/forebound/forebound/problem/Sum", "changed", "(I)V"⟩ : MethodName) = true := plainFor_of_name (by first | (simp [plainName, overriddenIn]; done) | decide +kernel)
set_option maxRecDepth 65536 in
set_option maxHeartbeats 8000000 in
theorem rmH (l : Launch) (Z : State) (a0 : Array Value) (hw : ∀ d ∈ tables_1, d.before a0 Z = true) (n0 : Nat) (r0 : Addr) (pp : Int32) (r1 : Addr) (r2 : Addr) (f_allowed : Int32) (f_shift : Int64) (f_highest : Int64) (f_lowest : Int64) (ws : Value) (RR : Obs) :
    Triple l Z n0 (⟨"com/example/forebound/forebound/problem/Sum", "changed", "(I)V"⟩ : MethodName) prog_28_method_10_code 2 none ({ frames := 0, cells := 0, slots := 0, locals := 0 } : Room) 0 0 [(.ref r0), (.int pp)] ((r0, ob1 (.ref r1) (.ref r2) (.int f_allowed) (.long f_shift) (.long f_highest) (.long f_lowest) .null ws) :: RR) (fun v L' => v = none ∧ L' = ((r0, ob1 (.ref r1) (.ref r2) (.int f_allowed) (.long f_shift) (.long f_highest) (.long f_lowest) .null ws) :: RR)) := by
  refine Triple.of_body (tbl := tables_1) (a0 := a0) (Ls := #[.val (.ref r0), .val (.int pp)]) pn_19 hw rfl ?_
  intro p e s m below meth c T A
  refine A.aloadN (q := 1) d19_0 rfl rfl rfl ?_
  refine A.getF (q := 4) (w := 115) (i := 0) (j := 6) d19_1 rfl rfl rfl rfl ?_
  intro T A
  refine A.ifnullT (r := 15) d19_4 (by decide) ?_
  exact A.retV d19_15 (by decide) (by decide) ⟨rfl, rfl⟩
theorem lay_0 (Z : State) (a0 : Array Value) (hw : ∀ d ∈ tables_1, d.before a0 Z = true) : Lays Z a0 "com/example/forebound/forebound/problem/Sum" [("com/example/forebound/forebound/problem/Sum", "offsets", "[J"), ("com/example/forebound/forebound/problem/Sum", "flags", "[B"), ("com/example/forebound/forebound/problem/Sum", "allowed", "I"), ("com/example/forebound/forebound/problem/Sum", "shift", "J"), ("com/example/forebound/forebound/problem/Sum", "highest", "J"), ("com/example/forebound/forebound/problem/Sum", "lowest", "J"), ("com/example/forebound/forebound/problem/Sum", "extremes", "Lcom/example/forebound/forebound/problem/Sum$Extremes;"), ("com/example/forebound/forebound/problem/Sum", "survivors", "[I")] := by
  refine ⟨fun q hq => ?_, by decide⟩
  simp only [List.mem_cons, List.not_mem_nil, or_false] at hq
  rcases hq with rfl | rfl | rfl | rfl | rfl | rfl | rfl | rfl
  · exact ⟨Or.inr (hw _ (List.mem_of_getElem? (i := 11) rfl)), (.array .long), by decide⟩
  · exact ⟨Or.inr (hw _ (List.mem_of_getElem? (i := 14) rfl)), (.array .byte), by decide⟩
  · exact ⟨Or.inl (hw _ (List.mem_of_getElem? (i := 16) rfl)), .int, by decide⟩
  · exact ⟨Or.inl (hw _ (List.mem_of_getElem? (i := 85) rfl)), .long, by decide⟩
  · exact ⟨Or.inl (hw _ (List.mem_of_getElem? (i := 106) rfl)), .long, by decide⟩
  · exact ⟨Or.inl (hw _ (List.mem_of_getElem? (i := 108) rfl)), .long, by decide⟩
  · exact ⟨Or.inl (hw _ (List.mem_of_getElem? (i := 116) rfl)), (.object "com/example/forebound/forebound/problem/Sum$Extremes"), by decide⟩
  · exact ⟨Or.inl (hw _ (List.mem_of_getElem? (i := 135) rfl)), (.array .int), by decide⟩
theorem pd_1 : parseMethodDescriptor "(I)V" = some ⟨[.int], none⟩ := by decide +kernel
theorem d23_0 : decode prog_28_method_9_code 0 = .ok (.aload_n 0, 1) := by decide +kernel
theorem d23_1 : decode prog_28_method_9_code 1 = .ok (.getfield 13, 3) := by decide +kernel
theorem d23_4 : decode prog_28_method_9_code 4 = .ok (.iload_n 1, 1) := by decide +kernel
theorem d23_5 : decode prog_28_method_9_code 5 = .ok (.dup2, 1) := by decide +kernel
theorem d23_6 : decode prog_28_method_9_code 6 = .ok (.baload, 1) := by decide +kernel
theorem d23_7 : decode prog_28_method_9_code 7 = .ok (.iconst 1, 1) := by decide +kernel
theorem d23_8 : decode prog_28_method_9_code 8 = .ok (.ior, 1) := by decide +kernel
theorem d23_9 : decode prog_28_method_9_code 9 = .ok (.i2b, 1) := by decide +kernel
theorem d23_10 : decode prog_28_method_9_code 10 = .ok (.bastore, 1) := by decide +kernel
theorem d23_11 : decode prog_28_method_9_code 11 = .ok (.aload_n 0, 1) := by decide +kernel
theorem d23_12 : decode prog_28_method_9_code 12 = .ok (.dup, 1) := by decide +kernel
theorem d23_13 : decode prog_28_method_9_code 13 = .ok (.getfield 17, 3) := by decide +kernel
theorem d23_16 : decode prog_28_method_9_code 16 = .ok (.iconst 1, 1) := by decide +kernel
theorem d23_17 : decode prog_28_method_9_code 17 = .ok (.isub, 1) := by decide +kernel
theorem d23_18 : decode prog_28_method_9_code 18 = .ok (.putfield 17, 3) := by decide +kernel
theorem d23_21 : decode prog_28_method_9_code 21 = .ok (.aload_n 0, 1) := by decide +kernel
theorem d23_22 : decode prog_28_method_9_code 22 = .ok (.iload_n 1, 1) := by decide +kernel
theorem d23_23 : decode prog_28_method_9_code 23 = .ok (.invokevirtual 114, 3) := by decide +kernel
theorem d23_26 : decode prog_28_method_9_code 26 = .ok (.return_, 1) := by decide +kernel
theorem pn_23 : plainFor (⟨"com/example/forebound/forebound/problem/Sum", "forbid", "(I)V"⟩ : MethodName) = true := plainFor_of_name (by first | (simp [plainName, overriddenIn]; done) | decide +kernel)
set_option maxRecDepth 65536 in
set_option maxHeartbeats 8000000 in
theorem rmO (l : Launch) (Z : State) (a0 : Array Value) (hw : ∀ d ∈ tables_1, d.before a0 Z = true) (n0 : Nat) (r0 : Addr) (pp : Int32) (r1 : Addr) (r2 : Addr) (al : Int32) (f_shift : Int64) (f_highest : Int64) (f_lowest : Int64) (ws : Value) (fl : List Int32) (RR : Obs) (h0 : ¬ pp < 0) (hl : pp.toNatClampNeg < fl.length) :
    Triple l Z n0 (⟨"com/example/forebound/forebound/problem/Sum", "forbid", "(I)V"⟩ : MethodName) prog_28_method_9_code 2 none ({ frames := 1, cells := 0, slots := 0, locals := 13 } : Room) 0 0 [(.ref r0), (.int pp)] ((r0, ob1 (.ref r1) (.ref r2) (.int al) (.long f_shift) (.long f_highest) (.long f_lowest) .null ws) :: (r2, .inr (.byte, List.map Value.int fl)) :: RR) (fun v L' => v = none ∧ L' = ((r0, ob1 (.ref r1) (.ref r2) (.int (al - (1 : Int32))) (.long f_shift) (.long f_highest) (.long f_lowest) .null ws) :: (r2, .inr (.byte, List.map Value.int (fl.set (pp).toNatClampNeg (((fl.getD (pp).toNatClampNeg (0 : Int32)) ||| (1 : Int32)).toInt8.toInt32)))) :: RR)) := by
  refine Triple.of_body (tbl := tables_1) (a0 := a0) (Ls := #[.val (.ref r0), .val (.int pp)]) pn_23 hw rfl ?_
  intro p e s m below meth c T A
  refine A.aloadN (q := 1) d23_0 rfl rfl rfl ?_
  refine A.getF (q := 4) (w := 13) (i := 0) (j := 1) d23_1 rfl rfl rfl rfl ?_
  intro T A
  refine A.iloadN (q := 5) d23_4 rfl rfl ?_
  refine A.dup2 (q := 6) d23_5 rfl rfl rfl ?_
  refine A.baloadBM (q := 7) (i := 1) (v := (fl.getD (pp).toNatClampNeg (0 : Int32))) d23_6 rfl rfl h0 (own_gd hl) ?_
  refine A.iconst (q := 8) (v := (1 : Int32)) d23_7 rfl (by decide) ?_
  obtain ⟨v1, e1⟩ : ∃ v : Int32, (fl.getD (pp).toNatClampNeg (0 : Int32)) ||| (1 : Int32) = v := ⟨_, rfl⟩
  refine A.ior (q := 9) d23_8 rfl e1 ?_
  obtain ⟨v2, e2⟩ : ∃ v : Int32, v1.toInt8.toInt32 = v := ⟨_, rfl⟩
  refine A.i2b (q := 10) d23_9 rfl e2 ?_
  refine A.bastoreBM (q := 11) (i := 1) (x' := v2) (L' := ((r0, ob1 (.ref r1) (.ref r2) (.int al) (.long f_shift) (.long f_highest) (.long f_lowest) .null ws) :: (r2, .inr (.byte, List.map Value.int (fl.set (pp).toNatClampNeg v2))) :: RR)) d23_10 rfl rfl h0 hl (by subst e1 e2; exact own_nb _) rfl ?_
  intro T A
  refine A.aloadN (q := 12) d23_11 rfl rfl rfl ?_
  refine A.dup (q := 13) d23_12 rfl rfl ?_
  refine A.getF (q := 16) (w := 15) (i := 0) (j := 2) d23_13 rfl rfl rfl rfl ?_
  intro T A
  refine A.iconst (q := 17) (v := (1 : Int32)) d23_16 rfl (by decide) ?_
  obtain ⟨v3, e3⟩ : ∃ v : Int32, al - (1 : Int32) = v := ⟨_, rfl⟩
  refine A.isub (q := 18) d23_17 rfl e3 ?_
  refine A.putF (q := 21) (w := 15) (w2 := 16) (w3 := 1) (i := 0) (j := 2) (ty := .int) (v' := (.int v3)) (L' := ((r0, ob1 (.ref r1) (.ref r2) (.int v3) (.long f_shift) (.long f_highest) (.long f_lowest) .null ws) :: (r2, .inr (.byte, List.map Value.int (fl.set (pp).toNatClampNeg v2))) :: RR)) d23_18 rfl rfl rfl rfl (lay_0 Z a0 hw) (Or.inl rfl) rfl (by decide) rfl rfl rfl ?_
  intro T A
  refine A.aloadN (q := 22) d23_21 rfl rfl rfl ?_
  refine A.iloadN (q := 23) d23_22 rfl rfl ?_
  refine A.callP (q := 26) (i := 0) (w1 := 111) (w2 := 113) (w3 := 2) (w4 := 114) (w5 := 1) (w6 := 112) (a := r0) (as := [(.int pp)]) (st := []) (W := 0) d23_23 rfl rfl rfl rfl rfl rfl rfl rfl (rmH l Z a0 hw n0 r0 pp r1 r2 v3 f_shift f_highest f_lowest ws _) (by decide) ⟨_, _, pd_1, rfl⟩ rfl rfl rfl (by decide) (by decide) (by decide) (by decide) ?_
  rintro _ T _ ⟨rfl, rfl⟩ A
  show Go p e below _ (T.setTop (mkF m 26 #[.val (.ref r0), .val (.int pp)] []))
  have Aq := A
  subst e1 e2 e3
  have A := Aq
  exact A.retV d23_26 (by decide) (by decide) ⟨rfl, rfl⟩
theorem own_f0 (sg : Fin 28) (pg : Fin 12) (f1 f2 : Int32) (hf1 : f1 = 0 ∨ f1 = 1) (hf2 : f2 = 0 ∨ f2 = 1) (hS : sg.val < 11) : (a1 (u1 (u1 (u1 (l2O sg pg f1 f2) (0 : Int32)) (1 : Int32)) (2 : Int32)) (3 : Int32) (a1 (u1 (u1 (l2O sg pg f1 f2) (0 : Int32)) (1 : Int32)) (2 : Int32) (a1 (u1 (l2O sg pg f1 f2) (0 : Int32)) (1 : Int32) (a1 (l2O sg pg f1 f2) (0 : Int32) (cnt (l2O sg pg f1 f2)))))) = (cnt (uL (l2O sg pg f1 f2))) := by
  rcases hf1 with rfl | rfl <;> rcases hf2 with rfl | rfl <;> (revert hS; revert pg; revert sg; decide +kernel)
theorem own_g1 (sg : Fin 28) (pg : Fin 12) (f1 f2 : Int32) (hf1 : f1 = 0 ∨ f1 = 1) (hf2 : f2 = 0 ∨ f2 = 1) (hS : sg.val < 11) (fl : List Int32) (hfl : l2O sg pg f1 f2 = fl) (pa : Int32) (hpa : pA pg = pa) (pb : Int32) (hpb : pB pg = pb) : (a1 (u1 (u1 (u1 fl (0 : Int32)) (1 : Int32)) (2 : Int32)) (3 : Int32) (a1 (u1 (u1 fl (0 : Int32)) (1 : Int32)) (2 : Int32) (a1 (u1 fl (0 : Int32)) (1 : Int32) (a1 fl (0 : Int32) (cnt fl))))) = (cnt (uL fl)) := by
  subst hfl hpa hpb; exact own_f0 sg pg f1 f2 hf1 hf2 hS 
theorem own_f1 (sg : Fin 28) (pg : Fin 12) (f1 f2 : Int32) (hf1 : f1 = 0 ∨ f1 = 1) (hf2 : f2 = 0 ∨ f2 = 1) (hS : sg.val < 11) : ¬ (cnt (uL (l2O sg pg f1 f2))) < 0 := by
  rcases hf1 with rfl | rfl <;> rcases hf2 with rfl | rfl <;> (revert hS; revert pg; revert sg; decide +kernel)
theorem own_g2 (sg : Fin 28) (pg : Fin 12) (f1 f2 : Int32) (hf1 : f1 = 0 ∨ f1 = 1) (hf2 : f2 = 0 ∨ f2 = 1) (hS : sg.val < 11) (fl : List Int32) (hfl : l2O sg pg f1 f2 = fl) (pa : Int32) (hpa : pA pg = pa) (pb : Int32) (hpb : pB pg = pb) : ¬ (cnt (uL fl)) < 0 := by
  subst hfl hpa hpb; exact own_f1 sg pg f1 f2 hf1 hf2 hS 
theorem own_f2 (sg : Fin 28) (pg : Fin 12) (f1 f2 : Int32) (hf1 : f1 = 0 ∨ f1 = 1) (hf2 : f2 = 0 ∨ f2 = 1) (hS : sg.val < 11) : ((cnt (uL (l2O sg pg f1 f2)))).toNatClampNeg ≤ 2 := by
  rcases hf1 with rfl | rfl <;> rcases hf2 with rfl | rfl <;> (revert hS; revert pg; revert sg; decide +kernel)
theorem own_g3 (sg : Fin 28) (pg : Fin 12) (f1 f2 : Int32) (hf1 : f1 = 0 ∨ f1 = 1) (hf2 : f2 = 0 ∨ f2 = 1) (hS : sg.val < 11) (fl : List Int32) (hfl : l2O sg pg f1 f2 = fl) (pa : Int32) (hpa : pA pg = pa) (pb : Int32) (hpb : pB pg = pb) : ((cnt (uL fl))).toNatClampNeg ≤ 2 := by
  subst hfl hpa hpb; exact own_f2 sg pg f1 f2 hf1 hf2 hS 
theorem pd_2 : parseMethodDescriptor "(I)Z" = some ⟨[.int], some .boolean⟩ := by decide +kernel
theorem own_f3 (sg : Fin 28) (pg : Fin 12) (f1 f2 : Int32) (hf1 : f1 = 0 ∨ f1 = 1) (hf2 : f2 = 0 ∨ f2 = 1) (hS : sg.val < 11) : ¬ (((FF (pA pg) (uL (l2O sg pg f1 f2)))) = (0 : Int32)) → ¬ (((FF (pB pg) (uL (l2O sg pg f1 f2)))) = (0 : Int32)) → (List.replicate ((cnt (uL (l2O sg pg f1 f2)))).toNatClampNeg (0 : Int32)) = (svL (uL (l2O sg pg f1 f2)) (pA pg) (pB pg)) := by
  rcases hf1 with rfl | rfl <;> rcases hf2 with rfl | rfl <;> (revert hS; revert pg; revert sg; decide +kernel)
theorem own_g4 (sg : Fin 28) (pg : Fin 12) (f1 f2 : Int32) (hf1 : f1 = 0 ∨ f1 = 1) (hf2 : f2 = 0 ∨ f2 = 1) (hS : sg.val < 11) (fl : List Int32) (hfl : l2O sg pg f1 f2 = fl) (pa : Int32) (hpa : pA pg = pa) (pb : Int32) (hpb : pB pg = pb) (v22 : Int32) (e22 : (FF pa (uL fl)) = v22) (v24 : Int32) (e24 : (FF pb (uL fl)) = v24) (h23 : ¬ (v22 = (0 : Int32))) (h25 : ¬ (v24 = (0 : Int32))) : (List.replicate ((cnt (uL fl))).toNatClampNeg (0 : Int32)) = (svL (uL fl) pa pb) := by
  subst hfl hpa hpb e22 e24; exact own_f3 sg pg f1 f2 hf1 hf2 hS h23 h25
theorem own_f4 (sg : Fin 28) (pg : Fin 12) (f1 f2 : Int32) (hf1 : f1 = 0 ∨ f1 = 1) (hf2 : f2 = 0 ∨ f2 = 1) (hS : sg.val < 11) : ¬ (((FF (pA pg) (uL (l2O sg pg f1 f2)))) = (0 : Int32)) → (((FF (pB pg) (uL (l2O sg pg f1 f2)))) = (0 : Int32)) → ((0 : Int32)).toNatClampNeg < (List.replicate ((cnt (uL (l2O sg pg f1 f2)))).toNatClampNeg (0 : Int32)).length := by
  rcases hf1 with rfl | rfl <;> rcases hf2 with rfl | rfl <;> (revert hS; revert pg; revert sg; decide +kernel)
theorem own_g5 (sg : Fin 28) (pg : Fin 12) (f1 f2 : Int32) (hf1 : f1 = 0 ∨ f1 = 1) (hf2 : f2 = 0 ∨ f2 = 1) (hS : sg.val < 11) (fl : List Int32) (hfl : l2O sg pg f1 f2 = fl) (pa : Int32) (hpa : pA pg = pa) (pb : Int32) (hpb : pB pg = pb) (v22 : Int32) (e22 : (FF pa (uL fl)) = v22) (v24 : Int32) (e24 : (FF pb (uL fl)) = v24) (h23 : ¬ (v22 = (0 : Int32))) (h25 : v24 = (0 : Int32)) : ((0 : Int32)).toNatClampNeg < (List.replicate ((cnt (uL fl))).toNatClampNeg (0 : Int32)).length := by
  subst hfl hpa hpb e22 e24; exact own_f4 sg pg f1 f2 hf1 hf2 hS h23 h25
theorem own_f5 (sg : Fin 28) (pg : Fin 12) (f1 f2 : Int32) (hf1 : f1 = 0 ∨ f1 = 1) (hf2 : f2 = 0 ∨ f2 = 1) (hS : sg.val < 11) : ¬ (((FF (pA pg) (uL (l2O sg pg f1 f2)))) = (0 : Int32)) → (((FF (pB pg) (uL (l2O sg pg f1 f2)))) = (0 : Int32)) → ((List.replicate ((cnt (uL (l2O sg pg f1 f2)))).toNatClampNeg (0 : Int32)).set ((0 : Int32)).toNatClampNeg (pB pg)) = (svL (uL (l2O sg pg f1 f2)) (pA pg) (pB pg)) := by
  rcases hf1 with rfl | rfl <;> rcases hf2 with rfl | rfl <;> (revert hS; revert pg; revert sg; decide +kernel)
theorem own_g6 (sg : Fin 28) (pg : Fin 12) (f1 f2 : Int32) (hf1 : f1 = 0 ∨ f1 = 1) (hf2 : f2 = 0 ∨ f2 = 1) (hS : sg.val < 11) (fl : List Int32) (hfl : l2O sg pg f1 f2 = fl) (pa : Int32) (hpa : pA pg = pa) (pb : Int32) (hpb : pB pg = pb) (v22 : Int32) (e22 : (FF pa (uL fl)) = v22) (v24 : Int32) (e24 : (FF pb (uL fl)) = v24) (h23 : ¬ (v22 = (0 : Int32))) (h25 : v24 = (0 : Int32)) : ((List.replicate ((cnt (uL fl))).toNatClampNeg (0 : Int32)).set ((0 : Int32)).toNatClampNeg pb) = (svL (uL fl) pa pb) := by
  subst hfl hpa hpb e22 e24; exact own_f5 sg pg f1 f2 hf1 hf2 hS h23 h25
theorem own_f6 (sg : Fin 28) (pg : Fin 12) (f1 f2 : Int32) (hf1 : f1 = 0 ∨ f1 = 1) (hf2 : f2 = 0 ∨ f2 = 1) (hS : sg.val < 11) : (((FF (pA pg) (uL (l2O sg pg f1 f2)))) = (0 : Int32)) → ((0 : Int32)).toNatClampNeg < (List.replicate ((cnt (uL (l2O sg pg f1 f2)))).toNatClampNeg (0 : Int32)).length := by
  rcases hf1 with rfl | rfl <;> rcases hf2 with rfl | rfl <;> (revert hS; revert pg; revert sg; decide +kernel)
theorem own_g7 (sg : Fin 28) (pg : Fin 12) (f1 f2 : Int32) (hf1 : f1 = 0 ∨ f1 = 1) (hf2 : f2 = 0 ∨ f2 = 1) (hS : sg.val < 11) (fl : List Int32) (hfl : l2O sg pg f1 f2 = fl) (pa : Int32) (hpa : pA pg = pa) (pb : Int32) (hpb : pB pg = pb) (v22 : Int32) (e22 : (FF pa (uL fl)) = v22) (h23 : v22 = (0 : Int32)) : ((0 : Int32)).toNatClampNeg < (List.replicate ((cnt (uL fl))).toNatClampNeg (0 : Int32)).length := by
  subst hfl hpa hpb e22; exact own_f6 sg pg f1 f2 hf1 hf2 hS h23
theorem own_f7 (sg : Fin 28) (pg : Fin 12) (f1 f2 : Int32) (hf1 : f1 = 0 ∨ f1 = 1) (hf2 : f2 = 0 ∨ f2 = 1) (hS : sg.val < 11) : (((FF (pA pg) (uL (l2O sg pg f1 f2)))) = (0 : Int32)) → ¬ (((FF (pB pg) (uL (l2O sg pg f1 f2)))) = (0 : Int32)) → ((List.replicate ((cnt (uL (l2O sg pg f1 f2)))).toNatClampNeg (0 : Int32)).set ((0 : Int32)).toNatClampNeg (pA pg)) = (svL (uL (l2O sg pg f1 f2)) (pA pg) (pB pg)) := by
  rcases hf1 with rfl | rfl <;> rcases hf2 with rfl | rfl <;> (revert hS; revert pg; revert sg; decide +kernel)
theorem own_g8 (sg : Fin 28) (pg : Fin 12) (f1 f2 : Int32) (hf1 : f1 = 0 ∨ f1 = 1) (hf2 : f2 = 0 ∨ f2 = 1) (hS : sg.val < 11) (fl : List Int32) (hfl : l2O sg pg f1 f2 = fl) (pa : Int32) (hpa : pA pg = pa) (pb : Int32) (hpb : pB pg = pb) (v22 : Int32) (e22 : (FF pa (uL fl)) = v22) (v26 : Int32) (e26 : (FF pb (uL fl)) = v26) (h23 : v22 = (0 : Int32)) (h27 : ¬ (v26 = (0 : Int32))) : ((List.replicate ((cnt (uL fl))).toNatClampNeg (0 : Int32)).set ((0 : Int32)).toNatClampNeg pa) = (svL (uL fl) pa pb) := by
  subst hfl hpa hpb e22 e26; exact own_f7 sg pg f1 f2 hf1 hf2 hS h23 h27
theorem own_f8 (sg : Fin 28) (pg : Fin 12) (f1 f2 : Int32) (hf1 : f1 = 0 ∨ f1 = 1) (hf2 : f2 = 0 ∨ f2 = 1) (hS : sg.val < 11) : (((FF (pA pg) (uL (l2O sg pg f1 f2)))) = (0 : Int32)) → (((FF (pB pg) (uL (l2O sg pg f1 f2)))) = (0 : Int32)) → ((1 : Int32)).toNatClampNeg < ((List.replicate ((cnt (uL (l2O sg pg f1 f2)))).toNatClampNeg (0 : Int32)).set ((0 : Int32)).toNatClampNeg (pA pg)).length := by
  rcases hf1 with rfl | rfl <;> rcases hf2 with rfl | rfl <;> (revert hS; revert pg; revert sg; decide +kernel)
theorem own_g9 (sg : Fin 28) (pg : Fin 12) (f1 f2 : Int32) (hf1 : f1 = 0 ∨ f1 = 1) (hf2 : f2 = 0 ∨ f2 = 1) (hS : sg.val < 11) (fl : List Int32) (hfl : l2O sg pg f1 f2 = fl) (pa : Int32) (hpa : pA pg = pa) (pb : Int32) (hpb : pB pg = pb) (v22 : Int32) (e22 : (FF pa (uL fl)) = v22) (v26 : Int32) (e26 : (FF pb (uL fl)) = v26) (h23 : v22 = (0 : Int32)) (h27 : v26 = (0 : Int32)) : ((1 : Int32)).toNatClampNeg < ((List.replicate ((cnt (uL fl))).toNatClampNeg (0 : Int32)).set ((0 : Int32)).toNatClampNeg pa).length := by
  subst hfl hpa hpb e22 e26; exact own_f8 sg pg f1 f2 hf1 hf2 hS h23 h27
theorem own_f9 (sg : Fin 28) (pg : Fin 12) (f1 f2 : Int32) (hf1 : f1 = 0 ∨ f1 = 1) (hf2 : f2 = 0 ∨ f2 = 1) (hS : sg.val < 11) : (((FF (pA pg) (uL (l2O sg pg f1 f2)))) = (0 : Int32)) → (((FF (pB pg) (uL (l2O sg pg f1 f2)))) = (0 : Int32)) → (((List.replicate ((cnt (uL (l2O sg pg f1 f2)))).toNatClampNeg (0 : Int32)).set ((0 : Int32)).toNatClampNeg (pA pg)).set ((1 : Int32)).toNatClampNeg (pB pg)) = (svL (uL (l2O sg pg f1 f2)) (pA pg) (pB pg)) := by
  rcases hf1 with rfl | rfl <;> rcases hf2 with rfl | rfl <;> (revert hS; revert pg; revert sg; decide +kernel)
theorem own_g10 (sg : Fin 28) (pg : Fin 12) (f1 f2 : Int32) (hf1 : f1 = 0 ∨ f1 = 1) (hf2 : f2 = 0 ∨ f2 = 1) (hS : sg.val < 11) (fl : List Int32) (hfl : l2O sg pg f1 f2 = fl) (pa : Int32) (hpa : pA pg = pa) (pb : Int32) (hpb : pB pg = pb) (v22 : Int32) (e22 : (FF pa (uL fl)) = v22) (v26 : Int32) (e26 : (FF pb (uL fl)) = v26) (h23 : v22 = (0 : Int32)) (h27 : v26 = (0 : Int32)) : (((List.replicate ((cnt (uL fl))).toNatClampNeg (0 : Int32)).set ((0 : Int32)).toNatClampNeg pa).set ((1 : Int32)).toNatClampNeg pb) = (svL (uL fl) pa pb) := by
  subst hfl hpa hpb e22 e26; exact own_f9 sg pg f1 f2 hf1 hf2 hS h23 h27
theorem own_g11 (sg : Fin 28) (pg : Fin 12) (f1 f2 : Int32) (hf1 : f1 = 0 ∨ f1 = 1) (hf2 : f2 = 0 ∨ f2 = 1) (hS : sg.val < 11) (fl : List Int32) (hfl : l2O sg pg f1 f2 = fl) (pa : Int32) (hpa : pA pg = pa) (pb : Int32) (hpb : pB pg = pb) : (a1 (u1 (u1 (u1 fl (0 : Int32)) (1 : Int32)) (2 : Int32)) (3 : Int32) (a1 (u1 (u1 fl (0 : Int32)) (1 : Int32)) (2 : Int32) (a1 (u1 fl (0 : Int32)) (1 : Int32) (a1 fl (0 : Int32) (cnt fl))))) = (cnt (uL fl)) := by
  subst hfl hpa hpb; exact own_f0 sg pg f1 f2 hf1 hf2 hS 
theorem own_g12 (sg : Fin 28) (pg : Fin 12) (f1 f2 : Int32) (hf1 : f1 = 0 ∨ f1 = 1) (hf2 : f2 = 0 ∨ f2 = 1) (hS : sg.val < 11) (fl : List Int32) (hfl : l2O sg pg f1 f2 = fl) (pa : Int32) (hpa : pA pg = pa) (pb : Int32) (hpb : pB pg = pb) : ¬ (cnt (uL fl)) < 0 := by
  subst hfl hpa hpb; exact own_f1 sg pg f1 f2 hf1 hf2 hS 
theorem own_g13 (sg : Fin 28) (pg : Fin 12) (f1 f2 : Int32) (hf1 : f1 = 0 ∨ f1 = 1) (hf2 : f2 = 0 ∨ f2 = 1) (hS : sg.val < 11) (fl : List Int32) (hfl : l2O sg pg f1 f2 = fl) (pa : Int32) (hpa : pA pg = pa) (pb : Int32) (hpb : pB pg = pb) : ((cnt (uL fl))).toNatClampNeg ≤ 2 := by
  subst hfl hpa hpb; exact own_f2 sg pg f1 f2 hf1 hf2 hS 
theorem own_g14 (sg : Fin 28) (pg : Fin 12) (f1 f2 : Int32) (hf1 : f1 = 0 ∨ f1 = 1) (hf2 : f2 = 0 ∨ f2 = 1) (hS : sg.val < 11) (fl : List Int32) (hfl : l2O sg pg f1 f2 = fl) (pa : Int32) (hpa : pA pg = pa) (pb : Int32) (hpb : pB pg = pb) (v22 : Int32) (e22 : (FF pa (uL fl)) = v22) (v24 : Int32) (e24 : (FF pb (uL fl)) = v24) (h23 : ¬ (v22 = (0 : Int32))) (h25 : ¬ (v24 = (0 : Int32))) : (List.replicate ((cnt (uL fl))).toNatClampNeg (0 : Int32)) = (svL (uL fl) pa pb) := by
  subst hfl hpa hpb e22 e24; exact own_f3 sg pg f1 f2 hf1 hf2 hS h23 h25
theorem own_g15 (sg : Fin 28) (pg : Fin 12) (f1 f2 : Int32) (hf1 : f1 = 0 ∨ f1 = 1) (hf2 : f2 = 0 ∨ f2 = 1) (hS : sg.val < 11) (fl : List Int32) (hfl : l2O sg pg f1 f2 = fl) (pa : Int32) (hpa : pA pg = pa) (pb : Int32) (hpb : pB pg = pb) (v22 : Int32) (e22 : (FF pa (uL fl)) = v22) (v24 : Int32) (e24 : (FF pb (uL fl)) = v24) (h23 : ¬ (v22 = (0 : Int32))) (h25 : v24 = (0 : Int32)) : ((0 : Int32)).toNatClampNeg < (List.replicate ((cnt (uL fl))).toNatClampNeg (0 : Int32)).length := by
  subst hfl hpa hpb e22 e24; exact own_f4 sg pg f1 f2 hf1 hf2 hS h23 h25
theorem own_g16 (sg : Fin 28) (pg : Fin 12) (f1 f2 : Int32) (hf1 : f1 = 0 ∨ f1 = 1) (hf2 : f2 = 0 ∨ f2 = 1) (hS : sg.val < 11) (fl : List Int32) (hfl : l2O sg pg f1 f2 = fl) (pa : Int32) (hpa : pA pg = pa) (pb : Int32) (hpb : pB pg = pb) (v22 : Int32) (e22 : (FF pa (uL fl)) = v22) (v24 : Int32) (e24 : (FF pb (uL fl)) = v24) (h23 : ¬ (v22 = (0 : Int32))) (h25 : v24 = (0 : Int32)) : ((List.replicate ((cnt (uL fl))).toNatClampNeg (0 : Int32)).set ((0 : Int32)).toNatClampNeg pb) = (svL (uL fl) pa pb) := by
  subst hfl hpa hpb e22 e24; exact own_f5 sg pg f1 f2 hf1 hf2 hS h23 h25
theorem own_g17 (sg : Fin 28) (pg : Fin 12) (f1 f2 : Int32) (hf1 : f1 = 0 ∨ f1 = 1) (hf2 : f2 = 0 ∨ f2 = 1) (hS : sg.val < 11) (fl : List Int32) (hfl : l2O sg pg f1 f2 = fl) (pa : Int32) (hpa : pA pg = pa) (pb : Int32) (hpb : pB pg = pb) (v22 : Int32) (e22 : (FF pa (uL fl)) = v22) (h23 : v22 = (0 : Int32)) : ((0 : Int32)).toNatClampNeg < (List.replicate ((cnt (uL fl))).toNatClampNeg (0 : Int32)).length := by
  subst hfl hpa hpb e22; exact own_f6 sg pg f1 f2 hf1 hf2 hS h23
theorem own_g18 (sg : Fin 28) (pg : Fin 12) (f1 f2 : Int32) (hf1 : f1 = 0 ∨ f1 = 1) (hf2 : f2 = 0 ∨ f2 = 1) (hS : sg.val < 11) (fl : List Int32) (hfl : l2O sg pg f1 f2 = fl) (pa : Int32) (hpa : pA pg = pa) (pb : Int32) (hpb : pB pg = pb) (v22 : Int32) (e22 : (FF pa (uL fl)) = v22) (v26 : Int32) (e26 : (FF pb (uL fl)) = v26) (h23 : v22 = (0 : Int32)) (h27 : ¬ (v26 = (0 : Int32))) : ((List.replicate ((cnt (uL fl))).toNatClampNeg (0 : Int32)).set ((0 : Int32)).toNatClampNeg pa) = (svL (uL fl) pa pb) := by
  subst hfl hpa hpb e22 e26; exact own_f7 sg pg f1 f2 hf1 hf2 hS h23 h27
theorem own_g19 (sg : Fin 28) (pg : Fin 12) (f1 f2 : Int32) (hf1 : f1 = 0 ∨ f1 = 1) (hf2 : f2 = 0 ∨ f2 = 1) (hS : sg.val < 11) (fl : List Int32) (hfl : l2O sg pg f1 f2 = fl) (pa : Int32) (hpa : pA pg = pa) (pb : Int32) (hpb : pB pg = pb) (v22 : Int32) (e22 : (FF pa (uL fl)) = v22) (v26 : Int32) (e26 : (FF pb (uL fl)) = v26) (h23 : v22 = (0 : Int32)) (h27 : v26 = (0 : Int32)) : ((1 : Int32)).toNatClampNeg < ((List.replicate ((cnt (uL fl))).toNatClampNeg (0 : Int32)).set ((0 : Int32)).toNatClampNeg pa).length := by
  subst hfl hpa hpb e22 e26; exact own_f8 sg pg f1 f2 hf1 hf2 hS h23 h27
theorem own_g20 (sg : Fin 28) (pg : Fin 12) (f1 f2 : Int32) (hf1 : f1 = 0 ∨ f1 = 1) (hf2 : f2 = 0 ∨ f2 = 1) (hS : sg.val < 11) (fl : List Int32) (hfl : l2O sg pg f1 f2 = fl) (pa : Int32) (hpa : pA pg = pa) (pb : Int32) (hpb : pB pg = pb) (v22 : Int32) (e22 : (FF pa (uL fl)) = v22) (v26 : Int32) (e26 : (FF pb (uL fl)) = v26) (h23 : v22 = (0 : Int32)) (h27 : v26 = (0 : Int32)) : (((List.replicate ((cnt (uL fl))).toNatClampNeg (0 : Int32)).set ((0 : Int32)).toNatClampNeg pa).set ((1 : Int32)).toNatClampNeg pb) = (svL (uL fl) pa pb) := by
  subst hfl hpa hpb e22 e26; exact own_f9 sg pg f1 f2 hf1 hf2 hS h23 h27
theorem d24_0 : decode prog_28_method_8_code 0 = .ok (.aload_n 0, 1) := by decide +kernel
theorem d24_1 : decode prog_28_method_8_code 1 = .ok (.getfield 127, 3) := by decide +kernel
theorem d24_4 : decode prog_28_method_8_code 4 = .ok (.ifnonnull 54, 3) := by decide +kernel
theorem d24_7 : decode prog_28_method_8_code 7 = .ok (.iconst 0, 1) := by decide +kernel
theorem d24_8 : decode prog_28_method_8_code 8 = .ok (.istore_n 2, 1) := by decide +kernel
theorem d24_9 : decode prog_28_method_8_code 9 = .ok (.iload_n 2, 1) := by decide +kernel
theorem d24_10 : decode prog_28_method_8_code 10 = .ok (.aload_n 0, 1) := by decide +kernel
theorem d24_11 : decode prog_28_method_8_code 11 = .ok (.getfield 13, 3) := by decide +kernel
theorem d24_14 : decode prog_28_method_8_code 14 = .ok (.arraylength, 1) := by decide +kernel
theorem d24_15 : decode prog_28_method_8_code 15 = .ok (.if_icmp .ge 35, 3) := by decide +kernel
theorem d24_18 : decode prog_28_method_8_code 18 = .ok (.aload_n 0, 1) := by decide +kernel
theorem d24_19 : decode prog_28_method_8_code 19 = .ok (.getfield 13, 3) := by decide +kernel
theorem d24_22 : decode prog_28_method_8_code 22 = .ok (.iload_n 2, 1) := by decide +kernel
theorem d24_23 : decode prog_28_method_8_code 23 = .ok (.baload, 1) := by decide +kernel
theorem d24_24 : decode prog_28_method_8_code 24 = .ok (.ifCond .ne 20, 3) := by decide +kernel
theorem d24_27 : decode prog_28_method_8_code 27 = .ok (.aload_n 0, 1) := by decide +kernel
theorem d24_28 : decode prog_28_method_8_code 28 = .ok (.getfield 13, 3) := by decide +kernel
theorem d24_31 : decode prog_28_method_8_code 31 = .ok (.iload_n 2, 1) := by decide +kernel
theorem d24_32 : decode prog_28_method_8_code 32 = .ok (.iconst 1, 1) := by decide +kernel
theorem d24_33 : decode prog_28_method_8_code 33 = .ok (.bastore, 1) := by decide +kernel
theorem d24_34 : decode prog_28_method_8_code 34 = .ok (.aload_n 0, 1) := by decide +kernel
theorem d24_35 : decode prog_28_method_8_code 35 = .ok (.dup, 1) := by decide +kernel
theorem d24_36 : decode prog_28_method_8_code 36 = .ok (.getfield 17, 3) := by decide +kernel
theorem d24_39 : decode prog_28_method_8_code 39 = .ok (.iconst 1, 1) := by decide +kernel
theorem d24_40 : decode prog_28_method_8_code 40 = .ok (.isub, 1) := by decide +kernel
theorem d24_41 : decode prog_28_method_8_code 41 = .ok (.putfield 17, 3) := by decide +kernel
theorem d24_44 : decode prog_28_method_8_code 44 = .ok (.iinc 2 1, 3) := by decide +kernel
theorem d24_47 : decode prog_28_method_8_code 47 = .ok (.goto (-38), 3) := by decide +kernel
theorem d24_50 : decode prog_28_method_8_code 50 = .ok (.aload_n 0, 1) := by decide +kernel
theorem d24_51 : decode prog_28_method_8_code 51 = .ok (.aconst_null, 1) := by decide +kernel
theorem d24_52 : decode prog_28_method_8_code 52 = .ok (.putfield 131, 3) := by decide +kernel
theorem d24_55 : decode prog_28_method_8_code 55 = .ok (.goto 48, 3) := by decide +kernel
theorem d24_58 : decode prog_28_method_8_code 58 = .ok (.aload_n 0, 1) := by decide +kernel
theorem d24_59 : decode prog_28_method_8_code 59 = .ok (.getfield 127, 3) := by decide +kernel
theorem d24_62 : decode prog_28_method_8_code 62 = .ok (.astore_n 2, 1) := by decide +kernel
theorem d24_63 : decode prog_28_method_8_code 63 = .ok (.aload_n 2, 1) := by decide +kernel
theorem d24_64 : decode prog_28_method_8_code 64 = .ok (.arraylength, 1) := by decide +kernel
theorem d24_65 : decode prog_28_method_8_code 65 = .ok (.istore_n 3, 1) := by decide +kernel
theorem d24_66 : decode prog_28_method_8_code 66 = .ok (.iconst 0, 1) := by decide +kernel
theorem d24_67 : decode prog_28_method_8_code 67 = .ok (.istore 4, 2) := by decide +kernel
theorem d24_69 : decode prog_28_method_8_code 69 = .ok (.iload 4, 2) := by decide +kernel
theorem d24_71 : decode prog_28_method_8_code 71 = .ok (.iload_n 3, 1) := by decide +kernel
theorem d24_72 : decode prog_28_method_8_code 72 = .ok (.if_icmp .ge 31, 3) := by decide +kernel
theorem d24_75 : decode prog_28_method_8_code 75 = .ok (.aload_n 2, 1) := by decide +kernel
theorem d24_76 : decode prog_28_method_8_code 76 = .ok (.iload 4, 2) := by decide +kernel
theorem d24_78 : decode prog_28_method_8_code 78 = .ok (.iaload, 1) := by decide +kernel
theorem d24_79 : decode prog_28_method_8_code 79 = .ok (.istore 5, 2) := by decide +kernel
theorem d24_81 : decode prog_28_method_8_code 81 = .ok (.aload_n 0, 1) := by decide +kernel
theorem d24_82 : decode prog_28_method_8_code 82 = .ok (.getfield 13, 3) := by decide +kernel
theorem d24_85 : decode prog_28_method_8_code 85 = .ok (.iload 5, 2) := by decide +kernel
theorem d24_87 : decode prog_28_method_8_code 87 = .ok (.baload, 1) := by decide +kernel
theorem d24_88 : decode prog_28_method_8_code 88 = .ok (.ifCond .ne 9, 3) := by decide +kernel
theorem d24_91 : decode prog_28_method_8_code 91 = .ok (.aload_n 0, 1) := by decide +kernel
theorem d24_92 : decode prog_28_method_8_code 92 = .ok (.iload 5, 2) := by decide +kernel
theorem d24_94 : decode prog_28_method_8_code 94 = .ok (.invokevirtual 110, 3) := by decide +kernel
theorem d24_97 : decode prog_28_method_8_code 97 = .ok (.iinc 4 1, 3) := by decide +kernel
theorem d24_100 : decode prog_28_method_8_code 100 = .ok (.goto (-31), 3) := by decide +kernel
theorem d24_103 : decode prog_28_method_8_code 103 = .ok (.aload_n 0, 1) := by decide +kernel
theorem d24_104 : decode prog_28_method_8_code 104 = .ok (.aload_n 0, 1) := by decide +kernel
theorem d24_105 : decode prog_28_method_8_code 105 = .ok (.getfield 17, 3) := by decide +kernel
theorem d24_108 : decode prog_28_method_8_code 108 = .ok (.newarray .int, 2) := by decide +kernel
theorem d24_110 : decode prog_28_method_8_code 110 = .ok (.putfield 127, 3) := by decide +kernel
theorem d24_113 : decode prog_28_method_8_code 113 = .ok (.iconst 0, 1) := by decide +kernel
theorem d24_114 : decode prog_28_method_8_code 114 = .ok (.istore_n 2, 1) := by decide +kernel
theorem d24_115 : decode prog_28_method_8_code 115 = .ok (.aload_n 1, 1) := by decide +kernel
theorem d24_116 : decode prog_28_method_8_code 116 = .ok (.astore_n 3, 1) := by decide +kernel
theorem d24_117 : decode prog_28_method_8_code 117 = .ok (.aload_n 3, 1) := by decide +kernel
theorem d24_118 : decode prog_28_method_8_code 118 = .ok (.arraylength, 1) := by decide +kernel
theorem d24_119 : decode prog_28_method_8_code 119 = .ok (.istore 4, 2) := by decide +kernel
theorem d24_121 : decode prog_28_method_8_code 121 = .ok (.iconst 0, 1) := by decide +kernel
theorem d24_122 : decode prog_28_method_8_code 122 = .ok (.istore 5, 2) := by decide +kernel
theorem d24_124 : decode prog_28_method_8_code 124 = .ok (.iload 5, 2) := by decide +kernel
theorem d24_126 : decode prog_28_method_8_code 126 = .ok (.iload 4, 2) := by decide +kernel
theorem d24_128 : decode prog_28_method_8_code 128 = .ok (.if_icmp .ge 35, 3) := by decide +kernel
theorem d24_131 : decode prog_28_method_8_code 131 = .ok (.aload_n 3, 1) := by decide +kernel
theorem d24_132 : decode prog_28_method_8_code 132 = .ok (.iload 5, 2) := by decide +kernel
theorem d24_134 : decode prog_28_method_8_code 134 = .ok (.iaload, 1) := by decide +kernel
theorem d24_135 : decode prog_28_method_8_code 135 = .ok (.istore 6, 2) := by decide +kernel
theorem d24_137 : decode prog_28_method_8_code 137 = .ok (.aload_n 0, 1) := by decide +kernel
theorem d24_138 : decode prog_28_method_8_code 138 = .ok (.iload 6, 2) := by decide +kernel
theorem d24_140 : decode prog_28_method_8_code 140 = .ok (.invokevirtual 25, 3) := by decide +kernel
theorem d24_143 : decode prog_28_method_8_code 143 = .ok (.ifCond .ne 14, 3) := by decide +kernel
theorem d24_146 : decode prog_28_method_8_code 146 = .ok (.aload_n 0, 1) := by decide +kernel
theorem d24_147 : decode prog_28_method_8_code 147 = .ok (.getfield 127, 3) := by decide +kernel
theorem d24_150 : decode prog_28_method_8_code 150 = .ok (.iload_n 2, 1) := by decide +kernel
theorem d24_151 : decode prog_28_method_8_code 151 = .ok (.iload 6, 2) := by decide +kernel
theorem d24_153 : decode prog_28_method_8_code 153 = .ok (.iastore, 1) := by decide +kernel
theorem d24_154 : decode prog_28_method_8_code 154 = .ok (.iinc 2 1, 3) := by decide +kernel
theorem d24_157 : decode prog_28_method_8_code 157 = .ok (.iinc 5 1, 3) := by decide +kernel
theorem d24_160 : decode prog_28_method_8_code 160 = .ok (.goto (-36), 3) := by decide +kernel
theorem d24_163 : decode prog_28_method_8_code 163 = .ok (.return_, 1) := by decide +kernel
theorem pn_24 : plainFor (⟨"com/example/forebound/forebound/problem/Sum", "forbidUnlisted", "([I)V"⟩ : MethodName) = true := plainFor_of_name (by first | (simp [plainName, overriddenIn]; done) | decide +kernel)
set_option maxRecDepth 65536 in
set_option maxHeartbeats 8000000 in
theorem rmUN (l : Launch) (Z : State) (a0 : Array Value) (hw : ∀ d ∈ tables_1, d.before a0 Z = true) (n0 : Nat) (r0 : Addr) (r5 : Addr) (r1 : Addr) (r2 : Addr) (hi : Int64) (lo : Int64) (fl : List Int32) (pa : Int32) (pb : Int32) (sg : Fin 28) (pg : Fin 12) (f1 : Int32) (f2 : Int32) (RR : Obs) (hfl : l2O sg pg f1 f2 = fl) (hpa : pA pg = pa) (hpb : pB pg = pb) (hf1 : f1 = 0 ∨ f1 = 1) (hf2 : f2 = 0 ∨ f2 = 1) (hS : sg.val < 11) :
    Triple l Z n0 (⟨"com/example/forebound/forebound/problem/Sum", "forbidUnlisted", "([I)V"⟩ : MethodName) prog_28_method_8_code 7 none ({ frames := 1, cells := 1, slots := 2, locals := 13 } : Room) 1 2 [(.ref r0), (.ref r5)] ((r0, ob1 (.ref r1) (.ref r2) (.int (cnt fl)) (.long (0 : Int64)) (.long hi) (.long lo) .null .null) :: (r2, .inr (.byte, List.map Value.int fl)) :: (r5, .inr (.int, [(.int pa), (.int pb)])) :: RR) (fun v L' => ∃ b21 : Addr, v = none ∧ L' = ((r0, ob1 (.ref r1) (.ref r2) (.int (cnt (uL fl))) (.long (0 : Int64)) (.long hi) (.long lo) .null (.ref b21)) :: (r2, .inr (.byte, List.map Value.int (uL fl))) :: (b21, .inr (.int, List.map Value.int (svL (uL fl) pa pb))) :: (r5, .inr (.int, [(.int pa), (.int pb)])) :: RR)) := by
  refine Triple.of_body (tbl := tables_1) (a0 := a0) (Ls := #[.val (.ref r0), .val (.ref r5), .unset, .unset, .unset, .unset, .unset]) pn_24 hw rfl ?_
  intro p e s m below meth c T A
  have np : ¬ pa < 0 ∧ pa.toNatClampNeg < 4 ∧ z4[pa.toNatClampNeg]? = some 0 ∧ z4.set pa.toNatClampNeg 0 = z4 := by rw [← hpa]; exact ⟨(own_pp pg).1, (own_pp pg).2.2.1, (own_pp pg).2.2.2.2.1, (own_pp pg).2.2.2.2.2.2.1⟩
  have nq : ¬ pb < 0 ∧ pb.toNatClampNeg < 4 ∧ z4[pb.toNatClampNeg]? = some 0 ∧ z4.set pb.toNatClampNeg 0 = z4 := by rw [← hpb]; exact ⟨(own_pp pg).2.1, (own_pp pg).2.2.2.1, (own_pp pg).2.2.2.2.2.1, (own_pp pg).2.2.2.2.2.2.2⟩
  have len_fl : fl.length = 4 := by rw [← hfl]; exact own_l2len sg pg f1 f2
  refine A.aloadN (q := 1) d24_0 rfl rfl rfl ?_
  refine A.getF (q := 4) (w := 134) (i := 0) (j := 7) d24_1 rfl rfl rfl rfl ?_
  intro T A
  refine A.ifnonnullF (q := 7) d24_4 rfl ?_
  refine A.iconst (q := 8) (v := (0 : Int32)) d24_7 rfl (by decide) ?_
  refine A.istoreN (q := 9) (l' := #[.val (.ref r0), .val (.ref r5), .val (.int (0 : Int32)), .unset, .unset, .unset, .unset]) d24_8 rfl rfl ?_
  refine A.iloadN (q := 10) d24_9 rfl rfl ?_
  refine A.aloadN (q := 11) d24_10 rfl rfl rfl ?_
  refine A.getF (q := 14) (w := 13) (i := 0) (j := 1) d24_11 rfl rfl rfl rfl ?_
  intro T A
  refine A.arraylengthM (q := 15) (i := 1) (v := (4 : Int32)) d24_14 rfl rfl (by rw [len_fl]; decide) ?_
  refine A.icmpF (q := 18) d24_15 rfl (by decide) ?_
  have J18_4 : ∀ (T : State) (j3 : Int32) (j4 : List Int32), j3 = (if (fl.getD ((0 : Int32)).toNatClampNeg (0 : Int32)) = (0 : Int32) then ((cnt fl) - (1 : Int32)) else (cnt fl)) → j4 = (if (fl.getD ((0 : Int32)).toNatClampNeg (0 : Int32)) = (0 : Int32) then (fl.set ((0 : Int32)).toNatClampNeg (1 : Int32)) else fl) → Here p l e ({ frames := 1, cells := 1, slots := 2, locals := 13 } : Room) s m ([(.ref r0), (.ref r5)] : List Value).toArray below meth c Z a0 tables_1 (⟨"com/example/forebound/forebound/problem/Sum", "forbidUnlisted", "([I)V"⟩ : MethodName).cls (⟨"com/example/forebound/forebound/problem/Sum", "forbidUnlisted", "([I)V"⟩ : MethodName).name prog_28_method_8_code 7 none n0 T ((r0, ob1 (.ref r1) (.ref r2) (.int j3) (.long (0 : Int64)) (.long hi) (.long lo) .null .null) :: (r2, .inr (.byte, List.map Value.int j4)) :: (r5, .inr (.int, [(.int pa), (.int pb)])) :: RR) 0 0 → Go p e below (EndS below s n0 Z 1 2 (fun v L' => ∃ b21 : Addr, v = none ∧ L' = ((r0, ob1 (.ref r1) (.ref r2) (.int (cnt (uL fl))) (.long (0 : Int64)) (.long hi) (.long lo) .null (.ref b21)) :: (r2, .inr (.byte, List.map Value.int (uL fl))) :: (b21, .inr (.int, List.map Value.int (svL (uL fl) pa pb))) :: (r5, .inr (.int, [(.int pa), (.int pb)])) :: RR))) (T.setTop (mkF m 44 #[.val (.ref r0), .val (.ref r5), .val (.int (0 : Int32)), .unset, .unset, .unset, .unset] [])) := by
   intro T j3 j4 ej3 ej4 A
   have q : (u1 fl (0 : Int32)) = j4 := Eq.symm ej4
   subst q
   have q : (a1 fl (0 : Int32) (cnt fl)) = j3 := Eq.symm ej3
   subst q
   have A : Here p l e ({ frames := 1, cells := 1, slots := 2, locals := 13 } : Room) s m ([(.ref r0), (.ref r5)] : List Value).toArray below meth c Z a0 tables_1 (⟨"com/example/forebound/forebound/problem/Sum", "forbidUnlisted", "([I)V"⟩ : MethodName).cls (⟨"com/example/forebound/forebound/problem/Sum", "forbidUnlisted", "([I)V"⟩ : MethodName).name prog_28_method_8_code 7 none n0 T ((r0, ob1 (.ref r1) (.ref r2) (.int (a1 fl (0 : Int32) (cnt fl))) (.long (0 : Int64)) (.long hi) (.long lo) .null .null) :: (r2, .inr (.byte, List.map Value.int (u1 fl (0 : Int32)))) :: (r5, .inr (.int, [(.int pa), (.int pb)])) :: RR) 0 0 := A
   refine A.iinc (q := 47) (v := (1 : Int32)) (l' := #[.val (.ref r0), .val (.ref r5), .val (.int (1 : Int32)), .unset, .unset, .unset, .unset]) d24_44 rfl rfl (by decide) rfl ?_
   refine A.goto (r := 9) d24_47 (by decide) ?_
   refine A.iloadN (q := 10) d24_9 rfl rfl ?_
   refine A.aloadN (q := 11) d24_10 rfl rfl rfl ?_
   refine A.getF (q := 14) (w := 13) (i := 0) (j := 1) d24_11 rfl rfl rfl rfl ?_
   intro T A
   refine A.arraylengthM (q := 15) (i := 1) (v := (4 : Int32)) d24_14 rfl rfl (by rw [(show (u1 fl (0 : Int32)).length = 4 by simp only [List.length_set, own_u1len, own_fblen, own_mkLlen, own_l2Llen, own_uLlen, own_umlen, len_fl])]; decide) ?_
   refine A.icmpF (q := 18) d24_15 rfl (by decide) ?_
   have J18_9 : ∀ (T : State) (j8 : Int32) (j9 : List Int32), j8 = (if ((u1 fl (0 : Int32)).getD ((1 : Int32)).toNatClampNeg (0 : Int32)) = (0 : Int32) then ((a1 fl (0 : Int32) (cnt fl)) - (1 : Int32)) else (a1 fl (0 : Int32) (cnt fl))) → j9 = (if ((u1 fl (0 : Int32)).getD ((1 : Int32)).toNatClampNeg (0 : Int32)) = (0 : Int32) then ((u1 fl (0 : Int32)).set ((1 : Int32)).toNatClampNeg (1 : Int32)) else (u1 fl (0 : Int32))) → Here p l e ({ frames := 1, cells := 1, slots := 2, locals := 13 } : Room) s m ([(.ref r0), (.ref r5)] : List Value).toArray below meth c Z a0 tables_1 (⟨"com/example/forebound/forebound/problem/Sum", "forbidUnlisted", "([I)V"⟩ : MethodName).cls (⟨"com/example/forebound/forebound/problem/Sum", "forbidUnlisted", "([I)V"⟩ : MethodName).name prog_28_method_8_code 7 none n0 T ((r0, ob1 (.ref r1) (.ref r2) (.int j8) (.long (0 : Int64)) (.long hi) (.long lo) .null .null) :: (r2, .inr (.byte, List.map Value.int j9)) :: (r5, .inr (.int, [(.int pa), (.int pb)])) :: RR) 0 0 → Go p e below (EndS below s n0 Z 1 2 (fun v L' => ∃ b21 : Addr, v = none ∧ L' = ((r0, ob1 (.ref r1) (.ref r2) (.int (cnt (uL fl))) (.long (0 : Int64)) (.long hi) (.long lo) .null (.ref b21)) :: (r2, .inr (.byte, List.map Value.int (uL fl))) :: (b21, .inr (.int, List.map Value.int (svL (uL fl) pa pb))) :: (r5, .inr (.int, [(.int pa), (.int pb)])) :: RR))) (T.setTop (mkF m 44 #[.val (.ref r0), .val (.ref r5), .val (.int (1 : Int32)), .unset, .unset, .unset, .unset] [])) := by
    intro T j8 j9 ej8 ej9 A
    have q : (u1 (u1 fl (0 : Int32)) (1 : Int32)) = j9 := Eq.symm ej9
    subst q
    have q : (a1 (u1 fl (0 : Int32)) (1 : Int32) (a1 fl (0 : Int32) (cnt fl))) = j8 := Eq.symm ej8
    subst q
    have A : Here p l e ({ frames := 1, cells := 1, slots := 2, locals := 13 } : Room) s m ([(.ref r0), (.ref r5)] : List Value).toArray below meth c Z a0 tables_1 (⟨"com/example/forebound/forebound/problem/Sum", "forbidUnlisted", "([I)V"⟩ : MethodName).cls (⟨"com/example/forebound/forebound/problem/Sum", "forbidUnlisted", "([I)V"⟩ : MethodName).name prog_28_method_8_code 7 none n0 T ((r0, ob1 (.ref r1) (.ref r2) (.int (a1 (u1 fl (0 : Int32)) (1 : Int32) (a1 fl (0 : Int32) (cnt fl)))) (.long (0 : Int64)) (.long hi) (.long lo) .null .null) :: (r2, .inr (.byte, List.map Value.int (u1 (u1 fl (0 : Int32)) (1 : Int32)))) :: (r5, .inr (.int, [(.int pa), (.int pb)])) :: RR) 0 0 := A
    refine A.iinc (q := 47) (v := (2 : Int32)) (l' := #[.val (.ref r0), .val (.ref r5), .val (.int (2 : Int32)), .unset, .unset, .unset, .unset]) d24_44 rfl rfl (by decide) rfl ?_
    refine A.goto (r := 9) d24_47 (by decide) ?_
    refine A.iloadN (q := 10) d24_9 rfl rfl ?_
    refine A.aloadN (q := 11) d24_10 rfl rfl rfl ?_
    refine A.getF (q := 14) (w := 13) (i := 0) (j := 1) d24_11 rfl rfl rfl rfl ?_
    intro T A
    refine A.arraylengthM (q := 15) (i := 1) (v := (4 : Int32)) d24_14 rfl rfl (by rw [(show (u1 (u1 fl (0 : Int32)) (1 : Int32)).length = 4 by simp only [List.length_set, own_u1len, own_fblen, own_mkLlen, own_l2Llen, own_uLlen, own_umlen, len_fl])]; decide) ?_
    refine A.icmpF (q := 18) d24_15 rfl (by decide) ?_
    have J18_14 : ∀ (T : State) (j13 : Int32) (j14 : List Int32), j13 = (if ((u1 (u1 fl (0 : Int32)) (1 : Int32)).getD ((2 : Int32)).toNatClampNeg (0 : Int32)) = (0 : Int32) then ((a1 (u1 fl (0 : Int32)) (1 : Int32) (a1 fl (0 : Int32) (cnt fl))) - (1 : Int32)) else (a1 (u1 fl (0 : Int32)) (1 : Int32) (a1 fl (0 : Int32) (cnt fl)))) → j14 = (if ((u1 (u1 fl (0 : Int32)) (1 : Int32)).getD ((2 : Int32)).toNatClampNeg (0 : Int32)) = (0 : Int32) then ((u1 (u1 fl (0 : Int32)) (1 : Int32)).set ((2 : Int32)).toNatClampNeg (1 : Int32)) else (u1 (u1 fl (0 : Int32)) (1 : Int32))) → Here p l e ({ frames := 1, cells := 1, slots := 2, locals := 13 } : Room) s m ([(.ref r0), (.ref r5)] : List Value).toArray below meth c Z a0 tables_1 (⟨"com/example/forebound/forebound/problem/Sum", "forbidUnlisted", "([I)V"⟩ : MethodName).cls (⟨"com/example/forebound/forebound/problem/Sum", "forbidUnlisted", "([I)V"⟩ : MethodName).name prog_28_method_8_code 7 none n0 T ((r0, ob1 (.ref r1) (.ref r2) (.int j13) (.long (0 : Int64)) (.long hi) (.long lo) .null .null) :: (r2, .inr (.byte, List.map Value.int j14)) :: (r5, .inr (.int, [(.int pa), (.int pb)])) :: RR) 0 0 → Go p e below (EndS below s n0 Z 1 2 (fun v L' => ∃ b21 : Addr, v = none ∧ L' = ((r0, ob1 (.ref r1) (.ref r2) (.int (cnt (uL fl))) (.long (0 : Int64)) (.long hi) (.long lo) .null (.ref b21)) :: (r2, .inr (.byte, List.map Value.int (uL fl))) :: (b21, .inr (.int, List.map Value.int (svL (uL fl) pa pb))) :: (r5, .inr (.int, [(.int pa), (.int pb)])) :: RR))) (T.setTop (mkF m 44 #[.val (.ref r0), .val (.ref r5), .val (.int (2 : Int32)), .unset, .unset, .unset, .unset] [])) := by
     intro T j13 j14 ej13 ej14 A
     have q : (u1 (u1 (u1 fl (0 : Int32)) (1 : Int32)) (2 : Int32)) = j14 := Eq.symm ej14
     subst q
     have q : (a1 (u1 (u1 fl (0 : Int32)) (1 : Int32)) (2 : Int32) (a1 (u1 fl (0 : Int32)) (1 : Int32) (a1 fl (0 : Int32) (cnt fl)))) = j13 := Eq.symm ej13
     subst q
     have A : Here p l e ({ frames := 1, cells := 1, slots := 2, locals := 13 } : Room) s m ([(.ref r0), (.ref r5)] : List Value).toArray below meth c Z a0 tables_1 (⟨"com/example/forebound/forebound/problem/Sum", "forbidUnlisted", "([I)V"⟩ : MethodName).cls (⟨"com/example/forebound/forebound/problem/Sum", "forbidUnlisted", "([I)V"⟩ : MethodName).name prog_28_method_8_code 7 none n0 T ((r0, ob1 (.ref r1) (.ref r2) (.int (a1 (u1 (u1 fl (0 : Int32)) (1 : Int32)) (2 : Int32) (a1 (u1 fl (0 : Int32)) (1 : Int32) (a1 fl (0 : Int32) (cnt fl))))) (.long (0 : Int64)) (.long hi) (.long lo) .null .null) :: (r2, .inr (.byte, List.map Value.int (u1 (u1 (u1 fl (0 : Int32)) (1 : Int32)) (2 : Int32)))) :: (r5, .inr (.int, [(.int pa), (.int pb)])) :: RR) 0 0 := A
     refine A.iinc (q := 47) (v := (3 : Int32)) (l' := #[.val (.ref r0), .val (.ref r5), .val (.int (3 : Int32)), .unset, .unset, .unset, .unset]) d24_44 rfl rfl (by decide) rfl ?_
     refine A.goto (r := 9) d24_47 (by decide) ?_
     refine A.iloadN (q := 10) d24_9 rfl rfl ?_
     refine A.aloadN (q := 11) d24_10 rfl rfl rfl ?_
     refine A.getF (q := 14) (w := 13) (i := 0) (j := 1) d24_11 rfl rfl rfl rfl ?_
     intro T A
     refine A.arraylengthM (q := 15) (i := 1) (v := (4 : Int32)) d24_14 rfl rfl (by rw [(show (u1 (u1 (u1 fl (0 : Int32)) (1 : Int32)) (2 : Int32)).length = 4 by simp only [List.length_set, own_u1len, own_fblen, own_mkLlen, own_l2Llen, own_uLlen, own_umlen, len_fl])]; decide) ?_
     refine A.icmpF (q := 18) d24_15 rfl (by decide) ?_
     have J18_19 : ∀ (T : State) (j18 : Int32) (j19 : List Int32), j18 = (if ((u1 (u1 (u1 fl (0 : Int32)) (1 : Int32)) (2 : Int32)).getD ((3 : Int32)).toNatClampNeg (0 : Int32)) = (0 : Int32) then ((a1 (u1 (u1 fl (0 : Int32)) (1 : Int32)) (2 : Int32) (a1 (u1 fl (0 : Int32)) (1 : Int32) (a1 fl (0 : Int32) (cnt fl)))) - (1 : Int32)) else (a1 (u1 (u1 fl (0 : Int32)) (1 : Int32)) (2 : Int32) (a1 (u1 fl (0 : Int32)) (1 : Int32) (a1 fl (0 : Int32) (cnt fl))))) → j19 = (if ((u1 (u1 (u1 fl (0 : Int32)) (1 : Int32)) (2 : Int32)).getD ((3 : Int32)).toNatClampNeg (0 : Int32)) = (0 : Int32) then ((u1 (u1 (u1 fl (0 : Int32)) (1 : Int32)) (2 : Int32)).set ((3 : Int32)).toNatClampNeg (1 : Int32)) else (u1 (u1 (u1 fl (0 : Int32)) (1 : Int32)) (2 : Int32))) → Here p l e ({ frames := 1, cells := 1, slots := 2, locals := 13 } : Room) s m ([(.ref r0), (.ref r5)] : List Value).toArray below meth c Z a0 tables_1 (⟨"com/example/forebound/forebound/problem/Sum", "forbidUnlisted", "([I)V"⟩ : MethodName).cls (⟨"com/example/forebound/forebound/problem/Sum", "forbidUnlisted", "([I)V"⟩ : MethodName).name prog_28_method_8_code 7 none n0 T ((r0, ob1 (.ref r1) (.ref r2) (.int j18) (.long (0 : Int64)) (.long hi) (.long lo) .null .null) :: (r2, .inr (.byte, List.map Value.int j19)) :: (r5, .inr (.int, [(.int pa), (.int pb)])) :: RR) 0 0 → Go p e below (EndS below s n0 Z 1 2 (fun v L' => ∃ b21 : Addr, v = none ∧ L' = ((r0, ob1 (.ref r1) (.ref r2) (.int (cnt (uL fl))) (.long (0 : Int64)) (.long hi) (.long lo) .null (.ref b21)) :: (r2, .inr (.byte, List.map Value.int (uL fl))) :: (b21, .inr (.int, List.map Value.int (svL (uL fl) pa pb))) :: (r5, .inr (.int, [(.int pa), (.int pb)])) :: RR))) (T.setTop (mkF m 44 #[.val (.ref r0), .val (.ref r5), .val (.int (3 : Int32)), .unset, .unset, .unset, .unset] [])) := by
      intro T j18 j19 ej18 ej19 A
      have q : (u1 (u1 (u1 (u1 fl (0 : Int32)) (1 : Int32)) (2 : Int32)) (3 : Int32)) = j19 := Eq.symm ej19
      subst q
      have q : (a1 (u1 (u1 (u1 fl (0 : Int32)) (1 : Int32)) (2 : Int32)) (3 : Int32) (a1 (u1 (u1 fl (0 : Int32)) (1 : Int32)) (2 : Int32) (a1 (u1 fl (0 : Int32)) (1 : Int32) (a1 fl (0 : Int32) (cnt fl))))) = j18 := Eq.symm ej18
      subst q
      have A : Here p l e ({ frames := 1, cells := 1, slots := 2, locals := 13 } : Room) s m ([(.ref r0), (.ref r5)] : List Value).toArray below meth c Z a0 tables_1 (⟨"com/example/forebound/forebound/problem/Sum", "forbidUnlisted", "([I)V"⟩ : MethodName).cls (⟨"com/example/forebound/forebound/problem/Sum", "forbidUnlisted", "([I)V"⟩ : MethodName).name prog_28_method_8_code 7 none n0 T ((r0, ob1 (.ref r1) (.ref r2) (.int (a1 (u1 (u1 (u1 fl (0 : Int32)) (1 : Int32)) (2 : Int32)) (3 : Int32) (a1 (u1 (u1 fl (0 : Int32)) (1 : Int32)) (2 : Int32) (a1 (u1 fl (0 : Int32)) (1 : Int32) (a1 fl (0 : Int32) (cnt fl)))))) (.long (0 : Int64)) (.long hi) (.long lo) .null .null) :: (r2, .inr (.byte, List.map Value.int (u1 (u1 (u1 (u1 fl (0 : Int32)) (1 : Int32)) (2 : Int32)) (3 : Int32)))) :: (r5, .inr (.int, [(.int pa), (.int pb)])) :: RR) 0 0 := A
      refine A.iinc (q := 47) (v := (4 : Int32)) (l' := #[.val (.ref r0), .val (.ref r5), .val (.int (4 : Int32)), .unset, .unset, .unset, .unset]) d24_44 rfl rfl (by decide) rfl ?_
      refine A.goto (r := 9) d24_47 (by decide) ?_
      refine A.iloadN (q := 10) d24_9 rfl rfl ?_
      refine A.aloadN (q := 11) d24_10 rfl rfl rfl ?_
      refine A.getF (q := 14) (w := 13) (i := 0) (j := 1) d24_11 rfl rfl rfl rfl ?_
      intro T A
      refine A.arraylengthM (q := 15) (i := 1) (v := (4 : Int32)) d24_14 rfl rfl (by rw [(show (u1 (u1 (u1 (u1 fl (0 : Int32)) (1 : Int32)) (2 : Int32)) (3 : Int32)).length = 4 by simp only [List.length_set, own_u1len, own_fblen, own_mkLlen, own_l2Llen, own_uLlen, own_umlen, len_fl])]; decide) ?_
      refine A.icmpT (r := 50) d24_15 (by decide) (by decide) ?_
      refine A.aloadN (q := 51) d24_50 rfl rfl rfl ?_
      refine A.aconst_null (q := 52) d24_51 rfl ?_
      refine A.putF (q := 55) (w := 115) (w2 := 116) (w3 := 1) (i := 0) (j := 6) (ty := (.object "com/example/forebound/forebound/problem/Sum$Extremes")) (v' := .null) (L' := ((r0, ob1 (.ref r1) (.ref r2) (.int (a1 (u1 (u1 (u1 fl (0 : Int32)) (1 : Int32)) (2 : Int32)) (3 : Int32) (a1 (u1 (u1 fl (0 : Int32)) (1 : Int32)) (2 : Int32) (a1 (u1 fl (0 : Int32)) (1 : Int32) (a1 fl (0 : Int32) (cnt fl)))))) (.long (0 : Int64)) (.long hi) (.long lo) .null .null) :: (r2, .inr (.byte, List.map Value.int (u1 (u1 (u1 (u1 fl (0 : Int32)) (1 : Int32)) (2 : Int32)) (3 : Int32)))) :: (r5, .inr (.int, [(.int pa), (.int pb)])) :: RR)) d24_52 rfl rfl rfl rfl (lay_0 Z a0 hw) (Or.inl rfl) rfl (by decide) rfl rfl rfl ?_
      intro T A
      refine A.goto (r := 103) d24_55 (by decide) ?_
      have q : (a1 (u1 (u1 (u1 fl (0 : Int32)) (1 : Int32)) (2 : Int32)) (3 : Int32) (a1 (u1 (u1 fl (0 : Int32)) (1 : Int32)) (2 : Int32) (a1 (u1 fl (0 : Int32)) (1 : Int32) (a1 fl (0 : Int32) (cnt fl))))) = (cnt (uL fl)) := (own_g11 sg pg f1 f2 hf1 hf2 hS fl hfl pa hpa pb hpb )
      rw [q] at A
      clear q
      have A : Here p l e ({ frames := 1, cells := 1, slots := 2, locals := 13 } : Room) s m ([(.ref r0), (.ref r5)] : List Value).toArray below meth c Z a0 tables_1 (⟨"com/example/forebound/forebound/problem/Sum", "forbidUnlisted", "([I)V"⟩ : MethodName).cls (⟨"com/example/forebound/forebound/problem/Sum", "forbidUnlisted", "([I)V"⟩ : MethodName).name prog_28_method_8_code 7 none n0 T ((r0, ob1 (.ref r1) (.ref r2) (.int (cnt (uL fl))) (.long (0 : Int64)) (.long hi) (.long lo) .null .null) :: (r2, .inr (.byte, List.map Value.int (uL fl))) :: (r5, .inr (.int, [(.int pa), (.int pb)])) :: RR) 0 0 := A
      refine A.aloadN (q := 104) d24_103 rfl rfl rfl ?_
      refine A.aloadN (q := 105) d24_104 rfl rfl rfl ?_
      refine A.getF (q := 108) (w := 15) (i := 0) (j := 2) d24_105 rfl rfl rfl rfl ?_
      intro T A
      refine A.newA (q := 110) (w := 26) (cap := 2) (ty := .int) (vs := List.map Value.int (List.replicate ((cnt (uL fl))).toNatClampNeg (0 : Int32))) d24_108 rfl rfl rfl (own_g12 sg pg f1 f2 hf1 hf2 hS fl hfl pa hpa pb hpb ) (own_g13 sg pg f1 f2 hf1 hf2 hS fl hfl pa hpa pb hpb ) (by decide) (by rw [List.map_replicate]; rfl) (by decide) (by decide) ?_
      intro T b21 A
      refine A.putF (q := 113) (w := 134) (w2 := 135) (w3 := 1) (i := 1) (j := 7) (ty := (.array .int)) (v' := (.ref b21)) (L' := ((b21, .inr (.int, List.map Value.int (List.replicate ((cnt (uL fl))).toNatClampNeg (0 : Int32)))) :: (r0, ob1 (.ref r1) (.ref r2) (.int (cnt (uL fl))) (.long (0 : Int64)) (.long hi) (.long lo) .null (.ref b21)) :: (r2, .inr (.byte, List.map Value.int (uL fl))) :: (r5, .inr (.int, [(.int pa), (.int pb)])) :: RR)) d24_110 rfl rfl rfl rfl (lay_0 Z a0 hw) (Or.inl rfl) rfl (by decide) rfl rfl rfl ?_
      intro T A
      refine A.iconst (q := 114) (v := (0 : Int32)) d24_113 rfl (by decide) ?_
      refine A.istoreN (q := 115) (l' := #[.val (.ref r0), .val (.ref r5), .val (.int (0 : Int32)), .unset, .unset, .unset, .unset]) d24_114 rfl rfl ?_
      refine A.aloadN (q := 116) d24_115 rfl rfl rfl ?_
      refine A.astoreN (q := 117) (l' := #[.val (.ref r0), .val (.ref r5), .val (.int (0 : Int32)), .val (.ref r5), .unset, .unset, .unset]) d24_116 rfl rfl rfl ?_
      refine A.aloadN (q := 118) d24_117 rfl rfl rfl ?_
      refine A.arraylength (q := 119) (i := 3) (v := (2 : Int32)) d24_118 rfl rfl (by show Nat.toInt32 2 = 2; decide) ?_
      refine A.istore (q := 121) (l' := #[.val (.ref r0), .val (.ref r5), .val (.int (0 : Int32)), .val (.ref r5), .val (.int (2 : Int32)), .unset, .unset]) d24_119 rfl rfl ?_
      refine A.iconst (q := 122) (v := (0 : Int32)) d24_121 rfl (by decide) ?_
      refine A.istore (q := 124) (l' := #[.val (.ref r0), .val (.ref r5), .val (.int (0 : Int32)), .val (.ref r5), .val (.int (2 : Int32)), .val (.int (0 : Int32)), .unset]) d24_122 rfl rfl ?_
      refine A.iload (q := 126) d24_124 rfl rfl ?_
      refine A.iload (q := 128) d24_126 rfl rfl ?_
      refine A.icmpF (q := 131) d24_128 rfl (by decide) ?_
      refine A.aloadN (q := 132) d24_131 rfl rfl rfl ?_
      refine A.iload (q := 134) d24_132 rfl rfl ?_
      refine A.iaload (q := 135) (i := 3) (v := (.int pa)) d24_134 rfl rfl (by decide) rfl ?_
      refine A.istore (q := 137) (l' := #[.val (.ref r0), .val (.ref r5), .val (.int (0 : Int32)), .val (.ref r5), .val (.int (2 : Int32)), .val (.int (0 : Int32)), .val (.int pa)]) d24_135 rfl rfl ?_
      refine A.aloadN (q := 138) d24_137 rfl rfl rfl ?_
      refine A.iload (q := 140) d24_138 rfl rfl ?_
      have A := A.front (i := 2) rfl rfl
      have A := A.front (i := 2) (L' := ((r0, ob1 (.ref r1) (.ref r2) (.int (cnt (uL fl))) (.long (0 : Int64)) (.long hi) (.long lo) .null (.ref b21)) :: (r2, .inr (.byte, List.map Value.int (uL fl))) :: (b21, .inr (.int, List.map Value.int (List.replicate ((cnt (uL fl))).toNatClampNeg (0 : Int32)))) :: (r5, .inr (.int, [(.int pa), (.int pb)])) :: RR)) rfl rfl
      refine A.callV (q := 143) (i := 0) (w1 := 73) (w2 := 18) (w3 := 2) (w4 := 21) (w5 := 20) (w6 := 19) (a := r0) (as := [(.int pa)]) (st := []) (W := 0) d24_140 rfl rfl rfl rfl rfl rfl rfl rfl (rmF l Z a0 hw n0 r0 pa r1 r2 (cnt (uL fl)) (0 : Int64) hi lo .null (.ref b21) (uL fl) _ np.1 (by rw [(show (uL fl).length = 4 by simp only [List.length_set, own_u1len, own_fblen, own_mkLlen, own_l2Llen, own_uLlen, own_umlen, len_fl])]; exact np.2.1)) (by decide) ⟨_, _, pd_2, rfl⟩ rfl rfl rfl (by decide) (by decide) (by decide) (by decide) ?_
      rintro _ T _ ⟨rfl, rfl⟩ A
      show Go p e below _ (T.setTop (mkF m 143 #[.val (.ref r0), .val (.ref r5), .val (.int (0 : Int32)), .val (.ref r5), .val (.int (2 : Int32)), .val (.int (0 : Int32)), .val (.int pa)] [(.int (FF pa (uL fl)))]))
      obtain ⟨v22, e22⟩ : ∃ v : Int32, (FF pa (uL fl)) = v := ⟨_, rfl⟩
      rw [e22]
      refine A.if_ne (q := 146) (r := 157) d24_143 rfl (by decide) (fun h23 => ?_) (fun h23 => ?_)
      · refine A.iinc (q := 160) (v := (1 : Int32)) (l' := #[.val (.ref r0), .val (.ref r5), .val (.int (0 : Int32)), .val (.ref r5), .val (.int (2 : Int32)), .val (.int (1 : Int32)), .val (.int pa)]) d24_157 rfl rfl (by decide) rfl ?_
        refine A.goto (r := 124) d24_160 (by decide) ?_
        refine A.iload (q := 126) d24_124 rfl rfl ?_
        refine A.iload (q := 128) d24_126 rfl rfl ?_
        refine A.icmpF (q := 131) d24_128 rfl (by decide) ?_
        refine A.aloadN (q := 132) d24_131 rfl rfl rfl ?_
        refine A.iload (q := 134) d24_132 rfl rfl ?_
        refine A.iaload (q := 135) (i := 3) (v := (.int pb)) d24_134 rfl rfl (by decide) rfl ?_
        refine A.istore (q := 137) (l' := #[.val (.ref r0), .val (.ref r5), .val (.int (0 : Int32)), .val (.ref r5), .val (.int (2 : Int32)), .val (.int (1 : Int32)), .val (.int pb)]) d24_135 rfl rfl ?_
        refine A.aloadN (q := 138) d24_137 rfl rfl rfl ?_
        refine A.iload (q := 140) d24_138 rfl rfl ?_
        refine A.callV (q := 143) (i := 0) (w1 := 73) (w2 := 18) (w3 := 2) (w4 := 21) (w5 := 20) (w6 := 19) (a := r0) (as := [(.int pb)]) (st := []) (W := 0) d24_140 rfl rfl rfl rfl rfl rfl rfl rfl (rmF l Z a0 hw n0 r0 pb r1 r2 (cnt (uL fl)) (0 : Int64) hi lo .null (.ref b21) (uL fl) _ nq.1 (by rw [(show (uL fl).length = 4 by simp only [List.length_set, own_u1len, own_fblen, own_mkLlen, own_l2Llen, own_uLlen, own_umlen, len_fl])]; exact nq.2.1)) (by decide) ⟨_, _, pd_2, rfl⟩ rfl rfl rfl (by decide) (by decide) (by decide) (by decide) ?_
        rintro _ T _ ⟨rfl, rfl⟩ A
        show Go p e below _ (T.setTop (mkF m 143 #[.val (.ref r0), .val (.ref r5), .val (.int (0 : Int32)), .val (.ref r5), .val (.int (2 : Int32)), .val (.int (1 : Int32)), .val (.int pb)] [(.int (FF pb (uL fl)))]))
        obtain ⟨v24, e24⟩ : ∃ v : Int32, (FF pb (uL fl)) = v := ⟨_, rfl⟩
        rw [e24]
        refine A.if_ne (q := 146) (r := 157) d24_143 rfl (by decide) (fun h25 => ?_) (fun h25 => ?_)
        · refine A.iinc (q := 160) (v := (2 : Int32)) (l' := #[.val (.ref r0), .val (.ref r5), .val (.int (0 : Int32)), .val (.ref r5), .val (.int (2 : Int32)), .val (.int (2 : Int32)), .val (.int pb)]) d24_157 rfl rfl (by decide) rfl ?_
          refine A.goto (r := 124) d24_160 (by decide) ?_
          refine A.iload (q := 126) d24_124 rfl rfl ?_
          refine A.iload (q := 128) d24_126 rfl rfl ?_
          refine A.icmpT (r := 163) d24_128 (by decide) (by decide) ?_
          have q : (List.replicate ((cnt (uL fl))).toNatClampNeg (0 : Int32)) = (svL (uL fl) pa pb) := (own_g14 sg pg f1 f2 hf1 hf2 hS fl hfl pa hpa pb hpb v22 e22 v24 e24 h23 h25)
          rw [q] at A
          clear q
          have A : Here p l e ({ frames := 1, cells := 1, slots := 2, locals := 13 } : Room) s m ([(.ref r0), (.ref r5)] : List Value).toArray below meth c Z a0 tables_1 (⟨"com/example/forebound/forebound/problem/Sum", "forbidUnlisted", "([I)V"⟩ : MethodName).cls (⟨"com/example/forebound/forebound/problem/Sum", "forbidUnlisted", "([I)V"⟩ : MethodName).name prog_28_method_8_code 7 none n0 T ((r0, ob1 (.ref r1) (.ref r2) (.int (cnt (uL fl))) (.long (0 : Int64)) (.long hi) (.long lo) .null (.ref b21)) :: (r2, .inr (.byte, List.map Value.int (uL fl))) :: (b21, .inr (.int, List.map Value.int (svL (uL fl) pa pb))) :: (r5, .inr (.int, [(.int pa), (.int pb)])) :: RR) 1 2 := A
          have Aq := A
          subst e22 e24
          have A := Aq
          exact A.retV d24_163 (by decide) (by decide) ⟨b21, rfl, by first | rfl | (simp only [if_neg h23, if_neg h25])⟩
        · refine A.aloadN (q := 147) d24_146 rfl rfl rfl ?_
          refine A.getF (q := 150) (w := 134) (i := 0) (j := 7) d24_147 rfl rfl rfl rfl ?_
          intro T A
          refine A.iloadN (q := 151) d24_150 rfl rfl ?_
          refine A.iload (q := 153) d24_151 rfl rfl ?_
          refine A.iastoreM (q := 154) (i := 2) (x' := pb) (L' := ((r0, ob1 (.ref r1) (.ref r2) (.int (cnt (uL fl))) (.long (0 : Int64)) (.long hi) (.long lo) .null (.ref b21)) :: (r2, .inr (.byte, List.map Value.int (uL fl))) :: (b21, .inr (.int, List.map Value.int ((List.replicate ((cnt (uL fl))).toNatClampNeg (0 : Int32)).set ((0 : Int32)).toNatClampNeg pb))) :: (r5, .inr (.int, [(.int pa), (.int pb)])) :: RR)) d24_153 rfl rfl (by decide) (own_g15 sg pg f1 f2 hf1 hf2 hS fl hfl pa hpa pb hpb v22 e22 v24 e24 h23 h25) rfl rfl ?_
          intro T A
          refine A.iinc (q := 157) (v := (1 : Int32)) (l' := #[.val (.ref r0), .val (.ref r5), .val (.int (1 : Int32)), .val (.ref r5), .val (.int (2 : Int32)), .val (.int (1 : Int32)), .val (.int pb)]) d24_154 rfl rfl (by decide) rfl ?_
          refine A.iinc (q := 160) (v := (2 : Int32)) (l' := #[.val (.ref r0), .val (.ref r5), .val (.int (1 : Int32)), .val (.ref r5), .val (.int (2 : Int32)), .val (.int (2 : Int32)), .val (.int pb)]) d24_157 rfl rfl (by decide) rfl ?_
          refine A.goto (r := 124) d24_160 (by decide) ?_
          refine A.iload (q := 126) d24_124 rfl rfl ?_
          refine A.iload (q := 128) d24_126 rfl rfl ?_
          refine A.icmpT (r := 163) d24_128 (by decide) (by decide) ?_
          have q : ((List.replicate ((cnt (uL fl))).toNatClampNeg (0 : Int32)).set ((0 : Int32)).toNatClampNeg pb) = (svL (uL fl) pa pb) := (own_g16 sg pg f1 f2 hf1 hf2 hS fl hfl pa hpa pb hpb v22 e22 v24 e24 h23 h25)
          rw [q] at A
          clear q
          have A : Here p l e ({ frames := 1, cells := 1, slots := 2, locals := 13 } : Room) s m ([(.ref r0), (.ref r5)] : List Value).toArray below meth c Z a0 tables_1 (⟨"com/example/forebound/forebound/problem/Sum", "forbidUnlisted", "([I)V"⟩ : MethodName).cls (⟨"com/example/forebound/forebound/problem/Sum", "forbidUnlisted", "([I)V"⟩ : MethodName).name prog_28_method_8_code 7 none n0 T ((r0, ob1 (.ref r1) (.ref r2) (.int (cnt (uL fl))) (.long (0 : Int64)) (.long hi) (.long lo) .null (.ref b21)) :: (r2, .inr (.byte, List.map Value.int (uL fl))) :: (b21, .inr (.int, List.map Value.int (svL (uL fl) pa pb))) :: (r5, .inr (.int, [(.int pa), (.int pb)])) :: RR) 1 2 := A
          have Aq := A
          subst e22 e24
          have A := Aq
          exact A.retV d24_163 (by decide) (by decide) ⟨b21, rfl, by first | rfl | (simp only [if_neg h23, if_pos h25])⟩
      · refine A.aloadN (q := 147) d24_146 rfl rfl rfl ?_
        refine A.getF (q := 150) (w := 134) (i := 0) (j := 7) d24_147 rfl rfl rfl rfl ?_
        intro T A
        refine A.iloadN (q := 151) d24_150 rfl rfl ?_
        refine A.iload (q := 153) d24_151 rfl rfl ?_
        refine A.iastoreM (q := 154) (i := 2) (x' := pa) (L' := ((r0, ob1 (.ref r1) (.ref r2) (.int (cnt (uL fl))) (.long (0 : Int64)) (.long hi) (.long lo) .null (.ref b21)) :: (r2, .inr (.byte, List.map Value.int (uL fl))) :: (b21, .inr (.int, List.map Value.int ((List.replicate ((cnt (uL fl))).toNatClampNeg (0 : Int32)).set ((0 : Int32)).toNatClampNeg pa))) :: (r5, .inr (.int, [(.int pa), (.int pb)])) :: RR)) d24_153 rfl rfl (by decide) (own_g17 sg pg f1 f2 hf1 hf2 hS fl hfl pa hpa pb hpb v22 e22 h23) rfl rfl ?_
        intro T A
        refine A.iinc (q := 157) (v := (1 : Int32)) (l' := #[.val (.ref r0), .val (.ref r5), .val (.int (1 : Int32)), .val (.ref r5), .val (.int (2 : Int32)), .val (.int (0 : Int32)), .val (.int pa)]) d24_154 rfl rfl (by decide) rfl ?_
        refine A.iinc (q := 160) (v := (1 : Int32)) (l' := #[.val (.ref r0), .val (.ref r5), .val (.int (1 : Int32)), .val (.ref r5), .val (.int (2 : Int32)), .val (.int (1 : Int32)), .val (.int pa)]) d24_157 rfl rfl (by decide) rfl ?_
        refine A.goto (r := 124) d24_160 (by decide) ?_
        refine A.iload (q := 126) d24_124 rfl rfl ?_
        refine A.iload (q := 128) d24_126 rfl rfl ?_
        refine A.icmpF (q := 131) d24_128 rfl (by decide) ?_
        refine A.aloadN (q := 132) d24_131 rfl rfl rfl ?_
        refine A.iload (q := 134) d24_132 rfl rfl ?_
        refine A.iaload (q := 135) (i := 3) (v := (.int pb)) d24_134 rfl rfl (by decide) rfl ?_
        refine A.istore (q := 137) (l' := #[.val (.ref r0), .val (.ref r5), .val (.int (1 : Int32)), .val (.ref r5), .val (.int (2 : Int32)), .val (.int (1 : Int32)), .val (.int pb)]) d24_135 rfl rfl ?_
        refine A.aloadN (q := 138) d24_137 rfl rfl rfl ?_
        refine A.iload (q := 140) d24_138 rfl rfl ?_
        refine A.callV (q := 143) (i := 0) (w1 := 73) (w2 := 18) (w3 := 2) (w4 := 21) (w5 := 20) (w6 := 19) (a := r0) (as := [(.int pb)]) (st := []) (W := 0) d24_140 rfl rfl rfl rfl rfl rfl rfl rfl (rmF l Z a0 hw n0 r0 pb r1 r2 (cnt (uL fl)) (0 : Int64) hi lo .null (.ref b21) (uL fl) _ nq.1 (by rw [(show (uL fl).length = 4 by simp only [List.length_set, own_u1len, own_fblen, own_mkLlen, own_l2Llen, own_uLlen, own_umlen, len_fl])]; exact nq.2.1)) (by decide) ⟨_, _, pd_2, rfl⟩ rfl rfl rfl (by decide) (by decide) (by decide) (by decide) ?_
        rintro _ T _ ⟨rfl, rfl⟩ A
        show Go p e below _ (T.setTop (mkF m 143 #[.val (.ref r0), .val (.ref r5), .val (.int (1 : Int32)), .val (.ref r5), .val (.int (2 : Int32)), .val (.int (1 : Int32)), .val (.int pb)] [(.int (FF pb (uL fl)))]))
        obtain ⟨v26, e26⟩ : ∃ v : Int32, (FF pb (uL fl)) = v := ⟨_, rfl⟩
        rw [e26]
        refine A.if_ne (q := 146) (r := 157) d24_143 rfl (by decide) (fun h27 => ?_) (fun h27 => ?_)
        · refine A.iinc (q := 160) (v := (2 : Int32)) (l' := #[.val (.ref r0), .val (.ref r5), .val (.int (1 : Int32)), .val (.ref r5), .val (.int (2 : Int32)), .val (.int (2 : Int32)), .val (.int pb)]) d24_157 rfl rfl (by decide) rfl ?_
          refine A.goto (r := 124) d24_160 (by decide) ?_
          refine A.iload (q := 126) d24_124 rfl rfl ?_
          refine A.iload (q := 128) d24_126 rfl rfl ?_
          refine A.icmpT (r := 163) d24_128 (by decide) (by decide) ?_
          have q : ((List.replicate ((cnt (uL fl))).toNatClampNeg (0 : Int32)).set ((0 : Int32)).toNatClampNeg pa) = (svL (uL fl) pa pb) := (own_g18 sg pg f1 f2 hf1 hf2 hS fl hfl pa hpa pb hpb v22 e22 v26 e26 h23 h27)
          rw [q] at A
          clear q
          have A : Here p l e ({ frames := 1, cells := 1, slots := 2, locals := 13 } : Room) s m ([(.ref r0), (.ref r5)] : List Value).toArray below meth c Z a0 tables_1 (⟨"com/example/forebound/forebound/problem/Sum", "forbidUnlisted", "([I)V"⟩ : MethodName).cls (⟨"com/example/forebound/forebound/problem/Sum", "forbidUnlisted", "([I)V"⟩ : MethodName).name prog_28_method_8_code 7 none n0 T ((r0, ob1 (.ref r1) (.ref r2) (.int (cnt (uL fl))) (.long (0 : Int64)) (.long hi) (.long lo) .null (.ref b21)) :: (r2, .inr (.byte, List.map Value.int (uL fl))) :: (b21, .inr (.int, List.map Value.int (svL (uL fl) pa pb))) :: (r5, .inr (.int, [(.int pa), (.int pb)])) :: RR) 1 2 := A
          have Aq := A
          subst e22 e26
          have A := Aq
          exact A.retV d24_163 (by decide) (by decide) ⟨b21, rfl, by first | rfl | (simp only [if_pos h23, if_neg h27])⟩
        · refine A.aloadN (q := 147) d24_146 rfl rfl rfl ?_
          refine A.getF (q := 150) (w := 134) (i := 0) (j := 7) d24_147 rfl rfl rfl rfl ?_
          intro T A
          refine A.iloadN (q := 151) d24_150 rfl rfl ?_
          refine A.iload (q := 153) d24_151 rfl rfl ?_
          refine A.iastoreM (q := 154) (i := 2) (x' := pb) (L' := ((r0, ob1 (.ref r1) (.ref r2) (.int (cnt (uL fl))) (.long (0 : Int64)) (.long hi) (.long lo) .null (.ref b21)) :: (r2, .inr (.byte, List.map Value.int (uL fl))) :: (b21, .inr (.int, List.map Value.int (((List.replicate ((cnt (uL fl))).toNatClampNeg (0 : Int32)).set ((0 : Int32)).toNatClampNeg pa).set ((1 : Int32)).toNatClampNeg pb))) :: (r5, .inr (.int, [(.int pa), (.int pb)])) :: RR)) d24_153 rfl rfl (by decide) (own_g19 sg pg f1 f2 hf1 hf2 hS fl hfl pa hpa pb hpb v22 e22 v26 e26 h23 h27) rfl rfl ?_
          intro T A
          refine A.iinc (q := 157) (v := (2 : Int32)) (l' := #[.val (.ref r0), .val (.ref r5), .val (.int (2 : Int32)), .val (.ref r5), .val (.int (2 : Int32)), .val (.int (1 : Int32)), .val (.int pb)]) d24_154 rfl rfl (by decide) rfl ?_
          refine A.iinc (q := 160) (v := (2 : Int32)) (l' := #[.val (.ref r0), .val (.ref r5), .val (.int (2 : Int32)), .val (.ref r5), .val (.int (2 : Int32)), .val (.int (2 : Int32)), .val (.int pb)]) d24_157 rfl rfl (by decide) rfl ?_
          refine A.goto (r := 124) d24_160 (by decide) ?_
          refine A.iload (q := 126) d24_124 rfl rfl ?_
          refine A.iload (q := 128) d24_126 rfl rfl ?_
          refine A.icmpT (r := 163) d24_128 (by decide) (by decide) ?_
          have q : (((List.replicate ((cnt (uL fl))).toNatClampNeg (0 : Int32)).set ((0 : Int32)).toNatClampNeg pa).set ((1 : Int32)).toNatClampNeg pb) = (svL (uL fl) pa pb) := (own_g20 sg pg f1 f2 hf1 hf2 hS fl hfl pa hpa pb hpb v22 e22 v26 e26 h23 h27)
          rw [q] at A
          clear q
          have A : Here p l e ({ frames := 1, cells := 1, slots := 2, locals := 13 } : Room) s m ([(.ref r0), (.ref r5)] : List Value).toArray below meth c Z a0 tables_1 (⟨"com/example/forebound/forebound/problem/Sum", "forbidUnlisted", "([I)V"⟩ : MethodName).cls (⟨"com/example/forebound/forebound/problem/Sum", "forbidUnlisted", "([I)V"⟩ : MethodName).name prog_28_method_8_code 7 none n0 T ((r0, ob1 (.ref r1) (.ref r2) (.int (cnt (uL fl))) (.long (0 : Int64)) (.long hi) (.long lo) .null (.ref b21)) :: (r2, .inr (.byte, List.map Value.int (uL fl))) :: (b21, .inr (.int, List.map Value.int (svL (uL fl) pa pb))) :: (r5, .inr (.int, [(.int pa), (.int pb)])) :: RR) 1 2 := A
          have Aq := A
          subst e22 e26
          have A := Aq
          exact A.retV d24_163 (by decide) (by decide) ⟨b21, rfl, by first | rfl | (simp only [if_pos h23, if_pos h27])⟩
     refine A.aloadN (q := 19) d24_18 rfl rfl rfl ?_
     refine A.getF (q := 22) (w := 13) (i := 0) (j := 1) d24_19 rfl rfl rfl rfl ?_
     intro T A
     refine A.iloadN (q := 23) d24_22 rfl rfl ?_
     refine A.baloadBM (q := 24) (i := 1) (v := ((u1 (u1 (u1 fl (0 : Int32)) (1 : Int32)) (2 : Int32)).getD ((3 : Int32)).toNatClampNeg (0 : Int32))) d24_23 rfl rfl (by decide) (own_gd (by rw [(show (u1 (u1 (u1 fl (0 : Int32)) (1 : Int32)) (2 : Int32)).length = 4 by simp only [List.length_set, own_u1len, own_fblen, own_mkLlen, own_l2Llen, own_uLlen, own_umlen, len_fl])]; decide)) ?_
     refine A.if_ne (q := 27) (r := 44) d24_24 rfl (by decide) (fun h16 => ?_) (fun h16 => ?_)
     · exact J18_19 T _ ((u1 (u1 (u1 fl (0 : Int32)) (1 : Int32)) (2 : Int32))) (by simp only [if_neg h16]) (by simp only [if_neg h16]) A
     · refine A.aloadN (q := 28) d24_27 rfl rfl rfl ?_
       refine A.getF (q := 31) (w := 13) (i := 0) (j := 1) d24_28 rfl rfl rfl rfl ?_
       intro T A
       refine A.iloadN (q := 32) d24_31 rfl rfl ?_
       refine A.iconst (q := 33) (v := (1 : Int32)) d24_32 rfl (by decide) ?_
       refine A.bastoreBM (q := 34) (i := 1) (x' := (1 : Int32)) (L' := ((r0, ob1 (.ref r1) (.ref r2) (.int (a1 (u1 (u1 fl (0 : Int32)) (1 : Int32)) (2 : Int32) (a1 (u1 fl (0 : Int32)) (1 : Int32) (a1 fl (0 : Int32) (cnt fl))))) (.long (0 : Int64)) (.long hi) (.long lo) .null .null) :: (r2, .inr (.byte, List.map Value.int ((u1 (u1 (u1 fl (0 : Int32)) (1 : Int32)) (2 : Int32)).set ((3 : Int32)).toNatClampNeg (1 : Int32)))) :: (r5, .inr (.int, [(.int pa), (.int pb)])) :: RR)) d24_33 rfl rfl (by decide) (by rw [(show (u1 (u1 (u1 fl (0 : Int32)) (1 : Int32)) (2 : Int32)).length = 4 by simp only [List.length_set, own_u1len, own_fblen, own_mkLlen, own_l2Llen, own_uLlen, own_umlen, len_fl])]; decide) (by decide) rfl ?_
       intro T A
       refine A.aloadN (q := 35) d24_34 rfl rfl rfl ?_
       refine A.dup (q := 36) d24_35 rfl rfl ?_
       refine A.getF (q := 39) (w := 15) (i := 0) (j := 2) d24_36 rfl rfl rfl rfl ?_
       intro T A
       refine A.iconst (q := 40) (v := (1 : Int32)) d24_39 rfl (by decide) ?_
       obtain ⟨v17, e17⟩ : ∃ v : Int32, (a1 (u1 (u1 fl (0 : Int32)) (1 : Int32)) (2 : Int32) (a1 (u1 fl (0 : Int32)) (1 : Int32) (a1 fl (0 : Int32) (cnt fl)))) - (1 : Int32) = v := ⟨_, rfl⟩
       refine A.isub (q := 41) d24_40 rfl e17 ?_
       refine A.putF (q := 44) (w := 15) (w2 := 16) (w3 := 1) (i := 0) (j := 2) (ty := .int) (v' := (.int v17)) (L' := ((r0, ob1 (.ref r1) (.ref r2) (.int v17) (.long (0 : Int64)) (.long hi) (.long lo) .null .null) :: (r2, .inr (.byte, List.map Value.int ((u1 (u1 (u1 fl (0 : Int32)) (1 : Int32)) (2 : Int32)).set ((3 : Int32)).toNatClampNeg (1 : Int32)))) :: (r5, .inr (.int, [(.int pa), (.int pb)])) :: RR)) d24_41 rfl rfl rfl rfl (lay_0 Z a0 hw) (Or.inl rfl) rfl (by decide) rfl rfl rfl ?_
       intro T A
       exact J18_19 T _ (((u1 (u1 (u1 fl (0 : Int32)) (1 : Int32)) (2 : Int32)).set ((3 : Int32)).toNatClampNeg (1 : Int32))) (by simp only [e17, if_pos h16]) (by simp only [e17, if_pos h16]) A
    refine A.aloadN (q := 19) d24_18 rfl rfl rfl ?_
    refine A.getF (q := 22) (w := 13) (i := 0) (j := 1) d24_19 rfl rfl rfl rfl ?_
    intro T A
    refine A.iloadN (q := 23) d24_22 rfl rfl ?_
    refine A.baloadBM (q := 24) (i := 1) (v := ((u1 (u1 fl (0 : Int32)) (1 : Int32)).getD ((2 : Int32)).toNatClampNeg (0 : Int32))) d24_23 rfl rfl (by decide) (own_gd (by rw [(show (u1 (u1 fl (0 : Int32)) (1 : Int32)).length = 4 by simp only [List.length_set, own_u1len, own_fblen, own_mkLlen, own_l2Llen, own_uLlen, own_umlen, len_fl])]; decide)) ?_
    refine A.if_ne (q := 27) (r := 44) d24_24 rfl (by decide) (fun h11 => ?_) (fun h11 => ?_)
    · exact J18_14 T _ ((u1 (u1 fl (0 : Int32)) (1 : Int32))) (by simp only [if_neg h11]) (by simp only [if_neg h11]) A
    · refine A.aloadN (q := 28) d24_27 rfl rfl rfl ?_
      refine A.getF (q := 31) (w := 13) (i := 0) (j := 1) d24_28 rfl rfl rfl rfl ?_
      intro T A
      refine A.iloadN (q := 32) d24_31 rfl rfl ?_
      refine A.iconst (q := 33) (v := (1 : Int32)) d24_32 rfl (by decide) ?_
      refine A.bastoreBM (q := 34) (i := 1) (x' := (1 : Int32)) (L' := ((r0, ob1 (.ref r1) (.ref r2) (.int (a1 (u1 fl (0 : Int32)) (1 : Int32) (a1 fl (0 : Int32) (cnt fl)))) (.long (0 : Int64)) (.long hi) (.long lo) .null .null) :: (r2, .inr (.byte, List.map Value.int ((u1 (u1 fl (0 : Int32)) (1 : Int32)).set ((2 : Int32)).toNatClampNeg (1 : Int32)))) :: (r5, .inr (.int, [(.int pa), (.int pb)])) :: RR)) d24_33 rfl rfl (by decide) (by rw [(show (u1 (u1 fl (0 : Int32)) (1 : Int32)).length = 4 by simp only [List.length_set, own_u1len, own_fblen, own_mkLlen, own_l2Llen, own_uLlen, own_umlen, len_fl])]; decide) (by decide) rfl ?_
      intro T A
      refine A.aloadN (q := 35) d24_34 rfl rfl rfl ?_
      refine A.dup (q := 36) d24_35 rfl rfl ?_
      refine A.getF (q := 39) (w := 15) (i := 0) (j := 2) d24_36 rfl rfl rfl rfl ?_
      intro T A
      refine A.iconst (q := 40) (v := (1 : Int32)) d24_39 rfl (by decide) ?_
      obtain ⟨v12, e12⟩ : ∃ v : Int32, (a1 (u1 fl (0 : Int32)) (1 : Int32) (a1 fl (0 : Int32) (cnt fl))) - (1 : Int32) = v := ⟨_, rfl⟩
      refine A.isub (q := 41) d24_40 rfl e12 ?_
      refine A.putF (q := 44) (w := 15) (w2 := 16) (w3 := 1) (i := 0) (j := 2) (ty := .int) (v' := (.int v12)) (L' := ((r0, ob1 (.ref r1) (.ref r2) (.int v12) (.long (0 : Int64)) (.long hi) (.long lo) .null .null) :: (r2, .inr (.byte, List.map Value.int ((u1 (u1 fl (0 : Int32)) (1 : Int32)).set ((2 : Int32)).toNatClampNeg (1 : Int32)))) :: (r5, .inr (.int, [(.int pa), (.int pb)])) :: RR)) d24_41 rfl rfl rfl rfl (lay_0 Z a0 hw) (Or.inl rfl) rfl (by decide) rfl rfl rfl ?_
      intro T A
      exact J18_14 T _ (((u1 (u1 fl (0 : Int32)) (1 : Int32)).set ((2 : Int32)).toNatClampNeg (1 : Int32))) (by simp only [e12, if_pos h11]) (by simp only [e12, if_pos h11]) A
   refine A.aloadN (q := 19) d24_18 rfl rfl rfl ?_
   refine A.getF (q := 22) (w := 13) (i := 0) (j := 1) d24_19 rfl rfl rfl rfl ?_
   intro T A
   refine A.iloadN (q := 23) d24_22 rfl rfl ?_
   refine A.baloadBM (q := 24) (i := 1) (v := ((u1 fl (0 : Int32)).getD ((1 : Int32)).toNatClampNeg (0 : Int32))) d24_23 rfl rfl (by decide) (own_gd (by rw [(show (u1 fl (0 : Int32)).length = 4 by simp only [List.length_set, own_u1len, own_fblen, own_mkLlen, own_l2Llen, own_uLlen, own_umlen, len_fl])]; decide)) ?_
   refine A.if_ne (q := 27) (r := 44) d24_24 rfl (by decide) (fun h6 => ?_) (fun h6 => ?_)
   · exact J18_9 T _ ((u1 fl (0 : Int32))) (by simp only [if_neg h6]) (by simp only [if_neg h6]) A
   · refine A.aloadN (q := 28) d24_27 rfl rfl rfl ?_
     refine A.getF (q := 31) (w := 13) (i := 0) (j := 1) d24_28 rfl rfl rfl rfl ?_
     intro T A
     refine A.iloadN (q := 32) d24_31 rfl rfl ?_
     refine A.iconst (q := 33) (v := (1 : Int32)) d24_32 rfl (by decide) ?_
     refine A.bastoreBM (q := 34) (i := 1) (x' := (1 : Int32)) (L' := ((r0, ob1 (.ref r1) (.ref r2) (.int (a1 fl (0 : Int32) (cnt fl))) (.long (0 : Int64)) (.long hi) (.long lo) .null .null) :: (r2, .inr (.byte, List.map Value.int ((u1 fl (0 : Int32)).set ((1 : Int32)).toNatClampNeg (1 : Int32)))) :: (r5, .inr (.int, [(.int pa), (.int pb)])) :: RR)) d24_33 rfl rfl (by decide) (by rw [(show (u1 fl (0 : Int32)).length = 4 by simp only [List.length_set, own_u1len, own_fblen, own_mkLlen, own_l2Llen, own_uLlen, own_umlen, len_fl])]; decide) (by decide) rfl ?_
     intro T A
     refine A.aloadN (q := 35) d24_34 rfl rfl rfl ?_
     refine A.dup (q := 36) d24_35 rfl rfl ?_
     refine A.getF (q := 39) (w := 15) (i := 0) (j := 2) d24_36 rfl rfl rfl rfl ?_
     intro T A
     refine A.iconst (q := 40) (v := (1 : Int32)) d24_39 rfl (by decide) ?_
     obtain ⟨v7, e7⟩ : ∃ v : Int32, (a1 fl (0 : Int32) (cnt fl)) - (1 : Int32) = v := ⟨_, rfl⟩
     refine A.isub (q := 41) d24_40 rfl e7 ?_
     refine A.putF (q := 44) (w := 15) (w2 := 16) (w3 := 1) (i := 0) (j := 2) (ty := .int) (v' := (.int v7)) (L' := ((r0, ob1 (.ref r1) (.ref r2) (.int v7) (.long (0 : Int64)) (.long hi) (.long lo) .null .null) :: (r2, .inr (.byte, List.map Value.int ((u1 fl (0 : Int32)).set ((1 : Int32)).toNatClampNeg (1 : Int32)))) :: (r5, .inr (.int, [(.int pa), (.int pb)])) :: RR)) d24_41 rfl rfl rfl rfl (lay_0 Z a0 hw) (Or.inl rfl) rfl (by decide) rfl rfl rfl ?_
     intro T A
     exact J18_9 T _ (((u1 fl (0 : Int32)).set ((1 : Int32)).toNatClampNeg (1 : Int32))) (by simp only [e7, if_pos h6]) (by simp only [e7, if_pos h6]) A
  refine A.aloadN (q := 19) d24_18 rfl rfl rfl ?_
  refine A.getF (q := 22) (w := 13) (i := 0) (j := 1) d24_19 rfl rfl rfl rfl ?_
  intro T A
  refine A.iloadN (q := 23) d24_22 rfl rfl ?_
  refine A.baloadBM (q := 24) (i := 1) (v := (fl.getD ((0 : Int32)).toNatClampNeg (0 : Int32))) d24_23 rfl rfl (by decide) (own_gd (by rw [len_fl]; decide)) ?_
  refine A.if_ne (q := 27) (r := 44) d24_24 rfl (by decide) (fun h1 => ?_) (fun h1 => ?_)
  · exact J18_4 T _ (fl) (by simp only [if_neg h1]) (by simp only [if_neg h1]) A
  · refine A.aloadN (q := 28) d24_27 rfl rfl rfl ?_
    refine A.getF (q := 31) (w := 13) (i := 0) (j := 1) d24_28 rfl rfl rfl rfl ?_
    intro T A
    refine A.iloadN (q := 32) d24_31 rfl rfl ?_
    refine A.iconst (q := 33) (v := (1 : Int32)) d24_32 rfl (by decide) ?_
    refine A.bastoreBM (q := 34) (i := 1) (x' := (1 : Int32)) (L' := ((r0, ob1 (.ref r1) (.ref r2) (.int (cnt fl)) (.long (0 : Int64)) (.long hi) (.long lo) .null .null) :: (r2, .inr (.byte, List.map Value.int (fl.set ((0 : Int32)).toNatClampNeg (1 : Int32)))) :: (r5, .inr (.int, [(.int pa), (.int pb)])) :: RR)) d24_33 rfl rfl (by decide) (by rw [len_fl]; decide) (by decide) rfl ?_
    intro T A
    refine A.aloadN (q := 35) d24_34 rfl rfl rfl ?_
    refine A.dup (q := 36) d24_35 rfl rfl ?_
    refine A.getF (q := 39) (w := 15) (i := 0) (j := 2) d24_36 rfl rfl rfl rfl ?_
    intro T A
    refine A.iconst (q := 40) (v := (1 : Int32)) d24_39 rfl (by decide) ?_
    obtain ⟨v2, e2⟩ : ∃ v : Int32, (cnt fl) - (1 : Int32) = v := ⟨_, rfl⟩
    refine A.isub (q := 41) d24_40 rfl e2 ?_
    refine A.putF (q := 44) (w := 15) (w2 := 16) (w3 := 1) (i := 0) (j := 2) (ty := .int) (v' := (.int v2)) (L' := ((r0, ob1 (.ref r1) (.ref r2) (.int v2) (.long (0 : Int64)) (.long hi) (.long lo) .null .null) :: (r2, .inr (.byte, List.map Value.int (fl.set ((0 : Int32)).toNatClampNeg (1 : Int32)))) :: (r5, .inr (.int, [(.int pa), (.int pb)])) :: RR)) d24_41 rfl rfl rfl rfl (lay_0 Z a0 hw) (Or.inl rfl) rfl (by decide) rfl rfl rfl ?_
    intro T A
    exact J18_4 T _ ((fl.set ((0 : Int32)).toNatClampNeg (1 : Int32))) (by simp only [e2, if_pos h1]) (by simp only [e2, if_pos h1]) A
theorem own_f10 (sg : Fin 28) (pg : Fin 12) (f1 f2 : Int32) (hf1 : f1 = 0 ∨ f1 = 1) (hf2 : f2 = 0 ∨ f2 = 1) (hS : 11 ≤ sg.val) : ((0 : Int32) < (svO sg).length.toInt32) → ((0 : Int32)).toNatClampNeg < (svO sg).length := by
  (revert hS; revert sg; decide +kernel)
theorem own_g21 (sg : Fin 28) (pg : Fin 12) (f1 f2 : Int32) (hf1 : f1 = 0 ∨ f1 = 1) (hf2 : f2 = 0 ∨ f2 = 1) (hS : 11 ≤ sg.val) (fl : List Int32) (hfl : l2O sg pg f1 f2 = fl) (pa : Int32) (hpa : pA pg = pa) (pb : Int32) (hpb : pB pg = pb) (sv : List Int32) (hsv : svO sg = sv) (h1 : (0 : Int32) < sv.length.toInt32) : ((0 : Int32)).toNatClampNeg < sv.length := by
  subst hfl hpa hpb hsv; exact own_f10 sg pg f1 f2 hf1 hf2 hS h1
theorem own_f11 (sg : Fin 28) (pg : Fin 12) (f1 f2 : Int32) (hf1 : f1 = 0 ∨ f1 = 1) (hf2 : f2 = 0 ∨ f2 = 1) (hS : 11 ≤ sg.val) : ((0 : Int32) < (svO sg).length.toInt32) → ¬ ((svO sg).getD ((0 : Int32)).toNatClampNeg (0 : Int32)) < 0 := by
  (revert hS; revert sg; decide +kernel)
theorem own_g22 (sg : Fin 28) (pg : Fin 12) (f1 f2 : Int32) (hf1 : f1 = 0 ∨ f1 = 1) (hf2 : f2 = 0 ∨ f2 = 1) (hS : 11 ≤ sg.val) (fl : List Int32) (hfl : l2O sg pg f1 f2 = fl) (pa : Int32) (hpa : pA pg = pa) (pb : Int32) (hpb : pB pg = pb) (sv : List Int32) (hsv : svO sg = sv) (h1 : (0 : Int32) < sv.length.toInt32) : ¬ (sv.getD ((0 : Int32)).toNatClampNeg (0 : Int32)) < 0 := by
  subst hfl hpa hpb hsv; exact own_f11 sg pg f1 f2 hf1 hf2 hS h1
theorem own_f12 (sg : Fin 28) (pg : Fin 12) (f1 f2 : Int32) (hf1 : f1 = 0 ∨ f1 = 1) (hf2 : f2 = 0 ∨ f2 = 1) (hS : 11 ≤ sg.val) : ((0 : Int32) < (svO sg).length.toInt32) → (((svO sg).getD ((0 : Int32)).toNatClampNeg (0 : Int32))).toNatClampNeg < 4 := by
  (revert hS; revert sg; decide +kernel)
theorem own_g23 (sg : Fin 28) (pg : Fin 12) (f1 f2 : Int32) (hf1 : f1 = 0 ∨ f1 = 1) (hf2 : f2 = 0 ∨ f2 = 1) (hS : 11 ≤ sg.val) (fl : List Int32) (hfl : l2O sg pg f1 f2 = fl) (pa : Int32) (hpa : pA pg = pa) (pb : Int32) (hpb : pB pg = pb) (sv : List Int32) (hsv : svO sg = sv) (h1 : (0 : Int32) < sv.length.toInt32) : ((sv.getD ((0 : Int32)).toNatClampNeg (0 : Int32))).toNatClampNeg < 4 := by
  subst hfl hpa hpb hsv; exact own_f12 sg pg f1 f2 hf1 hf2 hS h1
theorem own_f13 (sg : Fin 28) (pg : Fin 12) (f1 f2 : Int32) (hf1 : f1 = 0 ∨ f1 = 1) (hf2 : f2 = 0 ∨ f2 = 1) (hS : 11 ≤ sg.val) : ((0 : Int32) < (svO sg).length.toInt32) → (((l2O sg pg f1 f2).getD (((svO sg).getD ((0 : Int32)).toNatClampNeg (0 : Int32))).toNatClampNeg (0 : Int32)) = (0 : Int32)) → ¬ ((svO sg).getD ((0 : Int32)).toNatClampNeg (0 : Int32)) < 0 := by
  rcases hf1 with rfl | rfl <;> rcases hf2 with rfl | rfl <;> (revert hS; revert pg; revert sg; decide +kernel)
theorem own_g24 (sg : Fin 28) (pg : Fin 12) (f1 f2 : Int32) (hf1 : f1 = 0 ∨ f1 = 1) (hf2 : f2 = 0 ∨ f2 = 1) (hS : 11 ≤ sg.val) (fl : List Int32) (hfl : l2O sg pg f1 f2 = fl) (pa : Int32) (hpa : pA pg = pa) (pb : Int32) (hpb : pB pg = pb) (sv : List Int32) (hsv : svO sg = sv) (h1 : (0 : Int32) < sv.length.toInt32) (h2 : (fl.getD ((sv.getD ((0 : Int32)).toNatClampNeg (0 : Int32))).toNatClampNeg (0 : Int32)) = (0 : Int32)) : ¬ (sv.getD ((0 : Int32)).toNatClampNeg (0 : Int32)) < 0 := by
  subst hfl hpa hpb hsv; exact own_f13 sg pg f1 f2 hf1 hf2 hS h1 h2
theorem own_f14 (sg : Fin 28) (pg : Fin 12) (f1 f2 : Int32) (hf1 : f1 = 0 ∨ f1 = 1) (hf2 : f2 = 0 ∨ f2 = 1) (hS : 11 ≤ sg.val) : ((0 : Int32) < (svO sg).length.toInt32) → (((l2O sg pg f1 f2).getD (((svO sg).getD ((0 : Int32)).toNatClampNeg (0 : Int32))).toNatClampNeg (0 : Int32)) = (0 : Int32)) → (((svO sg).getD ((0 : Int32)).toNatClampNeg (0 : Int32))).toNatClampNeg < 4 := by
  rcases hf1 with rfl | rfl <;> rcases hf2 with rfl | rfl <;> (revert hS; revert pg; revert sg; decide +kernel)
theorem own_g25 (sg : Fin 28) (pg : Fin 12) (f1 f2 : Int32) (hf1 : f1 = 0 ∨ f1 = 1) (hf2 : f2 = 0 ∨ f2 = 1) (hS : 11 ≤ sg.val) (fl : List Int32) (hfl : l2O sg pg f1 f2 = fl) (pa : Int32) (hpa : pA pg = pa) (pb : Int32) (hpb : pB pg = pb) (sv : List Int32) (hsv : svO sg = sv) (h1 : (0 : Int32) < sv.length.toInt32) (h2 : (fl.getD ((sv.getD ((0 : Int32)).toNatClampNeg (0 : Int32))).toNatClampNeg (0 : Int32)) = (0 : Int32)) : ((sv.getD ((0 : Int32)).toNatClampNeg (0 : Int32))).toNatClampNeg < 4 := by
  subst hfl hpa hpb hsv; exact own_f14 sg pg f1 f2 hf1 hf2 hS h1 h2
theorem own_f15 (sg : Fin 28) (pg : Fin 12) (f1 f2 : Int32) (hf1 : f1 = 0 ∨ f1 = 1) (hf2 : f2 = 0 ∨ f2 = 1) (hS : 11 ≤ sg.val) : ((0 : Int32) < (svO sg).length.toInt32) → ((1 : Int32) < (svO sg).length.toInt32) → ((1 : Int32)).toNatClampNeg < (svO sg).length := by
  (revert hS; revert sg; decide +kernel)
theorem own_g26 (sg : Fin 28) (pg : Fin 12) (f1 f2 : Int32) (hf1 : f1 = 0 ∨ f1 = 1) (hf2 : f2 = 0 ∨ f2 = 1) (hS : 11 ≤ sg.val) (fl : List Int32) (hfl : l2O sg pg f1 f2 = fl) (pa : Int32) (hpa : pA pg = pa) (pb : Int32) (hpb : pB pg = pb) (sv : List Int32) (hsv : svO sg = sv) (h1 : (0 : Int32) < sv.length.toInt32) (h6 : (1 : Int32) < sv.length.toInt32) : ((1 : Int32)).toNatClampNeg < sv.length := by
  subst hfl hpa hpb hsv; exact own_f15 sg pg f1 f2 hf1 hf2 hS h1 h6
theorem own_f16 (sg : Fin 28) (pg : Fin 12) (f1 f2 : Int32) (hf1 : f1 = 0 ∨ f1 = 1) (hf2 : f2 = 0 ∨ f2 = 1) (hS : 11 ≤ sg.val) : ((0 : Int32) < (svO sg).length.toInt32) → ((1 : Int32) < (svO sg).length.toInt32) → ¬ ((svO sg).getD ((1 : Int32)).toNatClampNeg (0 : Int32)) < 0 := by
  (revert hS; revert sg; decide +kernel)
theorem own_g27 (sg : Fin 28) (pg : Fin 12) (f1 f2 : Int32) (hf1 : f1 = 0 ∨ f1 = 1) (hf2 : f2 = 0 ∨ f2 = 1) (hS : 11 ≤ sg.val) (fl : List Int32) (hfl : l2O sg pg f1 f2 = fl) (pa : Int32) (hpa : pA pg = pa) (pb : Int32) (hpb : pB pg = pb) (sv : List Int32) (hsv : svO sg = sv) (h1 : (0 : Int32) < sv.length.toInt32) (h6 : (1 : Int32) < sv.length.toInt32) : ¬ (sv.getD ((1 : Int32)).toNatClampNeg (0 : Int32)) < 0 := by
  subst hfl hpa hpb hsv; exact own_f16 sg pg f1 f2 hf1 hf2 hS h1 h6
theorem own_f17 (sg : Fin 28) (pg : Fin 12) (f1 f2 : Int32) (hf1 : f1 = 0 ∨ f1 = 1) (hf2 : f2 = 0 ∨ f2 = 1) (hS : 11 ≤ sg.val) : ((0 : Int32) < (svO sg).length.toInt32) → ((1 : Int32) < (svO sg).length.toInt32) → (((svO sg).getD ((1 : Int32)).toNatClampNeg (0 : Int32))).toNatClampNeg < 4 := by
  (revert hS; revert sg; decide +kernel)
theorem own_g28 (sg : Fin 28) (pg : Fin 12) (f1 f2 : Int32) (hf1 : f1 = 0 ∨ f1 = 1) (hf2 : f2 = 0 ∨ f2 = 1) (hS : 11 ≤ sg.val) (fl : List Int32) (hfl : l2O sg pg f1 f2 = fl) (pa : Int32) (hpa : pA pg = pa) (pb : Int32) (hpb : pB pg = pb) (sv : List Int32) (hsv : svO sg = sv) (h1 : (0 : Int32) < sv.length.toInt32) (h6 : (1 : Int32) < sv.length.toInt32) : ((sv.getD ((1 : Int32)).toNatClampNeg (0 : Int32))).toNatClampNeg < 4 := by
  subst hfl hpa hpb hsv; exact own_f17 sg pg f1 f2 hf1 hf2 hS h1 h6
theorem own_f18 (sg : Fin 28) (pg : Fin 12) (f1 f2 : Int32) (hf1 : f1 = 0 ∨ f1 = 1) (hf2 : f2 = 0 ∨ f2 = 1) (hS : 11 ≤ sg.val) : ((0 : Int32) < (svO sg).length.toInt32) → ((1 : Int32) < (svO sg).length.toInt32) → ((((if ((l2O sg pg f1 f2).getD (((svO sg).getD ((0 : Int32)).toNatClampNeg (0 : Int32))).toNatClampNeg (0 : Int32)) = (0 : Int32) then ((l2O sg pg f1 f2).set (((svO sg).getD ((0 : Int32)).toNatClampNeg (0 : Int32))).toNatClampNeg ((((l2O sg pg f1 f2).getD (((svO sg).getD ((0 : Int32)).toNatClampNeg (0 : Int32))).toNatClampNeg (0 : Int32)) ||| (1 : Int32)).toInt8.toInt32)) else (l2O sg pg f1 f2))).getD (((svO sg).getD ((1 : Int32)).toNatClampNeg (0 : Int32))).toNatClampNeg (0 : Int32)) = (0 : Int32)) → ¬ ((svO sg).getD ((1 : Int32)).toNatClampNeg (0 : Int32)) < 0 := by
  rcases hf1 with rfl | rfl <;> rcases hf2 with rfl | rfl <;> (revert hS; revert pg; revert sg; decide +kernel)
theorem own_g29 (sg : Fin 28) (pg : Fin 12) (f1 f2 : Int32) (hf1 : f1 = 0 ∨ f1 = 1) (hf2 : f2 = 0 ∨ f2 = 1) (hS : 11 ≤ sg.val) (fl : List Int32) (hfl : l2O sg pg f1 f2 = fl) (pa : Int32) (hpa : pA pg = pa) (pb : Int32) (hpb : pB pg = pb) (sv : List Int32) (hsv : svO sg = sv) (j4 : List Int32) (ej4 : j4 = (if (fl.getD ((sv.getD ((0 : Int32)).toNatClampNeg (0 : Int32))).toNatClampNeg (0 : Int32)) = (0 : Int32) then (fl.set ((sv.getD ((0 : Int32)).toNatClampNeg (0 : Int32))).toNatClampNeg (((fl.getD ((sv.getD ((0 : Int32)).toNatClampNeg (0 : Int32))).toNatClampNeg (0 : Int32)) ||| (1 : Int32)).toInt8.toInt32)) else fl)) (h1 : (0 : Int32) < sv.length.toInt32) (h6 : (1 : Int32) < sv.length.toInt32) (h7 : (j4.getD ((sv.getD ((1 : Int32)).toNatClampNeg (0 : Int32))).toNatClampNeg (0 : Int32)) = (0 : Int32)) : ¬ (sv.getD ((1 : Int32)).toNatClampNeg (0 : Int32)) < 0 := by
  subst hfl hpa hpb hsv ej4; exact own_f18 sg pg f1 f2 hf1 hf2 hS h1 h6 h7
theorem own_f19 (sg : Fin 28) (pg : Fin 12) (f1 f2 : Int32) (hf1 : f1 = 0 ∨ f1 = 1) (hf2 : f2 = 0 ∨ f2 = 1) (hS : 11 ≤ sg.val) : ((0 : Int32) < (svO sg).length.toInt32) → ((1 : Int32) < (svO sg).length.toInt32) → ((((if ((l2O sg pg f1 f2).getD (((svO sg).getD ((0 : Int32)).toNatClampNeg (0 : Int32))).toNatClampNeg (0 : Int32)) = (0 : Int32) then ((l2O sg pg f1 f2).set (((svO sg).getD ((0 : Int32)).toNatClampNeg (0 : Int32))).toNatClampNeg ((((l2O sg pg f1 f2).getD (((svO sg).getD ((0 : Int32)).toNatClampNeg (0 : Int32))).toNatClampNeg (0 : Int32)) ||| (1 : Int32)).toInt8.toInt32)) else (l2O sg pg f1 f2))).getD (((svO sg).getD ((1 : Int32)).toNatClampNeg (0 : Int32))).toNatClampNeg (0 : Int32)) = (0 : Int32)) → (((svO sg).getD ((1 : Int32)).toNatClampNeg (0 : Int32))).toNatClampNeg < 4 := by
  rcases hf1 with rfl | rfl <;> rcases hf2 with rfl | rfl <;> (revert hS; revert pg; revert sg; decide +kernel)
theorem own_g30 (sg : Fin 28) (pg : Fin 12) (f1 f2 : Int32) (hf1 : f1 = 0 ∨ f1 = 1) (hf2 : f2 = 0 ∨ f2 = 1) (hS : 11 ≤ sg.val) (fl : List Int32) (hfl : l2O sg pg f1 f2 = fl) (pa : Int32) (hpa : pA pg = pa) (pb : Int32) (hpb : pB pg = pb) (sv : List Int32) (hsv : svO sg = sv) (j4 : List Int32) (ej4 : j4 = (if (fl.getD ((sv.getD ((0 : Int32)).toNatClampNeg (0 : Int32))).toNatClampNeg (0 : Int32)) = (0 : Int32) then (fl.set ((sv.getD ((0 : Int32)).toNatClampNeg (0 : Int32))).toNatClampNeg (((fl.getD ((sv.getD ((0 : Int32)).toNatClampNeg (0 : Int32))).toNatClampNeg (0 : Int32)) ||| (1 : Int32)).toInt8.toInt32)) else fl)) (h1 : (0 : Int32) < sv.length.toInt32) (h6 : (1 : Int32) < sv.length.toInt32) (h7 : (j4.getD ((sv.getD ((1 : Int32)).toNatClampNeg (0 : Int32))).toNatClampNeg (0 : Int32)) = (0 : Int32)) : ((sv.getD ((1 : Int32)).toNatClampNeg (0 : Int32))).toNatClampNeg < 4 := by
  subst hfl hpa hpb hsv ej4; exact own_f19 sg pg f1 f2 hf1 hf2 hS h1 h6 h7
theorem own_f20 (sg : Fin 28) (pg : Fin 12) (f1 f2 : Int32) (hf1 : f1 = 0 ∨ f1 = 1) (hf2 : f2 = 0 ∨ f2 = 1) (hS : 11 ≤ sg.val) : ¬ (2 : Int32) < (svO sg).length.toInt32 := by
  (revert hS; revert sg; decide +kernel)
theorem own_g31 (sg : Fin 28) (pg : Fin 12) (f1 f2 : Int32) (hf1 : f1 = 0 ∨ f1 = 1) (hf2 : f2 = 0 ∨ f2 = 1) (hS : 11 ≤ sg.val) (fl : List Int32) (hfl : l2O sg pg f1 f2 = fl) (pa : Int32) (hpa : pA pg = pa) (pb : Int32) (hpb : pB pg = pb) (sv : List Int32) (hsv : svO sg = sv) : ¬ (2 : Int32) < sv.length.toInt32 := by
  subst hfl hpa hpb hsv; exact own_f20 sg pg f1 f2 hf1 hf2 hS 
theorem own_f21 (sg : Fin 28) (pg : Fin 12) (f1 f2 : Int32) (hf1 : f1 = 0 ∨ f1 = 1) (hf2 : f2 = 0 ∨ f2 = 1) (hS : 11 ≤ sg.val) : ((if (0 : Int32) < (svO sg).length.toInt32 then (if (1 : Int32) < (svO sg).length.toInt32 then ((if (((if ((l2O sg pg f1 f2).getD (((svO sg).getD ((0 : Int32)).toNatClampNeg (0 : Int32))).toNatClampNeg (0 : Int32)) = (0 : Int32) then ((l2O sg pg f1 f2).set (((svO sg).getD ((0 : Int32)).toNatClampNeg (0 : Int32))).toNatClampNeg ((((l2O sg pg f1 f2).getD (((svO sg).getD ((0 : Int32)).toNatClampNeg (0 : Int32))).toNatClampNeg (0 : Int32)) ||| (1 : Int32)).toInt8.toInt32)) else (l2O sg pg f1 f2))).getD (((svO sg).getD ((1 : Int32)).toNatClampNeg (0 : Int32))).toNatClampNeg (0 : Int32)) = (0 : Int32) then (((if ((l2O sg pg f1 f2).getD (((svO sg).getD ((0 : Int32)).toNatClampNeg (0 : Int32))).toNatClampNeg (0 : Int32)) = (0 : Int32) then ((l2O sg pg f1 f2).set (((svO sg).getD ((0 : Int32)).toNatClampNeg (0 : Int32))).toNatClampNeg ((((l2O sg pg f1 f2).getD (((svO sg).getD ((0 : Int32)).toNatClampNeg (0 : Int32))).toNatClampNeg (0 : Int32)) ||| (1 : Int32)).toInt8.toInt32)) else (l2O sg pg f1 f2))).set (((svO sg).getD ((1 : Int32)).toNatClampNeg (0 : Int32))).toNatClampNeg (((((if ((l2O sg pg f1 f2).getD (((svO sg).getD ((0 : Int32)).toNatClampNeg (0 : Int32))).toNatClampNeg (0 : Int32)) = (0 : Int32) then ((l2O sg pg f1 f2).set (((svO sg).getD ((0 : Int32)).toNatClampNeg (0 : Int32))).toNatClampNeg ((((l2O sg pg f1 f2).getD (((svO sg).getD ((0 : Int32)).toNatClampNeg (0 : Int32))).toNatClampNeg (0 : Int32)) ||| (1 : Int32)).toInt8.toInt32)) else (l2O sg pg f1 f2))).getD (((svO sg).getD ((1 : Int32)).toNatClampNeg (0 : Int32))).toNatClampNeg (0 : Int32)) ||| (1 : Int32)).toInt8.toInt32)) else ((if ((l2O sg pg f1 f2).getD (((svO sg).getD ((0 : Int32)).toNatClampNeg (0 : Int32))).toNatClampNeg (0 : Int32)) = (0 : Int32) then ((l2O sg pg f1 f2).set (((svO sg).getD ((0 : Int32)).toNatClampNeg (0 : Int32))).toNatClampNeg ((((l2O sg pg f1 f2).getD (((svO sg).getD ((0 : Int32)).toNatClampNeg (0 : Int32))).toNatClampNeg (0 : Int32)) ||| (1 : Int32)).toInt8.toInt32)) else (l2O sg pg f1 f2))))) else ((if ((l2O sg pg f1 f2).getD (((svO sg).getD ((0 : Int32)).toNatClampNeg (0 : Int32))).toNatClampNeg (0 : Int32)) = (0 : Int32) then ((l2O sg pg f1 f2).set (((svO sg).getD ((0 : Int32)).toNatClampNeg (0 : Int32))).toNatClampNeg ((((l2O sg pg f1 f2).getD (((svO sg).getD ((0 : Int32)).toNatClampNeg (0 : Int32))).toNatClampNeg (0 : Int32)) ||| (1 : Int32)).toInt8.toInt32)) else (l2O sg pg f1 f2)))) else (l2O sg pg f1 f2))) = (uL (l2O sg pg f1 f2)) := by
  rcases hf1 with rfl | rfl <;> rcases hf2 with rfl | rfl <;> (revert hS; revert pg; revert sg; decide +kernel)
theorem own_g32 (sg : Fin 28) (pg : Fin 12) (f1 f2 : Int32) (hf1 : f1 = 0 ∨ f1 = 1) (hf2 : f2 = 0 ∨ f2 = 1) (hS : 11 ≤ sg.val) (fl : List Int32) (hfl : l2O sg pg f1 f2 = fl) (pa : Int32) (hpa : pA pg = pa) (pb : Int32) (hpb : pB pg = pb) (sv : List Int32) (hsv : svO sg = sv) (j15 : List Int32) (ej15 : j15 = (if (0 : Int32) < sv.length.toInt32 then (if (1 : Int32) < sv.length.toInt32 then ((if (((if (fl.getD ((sv.getD ((0 : Int32)).toNatClampNeg (0 : Int32))).toNatClampNeg (0 : Int32)) = (0 : Int32) then (fl.set ((sv.getD ((0 : Int32)).toNatClampNeg (0 : Int32))).toNatClampNeg (((fl.getD ((sv.getD ((0 : Int32)).toNatClampNeg (0 : Int32))).toNatClampNeg (0 : Int32)) ||| (1 : Int32)).toInt8.toInt32)) else fl)).getD ((sv.getD ((1 : Int32)).toNatClampNeg (0 : Int32))).toNatClampNeg (0 : Int32)) = (0 : Int32) then (((if (fl.getD ((sv.getD ((0 : Int32)).toNatClampNeg (0 : Int32))).toNatClampNeg (0 : Int32)) = (0 : Int32) then (fl.set ((sv.getD ((0 : Int32)).toNatClampNeg (0 : Int32))).toNatClampNeg (((fl.getD ((sv.getD ((0 : Int32)).toNatClampNeg (0 : Int32))).toNatClampNeg (0 : Int32)) ||| (1 : Int32)).toInt8.toInt32)) else fl)).set ((sv.getD ((1 : Int32)).toNatClampNeg (0 : Int32))).toNatClampNeg (((((if (fl.getD ((sv.getD ((0 : Int32)).toNatClampNeg (0 : Int32))).toNatClampNeg (0 : Int32)) = (0 : Int32) then (fl.set ((sv.getD ((0 : Int32)).toNatClampNeg (0 : Int32))).toNatClampNeg (((fl.getD ((sv.getD ((0 : Int32)).toNatClampNeg (0 : Int32))).toNatClampNeg (0 : Int32)) ||| (1 : Int32)).toInt8.toInt32)) else fl)).getD ((sv.getD ((1 : Int32)).toNatClampNeg (0 : Int32))).toNatClampNeg (0 : Int32)) ||| (1 : Int32)).toInt8.toInt32)) else ((if (fl.getD ((sv.getD ((0 : Int32)).toNatClampNeg (0 : Int32))).toNatClampNeg (0 : Int32)) = (0 : Int32) then (fl.set ((sv.getD ((0 : Int32)).toNatClampNeg (0 : Int32))).toNatClampNeg (((fl.getD ((sv.getD ((0 : Int32)).toNatClampNeg (0 : Int32))).toNatClampNeg (0 : Int32)) ||| (1 : Int32)).toInt8.toInt32)) else fl)))) else ((if (fl.getD ((sv.getD ((0 : Int32)).toNatClampNeg (0 : Int32))).toNatClampNeg (0 : Int32)) = (0 : Int32) then (fl.set ((sv.getD ((0 : Int32)).toNatClampNeg (0 : Int32))).toNatClampNeg (((fl.getD ((sv.getD ((0 : Int32)).toNatClampNeg (0 : Int32))).toNatClampNeg (0 : Int32)) ||| (1 : Int32)).toInt8.toInt32)) else fl))) else fl)) : j15 = (uL fl) := by
  subst hfl hpa hpb hsv ej15; exact own_f21 sg pg f1 f2 hf1 hf2 hS 
theorem own_f22 (sg : Fin 28) (pg : Fin 12) (f1 f2 : Int32) (hf1 : f1 = 0 ∨ f1 = 1) (hf2 : f2 = 0 ∨ f2 = 1) (hS : 11 ≤ sg.val) : ((if (0 : Int32) < (svO sg).length.toInt32 then (if (1 : Int32) < (svO sg).length.toInt32 then ((if (((if ((l2O sg pg f1 f2).getD (((svO sg).getD ((0 : Int32)).toNatClampNeg (0 : Int32))).toNatClampNeg (0 : Int32)) = (0 : Int32) then ((l2O sg pg f1 f2).set (((svO sg).getD ((0 : Int32)).toNatClampNeg (0 : Int32))).toNatClampNeg ((((l2O sg pg f1 f2).getD (((svO sg).getD ((0 : Int32)).toNatClampNeg (0 : Int32))).toNatClampNeg (0 : Int32)) ||| (1 : Int32)).toInt8.toInt32)) else (l2O sg pg f1 f2))).getD (((svO sg).getD ((1 : Int32)).toNatClampNeg (0 : Int32))).toNatClampNeg (0 : Int32)) = (0 : Int32) then (((if ((l2O sg pg f1 f2).getD (((svO sg).getD ((0 : Int32)).toNatClampNeg (0 : Int32))).toNatClampNeg (0 : Int32)) = (0 : Int32) then ((cnt (l2O sg pg f1 f2)) - (1 : Int32)) else (cnt (l2O sg pg f1 f2)))) - (1 : Int32)) else ((if ((l2O sg pg f1 f2).getD (((svO sg).getD ((0 : Int32)).toNatClampNeg (0 : Int32))).toNatClampNeg (0 : Int32)) = (0 : Int32) then ((cnt (l2O sg pg f1 f2)) - (1 : Int32)) else (cnt (l2O sg pg f1 f2)))))) else ((if ((l2O sg pg f1 f2).getD (((svO sg).getD ((0 : Int32)).toNatClampNeg (0 : Int32))).toNatClampNeg (0 : Int32)) = (0 : Int32) then ((cnt (l2O sg pg f1 f2)) - (1 : Int32)) else (cnt (l2O sg pg f1 f2))))) else (cnt (l2O sg pg f1 f2)))) = (cnt (uL (l2O sg pg f1 f2))) := by
  rcases hf1 with rfl | rfl <;> rcases hf2 with rfl | rfl <;> (revert hS; revert pg; revert sg; decide +kernel)
theorem own_g33 (sg : Fin 28) (pg : Fin 12) (f1 f2 : Int32) (hf1 : f1 = 0 ∨ f1 = 1) (hf2 : f2 = 0 ∨ f2 = 1) (hS : 11 ≤ sg.val) (fl : List Int32) (hfl : l2O sg pg f1 f2 = fl) (pa : Int32) (hpa : pA pg = pa) (pb : Int32) (hpb : pB pg = pb) (sv : List Int32) (hsv : svO sg = sv) (j14 : Int32) (ej14 : j14 = (if (0 : Int32) < sv.length.toInt32 then (if (1 : Int32) < sv.length.toInt32 then ((if (((if (fl.getD ((sv.getD ((0 : Int32)).toNatClampNeg (0 : Int32))).toNatClampNeg (0 : Int32)) = (0 : Int32) then (fl.set ((sv.getD ((0 : Int32)).toNatClampNeg (0 : Int32))).toNatClampNeg (((fl.getD ((sv.getD ((0 : Int32)).toNatClampNeg (0 : Int32))).toNatClampNeg (0 : Int32)) ||| (1 : Int32)).toInt8.toInt32)) else fl)).getD ((sv.getD ((1 : Int32)).toNatClampNeg (0 : Int32))).toNatClampNeg (0 : Int32)) = (0 : Int32) then (((if (fl.getD ((sv.getD ((0 : Int32)).toNatClampNeg (0 : Int32))).toNatClampNeg (0 : Int32)) = (0 : Int32) then ((cnt fl) - (1 : Int32)) else (cnt fl))) - (1 : Int32)) else ((if (fl.getD ((sv.getD ((0 : Int32)).toNatClampNeg (0 : Int32))).toNatClampNeg (0 : Int32)) = (0 : Int32) then ((cnt fl) - (1 : Int32)) else (cnt fl))))) else ((if (fl.getD ((sv.getD ((0 : Int32)).toNatClampNeg (0 : Int32))).toNatClampNeg (0 : Int32)) = (0 : Int32) then ((cnt fl) - (1 : Int32)) else (cnt fl)))) else (cnt fl))) : j14 = (cnt (uL fl)) := by
  subst hfl hpa hpb hsv ej14; exact own_f22 sg pg f1 f2 hf1 hf2 hS 
theorem own_f23 (sg : Fin 28) (pg : Fin 12) (f1 f2 : Int32) (hf1 : f1 = 0 ∨ f1 = 1) (hf2 : f2 = 0 ∨ f2 = 1) (hS : 11 ≤ sg.val) : ¬ (cnt (uL (l2O sg pg f1 f2))) < 0 := by
  rcases hf1 with rfl | rfl <;> rcases hf2 with rfl | rfl <;> (revert hS; revert pg; revert sg; decide +kernel)
theorem own_g34 (sg : Fin 28) (pg : Fin 12) (f1 f2 : Int32) (hf1 : f1 = 0 ∨ f1 = 1) (hf2 : f2 = 0 ∨ f2 = 1) (hS : 11 ≤ sg.val) (fl : List Int32) (hfl : l2O sg pg f1 f2 = fl) (pa : Int32) (hpa : pA pg = pa) (pb : Int32) (hpb : pB pg = pb) (sv : List Int32) (hsv : svO sg = sv) : ¬ (cnt (uL fl)) < 0 := by
  subst hfl hpa hpb hsv; exact own_f23 sg pg f1 f2 hf1 hf2 hS 
theorem own_f24 (sg : Fin 28) (pg : Fin 12) (f1 f2 : Int32) (hf1 : f1 = 0 ∨ f1 = 1) (hf2 : f2 = 0 ∨ f2 = 1) (hS : 11 ≤ sg.val) : ((cnt (uL (l2O sg pg f1 f2)))).toNatClampNeg ≤ 2 := by
  rcases hf1 with rfl | rfl <;> rcases hf2 with rfl | rfl <;> (revert hS; revert pg; revert sg; decide +kernel)
theorem own_g35 (sg : Fin 28) (pg : Fin 12) (f1 f2 : Int32) (hf1 : f1 = 0 ∨ f1 = 1) (hf2 : f2 = 0 ∨ f2 = 1) (hS : 11 ≤ sg.val) (fl : List Int32) (hfl : l2O sg pg f1 f2 = fl) (pa : Int32) (hpa : pA pg = pa) (pb : Int32) (hpb : pB pg = pb) (sv : List Int32) (hsv : svO sg = sv) : ((cnt (uL fl))).toNatClampNeg ≤ 2 := by
  subst hfl hpa hpb hsv; exact own_f24 sg pg f1 f2 hf1 hf2 hS 
theorem own_f25 (sg : Fin 28) (pg : Fin 12) (f1 f2 : Int32) (hf1 : f1 = 0 ∨ f1 = 1) (hf2 : f2 = 0 ∨ f2 = 1) (hS : 11 ≤ sg.val) : ¬ (((FF (pA pg) (uL (l2O sg pg f1 f2)))) = (0 : Int32)) → ¬ (((FF (pB pg) (uL (l2O sg pg f1 f2)))) = (0 : Int32)) → (List.replicate ((cnt (uL (l2O sg pg f1 f2)))).toNatClampNeg (0 : Int32)) = (svL (uL (l2O sg pg f1 f2)) (pA pg) (pB pg)) := by
  rcases hf1 with rfl | rfl <;> rcases hf2 with rfl | rfl <;> (revert hS; revert pg; revert sg; decide +kernel)
theorem own_g36 (sg : Fin 28) (pg : Fin 12) (f1 f2 : Int32) (hf1 : f1 = 0 ∨ f1 = 1) (hf2 : f2 = 0 ∨ f2 = 1) (hS : 11 ≤ sg.val) (fl : List Int32) (hfl : l2O sg pg f1 f2 = fl) (pa : Int32) (hpa : pA pg = pa) (pb : Int32) (hpb : pB pg = pb) (sv : List Int32) (hsv : svO sg = sv) (v18 : Int32) (e18 : (FF pa (uL fl)) = v18) (v20 : Int32) (e20 : (FF pb (uL fl)) = v20) (h19 : ¬ (v18 = (0 : Int32))) (h21 : ¬ (v20 = (0 : Int32))) : (List.replicate ((cnt (uL fl))).toNatClampNeg (0 : Int32)) = (svL (uL fl) pa pb) := by
  subst hfl hpa hpb hsv e18 e20; exact own_f25 sg pg f1 f2 hf1 hf2 hS h19 h21
theorem own_f26 (sg : Fin 28) (pg : Fin 12) (f1 f2 : Int32) (hf1 : f1 = 0 ∨ f1 = 1) (hf2 : f2 = 0 ∨ f2 = 1) (hS : 11 ≤ sg.val) : ¬ (((FF (pA pg) (uL (l2O sg pg f1 f2)))) = (0 : Int32)) → (((FF (pB pg) (uL (l2O sg pg f1 f2)))) = (0 : Int32)) → ((0 : Int32)).toNatClampNeg < (List.replicate ((cnt (uL (l2O sg pg f1 f2)))).toNatClampNeg (0 : Int32)).length := by
  rcases hf1 with rfl | rfl <;> rcases hf2 with rfl | rfl <;> (revert hS; revert pg; revert sg; decide +kernel)
theorem own_g37 (sg : Fin 28) (pg : Fin 12) (f1 f2 : Int32) (hf1 : f1 = 0 ∨ f1 = 1) (hf2 : f2 = 0 ∨ f2 = 1) (hS : 11 ≤ sg.val) (fl : List Int32) (hfl : l2O sg pg f1 f2 = fl) (pa : Int32) (hpa : pA pg = pa) (pb : Int32) (hpb : pB pg = pb) (sv : List Int32) (hsv : svO sg = sv) (v18 : Int32) (e18 : (FF pa (uL fl)) = v18) (v20 : Int32) (e20 : (FF pb (uL fl)) = v20) (h19 : ¬ (v18 = (0 : Int32))) (h21 : v20 = (0 : Int32)) : ((0 : Int32)).toNatClampNeg < (List.replicate ((cnt (uL fl))).toNatClampNeg (0 : Int32)).length := by
  subst hfl hpa hpb hsv e18 e20; exact own_f26 sg pg f1 f2 hf1 hf2 hS h19 h21
theorem own_f27 (sg : Fin 28) (pg : Fin 12) (f1 f2 : Int32) (hf1 : f1 = 0 ∨ f1 = 1) (hf2 : f2 = 0 ∨ f2 = 1) (hS : 11 ≤ sg.val) : ¬ (((FF (pA pg) (uL (l2O sg pg f1 f2)))) = (0 : Int32)) → (((FF (pB pg) (uL (l2O sg pg f1 f2)))) = (0 : Int32)) → ((List.replicate ((cnt (uL (l2O sg pg f1 f2)))).toNatClampNeg (0 : Int32)).set ((0 : Int32)).toNatClampNeg (pB pg)) = (svL (uL (l2O sg pg f1 f2)) (pA pg) (pB pg)) := by
  rcases hf1 with rfl | rfl <;> rcases hf2 with rfl | rfl <;> (revert hS; revert pg; revert sg; decide +kernel)
theorem own_g38 (sg : Fin 28) (pg : Fin 12) (f1 f2 : Int32) (hf1 : f1 = 0 ∨ f1 = 1) (hf2 : f2 = 0 ∨ f2 = 1) (hS : 11 ≤ sg.val) (fl : List Int32) (hfl : l2O sg pg f1 f2 = fl) (pa : Int32) (hpa : pA pg = pa) (pb : Int32) (hpb : pB pg = pb) (sv : List Int32) (hsv : svO sg = sv) (v18 : Int32) (e18 : (FF pa (uL fl)) = v18) (v20 : Int32) (e20 : (FF pb (uL fl)) = v20) (h19 : ¬ (v18 = (0 : Int32))) (h21 : v20 = (0 : Int32)) : ((List.replicate ((cnt (uL fl))).toNatClampNeg (0 : Int32)).set ((0 : Int32)).toNatClampNeg pb) = (svL (uL fl) pa pb) := by
  subst hfl hpa hpb hsv e18 e20; exact own_f27 sg pg f1 f2 hf1 hf2 hS h19 h21
theorem own_f28 (sg : Fin 28) (pg : Fin 12) (f1 f2 : Int32) (hf1 : f1 = 0 ∨ f1 = 1) (hf2 : f2 = 0 ∨ f2 = 1) (hS : 11 ≤ sg.val) : (((FF (pA pg) (uL (l2O sg pg f1 f2)))) = (0 : Int32)) → ((0 : Int32)).toNatClampNeg < (List.replicate ((cnt (uL (l2O sg pg f1 f2)))).toNatClampNeg (0 : Int32)).length := by
  rcases hf1 with rfl | rfl <;> rcases hf2 with rfl | rfl <;> (revert hS; revert pg; revert sg; decide +kernel)
theorem own_g39 (sg : Fin 28) (pg : Fin 12) (f1 f2 : Int32) (hf1 : f1 = 0 ∨ f1 = 1) (hf2 : f2 = 0 ∨ f2 = 1) (hS : 11 ≤ sg.val) (fl : List Int32) (hfl : l2O sg pg f1 f2 = fl) (pa : Int32) (hpa : pA pg = pa) (pb : Int32) (hpb : pB pg = pb) (sv : List Int32) (hsv : svO sg = sv) (v18 : Int32) (e18 : (FF pa (uL fl)) = v18) (h19 : v18 = (0 : Int32)) : ((0 : Int32)).toNatClampNeg < (List.replicate ((cnt (uL fl))).toNatClampNeg (0 : Int32)).length := by
  subst hfl hpa hpb hsv e18; exact own_f28 sg pg f1 f2 hf1 hf2 hS h19
theorem own_f29 (sg : Fin 28) (pg : Fin 12) (f1 f2 : Int32) (hf1 : f1 = 0 ∨ f1 = 1) (hf2 : f2 = 0 ∨ f2 = 1) (hS : 11 ≤ sg.val) : (((FF (pA pg) (uL (l2O sg pg f1 f2)))) = (0 : Int32)) → ¬ (((FF (pB pg) (uL (l2O sg pg f1 f2)))) = (0 : Int32)) → ((List.replicate ((cnt (uL (l2O sg pg f1 f2)))).toNatClampNeg (0 : Int32)).set ((0 : Int32)).toNatClampNeg (pA pg)) = (svL (uL (l2O sg pg f1 f2)) (pA pg) (pB pg)) := by
  rcases hf1 with rfl | rfl <;> rcases hf2 with rfl | rfl <;> (revert hS; revert pg; revert sg; decide +kernel)
theorem own_g40 (sg : Fin 28) (pg : Fin 12) (f1 f2 : Int32) (hf1 : f1 = 0 ∨ f1 = 1) (hf2 : f2 = 0 ∨ f2 = 1) (hS : 11 ≤ sg.val) (fl : List Int32) (hfl : l2O sg pg f1 f2 = fl) (pa : Int32) (hpa : pA pg = pa) (pb : Int32) (hpb : pB pg = pb) (sv : List Int32) (hsv : svO sg = sv) (v18 : Int32) (e18 : (FF pa (uL fl)) = v18) (v22 : Int32) (e22 : (FF pb (uL fl)) = v22) (h19 : v18 = (0 : Int32)) (h23 : ¬ (v22 = (0 : Int32))) : ((List.replicate ((cnt (uL fl))).toNatClampNeg (0 : Int32)).set ((0 : Int32)).toNatClampNeg pa) = (svL (uL fl) pa pb) := by
  subst hfl hpa hpb hsv e18 e22; exact own_f29 sg pg f1 f2 hf1 hf2 hS h19 h23
theorem own_f30 (sg : Fin 28) (pg : Fin 12) (f1 f2 : Int32) (hf1 : f1 = 0 ∨ f1 = 1) (hf2 : f2 = 0 ∨ f2 = 1) (hS : 11 ≤ sg.val) : (((FF (pA pg) (uL (l2O sg pg f1 f2)))) = (0 : Int32)) → (((FF (pB pg) (uL (l2O sg pg f1 f2)))) = (0 : Int32)) → ((1 : Int32)).toNatClampNeg < ((List.replicate ((cnt (uL (l2O sg pg f1 f2)))).toNatClampNeg (0 : Int32)).set ((0 : Int32)).toNatClampNeg (pA pg)).length := by
  rcases hf1 with rfl | rfl <;> rcases hf2 with rfl | rfl <;> (revert hS; revert pg; revert sg; decide +kernel)
theorem own_g41 (sg : Fin 28) (pg : Fin 12) (f1 f2 : Int32) (hf1 : f1 = 0 ∨ f1 = 1) (hf2 : f2 = 0 ∨ f2 = 1) (hS : 11 ≤ sg.val) (fl : List Int32) (hfl : l2O sg pg f1 f2 = fl) (pa : Int32) (hpa : pA pg = pa) (pb : Int32) (hpb : pB pg = pb) (sv : List Int32) (hsv : svO sg = sv) (v18 : Int32) (e18 : (FF pa (uL fl)) = v18) (v22 : Int32) (e22 : (FF pb (uL fl)) = v22) (h19 : v18 = (0 : Int32)) (h23 : v22 = (0 : Int32)) : ((1 : Int32)).toNatClampNeg < ((List.replicate ((cnt (uL fl))).toNatClampNeg (0 : Int32)).set ((0 : Int32)).toNatClampNeg pa).length := by
  subst hfl hpa hpb hsv e18 e22; exact own_f30 sg pg f1 f2 hf1 hf2 hS h19 h23
theorem own_f31 (sg : Fin 28) (pg : Fin 12) (f1 f2 : Int32) (hf1 : f1 = 0 ∨ f1 = 1) (hf2 : f2 = 0 ∨ f2 = 1) (hS : 11 ≤ sg.val) : (((FF (pA pg) (uL (l2O sg pg f1 f2)))) = (0 : Int32)) → (((FF (pB pg) (uL (l2O sg pg f1 f2)))) = (0 : Int32)) → (((List.replicate ((cnt (uL (l2O sg pg f1 f2)))).toNatClampNeg (0 : Int32)).set ((0 : Int32)).toNatClampNeg (pA pg)).set ((1 : Int32)).toNatClampNeg (pB pg)) = (svL (uL (l2O sg pg f1 f2)) (pA pg) (pB pg)) := by
  rcases hf1 with rfl | rfl <;> rcases hf2 with rfl | rfl <;> (revert hS; revert pg; revert sg; decide +kernel)
theorem own_g42 (sg : Fin 28) (pg : Fin 12) (f1 f2 : Int32) (hf1 : f1 = 0 ∨ f1 = 1) (hf2 : f2 = 0 ∨ f2 = 1) (hS : 11 ≤ sg.val) (fl : List Int32) (hfl : l2O sg pg f1 f2 = fl) (pa : Int32) (hpa : pA pg = pa) (pb : Int32) (hpb : pB pg = pb) (sv : List Int32) (hsv : svO sg = sv) (v18 : Int32) (e18 : (FF pa (uL fl)) = v18) (v22 : Int32) (e22 : (FF pb (uL fl)) = v22) (h19 : v18 = (0 : Int32)) (h23 : v22 = (0 : Int32)) : (((List.replicate ((cnt (uL fl))).toNatClampNeg (0 : Int32)).set ((0 : Int32)).toNatClampNeg pa).set ((1 : Int32)).toNatClampNeg pb) = (svL (uL fl) pa pb) := by
  subst hfl hpa hpb hsv e18 e22; exact own_f31 sg pg f1 f2 hf1 hf2 hS h19 h23
theorem own_g43 (sg : Fin 28) (pg : Fin 12) (f1 f2 : Int32) (hf1 : f1 = 0 ∨ f1 = 1) (hf2 : f2 = 0 ∨ f2 = 1) (hS : 11 ≤ sg.val) (fl : List Int32) (hfl : l2O sg pg f1 f2 = fl) (pa : Int32) (hpa : pA pg = pa) (pb : Int32) (hpb : pB pg = pb) (sv : List Int32) (hsv : svO sg = sv) (h1 : (0 : Int32) < sv.length.toInt32) : ((0 : Int32)).toNatClampNeg < sv.length := by
  subst hfl hpa hpb hsv; exact own_f10 sg pg f1 f2 hf1 hf2 hS h1
theorem own_g44 (sg : Fin 28) (pg : Fin 12) (f1 f2 : Int32) (hf1 : f1 = 0 ∨ f1 = 1) (hf2 : f2 = 0 ∨ f2 = 1) (hS : 11 ≤ sg.val) (fl : List Int32) (hfl : l2O sg pg f1 f2 = fl) (pa : Int32) (hpa : pA pg = pa) (pb : Int32) (hpb : pB pg = pb) (sv : List Int32) (hsv : svO sg = sv) (h1 : (0 : Int32) < sv.length.toInt32) : ¬ (sv.getD ((0 : Int32)).toNatClampNeg (0 : Int32)) < 0 := by
  subst hfl hpa hpb hsv; exact own_f11 sg pg f1 f2 hf1 hf2 hS h1
theorem own_g45 (sg : Fin 28) (pg : Fin 12) (f1 f2 : Int32) (hf1 : f1 = 0 ∨ f1 = 1) (hf2 : f2 = 0 ∨ f2 = 1) (hS : 11 ≤ sg.val) (fl : List Int32) (hfl : l2O sg pg f1 f2 = fl) (pa : Int32) (hpa : pA pg = pa) (pb : Int32) (hpb : pB pg = pb) (sv : List Int32) (hsv : svO sg = sv) (h1 : (0 : Int32) < sv.length.toInt32) : ((sv.getD ((0 : Int32)).toNatClampNeg (0 : Int32))).toNatClampNeg < 4 := by
  subst hfl hpa hpb hsv; exact own_f12 sg pg f1 f2 hf1 hf2 hS h1
theorem own_g46 (sg : Fin 28) (pg : Fin 12) (f1 f2 : Int32) (hf1 : f1 = 0 ∨ f1 = 1) (hf2 : f2 = 0 ∨ f2 = 1) (hS : 11 ≤ sg.val) (fl : List Int32) (hfl : l2O sg pg f1 f2 = fl) (pa : Int32) (hpa : pA pg = pa) (pb : Int32) (hpb : pB pg = pb) (sv : List Int32) (hsv : svO sg = sv) (h1 : (0 : Int32) < sv.length.toInt32) (h2 : (fl.getD ((sv.getD ((0 : Int32)).toNatClampNeg (0 : Int32))).toNatClampNeg (0 : Int32)) = (0 : Int32)) : ¬ (sv.getD ((0 : Int32)).toNatClampNeg (0 : Int32)) < 0 := by
  subst hfl hpa hpb hsv; exact own_f13 sg pg f1 f2 hf1 hf2 hS h1 h2
theorem own_g47 (sg : Fin 28) (pg : Fin 12) (f1 f2 : Int32) (hf1 : f1 = 0 ∨ f1 = 1) (hf2 : f2 = 0 ∨ f2 = 1) (hS : 11 ≤ sg.val) (fl : List Int32) (hfl : l2O sg pg f1 f2 = fl) (pa : Int32) (hpa : pA pg = pa) (pb : Int32) (hpb : pB pg = pb) (sv : List Int32) (hsv : svO sg = sv) (h1 : (0 : Int32) < sv.length.toInt32) (h2 : (fl.getD ((sv.getD ((0 : Int32)).toNatClampNeg (0 : Int32))).toNatClampNeg (0 : Int32)) = (0 : Int32)) : ((sv.getD ((0 : Int32)).toNatClampNeg (0 : Int32))).toNatClampNeg < 4 := by
  subst hfl hpa hpb hsv; exact own_f14 sg pg f1 f2 hf1 hf2 hS h1 h2
theorem own_g48 (sg : Fin 28) (pg : Fin 12) (f1 f2 : Int32) (hf1 : f1 = 0 ∨ f1 = 1) (hf2 : f2 = 0 ∨ f2 = 1) (hS : 11 ≤ sg.val) (fl : List Int32) (hfl : l2O sg pg f1 f2 = fl) (pa : Int32) (hpa : pA pg = pa) (pb : Int32) (hpb : pB pg = pb) (sv : List Int32) (hsv : svO sg = sv) (h1 : (0 : Int32) < sv.length.toInt32) (h6 : (1 : Int32) < sv.length.toInt32) : ((1 : Int32)).toNatClampNeg < sv.length := by
  subst hfl hpa hpb hsv; exact own_f15 sg pg f1 f2 hf1 hf2 hS h1 h6
theorem own_g49 (sg : Fin 28) (pg : Fin 12) (f1 f2 : Int32) (hf1 : f1 = 0 ∨ f1 = 1) (hf2 : f2 = 0 ∨ f2 = 1) (hS : 11 ≤ sg.val) (fl : List Int32) (hfl : l2O sg pg f1 f2 = fl) (pa : Int32) (hpa : pA pg = pa) (pb : Int32) (hpb : pB pg = pb) (sv : List Int32) (hsv : svO sg = sv) (h1 : (0 : Int32) < sv.length.toInt32) (h6 : (1 : Int32) < sv.length.toInt32) : ¬ (sv.getD ((1 : Int32)).toNatClampNeg (0 : Int32)) < 0 := by
  subst hfl hpa hpb hsv; exact own_f16 sg pg f1 f2 hf1 hf2 hS h1 h6
theorem own_g50 (sg : Fin 28) (pg : Fin 12) (f1 f2 : Int32) (hf1 : f1 = 0 ∨ f1 = 1) (hf2 : f2 = 0 ∨ f2 = 1) (hS : 11 ≤ sg.val) (fl : List Int32) (hfl : l2O sg pg f1 f2 = fl) (pa : Int32) (hpa : pA pg = pa) (pb : Int32) (hpb : pB pg = pb) (sv : List Int32) (hsv : svO sg = sv) (h1 : (0 : Int32) < sv.length.toInt32) (h6 : (1 : Int32) < sv.length.toInt32) : ((sv.getD ((1 : Int32)).toNatClampNeg (0 : Int32))).toNatClampNeg < 4 := by
  subst hfl hpa hpb hsv; exact own_f17 sg pg f1 f2 hf1 hf2 hS h1 h6
theorem own_g51 (sg : Fin 28) (pg : Fin 12) (f1 f2 : Int32) (hf1 : f1 = 0 ∨ f1 = 1) (hf2 : f2 = 0 ∨ f2 = 1) (hS : 11 ≤ sg.val) (fl : List Int32) (hfl : l2O sg pg f1 f2 = fl) (pa : Int32) (hpa : pA pg = pa) (pb : Int32) (hpb : pB pg = pb) (sv : List Int32) (hsv : svO sg = sv) (j4 : List Int32) (ej4 : j4 = (if (fl.getD ((sv.getD ((0 : Int32)).toNatClampNeg (0 : Int32))).toNatClampNeg (0 : Int32)) = (0 : Int32) then (fl.set ((sv.getD ((0 : Int32)).toNatClampNeg (0 : Int32))).toNatClampNeg (((fl.getD ((sv.getD ((0 : Int32)).toNatClampNeg (0 : Int32))).toNatClampNeg (0 : Int32)) ||| (1 : Int32)).toInt8.toInt32)) else fl)) (h1 : (0 : Int32) < sv.length.toInt32) (h6 : (1 : Int32) < sv.length.toInt32) (h7 : (j4.getD ((sv.getD ((1 : Int32)).toNatClampNeg (0 : Int32))).toNatClampNeg (0 : Int32)) = (0 : Int32)) : ¬ (sv.getD ((1 : Int32)).toNatClampNeg (0 : Int32)) < 0 := by
  subst hfl hpa hpb hsv ej4; exact own_f18 sg pg f1 f2 hf1 hf2 hS h1 h6 h7
theorem own_g52 (sg : Fin 28) (pg : Fin 12) (f1 f2 : Int32) (hf1 : f1 = 0 ∨ f1 = 1) (hf2 : f2 = 0 ∨ f2 = 1) (hS : 11 ≤ sg.val) (fl : List Int32) (hfl : l2O sg pg f1 f2 = fl) (pa : Int32) (hpa : pA pg = pa) (pb : Int32) (hpb : pB pg = pb) (sv : List Int32) (hsv : svO sg = sv) (j4 : List Int32) (ej4 : j4 = (if (fl.getD ((sv.getD ((0 : Int32)).toNatClampNeg (0 : Int32))).toNatClampNeg (0 : Int32)) = (0 : Int32) then (fl.set ((sv.getD ((0 : Int32)).toNatClampNeg (0 : Int32))).toNatClampNeg (((fl.getD ((sv.getD ((0 : Int32)).toNatClampNeg (0 : Int32))).toNatClampNeg (0 : Int32)) ||| (1 : Int32)).toInt8.toInt32)) else fl)) (h1 : (0 : Int32) < sv.length.toInt32) (h6 : (1 : Int32) < sv.length.toInt32) (h7 : (j4.getD ((sv.getD ((1 : Int32)).toNatClampNeg (0 : Int32))).toNatClampNeg (0 : Int32)) = (0 : Int32)) : ((sv.getD ((1 : Int32)).toNatClampNeg (0 : Int32))).toNatClampNeg < 4 := by
  subst hfl hpa hpb hsv ej4; exact own_f19 sg pg f1 f2 hf1 hf2 hS h1 h6 h7
theorem own_g53 (sg : Fin 28) (pg : Fin 12) (f1 f2 : Int32) (hf1 : f1 = 0 ∨ f1 = 1) (hf2 : f2 = 0 ∨ f2 = 1) (hS : 11 ≤ sg.val) (fl : List Int32) (hfl : l2O sg pg f1 f2 = fl) (pa : Int32) (hpa : pA pg = pa) (pb : Int32) (hpb : pB pg = pb) (sv : List Int32) (hsv : svO sg = sv) : ¬ (2 : Int32) < sv.length.toInt32 := by
  subst hfl hpa hpb hsv; exact own_f20 sg pg f1 f2 hf1 hf2 hS 
theorem own_g54 (sg : Fin 28) (pg : Fin 12) (f1 f2 : Int32) (hf1 : f1 = 0 ∨ f1 = 1) (hf2 : f2 = 0 ∨ f2 = 1) (hS : 11 ≤ sg.val) (fl : List Int32) (hfl : l2O sg pg f1 f2 = fl) (pa : Int32) (hpa : pA pg = pa) (pb : Int32) (hpb : pB pg = pb) (sv : List Int32) (hsv : svO sg = sv) (j15 : List Int32) (ej15 : j15 = (if (0 : Int32) < sv.length.toInt32 then (if (1 : Int32) < sv.length.toInt32 then ((if (((if (fl.getD ((sv.getD ((0 : Int32)).toNatClampNeg (0 : Int32))).toNatClampNeg (0 : Int32)) = (0 : Int32) then (fl.set ((sv.getD ((0 : Int32)).toNatClampNeg (0 : Int32))).toNatClampNeg (((fl.getD ((sv.getD ((0 : Int32)).toNatClampNeg (0 : Int32))).toNatClampNeg (0 : Int32)) ||| (1 : Int32)).toInt8.toInt32)) else fl)).getD ((sv.getD ((1 : Int32)).toNatClampNeg (0 : Int32))).toNatClampNeg (0 : Int32)) = (0 : Int32) then (((if (fl.getD ((sv.getD ((0 : Int32)).toNatClampNeg (0 : Int32))).toNatClampNeg (0 : Int32)) = (0 : Int32) then (fl.set ((sv.getD ((0 : Int32)).toNatClampNeg (0 : Int32))).toNatClampNeg (((fl.getD ((sv.getD ((0 : Int32)).toNatClampNeg (0 : Int32))).toNatClampNeg (0 : Int32)) ||| (1 : Int32)).toInt8.toInt32)) else fl)).set ((sv.getD ((1 : Int32)).toNatClampNeg (0 : Int32))).toNatClampNeg (((((if (fl.getD ((sv.getD ((0 : Int32)).toNatClampNeg (0 : Int32))).toNatClampNeg (0 : Int32)) = (0 : Int32) then (fl.set ((sv.getD ((0 : Int32)).toNatClampNeg (0 : Int32))).toNatClampNeg (((fl.getD ((sv.getD ((0 : Int32)).toNatClampNeg (0 : Int32))).toNatClampNeg (0 : Int32)) ||| (1 : Int32)).toInt8.toInt32)) else fl)).getD ((sv.getD ((1 : Int32)).toNatClampNeg (0 : Int32))).toNatClampNeg (0 : Int32)) ||| (1 : Int32)).toInt8.toInt32)) else ((if (fl.getD ((sv.getD ((0 : Int32)).toNatClampNeg (0 : Int32))).toNatClampNeg (0 : Int32)) = (0 : Int32) then (fl.set ((sv.getD ((0 : Int32)).toNatClampNeg (0 : Int32))).toNatClampNeg (((fl.getD ((sv.getD ((0 : Int32)).toNatClampNeg (0 : Int32))).toNatClampNeg (0 : Int32)) ||| (1 : Int32)).toInt8.toInt32)) else fl)))) else ((if (fl.getD ((sv.getD ((0 : Int32)).toNatClampNeg (0 : Int32))).toNatClampNeg (0 : Int32)) = (0 : Int32) then (fl.set ((sv.getD ((0 : Int32)).toNatClampNeg (0 : Int32))).toNatClampNeg (((fl.getD ((sv.getD ((0 : Int32)).toNatClampNeg (0 : Int32))).toNatClampNeg (0 : Int32)) ||| (1 : Int32)).toInt8.toInt32)) else fl))) else fl)) : j15 = (uL fl) := by
  subst hfl hpa hpb hsv ej15; exact own_f21 sg pg f1 f2 hf1 hf2 hS 
theorem own_g55 (sg : Fin 28) (pg : Fin 12) (f1 f2 : Int32) (hf1 : f1 = 0 ∨ f1 = 1) (hf2 : f2 = 0 ∨ f2 = 1) (hS : 11 ≤ sg.val) (fl : List Int32) (hfl : l2O sg pg f1 f2 = fl) (pa : Int32) (hpa : pA pg = pa) (pb : Int32) (hpb : pB pg = pb) (sv : List Int32) (hsv : svO sg = sv) (j14 : Int32) (ej14 : j14 = (if (0 : Int32) < sv.length.toInt32 then (if (1 : Int32) < sv.length.toInt32 then ((if (((if (fl.getD ((sv.getD ((0 : Int32)).toNatClampNeg (0 : Int32))).toNatClampNeg (0 : Int32)) = (0 : Int32) then (fl.set ((sv.getD ((0 : Int32)).toNatClampNeg (0 : Int32))).toNatClampNeg (((fl.getD ((sv.getD ((0 : Int32)).toNatClampNeg (0 : Int32))).toNatClampNeg (0 : Int32)) ||| (1 : Int32)).toInt8.toInt32)) else fl)).getD ((sv.getD ((1 : Int32)).toNatClampNeg (0 : Int32))).toNatClampNeg (0 : Int32)) = (0 : Int32) then (((if (fl.getD ((sv.getD ((0 : Int32)).toNatClampNeg (0 : Int32))).toNatClampNeg (0 : Int32)) = (0 : Int32) then ((cnt fl) - (1 : Int32)) else (cnt fl))) - (1 : Int32)) else ((if (fl.getD ((sv.getD ((0 : Int32)).toNatClampNeg (0 : Int32))).toNatClampNeg (0 : Int32)) = (0 : Int32) then ((cnt fl) - (1 : Int32)) else (cnt fl))))) else ((if (fl.getD ((sv.getD ((0 : Int32)).toNatClampNeg (0 : Int32))).toNatClampNeg (0 : Int32)) = (0 : Int32) then ((cnt fl) - (1 : Int32)) else (cnt fl)))) else (cnt fl))) : j14 = (cnt (uL fl)) := by
  subst hfl hpa hpb hsv ej14; exact own_f22 sg pg f1 f2 hf1 hf2 hS 
theorem own_g56 (sg : Fin 28) (pg : Fin 12) (f1 f2 : Int32) (hf1 : f1 = 0 ∨ f1 = 1) (hf2 : f2 = 0 ∨ f2 = 1) (hS : 11 ≤ sg.val) (fl : List Int32) (hfl : l2O sg pg f1 f2 = fl) (pa : Int32) (hpa : pA pg = pa) (pb : Int32) (hpb : pB pg = pb) (sv : List Int32) (hsv : svO sg = sv) : ¬ (cnt (uL fl)) < 0 := by
  subst hfl hpa hpb hsv; exact own_f23 sg pg f1 f2 hf1 hf2 hS 
theorem own_g57 (sg : Fin 28) (pg : Fin 12) (f1 f2 : Int32) (hf1 : f1 = 0 ∨ f1 = 1) (hf2 : f2 = 0 ∨ f2 = 1) (hS : 11 ≤ sg.val) (fl : List Int32) (hfl : l2O sg pg f1 f2 = fl) (pa : Int32) (hpa : pA pg = pa) (pb : Int32) (hpb : pB pg = pb) (sv : List Int32) (hsv : svO sg = sv) : ((cnt (uL fl))).toNatClampNeg ≤ 2 := by
  subst hfl hpa hpb hsv; exact own_f24 sg pg f1 f2 hf1 hf2 hS 
theorem own_g58 (sg : Fin 28) (pg : Fin 12) (f1 f2 : Int32) (hf1 : f1 = 0 ∨ f1 = 1) (hf2 : f2 = 0 ∨ f2 = 1) (hS : 11 ≤ sg.val) (fl : List Int32) (hfl : l2O sg pg f1 f2 = fl) (pa : Int32) (hpa : pA pg = pa) (pb : Int32) (hpb : pB pg = pb) (sv : List Int32) (hsv : svO sg = sv) (v18 : Int32) (e18 : (FF pa (uL fl)) = v18) (v20 : Int32) (e20 : (FF pb (uL fl)) = v20) (h19 : ¬ (v18 = (0 : Int32))) (h21 : ¬ (v20 = (0 : Int32))) : (List.replicate ((cnt (uL fl))).toNatClampNeg (0 : Int32)) = (svL (uL fl) pa pb) := by
  subst hfl hpa hpb hsv e18 e20; exact own_f25 sg pg f1 f2 hf1 hf2 hS h19 h21
theorem own_g59 (sg : Fin 28) (pg : Fin 12) (f1 f2 : Int32) (hf1 : f1 = 0 ∨ f1 = 1) (hf2 : f2 = 0 ∨ f2 = 1) (hS : 11 ≤ sg.val) (fl : List Int32) (hfl : l2O sg pg f1 f2 = fl) (pa : Int32) (hpa : pA pg = pa) (pb : Int32) (hpb : pB pg = pb) (sv : List Int32) (hsv : svO sg = sv) (v18 : Int32) (e18 : (FF pa (uL fl)) = v18) (v20 : Int32) (e20 : (FF pb (uL fl)) = v20) (h19 : ¬ (v18 = (0 : Int32))) (h21 : v20 = (0 : Int32)) : ((0 : Int32)).toNatClampNeg < (List.replicate ((cnt (uL fl))).toNatClampNeg (0 : Int32)).length := by
  subst hfl hpa hpb hsv e18 e20; exact own_f26 sg pg f1 f2 hf1 hf2 hS h19 h21
theorem own_g60 (sg : Fin 28) (pg : Fin 12) (f1 f2 : Int32) (hf1 : f1 = 0 ∨ f1 = 1) (hf2 : f2 = 0 ∨ f2 = 1) (hS : 11 ≤ sg.val) (fl : List Int32) (hfl : l2O sg pg f1 f2 = fl) (pa : Int32) (hpa : pA pg = pa) (pb : Int32) (hpb : pB pg = pb) (sv : List Int32) (hsv : svO sg = sv) (v18 : Int32) (e18 : (FF pa (uL fl)) = v18) (v20 : Int32) (e20 : (FF pb (uL fl)) = v20) (h19 : ¬ (v18 = (0 : Int32))) (h21 : v20 = (0 : Int32)) : ((List.replicate ((cnt (uL fl))).toNatClampNeg (0 : Int32)).set ((0 : Int32)).toNatClampNeg pb) = (svL (uL fl) pa pb) := by
  subst hfl hpa hpb hsv e18 e20; exact own_f27 sg pg f1 f2 hf1 hf2 hS h19 h21
theorem own_g61 (sg : Fin 28) (pg : Fin 12) (f1 f2 : Int32) (hf1 : f1 = 0 ∨ f1 = 1) (hf2 : f2 = 0 ∨ f2 = 1) (hS : 11 ≤ sg.val) (fl : List Int32) (hfl : l2O sg pg f1 f2 = fl) (pa : Int32) (hpa : pA pg = pa) (pb : Int32) (hpb : pB pg = pb) (sv : List Int32) (hsv : svO sg = sv) (v18 : Int32) (e18 : (FF pa (uL fl)) = v18) (h19 : v18 = (0 : Int32)) : ((0 : Int32)).toNatClampNeg < (List.replicate ((cnt (uL fl))).toNatClampNeg (0 : Int32)).length := by
  subst hfl hpa hpb hsv e18; exact own_f28 sg pg f1 f2 hf1 hf2 hS h19
theorem own_g62 (sg : Fin 28) (pg : Fin 12) (f1 f2 : Int32) (hf1 : f1 = 0 ∨ f1 = 1) (hf2 : f2 = 0 ∨ f2 = 1) (hS : 11 ≤ sg.val) (fl : List Int32) (hfl : l2O sg pg f1 f2 = fl) (pa : Int32) (hpa : pA pg = pa) (pb : Int32) (hpb : pB pg = pb) (sv : List Int32) (hsv : svO sg = sv) (v18 : Int32) (e18 : (FF pa (uL fl)) = v18) (v22 : Int32) (e22 : (FF pb (uL fl)) = v22) (h19 : v18 = (0 : Int32)) (h23 : ¬ (v22 = (0 : Int32))) : ((List.replicate ((cnt (uL fl))).toNatClampNeg (0 : Int32)).set ((0 : Int32)).toNatClampNeg pa) = (svL (uL fl) pa pb) := by
  subst hfl hpa hpb hsv e18 e22; exact own_f29 sg pg f1 f2 hf1 hf2 hS h19 h23
theorem own_g63 (sg : Fin 28) (pg : Fin 12) (f1 f2 : Int32) (hf1 : f1 = 0 ∨ f1 = 1) (hf2 : f2 = 0 ∨ f2 = 1) (hS : 11 ≤ sg.val) (fl : List Int32) (hfl : l2O sg pg f1 f2 = fl) (pa : Int32) (hpa : pA pg = pa) (pb : Int32) (hpb : pB pg = pb) (sv : List Int32) (hsv : svO sg = sv) (v18 : Int32) (e18 : (FF pa (uL fl)) = v18) (v22 : Int32) (e22 : (FF pb (uL fl)) = v22) (h19 : v18 = (0 : Int32)) (h23 : v22 = (0 : Int32)) : ((1 : Int32)).toNatClampNeg < ((List.replicate ((cnt (uL fl))).toNatClampNeg (0 : Int32)).set ((0 : Int32)).toNatClampNeg pa).length := by
  subst hfl hpa hpb hsv e18 e22; exact own_f30 sg pg f1 f2 hf1 hf2 hS h19 h23
theorem own_g64 (sg : Fin 28) (pg : Fin 12) (f1 f2 : Int32) (hf1 : f1 = 0 ∨ f1 = 1) (hf2 : f2 = 0 ∨ f2 = 1) (hS : 11 ≤ sg.val) (fl : List Int32) (hfl : l2O sg pg f1 f2 = fl) (pa : Int32) (hpa : pA pg = pa) (pb : Int32) (hpb : pB pg = pb) (sv : List Int32) (hsv : svO sg = sv) (v18 : Int32) (e18 : (FF pa (uL fl)) = v18) (v22 : Int32) (e22 : (FF pb (uL fl)) = v22) (h19 : v18 = (0 : Int32)) (h23 : v22 = (0 : Int32)) : (((List.replicate ((cnt (uL fl))).toNatClampNeg (0 : Int32)).set ((0 : Int32)).toNatClampNeg pa).set ((1 : Int32)).toNatClampNeg pb) = (svL (uL fl) pa pb) := by
  subst hfl hpa hpb hsv e18 e22; exact own_f31 sg pg f1 f2 hf1 hf2 hS h19 h23
set_option maxRecDepth 65536 in
set_option maxHeartbeats 8000000 in
theorem rmUA (l : Launch) (Z : State) (a0 : Array Value) (hw : ∀ d ∈ tables_1, d.before a0 Z = true) (n0 : Nat) (r0 : Addr) (r5 : Addr) (r1 : Addr) (r2 : Addr) (hi : Int64) (lo : Int64) (r3 : Addr) (fl : List Int32) (pa : Int32) (pb : Int32) (sv : List Int32) (sg : Fin 28) (pg : Fin 12) (f1 : Int32) (f2 : Int32) (RR : Obs) (hfl : l2O sg pg f1 f2 = fl) (hpa : pA pg = pa) (hpb : pB pg = pb) (hsv : svO sg = sv) (hf1 : f1 = 0 ∨ f1 = 1) (hf2 : f2 = 0 ∨ f2 = 1) (hS : 11 ≤ sg.val) :
    Triple l Z n0 (⟨"com/example/forebound/forebound/problem/Sum", "forbidUnlisted", "([I)V"⟩ : MethodName) prog_28_method_8_code 7 none ({ frames := 2, cells := 1, slots := 2, locals := 26 } : Room) 1 2 [(.ref r0), (.ref r5)] ((r0, ob1 (.ref r1) (.ref r2) (.int (cnt fl)) (.long (0 : Int64)) (.long hi) (.long lo) .null (.ref r3)) :: (r2, .inr (.byte, List.map Value.int fl)) :: (r5, .inr (.int, [(.int pa), (.int pb)])) :: (r3, .inr (.int, List.map Value.int sv)) :: RR) (fun v L' => ∃ b17 : Addr, v = none ∧ L' = ((r0, ob1 (.ref r1) (.ref r2) (.int (cnt (uL fl))) (.long (0 : Int64)) (.long hi) (.long lo) .null (.ref b17)) :: (r2, .inr (.byte, List.map Value.int (uL fl))) :: (b17, .inr (.int, List.map Value.int (svL (uL fl) pa pb))) :: (r5, .inr (.int, [(.int pa), (.int pb)])) :: (r3, .inr (.int, List.map Value.int sv)) :: RR)) := by
  refine Triple.of_body (tbl := tables_1) (a0 := a0) (Ls := #[.val (.ref r0), .val (.ref r5), .unset, .unset, .unset, .unset, .unset]) pn_24 hw rfl ?_
  intro p e s m below meth c T A
  have np : ¬ pa < 0 ∧ pa.toNatClampNeg < 4 ∧ z4[pa.toNatClampNeg]? = some 0 ∧ z4.set pa.toNatClampNeg 0 = z4 := by rw [← hpa]; exact ⟨(own_pp pg).1, (own_pp pg).2.2.1, (own_pp pg).2.2.2.2.1, (own_pp pg).2.2.2.2.2.2.1⟩
  have nq : ¬ pb < 0 ∧ pb.toNatClampNeg < 4 ∧ z4[pb.toNatClampNeg]? = some 0 ∧ z4.set pb.toNatClampNeg 0 = z4 := by rw [← hpb]; exact ⟨(own_pp pg).2.1, (own_pp pg).2.2.2.1, (own_pp pg).2.2.2.2.2.1, (own_pp pg).2.2.2.2.2.2.2⟩
  have len_fl : fl.length = 4 := by rw [← hfl]; exact own_l2len sg pg f1 f2
  refine A.aloadN (q := 1) d24_0 rfl rfl rfl ?_
  refine A.getF (q := 4) (w := 134) (i := 0) (j := 7) d24_1 rfl rfl rfl rfl ?_
  intro T A
  refine A.ifnonnullT (r := 58) d24_4 (by decide) ?_
  refine A.aloadN (q := 59) d24_58 rfl rfl rfl ?_
  refine A.getF (q := 62) (w := 134) (i := 0) (j := 7) d24_59 rfl rfl rfl rfl ?_
  intro T A
  refine A.astoreN (q := 63) (l' := #[.val (.ref r0), .val (.ref r5), .val (.ref r3), .unset, .unset, .unset, .unset]) d24_62 rfl rfl rfl ?_
  refine A.aloadN (q := 64) d24_63 rfl rfl rfl ?_
  refine A.arraylengthM (q := 65) (i := 3) (v := sv.length.toInt32) d24_64 rfl rfl rfl ?_
  refine A.istoreN (q := 66) (l' := #[.val (.ref r0), .val (.ref r5), .val (.ref r3), .val (.int sv.length.toInt32), .unset, .unset, .unset]) d24_65 rfl rfl ?_
  have J66_15 : ∀ (T : State) (j12 : Int32) (s13 : Slot) (j14 : Int32) (j15 : List Int32), j12 = (if (0 : Int32) < sv.length.toInt32 then (if (1 : Int32) < sv.length.toInt32 then (2 : Int32) else (1 : Int32)) else (0 : Int32)) → One s13 → j14 = (if (0 : Int32) < sv.length.toInt32 then (if (1 : Int32) < sv.length.toInt32 then ((if (((if (fl.getD ((sv.getD ((0 : Int32)).toNatClampNeg (0 : Int32))).toNatClampNeg (0 : Int32)) = (0 : Int32) then (fl.set ((sv.getD ((0 : Int32)).toNatClampNeg (0 : Int32))).toNatClampNeg (((fl.getD ((sv.getD ((0 : Int32)).toNatClampNeg (0 : Int32))).toNatClampNeg (0 : Int32)) ||| (1 : Int32)).toInt8.toInt32)) else fl)).getD ((sv.getD ((1 : Int32)).toNatClampNeg (0 : Int32))).toNatClampNeg (0 : Int32)) = (0 : Int32) then (((if (fl.getD ((sv.getD ((0 : Int32)).toNatClampNeg (0 : Int32))).toNatClampNeg (0 : Int32)) = (0 : Int32) then ((cnt fl) - (1 : Int32)) else (cnt fl))) - (1 : Int32)) else ((if (fl.getD ((sv.getD ((0 : Int32)).toNatClampNeg (0 : Int32))).toNatClampNeg (0 : Int32)) = (0 : Int32) then ((cnt fl) - (1 : Int32)) else (cnt fl))))) else ((if (fl.getD ((sv.getD ((0 : Int32)).toNatClampNeg (0 : Int32))).toNatClampNeg (0 : Int32)) = (0 : Int32) then ((cnt fl) - (1 : Int32)) else (cnt fl)))) else (cnt fl)) → j15 = (if (0 : Int32) < sv.length.toInt32 then (if (1 : Int32) < sv.length.toInt32 then ((if (((if (fl.getD ((sv.getD ((0 : Int32)).toNatClampNeg (0 : Int32))).toNatClampNeg (0 : Int32)) = (0 : Int32) then (fl.set ((sv.getD ((0 : Int32)).toNatClampNeg (0 : Int32))).toNatClampNeg (((fl.getD ((sv.getD ((0 : Int32)).toNatClampNeg (0 : Int32))).toNatClampNeg (0 : Int32)) ||| (1 : Int32)).toInt8.toInt32)) else fl)).getD ((sv.getD ((1 : Int32)).toNatClampNeg (0 : Int32))).toNatClampNeg (0 : Int32)) = (0 : Int32) then (((if (fl.getD ((sv.getD ((0 : Int32)).toNatClampNeg (0 : Int32))).toNatClampNeg (0 : Int32)) = (0 : Int32) then (fl.set ((sv.getD ((0 : Int32)).toNatClampNeg (0 : Int32))).toNatClampNeg (((fl.getD ((sv.getD ((0 : Int32)).toNatClampNeg (0 : Int32))).toNatClampNeg (0 : Int32)) ||| (1 : Int32)).toInt8.toInt32)) else fl)).set ((sv.getD ((1 : Int32)).toNatClampNeg (0 : Int32))).toNatClampNeg (((((if (fl.getD ((sv.getD ((0 : Int32)).toNatClampNeg (0 : Int32))).toNatClampNeg (0 : Int32)) = (0 : Int32) then (fl.set ((sv.getD ((0 : Int32)).toNatClampNeg (0 : Int32))).toNatClampNeg (((fl.getD ((sv.getD ((0 : Int32)).toNatClampNeg (0 : Int32))).toNatClampNeg (0 : Int32)) ||| (1 : Int32)).toInt8.toInt32)) else fl)).getD ((sv.getD ((1 : Int32)).toNatClampNeg (0 : Int32))).toNatClampNeg (0 : Int32)) ||| (1 : Int32)).toInt8.toInt32)) else ((if (fl.getD ((sv.getD ((0 : Int32)).toNatClampNeg (0 : Int32))).toNatClampNeg (0 : Int32)) = (0 : Int32) then (fl.set ((sv.getD ((0 : Int32)).toNatClampNeg (0 : Int32))).toNatClampNeg (((fl.getD ((sv.getD ((0 : Int32)).toNatClampNeg (0 : Int32))).toNatClampNeg (0 : Int32)) ||| (1 : Int32)).toInt8.toInt32)) else fl)))) else ((if (fl.getD ((sv.getD ((0 : Int32)).toNatClampNeg (0 : Int32))).toNatClampNeg (0 : Int32)) = (0 : Int32) then (fl.set ((sv.getD ((0 : Int32)).toNatClampNeg (0 : Int32))).toNatClampNeg (((fl.getD ((sv.getD ((0 : Int32)).toNatClampNeg (0 : Int32))).toNatClampNeg (0 : Int32)) ||| (1 : Int32)).toInt8.toInt32)) else fl))) else fl) → Here p l e ({ frames := 2, cells := 1, slots := 2, locals := 26 } : Room) s m ([(.ref r0), (.ref r5)] : List Value).toArray below meth c Z a0 tables_1 (⟨"com/example/forebound/forebound/problem/Sum", "forbidUnlisted", "([I)V"⟩ : MethodName).cls (⟨"com/example/forebound/forebound/problem/Sum", "forbidUnlisted", "([I)V"⟩ : MethodName).name prog_28_method_8_code 7 none n0 T ((r0, ob1 (.ref r1) (.ref r2) (.int j14) (.long (0 : Int64)) (.long hi) (.long lo) .null (.ref r3)) :: (r2, .inr (.byte, List.map Value.int j15)) :: (r5, .inr (.int, [(.int pa), (.int pb)])) :: (r3, .inr (.int, List.map Value.int sv)) :: RR) 0 0 → Go p e below (EndS below s n0 Z 1 2 (fun v L' => ∃ b17 : Addr, v = none ∧ L' = ((r0, ob1 (.ref r1) (.ref r2) (.int (cnt (uL fl))) (.long (0 : Int64)) (.long hi) (.long lo) .null (.ref b17)) :: (r2, .inr (.byte, List.map Value.int (uL fl))) :: (b17, .inr (.int, List.map Value.int (svL (uL fl) pa pb))) :: (r5, .inr (.int, [(.int pa), (.int pb)])) :: (r3, .inr (.int, List.map Value.int sv)) :: RR))) (T.setTop (mkF m 103 #[.val (.ref r0), .val (.ref r5), .val (.ref r3), .val (.int sv.length.toInt32), .val (.int j12), s13, .unset] [])) := by
   intro T j12 s13 j14 j15 ej12 os13 ej14 ej15 A
   have q : (uL fl) = j15 := Eq.symm (own_g54 sg pg f1 f2 hf1 hf2 hS fl hfl pa hpa pb hpb sv hsv j15 ej15 )
   subst q
   have q : (cnt (uL fl)) = j14 := Eq.symm (own_g55 sg pg f1 f2 hf1 hf2 hS fl hfl pa hpa pb hpb sv hsv j14 ej14 )
   subst q
   have A : Here p l e ({ frames := 2, cells := 1, slots := 2, locals := 26 } : Room) s m ([(.ref r0), (.ref r5)] : List Value).toArray below meth c Z a0 tables_1 (⟨"com/example/forebound/forebound/problem/Sum", "forbidUnlisted", "([I)V"⟩ : MethodName).cls (⟨"com/example/forebound/forebound/problem/Sum", "forbidUnlisted", "([I)V"⟩ : MethodName).name prog_28_method_8_code 7 none n0 T ((r0, ob1 (.ref r1) (.ref r2) (.int (cnt (uL fl))) (.long (0 : Int64)) (.long hi) (.long lo) .null (.ref r3)) :: (r2, .inr (.byte, List.map Value.int (uL fl))) :: (r5, .inr (.int, [(.int pa), (.int pb)])) :: (r3, .inr (.int, List.map Value.int sv)) :: RR) 0 0 := A
   refine A.aloadN (q := 104) d24_103 rfl rfl rfl ?_
   refine A.aloadN (q := 105) d24_104 rfl rfl rfl ?_
   refine A.getF (q := 108) (w := 15) (i := 0) (j := 2) d24_105 rfl rfl rfl rfl ?_
   intro T A
   refine A.newA (q := 110) (w := 26) (cap := 2) (ty := .int) (vs := List.map Value.int (List.replicate ((cnt (uL fl))).toNatClampNeg (0 : Int32))) d24_108 rfl rfl rfl (own_g56 sg pg f1 f2 hf1 hf2 hS fl hfl pa hpa pb hpb sv hsv ) (own_g57 sg pg f1 f2 hf1 hf2 hS fl hfl pa hpa pb hpb sv hsv ) (by decide) (by rw [List.map_replicate]; rfl) (by decide) (by decide) ?_
   intro T b17 A
   refine A.putF (q := 113) (w := 134) (w2 := 135) (w3 := 1) (i := 1) (j := 7) (ty := (.array .int)) (v' := (.ref b17)) (L' := ((b17, .inr (.int, List.map Value.int (List.replicate ((cnt (uL fl))).toNatClampNeg (0 : Int32)))) :: (r0, ob1 (.ref r1) (.ref r2) (.int (cnt (uL fl))) (.long (0 : Int64)) (.long hi) (.long lo) .null (.ref b17)) :: (r2, .inr (.byte, List.map Value.int (uL fl))) :: (r5, .inr (.int, [(.int pa), (.int pb)])) :: (r3, .inr (.int, List.map Value.int sv)) :: RR)) d24_110 rfl rfl rfl rfl (lay_0 Z a0 hw) (Or.inl rfl) rfl (by decide) rfl rfl rfl ?_
   intro T A
   refine A.iconst (q := 114) (v := (0 : Int32)) d24_113 rfl (by decide) ?_
   refine A.istoreN (q := 115) (l' := #[.val (.ref r0), .val (.ref r5), .val (.int (0 : Int32)), .val (.int sv.length.toInt32), .val (.int j12), s13, .unset]) d24_114 rfl rfl ?_
   refine A.aloadN (q := 116) d24_115 rfl rfl rfl ?_
   refine A.astoreN (q := 117) (l' := #[.val (.ref r0), .val (.ref r5), .val (.int (0 : Int32)), .val (.ref r5), .val (.int j12), s13, .unset]) d24_116 rfl rfl rfl ?_
   refine A.aloadN (q := 118) d24_117 rfl rfl rfl ?_
   refine A.arraylength (q := 119) (i := 3) (v := (2 : Int32)) d24_118 rfl rfl (by show Nat.toInt32 2 = 2; decide) ?_
   refine A.istore (q := 121) (l' := #[.val (.ref r0), .val (.ref r5), .val (.int (0 : Int32)), .val (.ref r5), .val (.int (2 : Int32)), s13, .unset]) d24_119 rfl rfl ?_
   refine A.iconst (q := 122) (v := (0 : Int32)) d24_121 rfl (by decide) ?_
   refine A.istore (q := 124) (l' := #[.val (.ref r0), .val (.ref r5), .val (.int (0 : Int32)), .val (.ref r5), .val (.int (2 : Int32)), .val (.int (0 : Int32)), .unset]) d24_122 rfl (by rw [XS.store1 rfl os13 rfl]; rfl) ?_
   refine A.iload (q := 126) d24_124 rfl rfl ?_
   refine A.iload (q := 128) d24_126 rfl rfl ?_
   refine A.icmpF (q := 131) d24_128 rfl (by decide) ?_
   refine A.aloadN (q := 132) d24_131 rfl rfl rfl ?_
   refine A.iload (q := 134) d24_132 rfl rfl ?_
   refine A.iaload (q := 135) (i := 3) (v := (.int pa)) d24_134 rfl rfl (by decide) rfl ?_
   refine A.istore (q := 137) (l' := #[.val (.ref r0), .val (.ref r5), .val (.int (0 : Int32)), .val (.ref r5), .val (.int (2 : Int32)), .val (.int (0 : Int32)), .val (.int pa)]) d24_135 rfl rfl ?_
   refine A.aloadN (q := 138) d24_137 rfl rfl rfl ?_
   refine A.iload (q := 140) d24_138 rfl rfl ?_
   have A := A.front (i := 2) rfl rfl
   have A := A.front (i := 2) (L' := ((r0, ob1 (.ref r1) (.ref r2) (.int (cnt (uL fl))) (.long (0 : Int64)) (.long hi) (.long lo) .null (.ref b17)) :: (r2, .inr (.byte, List.map Value.int (uL fl))) :: (b17, .inr (.int, List.map Value.int (List.replicate ((cnt (uL fl))).toNatClampNeg (0 : Int32)))) :: (r5, .inr (.int, [(.int pa), (.int pb)])) :: (r3, .inr (.int, List.map Value.int sv)) :: RR)) rfl rfl
   refine A.callV (q := 143) (i := 0) (w1 := 73) (w2 := 18) (w3 := 2) (w4 := 21) (w5 := 20) (w6 := 19) (a := r0) (as := [(.int pa)]) (st := []) (W := 0) d24_140 rfl rfl rfl rfl rfl rfl rfl rfl (rmF l Z a0 hw n0 r0 pa r1 r2 (cnt (uL fl)) (0 : Int64) hi lo .null (.ref b17) (uL fl) _ np.1 (by rw [(show (uL fl).length = 4 by simp only [List.length_set, own_u1len, own_fblen, own_mkLlen, own_l2Llen, own_uLlen, own_umlen, len_fl])]; exact np.2.1)) (by decide) ⟨_, _, pd_2, rfl⟩ rfl rfl rfl (by decide) (by decide) (by decide) (by decide) ?_
   rintro _ T _ ⟨rfl, rfl⟩ A
   show Go p e below _ (T.setTop (mkF m 143 #[.val (.ref r0), .val (.ref r5), .val (.int (0 : Int32)), .val (.ref r5), .val (.int (2 : Int32)), .val (.int (0 : Int32)), .val (.int pa)] [(.int (FF pa (uL fl)))]))
   obtain ⟨v18, e18⟩ : ∃ v : Int32, (FF pa (uL fl)) = v := ⟨_, rfl⟩
   rw [e18]
   refine A.if_ne (q := 146) (r := 157) d24_143 rfl (by decide) (fun h19 => ?_) (fun h19 => ?_)
   · refine A.iinc (q := 160) (v := (1 : Int32)) (l' := #[.val (.ref r0), .val (.ref r5), .val (.int (0 : Int32)), .val (.ref r5), .val (.int (2 : Int32)), .val (.int (1 : Int32)), .val (.int pa)]) d24_157 rfl rfl (by decide) rfl ?_
     refine A.goto (r := 124) d24_160 (by decide) ?_
     refine A.iload (q := 126) d24_124 rfl rfl ?_
     refine A.iload (q := 128) d24_126 rfl rfl ?_
     refine A.icmpF (q := 131) d24_128 rfl (by decide) ?_
     refine A.aloadN (q := 132) d24_131 rfl rfl rfl ?_
     refine A.iload (q := 134) d24_132 rfl rfl ?_
     refine A.iaload (q := 135) (i := 3) (v := (.int pb)) d24_134 rfl rfl (by decide) rfl ?_
     refine A.istore (q := 137) (l' := #[.val (.ref r0), .val (.ref r5), .val (.int (0 : Int32)), .val (.ref r5), .val (.int (2 : Int32)), .val (.int (1 : Int32)), .val (.int pb)]) d24_135 rfl rfl ?_
     refine A.aloadN (q := 138) d24_137 rfl rfl rfl ?_
     refine A.iload (q := 140) d24_138 rfl rfl ?_
     refine A.callV (q := 143) (i := 0) (w1 := 73) (w2 := 18) (w3 := 2) (w4 := 21) (w5 := 20) (w6 := 19) (a := r0) (as := [(.int pb)]) (st := []) (W := 0) d24_140 rfl rfl rfl rfl rfl rfl rfl rfl (rmF l Z a0 hw n0 r0 pb r1 r2 (cnt (uL fl)) (0 : Int64) hi lo .null (.ref b17) (uL fl) _ nq.1 (by rw [(show (uL fl).length = 4 by simp only [List.length_set, own_u1len, own_fblen, own_mkLlen, own_l2Llen, own_uLlen, own_umlen, len_fl])]; exact nq.2.1)) (by decide) ⟨_, _, pd_2, rfl⟩ rfl rfl rfl (by decide) (by decide) (by decide) (by decide) ?_
     rintro _ T _ ⟨rfl, rfl⟩ A
     show Go p e below _ (T.setTop (mkF m 143 #[.val (.ref r0), .val (.ref r5), .val (.int (0 : Int32)), .val (.ref r5), .val (.int (2 : Int32)), .val (.int (1 : Int32)), .val (.int pb)] [(.int (FF pb (uL fl)))]))
     obtain ⟨v20, e20⟩ : ∃ v : Int32, (FF pb (uL fl)) = v := ⟨_, rfl⟩
     rw [e20]
     refine A.if_ne (q := 146) (r := 157) d24_143 rfl (by decide) (fun h21 => ?_) (fun h21 => ?_)
     · refine A.iinc (q := 160) (v := (2 : Int32)) (l' := #[.val (.ref r0), .val (.ref r5), .val (.int (0 : Int32)), .val (.ref r5), .val (.int (2 : Int32)), .val (.int (2 : Int32)), .val (.int pb)]) d24_157 rfl rfl (by decide) rfl ?_
       refine A.goto (r := 124) d24_160 (by decide) ?_
       refine A.iload (q := 126) d24_124 rfl rfl ?_
       refine A.iload (q := 128) d24_126 rfl rfl ?_
       refine A.icmpT (r := 163) d24_128 (by decide) (by decide) ?_
       have q : (List.replicate ((cnt (uL fl))).toNatClampNeg (0 : Int32)) = (svL (uL fl) pa pb) := (own_g58 sg pg f1 f2 hf1 hf2 hS fl hfl pa hpa pb hpb sv hsv v18 e18 v20 e20 h19 h21)
       rw [q] at A
       clear q
       have A : Here p l e ({ frames := 2, cells := 1, slots := 2, locals := 26 } : Room) s m ([(.ref r0), (.ref r5)] : List Value).toArray below meth c Z a0 tables_1 (⟨"com/example/forebound/forebound/problem/Sum", "forbidUnlisted", "([I)V"⟩ : MethodName).cls (⟨"com/example/forebound/forebound/problem/Sum", "forbidUnlisted", "([I)V"⟩ : MethodName).name prog_28_method_8_code 7 none n0 T ((r0, ob1 (.ref r1) (.ref r2) (.int (cnt (uL fl))) (.long (0 : Int64)) (.long hi) (.long lo) .null (.ref b17)) :: (r2, .inr (.byte, List.map Value.int (uL fl))) :: (b17, .inr (.int, List.map Value.int (svL (uL fl) pa pb))) :: (r5, .inr (.int, [(.int pa), (.int pb)])) :: (r3, .inr (.int, List.map Value.int sv)) :: RR) 1 2 := A
       have Aq := A
       subst ej12 e18 e20
       have A := Aq
       exact A.retV d24_163 (by decide) (by decide) ⟨b17, rfl, by first | rfl | (simp only [if_neg h19, if_neg h21])⟩
     · refine A.aloadN (q := 147) d24_146 rfl rfl rfl ?_
       refine A.getF (q := 150) (w := 134) (i := 0) (j := 7) d24_147 rfl rfl rfl rfl ?_
       intro T A
       refine A.iloadN (q := 151) d24_150 rfl rfl ?_
       refine A.iload (q := 153) d24_151 rfl rfl ?_
       refine A.iastoreM (q := 154) (i := 2) (x' := pb) (L' := ((r0, ob1 (.ref r1) (.ref r2) (.int (cnt (uL fl))) (.long (0 : Int64)) (.long hi) (.long lo) .null (.ref b17)) :: (r2, .inr (.byte, List.map Value.int (uL fl))) :: (b17, .inr (.int, List.map Value.int ((List.replicate ((cnt (uL fl))).toNatClampNeg (0 : Int32)).set ((0 : Int32)).toNatClampNeg pb))) :: (r5, .inr (.int, [(.int pa), (.int pb)])) :: (r3, .inr (.int, List.map Value.int sv)) :: RR)) d24_153 rfl rfl (by decide) (own_g59 sg pg f1 f2 hf1 hf2 hS fl hfl pa hpa pb hpb sv hsv v18 e18 v20 e20 h19 h21) rfl rfl ?_
       intro T A
       refine A.iinc (q := 157) (v := (1 : Int32)) (l' := #[.val (.ref r0), .val (.ref r5), .val (.int (1 : Int32)), .val (.ref r5), .val (.int (2 : Int32)), .val (.int (1 : Int32)), .val (.int pb)]) d24_154 rfl rfl (by decide) rfl ?_
       refine A.iinc (q := 160) (v := (2 : Int32)) (l' := #[.val (.ref r0), .val (.ref r5), .val (.int (1 : Int32)), .val (.ref r5), .val (.int (2 : Int32)), .val (.int (2 : Int32)), .val (.int pb)]) d24_157 rfl rfl (by decide) rfl ?_
       refine A.goto (r := 124) d24_160 (by decide) ?_
       refine A.iload (q := 126) d24_124 rfl rfl ?_
       refine A.iload (q := 128) d24_126 rfl rfl ?_
       refine A.icmpT (r := 163) d24_128 (by decide) (by decide) ?_
       have q : ((List.replicate ((cnt (uL fl))).toNatClampNeg (0 : Int32)).set ((0 : Int32)).toNatClampNeg pb) = (svL (uL fl) pa pb) := (own_g60 sg pg f1 f2 hf1 hf2 hS fl hfl pa hpa pb hpb sv hsv v18 e18 v20 e20 h19 h21)
       rw [q] at A
       clear q
       have A : Here p l e ({ frames := 2, cells := 1, slots := 2, locals := 26 } : Room) s m ([(.ref r0), (.ref r5)] : List Value).toArray below meth c Z a0 tables_1 (⟨"com/example/forebound/forebound/problem/Sum", "forbidUnlisted", "([I)V"⟩ : MethodName).cls (⟨"com/example/forebound/forebound/problem/Sum", "forbidUnlisted", "([I)V"⟩ : MethodName).name prog_28_method_8_code 7 none n0 T ((r0, ob1 (.ref r1) (.ref r2) (.int (cnt (uL fl))) (.long (0 : Int64)) (.long hi) (.long lo) .null (.ref b17)) :: (r2, .inr (.byte, List.map Value.int (uL fl))) :: (b17, .inr (.int, List.map Value.int (svL (uL fl) pa pb))) :: (r5, .inr (.int, [(.int pa), (.int pb)])) :: (r3, .inr (.int, List.map Value.int sv)) :: RR) 1 2 := A
       have Aq := A
       subst ej12 e18 e20
       have A := Aq
       exact A.retV d24_163 (by decide) (by decide) ⟨b17, rfl, by first | rfl | (simp only [if_neg h19, if_pos h21])⟩
   · refine A.aloadN (q := 147) d24_146 rfl rfl rfl ?_
     refine A.getF (q := 150) (w := 134) (i := 0) (j := 7) d24_147 rfl rfl rfl rfl ?_
     intro T A
     refine A.iloadN (q := 151) d24_150 rfl rfl ?_
     refine A.iload (q := 153) d24_151 rfl rfl ?_
     refine A.iastoreM (q := 154) (i := 2) (x' := pa) (L' := ((r0, ob1 (.ref r1) (.ref r2) (.int (cnt (uL fl))) (.long (0 : Int64)) (.long hi) (.long lo) .null (.ref b17)) :: (r2, .inr (.byte, List.map Value.int (uL fl))) :: (b17, .inr (.int, List.map Value.int ((List.replicate ((cnt (uL fl))).toNatClampNeg (0 : Int32)).set ((0 : Int32)).toNatClampNeg pa))) :: (r5, .inr (.int, [(.int pa), (.int pb)])) :: (r3, .inr (.int, List.map Value.int sv)) :: RR)) d24_153 rfl rfl (by decide) (own_g61 sg pg f1 f2 hf1 hf2 hS fl hfl pa hpa pb hpb sv hsv v18 e18 h19) rfl rfl ?_
     intro T A
     refine A.iinc (q := 157) (v := (1 : Int32)) (l' := #[.val (.ref r0), .val (.ref r5), .val (.int (1 : Int32)), .val (.ref r5), .val (.int (2 : Int32)), .val (.int (0 : Int32)), .val (.int pa)]) d24_154 rfl rfl (by decide) rfl ?_
     refine A.iinc (q := 160) (v := (1 : Int32)) (l' := #[.val (.ref r0), .val (.ref r5), .val (.int (1 : Int32)), .val (.ref r5), .val (.int (2 : Int32)), .val (.int (1 : Int32)), .val (.int pa)]) d24_157 rfl rfl (by decide) rfl ?_
     refine A.goto (r := 124) d24_160 (by decide) ?_
     refine A.iload (q := 126) d24_124 rfl rfl ?_
     refine A.iload (q := 128) d24_126 rfl rfl ?_
     refine A.icmpF (q := 131) d24_128 rfl (by decide) ?_
     refine A.aloadN (q := 132) d24_131 rfl rfl rfl ?_
     refine A.iload (q := 134) d24_132 rfl rfl ?_
     refine A.iaload (q := 135) (i := 3) (v := (.int pb)) d24_134 rfl rfl (by decide) rfl ?_
     refine A.istore (q := 137) (l' := #[.val (.ref r0), .val (.ref r5), .val (.int (1 : Int32)), .val (.ref r5), .val (.int (2 : Int32)), .val (.int (1 : Int32)), .val (.int pb)]) d24_135 rfl rfl ?_
     refine A.aloadN (q := 138) d24_137 rfl rfl rfl ?_
     refine A.iload (q := 140) d24_138 rfl rfl ?_
     refine A.callV (q := 143) (i := 0) (w1 := 73) (w2 := 18) (w3 := 2) (w4 := 21) (w5 := 20) (w6 := 19) (a := r0) (as := [(.int pb)]) (st := []) (W := 0) d24_140 rfl rfl rfl rfl rfl rfl rfl rfl (rmF l Z a0 hw n0 r0 pb r1 r2 (cnt (uL fl)) (0 : Int64) hi lo .null (.ref b17) (uL fl) _ nq.1 (by rw [(show (uL fl).length = 4 by simp only [List.length_set, own_u1len, own_fblen, own_mkLlen, own_l2Llen, own_uLlen, own_umlen, len_fl])]; exact nq.2.1)) (by decide) ⟨_, _, pd_2, rfl⟩ rfl rfl rfl (by decide) (by decide) (by decide) (by decide) ?_
     rintro _ T _ ⟨rfl, rfl⟩ A
     show Go p e below _ (T.setTop (mkF m 143 #[.val (.ref r0), .val (.ref r5), .val (.int (1 : Int32)), .val (.ref r5), .val (.int (2 : Int32)), .val (.int (1 : Int32)), .val (.int pb)] [(.int (FF pb (uL fl)))]))
     obtain ⟨v22, e22⟩ : ∃ v : Int32, (FF pb (uL fl)) = v := ⟨_, rfl⟩
     rw [e22]
     refine A.if_ne (q := 146) (r := 157) d24_143 rfl (by decide) (fun h23 => ?_) (fun h23 => ?_)
     · refine A.iinc (q := 160) (v := (2 : Int32)) (l' := #[.val (.ref r0), .val (.ref r5), .val (.int (1 : Int32)), .val (.ref r5), .val (.int (2 : Int32)), .val (.int (2 : Int32)), .val (.int pb)]) d24_157 rfl rfl (by decide) rfl ?_
       refine A.goto (r := 124) d24_160 (by decide) ?_
       refine A.iload (q := 126) d24_124 rfl rfl ?_
       refine A.iload (q := 128) d24_126 rfl rfl ?_
       refine A.icmpT (r := 163) d24_128 (by decide) (by decide) ?_
       have q : ((List.replicate ((cnt (uL fl))).toNatClampNeg (0 : Int32)).set ((0 : Int32)).toNatClampNeg pa) = (svL (uL fl) pa pb) := (own_g62 sg pg f1 f2 hf1 hf2 hS fl hfl pa hpa pb hpb sv hsv v18 e18 v22 e22 h19 h23)
       rw [q] at A
       clear q
       have A : Here p l e ({ frames := 2, cells := 1, slots := 2, locals := 26 } : Room) s m ([(.ref r0), (.ref r5)] : List Value).toArray below meth c Z a0 tables_1 (⟨"com/example/forebound/forebound/problem/Sum", "forbidUnlisted", "([I)V"⟩ : MethodName).cls (⟨"com/example/forebound/forebound/problem/Sum", "forbidUnlisted", "([I)V"⟩ : MethodName).name prog_28_method_8_code 7 none n0 T ((r0, ob1 (.ref r1) (.ref r2) (.int (cnt (uL fl))) (.long (0 : Int64)) (.long hi) (.long lo) .null (.ref b17)) :: (r2, .inr (.byte, List.map Value.int (uL fl))) :: (b17, .inr (.int, List.map Value.int (svL (uL fl) pa pb))) :: (r5, .inr (.int, [(.int pa), (.int pb)])) :: (r3, .inr (.int, List.map Value.int sv)) :: RR) 1 2 := A
       have Aq := A
       subst ej12 e18 e22
       have A := Aq
       exact A.retV d24_163 (by decide) (by decide) ⟨b17, rfl, by first | rfl | (simp only [if_pos h19, if_neg h23])⟩
     · refine A.aloadN (q := 147) d24_146 rfl rfl rfl ?_
       refine A.getF (q := 150) (w := 134) (i := 0) (j := 7) d24_147 rfl rfl rfl rfl ?_
       intro T A
       refine A.iloadN (q := 151) d24_150 rfl rfl ?_
       refine A.iload (q := 153) d24_151 rfl rfl ?_
       refine A.iastoreM (q := 154) (i := 2) (x' := pb) (L' := ((r0, ob1 (.ref r1) (.ref r2) (.int (cnt (uL fl))) (.long (0 : Int64)) (.long hi) (.long lo) .null (.ref b17)) :: (r2, .inr (.byte, List.map Value.int (uL fl))) :: (b17, .inr (.int, List.map Value.int (((List.replicate ((cnt (uL fl))).toNatClampNeg (0 : Int32)).set ((0 : Int32)).toNatClampNeg pa).set ((1 : Int32)).toNatClampNeg pb))) :: (r5, .inr (.int, [(.int pa), (.int pb)])) :: (r3, .inr (.int, List.map Value.int sv)) :: RR)) d24_153 rfl rfl (by decide) (own_g63 sg pg f1 f2 hf1 hf2 hS fl hfl pa hpa pb hpb sv hsv v18 e18 v22 e22 h19 h23) rfl rfl ?_
       intro T A
       refine A.iinc (q := 157) (v := (2 : Int32)) (l' := #[.val (.ref r0), .val (.ref r5), .val (.int (2 : Int32)), .val (.ref r5), .val (.int (2 : Int32)), .val (.int (1 : Int32)), .val (.int pb)]) d24_154 rfl rfl (by decide) rfl ?_
       refine A.iinc (q := 160) (v := (2 : Int32)) (l' := #[.val (.ref r0), .val (.ref r5), .val (.int (2 : Int32)), .val (.ref r5), .val (.int (2 : Int32)), .val (.int (2 : Int32)), .val (.int pb)]) d24_157 rfl rfl (by decide) rfl ?_
       refine A.goto (r := 124) d24_160 (by decide) ?_
       refine A.iload (q := 126) d24_124 rfl rfl ?_
       refine A.iload (q := 128) d24_126 rfl rfl ?_
       refine A.icmpT (r := 163) d24_128 (by decide) (by decide) ?_
       have q : (((List.replicate ((cnt (uL fl))).toNatClampNeg (0 : Int32)).set ((0 : Int32)).toNatClampNeg pa).set ((1 : Int32)).toNatClampNeg pb) = (svL (uL fl) pa pb) := (own_g64 sg pg f1 f2 hf1 hf2 hS fl hfl pa hpa pb hpb sv hsv v18 e18 v22 e22 h19 h23)
       rw [q] at A
       clear q
       have A : Here p l e ({ frames := 2, cells := 1, slots := 2, locals := 26 } : Room) s m ([(.ref r0), (.ref r5)] : List Value).toArray below meth c Z a0 tables_1 (⟨"com/example/forebound/forebound/problem/Sum", "forbidUnlisted", "([I)V"⟩ : MethodName).cls (⟨"com/example/forebound/forebound/problem/Sum", "forbidUnlisted", "([I)V"⟩ : MethodName).name prog_28_method_8_code 7 none n0 T ((r0, ob1 (.ref r1) (.ref r2) (.int (cnt (uL fl))) (.long (0 : Int64)) (.long hi) (.long lo) .null (.ref b17)) :: (r2, .inr (.byte, List.map Value.int (uL fl))) :: (b17, .inr (.int, List.map Value.int (svL (uL fl) pa pb))) :: (r5, .inr (.int, [(.int pa), (.int pb)])) :: (r3, .inr (.int, List.map Value.int sv)) :: RR) 1 2 := A
       have Aq := A
       subst ej12 e18 e22
       have A := Aq
       exact A.retV d24_163 (by decide) (by decide) ⟨b17, rfl, by first | rfl | (simp only [if_pos h19, if_pos h23])⟩
  refine A.iconst (q := 67) (v := (0 : Int32)) d24_66 rfl (by decide) ?_
  refine A.istore (q := 69) (l' := #[.val (.ref r0), .val (.ref r5), .val (.ref r3), .val (.int sv.length.toInt32), .val (.int (0 : Int32)), .unset, .unset]) d24_67 rfl rfl ?_
  refine A.iload (q := 71) d24_69 rfl rfl ?_
  refine A.iloadN (q := 72) d24_71 rfl rfl ?_
  refine A.icmp_ge (q := 75) (r := 103) d24_72 rfl (by decide) (fun h1 => ?_) (fun h1 => ?_)
  · exact J66_15 T _ _ _ (fl) (by simp only [if_neg h1]) (by first | exact One.u | exact One.val rfl | assumption) (by simp only [if_neg h1]) (by simp only [if_neg h1]) A
  · have J75_4 : ∀ (T : State) (j3 : Int32) (j4 : List Int32), j3 = (if (fl.getD ((sv.getD ((0 : Int32)).toNatClampNeg (0 : Int32))).toNatClampNeg (0 : Int32)) = (0 : Int32) then ((cnt fl) - (1 : Int32)) else (cnt fl)) → j4 = (if (fl.getD ((sv.getD ((0 : Int32)).toNatClampNeg (0 : Int32))).toNatClampNeg (0 : Int32)) = (0 : Int32) then (fl.set ((sv.getD ((0 : Int32)).toNatClampNeg (0 : Int32))).toNatClampNeg (((fl.getD ((sv.getD ((0 : Int32)).toNatClampNeg (0 : Int32))).toNatClampNeg (0 : Int32)) ||| (1 : Int32)).toInt8.toInt32)) else fl) → Here p l e ({ frames := 2, cells := 1, slots := 2, locals := 26 } : Room) s m ([(.ref r0), (.ref r5)] : List Value).toArray below meth c Z a0 tables_1 (⟨"com/example/forebound/forebound/problem/Sum", "forbidUnlisted", "([I)V"⟩ : MethodName).cls (⟨"com/example/forebound/forebound/problem/Sum", "forbidUnlisted", "([I)V"⟩ : MethodName).name prog_28_method_8_code 7 none n0 T ((r0, ob1 (.ref r1) (.ref r2) (.int j3) (.long (0 : Int64)) (.long hi) (.long lo) .null (.ref r3)) :: (r2, .inr (.byte, List.map Value.int j4)) :: (r5, .inr (.int, [(.int pa), (.int pb)])) :: (r3, .inr (.int, List.map Value.int sv)) :: RR) 0 0 → Go p e below (EndS below s n0 Z 1 2 (fun v L' => ∃ b17 : Addr, v = none ∧ L' = ((r0, ob1 (.ref r1) (.ref r2) (.int (cnt (uL fl))) (.long (0 : Int64)) (.long hi) (.long lo) .null (.ref b17)) :: (r2, .inr (.byte, List.map Value.int (uL fl))) :: (b17, .inr (.int, List.map Value.int (svL (uL fl) pa pb))) :: (r5, .inr (.int, [(.int pa), (.int pb)])) :: (r3, .inr (.int, List.map Value.int sv)) :: RR))) (T.setTop (mkF m 97 #[.val (.ref r0), .val (.ref r5), .val (.ref r3), .val (.int sv.length.toInt32), .val (.int (0 : Int32)), .val (.int (sv.getD ((0 : Int32)).toNatClampNeg (0 : Int32))), .unset] [])) := by
     intro T j3 j4 ej3 ej4 A
     refine A.iinc (q := 100) (v := (1 : Int32)) (l' := #[.val (.ref r0), .val (.ref r5), .val (.ref r3), .val (.int sv.length.toInt32), .val (.int (1 : Int32)), .val (.int (sv.getD ((0 : Int32)).toNatClampNeg (0 : Int32))), .unset]) d24_97 rfl rfl (by decide) rfl ?_
     refine A.goto (r := 69) d24_100 (by decide) ?_
     refine A.iload (q := 71) d24_69 rfl rfl ?_
     refine A.iloadN (q := 72) d24_71 rfl rfl ?_
     refine A.icmp_ge (q := 75) (r := 103) d24_72 rfl (by decide) (fun h6 => ?_) (fun h6 => ?_)
     · exact J66_15 T _ _ _ (j4) (by simp only [ej3, ej4, if_neg h6, if_pos h1]) (by first | exact One.u | exact One.val rfl | assumption) (by simp only [ej3, ej4, if_neg h6, if_pos h1]) (by simp only [ej3, ej4, if_neg h6, if_pos h1]) A
     · have J75_9 : ∀ (T : State) (j8 : Int32) (j9 : List Int32), j8 = (if (j4.getD ((sv.getD ((1 : Int32)).toNatClampNeg (0 : Int32))).toNatClampNeg (0 : Int32)) = (0 : Int32) then (j3 - (1 : Int32)) else j3) → j9 = (if (j4.getD ((sv.getD ((1 : Int32)).toNatClampNeg (0 : Int32))).toNatClampNeg (0 : Int32)) = (0 : Int32) then (j4.set ((sv.getD ((1 : Int32)).toNatClampNeg (0 : Int32))).toNatClampNeg (((j4.getD ((sv.getD ((1 : Int32)).toNatClampNeg (0 : Int32))).toNatClampNeg (0 : Int32)) ||| (1 : Int32)).toInt8.toInt32)) else j4) → Here p l e ({ frames := 2, cells := 1, slots := 2, locals := 26 } : Room) s m ([(.ref r0), (.ref r5)] : List Value).toArray below meth c Z a0 tables_1 (⟨"com/example/forebound/forebound/problem/Sum", "forbidUnlisted", "([I)V"⟩ : MethodName).cls (⟨"com/example/forebound/forebound/problem/Sum", "forbidUnlisted", "([I)V"⟩ : MethodName).name prog_28_method_8_code 7 none n0 T ((r0, ob1 (.ref r1) (.ref r2) (.int j8) (.long (0 : Int64)) (.long hi) (.long lo) .null (.ref r3)) :: (r2, .inr (.byte, List.map Value.int j9)) :: (r5, .inr (.int, [(.int pa), (.int pb)])) :: (r3, .inr (.int, List.map Value.int sv)) :: RR) 0 0 → Go p e below (EndS below s n0 Z 1 2 (fun v L' => ∃ b17 : Addr, v = none ∧ L' = ((r0, ob1 (.ref r1) (.ref r2) (.int (cnt (uL fl))) (.long (0 : Int64)) (.long hi) (.long lo) .null (.ref b17)) :: (r2, .inr (.byte, List.map Value.int (uL fl))) :: (b17, .inr (.int, List.map Value.int (svL (uL fl) pa pb))) :: (r5, .inr (.int, [(.int pa), (.int pb)])) :: (r3, .inr (.int, List.map Value.int sv)) :: RR))) (T.setTop (mkF m 97 #[.val (.ref r0), .val (.ref r5), .val (.ref r3), .val (.int sv.length.toInt32), .val (.int (1 : Int32)), .val (.int (sv.getD ((1 : Int32)).toNatClampNeg (0 : Int32))), .unset] [])) := by
        intro T j8 j9 ej8 ej9 A
        refine A.iinc (q := 100) (v := (2 : Int32)) (l' := #[.val (.ref r0), .val (.ref r5), .val (.ref r3), .val (.int sv.length.toInt32), .val (.int (2 : Int32)), .val (.int (sv.getD ((1 : Int32)).toNatClampNeg (0 : Int32))), .unset]) d24_97 rfl rfl (by decide) rfl ?_
        refine A.goto (r := 69) d24_100 (by decide) ?_
        refine A.iload (q := 71) d24_69 rfl rfl ?_
        refine A.iloadN (q := 72) d24_71 rfl rfl ?_
        refine A.icmp_ge (q := 75) (r := 103) d24_72 rfl (by decide) (fun _ => ?_) (fun h => ((own_g53 sg pg f1 f2 hf1 hf2 hS fl hfl pa hpa pb hpb sv hsv ) h).elim)
        exact J66_15 T _ _ _ (j9) (by simp only [ej3, ej4, ej8, ej9, if_pos h1, if_pos h6]) (by first | exact One.u | exact One.val rfl | assumption) (by simp only [ej3, ej4, ej8, ej9, if_pos h1, if_pos h6]) (by simp only [ej3, ej4, ej8, ej9, if_pos h1, if_pos h6]) A
       refine A.aloadN (q := 76) d24_75 rfl rfl rfl ?_
       refine A.iload (q := 78) d24_76 rfl rfl ?_
       refine A.ialoadM (q := 79) (i := 3) (v := (sv.getD ((1 : Int32)).toNatClampNeg (0 : Int32))) d24_78 rfl rfl (by decide) (own_gd (own_g48 sg pg f1 f2 hf1 hf2 hS fl hfl pa hpa pb hpb sv hsv h1 h6)) ?_
       refine A.istore (q := 81) (l' := #[.val (.ref r0), .val (.ref r5), .val (.ref r3), .val (.int sv.length.toInt32), .val (.int (1 : Int32)), .val (.int (sv.getD ((1 : Int32)).toNatClampNeg (0 : Int32))), .unset]) d24_79 rfl rfl ?_
       refine A.aloadN (q := 82) d24_81 rfl rfl rfl ?_
       refine A.getF (q := 85) (w := 13) (i := 0) (j := 1) d24_82 rfl rfl rfl rfl ?_
       intro T A
       refine A.iload (q := 87) d24_85 rfl rfl ?_
       have len_j4 : j4.length = 4 := by rw [ej4]; (repeat' split) <;> simp only [List.length_set, own_u1len, own_fblen, own_mkLlen, own_l2Llen, own_uLlen, own_umlen, len_fl]
       refine A.baloadBM (q := 88) (i := 1) (v := (j4.getD ((sv.getD ((1 : Int32)).toNatClampNeg (0 : Int32))).toNatClampNeg (0 : Int32))) d24_87 rfl rfl (own_g49 sg pg f1 f2 hf1 hf2 hS fl hfl pa hpa pb hpb sv hsv h1 h6) (own_gd (by rw [len_j4]; exact (own_g50 sg pg f1 f2 hf1 hf2 hS fl hfl pa hpa pb hpb sv hsv h1 h6))) ?_
       refine A.if_ne (q := 91) (r := 97) d24_88 rfl (by decide) (fun h7 => ?_) (fun h7 => ?_)
       · exact J75_9 T _ (j4) (by simp only [if_neg h7]) (by simp only [if_neg h7]) A
       · refine A.aloadN (q := 92) d24_91 rfl rfl rfl ?_
         refine A.iload (q := 94) d24_92 rfl rfl ?_
         refine A.callP (q := 97) (i := 0) (w1 := 126) (w2 := 128) (w3 := 2) (w4 := 129) (w5 := 1) (w6 := 127) (a := r0) (as := [(.int (sv.getD ((1 : Int32)).toNatClampNeg (0 : Int32)))]) (st := []) (W := 0) d24_94 rfl rfl rfl rfl rfl rfl rfl rfl (rmO l Z a0 hw n0 r0 (sv.getD ((1 : Int32)).toNatClampNeg (0 : Int32)) r1 r2 j3 (0 : Int64) hi lo (.ref r3) j4 _ (own_g51 sg pg f1 f2 hf1 hf2 hS fl hfl pa hpa pb hpb sv hsv j4 ej4 h1 h6 h7) (by rw [len_j4]; exact (own_g52 sg pg f1 f2 hf1 hf2 hS fl hfl pa hpa pb hpb sv hsv j4 ej4 h1 h6 h7))) (by decide) ⟨_, _, pd_1, rfl⟩ rfl rfl rfl (by decide) (by decide) (by decide) (by decide) ?_
         rintro _ T _ ⟨rfl, rfl⟩ A
         show Go p e below _ (T.setTop (mkF m 97 #[.val (.ref r0), .val (.ref r5), .val (.ref r3), .val (.int sv.length.toInt32), .val (.int (1 : Int32)), .val (.int (sv.getD ((1 : Int32)).toNatClampNeg (0 : Int32))), .unset] []))
         exact J75_9 T _ ((j4.set ((sv.getD ((1 : Int32)).toNatClampNeg (0 : Int32))).toNatClampNeg (((j4.getD ((sv.getD ((1 : Int32)).toNatClampNeg (0 : Int32))).toNatClampNeg (0 : Int32)) ||| (1 : Int32)).toInt8.toInt32))) (by simp only [if_pos h7]) (by simp only [if_pos h7]) A
    refine A.aloadN (q := 76) d24_75 rfl rfl rfl ?_
    refine A.iload (q := 78) d24_76 rfl rfl ?_
    refine A.ialoadM (q := 79) (i := 3) (v := (sv.getD ((0 : Int32)).toNatClampNeg (0 : Int32))) d24_78 rfl rfl (by decide) (own_gd (own_g43 sg pg f1 f2 hf1 hf2 hS fl hfl pa hpa pb hpb sv hsv h1)) ?_
    refine A.istore (q := 81) (l' := #[.val (.ref r0), .val (.ref r5), .val (.ref r3), .val (.int sv.length.toInt32), .val (.int (0 : Int32)), .val (.int (sv.getD ((0 : Int32)).toNatClampNeg (0 : Int32))), .unset]) d24_79 rfl rfl ?_
    refine A.aloadN (q := 82) d24_81 rfl rfl rfl ?_
    refine A.getF (q := 85) (w := 13) (i := 0) (j := 1) d24_82 rfl rfl rfl rfl ?_
    intro T A
    refine A.iload (q := 87) d24_85 rfl rfl ?_
    refine A.baloadBM (q := 88) (i := 1) (v := (fl.getD ((sv.getD ((0 : Int32)).toNatClampNeg (0 : Int32))).toNatClampNeg (0 : Int32))) d24_87 rfl rfl (own_g44 sg pg f1 f2 hf1 hf2 hS fl hfl pa hpa pb hpb sv hsv h1) (own_gd (by rw [len_fl]; exact (own_g45 sg pg f1 f2 hf1 hf2 hS fl hfl pa hpa pb hpb sv hsv h1))) ?_
    refine A.if_ne (q := 91) (r := 97) d24_88 rfl (by decide) (fun h2 => ?_) (fun h2 => ?_)
    · exact J75_4 T _ (fl) (by simp only [if_neg h2]) (by simp only [if_neg h2]) A
    · refine A.aloadN (q := 92) d24_91 rfl rfl rfl ?_
      refine A.iload (q := 94) d24_92 rfl rfl ?_
      refine A.callP (q := 97) (i := 0) (w1 := 126) (w2 := 128) (w3 := 2) (w4 := 129) (w5 := 1) (w6 := 127) (a := r0) (as := [(.int (sv.getD ((0 : Int32)).toNatClampNeg (0 : Int32)))]) (st := []) (W := 0) d24_94 rfl rfl rfl rfl rfl rfl rfl rfl (rmO l Z a0 hw n0 r0 (sv.getD ((0 : Int32)).toNatClampNeg (0 : Int32)) r1 r2 (cnt fl) (0 : Int64) hi lo (.ref r3) fl _ (own_g46 sg pg f1 f2 hf1 hf2 hS fl hfl pa hpa pb hpb sv hsv h1 h2) (by rw [len_fl]; exact (own_g47 sg pg f1 f2 hf1 hf2 hS fl hfl pa hpa pb hpb sv hsv h1 h2))) (by decide) ⟨_, _, pd_1, rfl⟩ rfl rfl rfl (by decide) (by decide) (by decide) (by decide) ?_
      rintro _ T _ ⟨rfl, rfl⟩ A
      show Go p e below _ (T.setTop (mkF m 97 #[.val (.ref r0), .val (.ref r5), .val (.ref r3), .val (.int sv.length.toInt32), .val (.int (0 : Int32)), .val (.int (sv.getD ((0 : Int32)).toNatClampNeg (0 : Int32))), .unset] []))
      exact J75_4 T _ ((fl.set ((sv.getD ((0 : Int32)).toNatClampNeg (0 : Int32))).toNatClampNeg (((fl.getD ((sv.getD ((0 : Int32)).toNatClampNeg (0 : Int32))).toNatClampNeg (0 : Int32)) ||| (1 : Int32)).toInt8.toInt32))) (by simp only [if_pos h2]) (by simp only [if_pos h2]) A
theorem pd_3 : parseMethodDescriptor "()[I" = some ⟨[], some (.array .int)⟩ := by decide +kernel
theorem pd_4 : parseMethodDescriptor "()[Z" = some ⟨[], some (.array .boolean)⟩ := by decide +kernel
theorem pd_5 : parseMethodDescriptor "(I)J" = some ⟨[.int], some .long⟩ := by decide +kernel
theorem pd_6 : parseMethodDescriptor "()[J" = some ⟨[], some (.array .long)⟩ := by decide +kernel
theorem d16_0 : decode jdk_29_method_25_code 0 = .ok (.lload_n 0, 1) := by decide +kernel
theorem d16_1 : decode jdk_29_method_25_code 1 = .ok (.lload_n 2, 1) := by decide +kernel
theorem d16_2 : decode jdk_29_method_25_code 2 = .ok (.ladd, 1) := by decide +kernel
theorem d16_3 : decode jdk_29_method_25_code 3 = .ok (.lstore 4, 2) := by decide +kernel
theorem d16_5 : decode jdk_29_method_25_code 5 = .ok (.lload_n 0, 1) := by decide +kernel
theorem d16_6 : decode jdk_29_method_25_code 6 = .ok (.lload 4, 2) := by decide +kernel
theorem d16_8 : decode jdk_29_method_25_code 8 = .ok (.lxor, 1) := by decide +kernel
theorem d16_9 : decode jdk_29_method_25_code 9 = .ok (.lload_n 2, 1) := by decide +kernel
theorem d16_10 : decode jdk_29_method_25_code 10 = .ok (.lload 4, 2) := by decide +kernel
theorem d16_12 : decode jdk_29_method_25_code 12 = .ok (.lxor, 1) := by decide +kernel
theorem d16_13 : decode jdk_29_method_25_code 13 = .ok (.land, 1) := by decide +kernel
theorem d16_14 : decode jdk_29_method_25_code 14 = .ok (.lconst 0, 1) := by decide +kernel
theorem d16_15 : decode jdk_29_method_25_code 15 = .ok (.lcmp, 1) := by decide +kernel
theorem d16_16 : decode jdk_29_method_25_code 16 = .ok (.ifCond .ge 13, 3) := by decide +kernel
theorem d16_19 : decode jdk_29_method_25_code 19 = .ok (.new 109, 3) := by decide +kernel
theorem d16_22 : decode jdk_29_method_25_code 22 = .ok (.dup, 1) := by decide +kernel
theorem d16_23 : decode jdk_29_method_25_code 23 = .ok (.ldc 116, 2) := by decide +kernel
theorem d16_25 : decode jdk_29_method_25_code 25 = .ok (.invokespecial 113, 3) := by decide +kernel
theorem d16_28 : decode jdk_29_method_25_code 28 = .ok (.athrow, 1) := by decide +kernel
theorem d16_29 : decode jdk_29_method_25_code 29 = .ok (.lload 4, 2) := by decide +kernel
theorem d16_31 : decode jdk_29_method_25_code 31 = .ok (.lreturn, 1) := by decide +kernel
theorem pn_16 : plainFor (⟨"java/lang/Math", "addExact", "(JJ)J"⟩ : MethodName) = true := Jvm.Free.JP.mathPlain rfl (by decide +kernel)
set_option maxRecDepth 65536 in
set_option maxHeartbeats 8000000 in
theorem rm16_1 (l : Launch) (Z : State) (a0 : Array Value) (hw : ∀ d ∈ tables_1, d.before a0 Z = true) (n0 : Nat)  (RR : Obs) :
    Triple l Z n0 (⟨"java/lang/Math", "addExact", "(JJ)J"⟩ : MethodName) jdk_29_method_25_code 6 (some .long) ({ frames := 0, cells := 0, slots := 0, locals := 0 } : Room) 0 0 [(.long (0 : Int64)), (.long (0 : Int64))] (RR) (fun v L' => v = some (.long (0 : Int64)) ∧ L' = (RR)) := by
  refine Triple.of_body (tbl := tables_1) (a0 := a0) (Ls := #[.val (.long (0 : Int64)), .second, .val (.long (0 : Int64)), .second, .unset, .unset]) pn_16 hw rfl ?_
  intro p e s m below meth c T A
  refine A.lloadN (q := 1) d16_0 rfl rfl ?_
  refine A.lloadN (q := 2) d16_1 rfl rfl ?_
  refine A.ladd (q := 3) (v := (0 : Int64)) d16_2 rfl (by decide) ?_
  refine A.lstore (q := 5) (l' := #[.val (.long (0 : Int64)), .second, .val (.long (0 : Int64)), .second, .val (.long (0 : Int64)), .second]) d16_3 rfl rfl ?_
  refine A.lloadN (q := 6) d16_5 rfl rfl ?_
  refine A.lload (q := 8) d16_6 rfl rfl ?_
  refine A.lxor (q := 9) (v := (0 : Int64)) d16_8 rfl (by decide) ?_
  refine A.lloadN (q := 10) d16_9 rfl rfl ?_
  refine A.lload (q := 12) d16_10 rfl rfl ?_
  refine A.lxor (q := 13) (v := (0 : Int64)) d16_12 rfl (by decide) ?_
  refine A.land (q := 14) (v := (0 : Int64)) d16_13 rfl (by decide) ?_
  refine A.lconst (q := 15) (v := (0 : Int64)) d16_14 rfl (by decide) ?_
  refine A.lcmp_ge (q := 16) (q2 := 19) (r := 29) d16_15 rfl d16_16 rfl (by decide) (fun _ => ?_) (fun h => ((show ¬ ((0 : Int64) < (0 : Int64)) by decide) h).elim)
  refine A.lload (q := 31) d16_29 rfl rfl ?_
  exact A.retJ d16_31 (by decide) (by decide) ⟨rfl, rfl⟩
theorem pd_7 : parseMethodDescriptor "(JJ)J" = some ⟨[.long, .long], some .long⟩ := by decide +kernel
theorem d17_0 : decode prog_27_method_11_code 0 = .ok (.aload_n 0, 1) := by decide +kernel
theorem d17_1 : decode prog_27_method_11_code 1 = .ok (.getfield 34, 3) := by decide +kernel
theorem d17_4 : decode prog_27_method_11_code 4 = .ok (.ireturn, 1) := by decide +kernel
theorem pn_17 : plainFor (⟨"com/example/forebound/forebound/problem/Problem$Table", "defaultForbidden", "()Z"⟩ : MethodName) = true := plainFor_of_name (by first | (simp [plainName, overriddenIn]; done) | decide +kernel)
set_option maxRecDepth 65536 in
set_option maxHeartbeats 8000000 in
theorem rm17_1 (l : Launch) (Z : State) (a0 : Array Value) (hw : ∀ d ∈ tables_1, d.before a0 Z = true) (n0 : Nat) (r0 : Addr) (r1 : Addr) (r2 : Addr) (r3 : Addr) (p4 : Int32) (p5 : Int32) (p6 : Int32) (p7 : Int32) (RR : Obs) :
    Triple l Z n0 (⟨"com/example/forebound/forebound/problem/Problem$Table", "defaultForbidden", "()Z"⟩ : MethodName) prog_27_method_11_code 1 (some .boolean) ({ frames := 0, cells := 0, slots := 0, locals := 0 } : Room) 0 0 [(.ref r0)] ((r0, ob0 (.ref r1) (.ref r2) (.ref r3) (.long (0 : Int64)) (.int (0 : Int32))) :: (r1, .inr (.int, [(.int p4), (.int p5)])) :: (r2, .inr (.long, [(.long (0 : Int64)), (.long (0 : Int64))])) :: (r3, .inr (.boolean, [(.int p6), (.int p7)])) :: RR) (fun v L' => v = some (.int (0 : Int32)) ∧ L' = ((r0, ob0 (.ref r1) (.ref r2) (.ref r3) (.long (0 : Int64)) (.int (0 : Int32))) :: (r1, .inr (.int, [(.int p4), (.int p5)])) :: (r2, .inr (.long, [(.long (0 : Int64)), (.long (0 : Int64))])) :: (r3, .inr (.boolean, [(.int p6), (.int p7)])) :: RR)) := by
  refine Triple.of_body (tbl := tables_1) (a0 := a0) (Ls := #[.val (.ref r0)]) pn_17 hw rfl ?_
  intro p e s m below meth c T A
  refine A.aloadN (q := 1) d17_0 rfl rfl rfl ?_
  refine A.getF (q := 4) (w := 57) (i := 0) (j := 4) d17_1 rfl rfl rfl rfl ?_
  intro T A
  exact A.retZ (v := (0 : Int32)) d17_4 (by decide) (by decide) (by decide) ⟨rfl, rfl⟩
theorem pd_8 : parseMethodDescriptor "()Z" = some ⟨[], some .boolean⟩ := by decide +kernel
theorem d18_0 : decode prog_27_method_10_code 0 = .ok (.aload_n 0, 1) := by decide +kernel
theorem d18_1 : decode prog_27_method_10_code 1 = .ok (.getfield 30, 3) := by decide +kernel
theorem d18_4 : decode prog_27_method_10_code 4 = .ok (.lreturn, 1) := by decide +kernel
theorem pn_18 : plainFor (⟨"com/example/forebound/forebound/problem/Problem$Table", "defaultCost", "()J"⟩ : MethodName) = true := plainFor_of_name (by first | (simp [plainName, overriddenIn]; done) | decide +kernel)
set_option maxRecDepth 65536 in
set_option maxHeartbeats 8000000 in
theorem rm18_1 (l : Launch) (Z : State) (a0 : Array Value) (hw : ∀ d ∈ tables_1, d.before a0 Z = true) (n0 : Nat) (r0 : Addr) (r1 : Addr) (r2 : Addr) (r3 : Addr) (p4 : Int32) (p5 : Int32) (p6 : Int32) (p7 : Int32) (RR : Obs) :
    Triple l Z n0 (⟨"com/example/forebound/forebound/problem/Problem$Table", "defaultCost", "()J"⟩ : MethodName) prog_27_method_10_code 1 (some .long) ({ frames := 0, cells := 0, slots := 0, locals := 0 } : Room) 0 0 [(.ref r0)] ((r0, ob0 (.ref r1) (.ref r2) (.ref r3) (.long (0 : Int64)) (.int (0 : Int32))) :: (r1, .inr (.int, [(.int p4), (.int p5)])) :: (r2, .inr (.long, [(.long (0 : Int64)), (.long (0 : Int64))])) :: (r3, .inr (.boolean, [(.int p6), (.int p7)])) :: RR) (fun v L' => v = some (.long (0 : Int64)) ∧ L' = ((r0, ob0 (.ref r1) (.ref r2) (.ref r3) (.long (0 : Int64)) (.int (0 : Int32))) :: (r1, .inr (.int, [(.int p4), (.int p5)])) :: (r2, .inr (.long, [(.long (0 : Int64)), (.long (0 : Int64))])) :: (r3, .inr (.boolean, [(.int p6), (.int p7)])) :: RR)) := by
  refine Triple.of_body (tbl := tables_1) (a0 := a0) (Ls := #[.val (.ref r0)]) pn_18 hw rfl ?_
  intro p e s m below meth c T A
  refine A.aloadN (q := 1) d18_0 rfl rfl rfl ?_
  refine A.getF (q := 4) (w := 55) (i := 0) (j := 3) d18_1 rfl rfl rfl rfl ?_
  intro T A
  exact A.retJ d18_4 (by decide) (by decide) ⟨rfl, rfl⟩
theorem pd_9 : parseMethodDescriptor "()J" = some ⟨[], some .long⟩ := by decide +kernel
theorem own_f32 (sg : Fin 28) (pg : Fin 12) (f1 f2 : Int32) (hf1 : f1 = 0 ∨ f1 = 1) (hf2 : f2 = 0 ∨ f2 = 1) (hS : True) : ((if ((FF (pA pg) (mkO sg pg))) = (0 : Int32) then (if f1 = (0 : Int32) then (mkO sg pg) else ((mkO sg pg).set ((pA pg)).toNatClampNeg ((((mkO sg pg).getD ((pA pg)).toNatClampNeg (0 : Int32)) ||| (1 : Int32)).toInt8.toInt32))) else (mkO sg pg))) = (fb (mkO sg pg) (pA pg) f1) := by
  rcases hf1 with rfl | rfl <;> (revert pg; revert sg; decide +kernel)
theorem own_g65 (sg : Fin 28) (pg : Fin 12) (f1 f2 : Int32) (hf1 : f1 = 0 ∨ f1 = 1) (hf2 : f2 = 0 ∨ f2 = 1) (hS : True) (ml : List Int32) (hml : mkO sg pg = ml) (pa : Int32) (hpa : pA pg = pa) (pb : Int32) (hpb : pB pg = pb) (al : Int32) (hal : cnt (flO sg) = al) (j27 : List Int32) (ej27 : j27 = (if ((FF pa ml)) = (0 : Int32) then (if f1 = (0 : Int32) then ml else (ml.set (pa).toNatClampNeg (((ml.getD (pa).toNatClampNeg (0 : Int32)) ||| (1 : Int32)).toInt8.toInt32))) else ml)) : j27 = (fb ml pa f1) := by
  subst hml hpa hpb hal ej27; exact own_f32 sg pg f1 f2 hf1 hf2 hS 
theorem own_f33 (sg : Fin 28) (pg : Fin 12) (f1 f2 : Int32) (hf1 : f1 = 0 ∨ f1 = 1) (hf2 : f2 = 0 ∨ f2 = 1) (hS : True) : ((if ((FF (pA pg) (mkO sg pg))) = (0 : Int32) then (if f1 = (0 : Int32) then (cnt (flO sg)) else ((cnt (flO sg)) - (1 : Int32))) else (cnt (flO sg)))) = (cnt (fb (mkO sg pg) (pA pg) f1)) := by
  rcases hf1 with rfl | rfl <;> (revert pg; revert sg; decide +kernel)
theorem own_g66 (sg : Fin 28) (pg : Fin 12) (f1 f2 : Int32) (hf1 : f1 = 0 ∨ f1 = 1) (hf2 : f2 = 0 ∨ f2 = 1) (hS : True) (ml : List Int32) (hml : mkO sg pg = ml) (pa : Int32) (hpa : pA pg = pa) (pb : Int32) (hpb : pB pg = pb) (al : Int32) (hal : cnt (flO sg) = al) (j26 : Int32) (ej26 : j26 = (if ((FF pa ml)) = (0 : Int32) then (if f1 = (0 : Int32) then al else (al - (1 : Int32))) else al)) : j26 = (cnt (fb ml pa f1)) := by
  subst hml hpa hpb hal ej26; exact own_f33 sg pg f1 f2 hf1 hf2 hS 
theorem own_f34 (sg : Fin 28) (pg : Fin 12) (f1 f2 : Int32) (hf1 : f1 = 0 ∨ f1 = 1) (hf2 : f2 = 0 ∨ f2 = 1) (hS : True) : ((if ((FF (pB pg) (fb (mkO sg pg) (pA pg) f1))) = (0 : Int32) then (if f2 = (0 : Int32) then (fb (mkO sg pg) (pA pg) f1) else ((fb (mkO sg pg) (pA pg) f1).set ((pB pg)).toNatClampNeg ((((fb (mkO sg pg) (pA pg) f1).getD ((pB pg)).toNatClampNeg (0 : Int32)) ||| (1 : Int32)).toInt8.toInt32))) else (fb (mkO sg pg) (pA pg) f1))) = (l2L (mkO sg pg) (pA pg) (pB pg) f1 f2) := by
  rcases hf1 with rfl | rfl <;> rcases hf2 with rfl | rfl <;> (revert pg; revert sg; decide +kernel)
theorem own_g67 (sg : Fin 28) (pg : Fin 12) (f1 f2 : Int32) (hf1 : f1 = 0 ∨ f1 = 1) (hf2 : f2 = 0 ∨ f2 = 1) (hS : True) (ml : List Int32) (hml : mkO sg pg = ml) (pa : Int32) (hpa : pA pg = pa) (pb : Int32) (hpb : pB pg = pb) (al : Int32) (hal : cnt (flO sg) = al) (j39 : List Int32) (ej39 : j39 = (if ((FF pb (fb ml pa f1))) = (0 : Int32) then (if f2 = (0 : Int32) then (fb ml pa f1) else ((fb ml pa f1).set (pb).toNatClampNeg ((((fb ml pa f1).getD (pb).toNatClampNeg (0 : Int32)) ||| (1 : Int32)).toInt8.toInt32))) else (fb ml pa f1))) : j39 = (l2L ml pa pb f1 f2) := by
  subst hml hpa hpb hal ej39; exact own_f34 sg pg f1 f2 hf1 hf2 hS 
theorem own_f35 (sg : Fin 28) (pg : Fin 12) (f1 f2 : Int32) (hf1 : f1 = 0 ∨ f1 = 1) (hf2 : f2 = 0 ∨ f2 = 1) (hS : True) : ((if ((FF (pB pg) (fb (mkO sg pg) (pA pg) f1))) = (0 : Int32) then (if f2 = (0 : Int32) then (cnt (fb (mkO sg pg) (pA pg) f1)) else ((cnt (fb (mkO sg pg) (pA pg) f1)) - (1 : Int32))) else (cnt (fb (mkO sg pg) (pA pg) f1)))) = (cnt (l2L (mkO sg pg) (pA pg) (pB pg) f1 f2)) := by
  rcases hf1 with rfl | rfl <;> rcases hf2 with rfl | rfl <;> (revert pg; revert sg; decide +kernel)
theorem own_g68 (sg : Fin 28) (pg : Fin 12) (f1 f2 : Int32) (hf1 : f1 = 0 ∨ f1 = 1) (hf2 : f2 = 0 ∨ f2 = 1) (hS : True) (ml : List Int32) (hml : mkO sg pg = ml) (pa : Int32) (hpa : pA pg = pa) (pb : Int32) (hpb : pB pg = pb) (al : Int32) (hal : cnt (flO sg) = al) (j38 : Int32) (ej38 : j38 = (if ((FF pb (fb ml pa f1))) = (0 : Int32) then (if f2 = (0 : Int32) then (cnt (fb ml pa f1)) else ((cnt (fb ml pa f1)) - (1 : Int32))) else (cnt (fb ml pa f1)))) : j38 = (cnt (l2L ml pa pb f1 f2)) := by
  subst hml hpa hpb hal ej38; exact own_f35 sg pg f1 f2 hf1 hf2 hS 
theorem own_g69 (sg : Fin 28) (pg : Fin 12) (f1 f2 : Int32) (hf1 : f1 = 0 ∨ f1 = 1) (hf2 : f2 = 0 ∨ f2 = 1) (hS : True) (ml : List Int32) (hml : mkO sg pg = ml) (pa : Int32) (hpa : pA pg = pa) (pb : Int32) (hpb : pB pg = pb) (al : Int32) (hal : cnt (flO sg) = al) (j27 : List Int32) (ej27 : j27 = (if ((FF pa ml)) = (0 : Int32) then (if f1 = (0 : Int32) then ml else (ml.set (pa).toNatClampNeg (((ml.getD (pa).toNatClampNeg (0 : Int32)) ||| (1 : Int32)).toInt8.toInt32))) else ml)) : j27 = (fb ml pa f1) := by
  subst hml hpa hpb hal ej27; exact own_f32 sg pg f1 f2 hf1 hf2 hS 
theorem own_g70 (sg : Fin 28) (pg : Fin 12) (f1 f2 : Int32) (hf1 : f1 = 0 ∨ f1 = 1) (hf2 : f2 = 0 ∨ f2 = 1) (hS : True) (ml : List Int32) (hml : mkO sg pg = ml) (pa : Int32) (hpa : pA pg = pa) (pb : Int32) (hpb : pB pg = pb) (al : Int32) (hal : cnt (flO sg) = al) (j26 : Int32) (ej26 : j26 = (if ((FF pa ml)) = (0 : Int32) then (if f1 = (0 : Int32) then al else (al - (1 : Int32))) else al)) : j26 = (cnt (fb ml pa f1)) := by
  subst hml hpa hpb hal ej26; exact own_f33 sg pg f1 f2 hf1 hf2 hS 
theorem own_g71 (sg : Fin 28) (pg : Fin 12) (f1 f2 : Int32) (hf1 : f1 = 0 ∨ f1 = 1) (hf2 : f2 = 0 ∨ f2 = 1) (hS : True) (ml : List Int32) (hml : mkO sg pg = ml) (pa : Int32) (hpa : pA pg = pa) (pb : Int32) (hpb : pB pg = pb) (al : Int32) (hal : cnt (flO sg) = al) (j39 : List Int32) (ej39 : j39 = (if ((FF pb (fb ml pa f1))) = (0 : Int32) then (if f2 = (0 : Int32) then (fb ml pa f1) else ((fb ml pa f1).set (pb).toNatClampNeg ((((fb ml pa f1).getD (pb).toNatClampNeg (0 : Int32)) ||| (1 : Int32)).toInt8.toInt32))) else (fb ml pa f1))) : j39 = (l2L ml pa pb f1 f2) := by
  subst hml hpa hpb hal ej39; exact own_f34 sg pg f1 f2 hf1 hf2 hS 
theorem own_g72 (sg : Fin 28) (pg : Fin 12) (f1 f2 : Int32) (hf1 : f1 = 0 ∨ f1 = 1) (hf2 : f2 = 0 ∨ f2 = 1) (hS : True) (ml : List Int32) (hml : mkO sg pg = ml) (pa : Int32) (hpa : pA pg = pa) (pb : Int32) (hpb : pB pg = pb) (al : Int32) (hal : cnt (flO sg) = al) (j38 : Int32) (ej38 : j38 = (if ((FF pb (fb ml pa f1))) = (0 : Int32) then (if f2 = (0 : Int32) then (cnt (fb ml pa f1)) else ((cnt (fb ml pa f1)) - (1 : Int32))) else (cnt (fb ml pa f1)))) : j38 = (cnt (l2L ml pa pb f1 f2)) := by
  subst hml hpa hpb hal ej38; exact own_f35 sg pg f1 f2 hf1 hf2 hS 
theorem d12_0 : decode prog_28_method_7_code 0 = .ok (.aload_n 1, 1) := by decide +kernel
theorem d12_1 : decode prog_28_method_7_code 1 = .ok (.invokevirtual 43, 3) := by decide +kernel
theorem d12_4 : decode prog_28_method_7_code 4 = .ok (.astore_n 2, 1) := by decide +kernel
theorem d12_5 : decode prog_28_method_7_code 5 = .ok (.iconst 0, 1) := by decide +kernel
theorem d12_6 : decode prog_28_method_7_code 6 = .ok (.istore_n 3, 1) := by decide +kernel
theorem d12_7 : decode prog_28_method_7_code 7 = .ok (.iconst 0, 1) := by decide +kernel
theorem d12_8 : decode prog_28_method_7_code 8 = .ok (.istore 4, 2) := by decide +kernel
theorem d12_10 : decode prog_28_method_7_code 10 = .ok (.iload 4, 2) := by decide +kernel
theorem d12_12 : decode prog_28_method_7_code 12 = .ok (.aload_n 2, 1) := by decide +kernel
theorem d12_13 : decode prog_28_method_7_code 13 = .ok (.arraylength, 1) := by decide +kernel
theorem d12_14 : decode prog_28_method_7_code 14 = .ok (.if_icmp .ge 52, 3) := by decide +kernel
theorem d12_17 : decode prog_28_method_7_code 17 = .ok (.aload_n 0, 1) := by decide +kernel
theorem d12_18 : decode prog_28_method_7_code 18 = .ok (.aload_n 2, 1) := by decide +kernel
theorem d12_19 : decode prog_28_method_7_code 19 = .ok (.iload 4, 2) := by decide +kernel
theorem d12_21 : decode prog_28_method_7_code 21 = .ok (.iaload, 1) := by decide +kernel
theorem d12_22 : decode prog_28_method_7_code 22 = .ok (.invokevirtual 25, 3) := by decide +kernel
theorem d12_25 : decode prog_28_method_7_code 25 = .ok (.ifCond .ne 35, 3) := by decide +kernel
theorem d12_28 : decode prog_28_method_7_code 28 = .ok (.iinc 3 1, 3) := by decide +kernel
theorem d12_31 : decode prog_28_method_7_code 31 = .ok (.aload_n 1, 1) := by decide +kernel
theorem d12_32 : decode prog_28_method_7_code 32 = .ok (.invokevirtual 62, 3) := by decide +kernel
theorem d12_35 : decode prog_28_method_7_code 35 = .ok (.iload 4, 2) := by decide +kernel
theorem d12_37 : decode prog_28_method_7_code 37 = .ok (.baload, 1) := by decide +kernel
theorem d12_38 : decode prog_28_method_7_code 38 = .ok (.ifCond .ne 22, 3) := by decide +kernel
theorem d12_41 : decode prog_28_method_7_code 41 = .ok (.aload_n 0, 1) := by decide +kernel
theorem d12_42 : decode prog_28_method_7_code 42 = .ok (.aload_n 2, 1) := by decide +kernel
theorem d12_43 : decode prog_28_method_7_code 43 = .ok (.iload 4, 2) := by decide +kernel
theorem d12_45 : decode prog_28_method_7_code 45 = .ok (.iaload, 1) := by decide +kernel
theorem d12_46 : decode prog_28_method_7_code 46 = .ok (.invokevirtual 33, 3) := by decide +kernel
theorem d12_49 : decode prog_28_method_7_code 49 = .ok (.aload_n 1, 1) := by decide +kernel
theorem d12_50 : decode prog_28_method_7_code 50 = .ok (.invokevirtual 65, 3) := by decide +kernel
theorem d12_53 : decode prog_28_method_7_code 53 = .ok (.iload 4, 2) := by decide +kernel
theorem d12_55 : decode prog_28_method_7_code 55 = .ok (.laload, 1) := by decide +kernel
theorem d12_56 : decode prog_28_method_7_code 56 = .ok (.invokestatic 69, 3) := by decide +kernel
theorem d12_59 : decode prog_28_method_7_code 59 = .ok (.pop2, 1) := by decide +kernel
theorem d12_60 : decode prog_28_method_7_code 60 = .ok (.iinc 4 1, 3) := by decide +kernel
theorem d12_63 : decode prog_28_method_7_code 63 = .ok (.goto (-53), 3) := by decide +kernel
theorem d12_66 : decode prog_28_method_7_code 66 = .ok (.aload_n 0, 1) := by decide +kernel
theorem d12_67 : decode prog_28_method_7_code 67 = .ok (.getfield 17, 3) := by decide +kernel
theorem d12_70 : decode prog_28_method_7_code 70 = .ok (.iload_n 3, 1) := by decide +kernel
theorem d12_71 : decode prog_28_method_7_code 71 = .ok (.isub, 1) := by decide +kernel
theorem d12_72 : decode prog_28_method_7_code 72 = .ok (.istore 4, 2) := by decide +kernel
theorem d12_74 : decode prog_28_method_7_code 74 = .ok (.aload_n 1, 1) := by decide +kernel
theorem d12_75 : decode prog_28_method_7_code 75 = .ok (.invokevirtual 75, 3) := by decide +kernel
theorem d12_78 : decode prog_28_method_7_code 78 = .ok (.ifCond .eq 7, 3) := by decide +kernel
theorem d12_81 : decode prog_28_method_7_code 81 = .ok (.lconst 0, 1) := by decide +kernel
theorem d12_82 : decode prog_28_method_7_code 82 = .ok (.goto 7, 3) := by decide +kernel
theorem d12_85 : decode prog_28_method_7_code 85 = .ok (.aload_n 1, 1) := by decide +kernel
theorem d12_86 : decode prog_28_method_7_code 86 = .ok (.invokevirtual 79, 3) := by decide +kernel
theorem d12_89 : decode prog_28_method_7_code 89 = .ok (.lstore 5, 2) := by decide +kernel
theorem d12_91 : decode prog_28_method_7_code 91 = .ok (.aload_n 0, 1) := by decide +kernel
theorem d12_92 : decode prog_28_method_7_code 92 = .ok (.getfield 83, 3) := by decide +kernel
theorem d12_95 : decode prog_28_method_7_code 95 = .ok (.lstore 7, 2) := by decide +kernel
theorem d12_97 : decode prog_28_method_7_code 97 = .ok (.aload_n 0, 1) := by decide +kernel
theorem d12_98 : decode prog_28_method_7_code 98 = .ok (.getfield 86, 3) := by decide +kernel
theorem d12_101 : decode prog_28_method_7_code 101 = .ok (.lstore 9, 2) := by decide +kernel
theorem d12_103 : decode prog_28_method_7_code 103 = .ok (.iload 4, 2) := by decide +kernel
theorem d12_105 : decode prog_28_method_7_code 105 = .ok (.ifCond .le 56, 3) := by decide +kernel
theorem d12_108 : decode prog_28_method_7_code 108 = .ok (.lload 5, 2) := by decide +kernel
theorem d12_110 : decode prog_28_method_7_code 110 = .ok (.lconst 0, 1) := by decide +kernel
theorem d12_111 : decode prog_28_method_7_code 111 = .ok (.lcmp, 1) := by decide +kernel
theorem d12_112 : decode prog_28_method_7_code 112 = .ok (.ifCond .le 49, 3) := by decide +kernel
theorem d12_115 : decode prog_28_method_7_code 115 = .ok (.aload_n 0, 1) := by decide +kernel
theorem d12_116 : decode prog_28_method_7_code 116 = .ok (.getfield 83, 3) := by decide +kernel
theorem d12_119 : decode prog_28_method_7_code 119 = .ok (.ldc2_w 31, 3) := by decide +kernel
theorem d12_122 : decode prog_28_method_7_code 122 = .ok (.lload 5, 2) := by decide +kernel
theorem d12_124 : decode prog_28_method_7_code 124 = .ok (.lsub, 1) := by decide +kernel
theorem d12_125 : decode prog_28_method_7_code 125 = .ok (.lcmp, 1) := by decide +kernel
theorem d12_126 : decode prog_28_method_7_code 126 = .ok (.ifCond .le 35, 3) := by decide +kernel
theorem d12_129 : decode prog_28_method_7_code 129 = .ok (.aload_n 0, 1) := by decide +kernel
theorem d12_130 : decode prog_28_method_7_code 130 = .ok (.invokevirtual 91, 3) := by decide +kernel
theorem d12_133 : decode prog_28_method_7_code 133 = .ok (.iconst 1, 1) := by decide +kernel
theorem d12_134 : decode prog_28_method_7_code 134 = .ok (.invokevirtual 95, 3) := by decide +kernel
theorem d12_137 : decode prog_28_method_7_code 137 = .ok (.lstore 7, 2) := by decide +kernel
theorem d12_139 : decode prog_28_method_7_code 139 = .ok (.lload 7, 2) := by decide +kernel
theorem d12_141 : decode prog_28_method_7_code 141 = .ok (.ldc2_w 31, 3) := by decide +kernel
theorem d12_144 : decode prog_28_method_7_code 144 = .ok (.lload 5, 2) := by decide +kernel
theorem d12_146 : decode prog_28_method_7_code 146 = .ok (.lsub, 1) := by decide +kernel
theorem d12_147 : decode prog_28_method_7_code 147 = .ok (.lcmp, 1) := by decide +kernel
theorem d12_148 : decode prog_28_method_7_code 148 = .ok (.ifCond .le 71, 3) := by decide +kernel
theorem d12_151 : decode prog_28_method_7_code 151 = .ok (.new 101, 3) := by decide +kernel
theorem d12_154 : decode prog_28_method_7_code 154 = .ok (.dup, 1) := by decide +kernel
theorem d12_155 : decode prog_28_method_7_code 155 = .ok (.ldc 103, 2) := by decide +kernel
theorem d12_157 : decode prog_28_method_7_code 157 = .ok (.invokespecial 105, 3) := by decide +kernel
theorem d12_160 : decode prog_28_method_7_code 160 = .ok (.athrow, 1) := by decide +kernel
theorem d12_161 : decode prog_28_method_7_code 161 = .ok (.iload 4, 2) := by decide +kernel
theorem d12_163 : decode prog_28_method_7_code 163 = .ok (.ifCond .le 56, 3) := by decide +kernel
theorem d12_166 : decode prog_28_method_7_code 166 = .ok (.lload 5, 2) := by decide +kernel
theorem d12_168 : decode prog_28_method_7_code 168 = .ok (.lconst 0, 1) := by decide +kernel
theorem d12_169 : decode prog_28_method_7_code 169 = .ok (.lcmp, 1) := by decide +kernel
theorem d12_170 : decode prog_28_method_7_code 170 = .ok (.ifCond .ge 49, 3) := by decide +kernel
theorem d12_173 : decode prog_28_method_7_code 173 = .ok (.aload_n 0, 1) := by decide +kernel
theorem d12_174 : decode prog_28_method_7_code 174 = .ok (.getfield 86, 3) := by decide +kernel
theorem d12_177 : decode prog_28_method_7_code 177 = .ok (.ldc2_w 106, 3) := by decide +kernel
theorem d12_180 : decode prog_28_method_7_code 180 = .ok (.lload 5, 2) := by decide +kernel
theorem d12_182 : decode prog_28_method_7_code 182 = .ok (.lsub, 1) := by decide +kernel
theorem d12_183 : decode prog_28_method_7_code 183 = .ok (.lcmp, 1) := by decide +kernel
theorem d12_184 : decode prog_28_method_7_code 184 = .ok (.ifCond .ge 35, 3) := by decide +kernel
theorem d12_187 : decode prog_28_method_7_code 187 = .ok (.aload_n 0, 1) := by decide +kernel
theorem d12_188 : decode prog_28_method_7_code 188 = .ok (.invokevirtual 91, 3) := by decide +kernel
theorem d12_191 : decode prog_28_method_7_code 191 = .ok (.iconst 0, 1) := by decide +kernel
theorem d12_192 : decode prog_28_method_7_code 192 = .ok (.invokevirtual 95, 3) := by decide +kernel
theorem d12_195 : decode prog_28_method_7_code 195 = .ok (.lstore 9, 2) := by decide +kernel
theorem d12_197 : decode prog_28_method_7_code 197 = .ok (.lload 9, 2) := by decide +kernel
theorem d12_199 : decode prog_28_method_7_code 199 = .ok (.ldc2_w 106, 3) := by decide +kernel
theorem d12_202 : decode prog_28_method_7_code 202 = .ok (.lload 5, 2) := by decide +kernel
theorem d12_204 : decode prog_28_method_7_code 204 = .ok (.lsub, 1) := by decide +kernel
theorem d12_205 : decode prog_28_method_7_code 205 = .ok (.lcmp, 1) := by decide +kernel
theorem d12_206 : decode prog_28_method_7_code 206 = .ok (.ifCond .ge 13, 3) := by decide +kernel
theorem d12_209 : decode prog_28_method_7_code 209 = .ok (.new 101, 3) := by decide +kernel
theorem d12_212 : decode prog_28_method_7_code 212 = .ok (.dup, 1) := by decide +kernel
theorem d12_213 : decode prog_28_method_7_code 213 = .ok (.ldc 108, 2) := by decide +kernel
theorem d12_215 : decode prog_28_method_7_code 215 = .ok (.invokespecial 105, 3) := by decide +kernel
theorem d12_218 : decode prog_28_method_7_code 218 = .ok (.athrow, 1) := by decide +kernel
theorem d12_219 : decode prog_28_method_7_code 219 = .ok (.aload_n 0, 1) := by decide +kernel
theorem d12_220 : decode prog_28_method_7_code 220 = .ok (.getfield 21, 3) := by decide +kernel
theorem d12_223 : decode prog_28_method_7_code 223 = .ok (.lload 5, 2) := by decide +kernel
theorem d12_225 : decode prog_28_method_7_code 225 = .ok (.ladd, 1) := by decide +kernel
theorem d12_226 : decode prog_28_method_7_code 226 = .ok (.lstore 11, 2) := by decide +kernel
theorem d12_228 : decode prog_28_method_7_code 228 = .ok (.ldc2_w 106, 3) := by decide +kernel
theorem d12_231 : decode prog_28_method_7_code 231 = .ok (.lstore 13, 2) := by decide +kernel
theorem d12_233 : decode prog_28_method_7_code 233 = .ok (.ldc2_w 31, 3) := by decide +kernel
theorem d12_236 : decode prog_28_method_7_code 236 = .ok (.lstore 15, 2) := by decide +kernel
theorem d12_238 : decode prog_28_method_7_code 238 = .ok (.iconst 0, 1) := by decide +kernel
theorem d12_239 : decode prog_28_method_7_code 239 = .ok (.istore 17, 2) := by decide +kernel
theorem d12_241 : decode prog_28_method_7_code 241 = .ok (.iload 17, 2) := by decide +kernel
theorem d12_243 : decode prog_28_method_7_code 243 = .ok (.aload_n 2, 1) := by decide +kernel
theorem d12_244 : decode prog_28_method_7_code 244 = .ok (.arraylength, 1) := by decide +kernel
theorem d12_245 : decode prog_28_method_7_code 245 = .ok (.if_icmp .ge 98, 3) := by decide +kernel
theorem d12_248 : decode prog_28_method_7_code 248 = .ok (.aload_n 2, 1) := by decide +kernel
theorem d12_249 : decode prog_28_method_7_code 249 = .ok (.iload 17, 2) := by decide +kernel
theorem d12_251 : decode prog_28_method_7_code 251 = .ok (.iaload, 1) := by decide +kernel
theorem d12_252 : decode prog_28_method_7_code 252 = .ok (.istore 18, 2) := by decide +kernel
theorem d12_254 : decode prog_28_method_7_code 254 = .ok (.aload_n 0, 1) := by decide +kernel
theorem d12_255 : decode prog_28_method_7_code 255 = .ok (.iload 18, 2) := by decide +kernel
theorem d12_257 : decode prog_28_method_7_code 257 = .ok (.invokevirtual 25, 3) := by decide +kernel
theorem d12_260 : decode prog_28_method_7_code 260 = .ok (.ifCond .eq 6, 3) := by decide +kernel
theorem d12_263 : decode prog_28_method_7_code 263 = .ok (.goto 74, 3) := by decide +kernel
theorem d12_266 : decode prog_28_method_7_code 266 = .ok (.aload_n 1, 1) := by decide +kernel
theorem d12_267 : decode prog_28_method_7_code 267 = .ok (.invokevirtual 62, 3) := by decide +kernel
theorem d12_270 : decode prog_28_method_7_code 270 = .ok (.iload 17, 2) := by decide +kernel
theorem d12_272 : decode prog_28_method_7_code 272 = .ok (.baload, 1) := by decide +kernel
theorem d12_273 : decode prog_28_method_7_code 273 = .ok (.ifCond .eq 12, 3) := by decide +kernel
theorem d12_276 : decode prog_28_method_7_code 276 = .ok (.aload_n 0, 1) := by decide +kernel
theorem d12_277 : decode prog_28_method_7_code 277 = .ok (.iload 18, 2) := by decide +kernel
theorem d12_279 : decode prog_28_method_7_code 279 = .ok (.invokevirtual 110, 3) := by decide +kernel
theorem d12_282 : decode prog_28_method_7_code 282 = .ok (.goto 55, 3) := by decide +kernel
theorem d12_285 : decode prog_28_method_7_code 285 = .ok (.aload_n 0, 1) := by decide +kernel
theorem d12_286 : decode prog_28_method_7_code 286 = .ok (.iload 18, 2) := by decide +kernel
theorem d12_288 : decode prog_28_method_7_code 288 = .ok (.invokevirtual 33, 3) := by decide +kernel
theorem d12_291 : decode prog_28_method_7_code 291 = .ok (.aload_n 1, 1) := by decide +kernel
theorem d12_292 : decode prog_28_method_7_code 292 = .ok (.invokevirtual 65, 3) := by decide +kernel
theorem d12_295 : decode prog_28_method_7_code 295 = .ok (.iload 17, 2) := by decide +kernel
theorem d12_297 : decode prog_28_method_7_code 297 = .ok (.laload, 1) := by decide +kernel
theorem d12_298 : decode prog_28_method_7_code 298 = .ok (.ladd, 1) := by decide +kernel
theorem d12_299 : decode prog_28_method_7_code 299 = .ok (.lstore 19, 2) := by decide +kernel
theorem d12_301 : decode prog_28_method_7_code 301 = .ok (.aload_n 0, 1) := by decide +kernel
theorem d12_302 : decode prog_28_method_7_code 302 = .ok (.getfield 7, 3) := by decide +kernel
theorem d12_305 : decode prog_28_method_7_code 305 = .ok (.iload 18, 2) := by decide +kernel
theorem d12_307 : decode prog_28_method_7_code 307 = .ok (.lload 19, 2) := by decide +kernel
theorem d12_309 : decode prog_28_method_7_code 309 = .ok (.lload 11, 2) := by decide +kernel
theorem d12_311 : decode prog_28_method_7_code 311 = .ok (.lsub, 1) := by decide +kernel
theorem d12_312 : decode prog_28_method_7_code 312 = .ok (.lastore, 1) := by decide +kernel
theorem d12_313 : decode prog_28_method_7_code 313 = .ok (.aload_n 0, 1) := by decide +kernel
theorem d12_314 : decode prog_28_method_7_code 314 = .ok (.iload 18, 2) := by decide +kernel
theorem d12_316 : decode prog_28_method_7_code 316 = .ok (.invokevirtual 114, 3) := by decide +kernel
theorem d12_319 : decode prog_28_method_7_code 319 = .ok (.lload 13, 2) := by decide +kernel
theorem d12_321 : decode prog_28_method_7_code 321 = .ok (.lload 19, 2) := by decide +kernel
theorem d12_323 : decode prog_28_method_7_code 323 = .ok (.invokestatic 117, 3) := by decide +kernel
theorem d12_326 : decode prog_28_method_7_code 326 = .ok (.lstore 13, 2) := by decide +kernel
theorem d12_328 : decode prog_28_method_7_code 328 = .ok (.lload 15, 2) := by decide +kernel
theorem d12_330 : decode prog_28_method_7_code 330 = .ok (.lload 19, 2) := by decide +kernel
theorem d12_332 : decode prog_28_method_7_code 332 = .ok (.invokestatic 120, 3) := by decide +kernel
theorem d12_335 : decode prog_28_method_7_code 335 = .ok (.lstore 15, 2) := by decide +kernel
theorem d12_337 : decode prog_28_method_7_code 337 = .ok (.iinc 17 1, 3) := by decide +kernel
theorem d12_340 : decode prog_28_method_7_code 340 = .ok (.goto (-99), 3) := by decide +kernel
theorem d12_343 : decode prog_28_method_7_code 343 = .ok (.aload_n 0, 1) := by decide +kernel
theorem d12_344 : decode prog_28_method_7_code 344 = .ok (.lload 11, 2) := by decide +kernel
theorem d12_346 : decode prog_28_method_7_code 346 = .ok (.putfield 21, 3) := by decide +kernel
theorem d12_349 : decode prog_28_method_7_code 349 = .ok (.aload_n 1, 1) := by decide +kernel
theorem d12_350 : decode prog_28_method_7_code 350 = .ok (.invokevirtual 75, 3) := by decide +kernel
theorem d12_353 : decode prog_28_method_7_code 353 = .ok (.ifCond .eq 8, 3) := by decide +kernel
theorem d12_356 : decode prog_28_method_7_code 356 = .ok (.aload_n 0, 1) := by decide +kernel
theorem d12_357 : decode prog_28_method_7_code 357 = .ok (.aload_n 2, 1) := by decide +kernel
theorem d12_358 : decode prog_28_method_7_code 358 = .ok (.invokevirtual 123, 3) := by decide +kernel
theorem d12_361 : decode prog_28_method_7_code 361 = .ok (.aload_n 1, 1) := by decide +kernel
theorem d12_362 : decode prog_28_method_7_code 362 = .ok (.invokevirtual 75, 3) := by decide +kernel
theorem d12_365 : decode prog_28_method_7_code 365 = .ok (.ifCond .ne 8, 3) := by decide +kernel
theorem d12_368 : decode prog_28_method_7_code 368 = .ok (.iload 4, 2) := by decide +kernel
theorem d12_370 : decode prog_28_method_7_code 370 = .ok (.ifCond .ne 18, 3) := by decide +kernel
theorem d12_373 : decode prog_28_method_7_code 373 = .ok (.aload_n 0, 1) := by decide +kernel
theorem d12_374 : decode prog_28_method_7_code 374 = .ok (.lload 13, 2) := by decide +kernel
theorem d12_376 : decode prog_28_method_7_code 376 = .ok (.putfield 83, 3) := by decide +kernel
theorem d12_379 : decode prog_28_method_7_code 379 = .ok (.aload_n 0, 1) := by decide +kernel
theorem d12_380 : decode prog_28_method_7_code 380 = .ok (.lload 15, 2) := by decide +kernel
theorem d12_382 : decode prog_28_method_7_code 382 = .ok (.putfield 86, 3) := by decide +kernel
theorem d12_385 : decode prog_28_method_7_code 385 = .ok (.goto 31, 3) := by decide +kernel
theorem d12_388 : decode prog_28_method_7_code 388 = .ok (.aload_n 0, 1) := by decide +kernel
theorem d12_389 : decode prog_28_method_7_code 389 = .ok (.lload 7, 2) := by decide +kernel
theorem d12_391 : decode prog_28_method_7_code 391 = .ok (.lload 5, 2) := by decide +kernel
theorem d12_393 : decode prog_28_method_7_code 393 = .ok (.ladd, 1) := by decide +kernel
theorem d12_394 : decode prog_28_method_7_code 394 = .ok (.lload 13, 2) := by decide +kernel
theorem d12_396 : decode prog_28_method_7_code 396 = .ok (.invokestatic 117, 3) := by decide +kernel
theorem d12_399 : decode prog_28_method_7_code 399 = .ok (.putfield 83, 3) := by decide +kernel
theorem d12_402 : decode prog_28_method_7_code 402 = .ok (.aload_n 0, 1) := by decide +kernel
theorem d12_403 : decode prog_28_method_7_code 403 = .ok (.lload 9, 2) := by decide +kernel
theorem d12_405 : decode prog_28_method_7_code 405 = .ok (.lload 5, 2) := by decide +kernel
theorem d12_407 : decode prog_28_method_7_code 407 = .ok (.ladd, 1) := by decide +kernel
theorem d12_408 : decode prog_28_method_7_code 408 = .ok (.lload 15, 2) := by decide +kernel
theorem d12_410 : decode prog_28_method_7_code 410 = .ok (.invokestatic 120, 3) := by decide +kernel
theorem d12_413 : decode prog_28_method_7_code 413 = .ok (.putfield 86, 3) := by decide +kernel
theorem d12_416 : decode prog_28_method_7_code 416 = .ok (.return_, 1) := by decide +kernel
theorem pn_12 : plainFor (⟨"com/example/forebound/forebound/problem/Sum", "addListed", "(Lcom/example/forebound/forebound/problem/Problem$Table;)V"⟩ : MethodName) = true := plainFor_of_name (by first | (simp [plainName, overriddenIn]; done) | decide +kernel)
set_option maxRecDepth 65536 in
set_option maxHeartbeats 8000000 in
theorem rmK0 (l : Launch) (Z : State) (a0 : Array Value) (hw : ∀ d ∈ tables_1, d.before a0 Z = true) (n0 : Nat) (r0 : Addr) (r4 : Addr) (r1 : Addr) (r2 : Addr) (al : Int32) (hi : Int64) (lo : Int64) (ws : Value) (ml : List Int32) (r5 : Addr) (r6 : Addr) (r7 : Addr) (pa : Int32) (pb : Int32) (f1 : Int32) (f2 : Int32) (sg : Fin 28) (pg : Fin 12) (RR : Obs) (hml : mkO sg pg = ml) (hpa : pA pg = pa) (hpb : pB pg = pb) (hal : cnt (flO sg) = al) (hf1 : f1 = 0 ∨ f1 = 1) (hf2 : f2 = 0 ∨ f2 = 1) (hS : True) :
    Triple l Z n0 (⟨"com/example/forebound/forebound/problem/Sum", "addListed", "(Lcom/example/forebound/forebound/problem/Problem$Table;)V"⟩ : MethodName) prog_28_method_7_code 21 none ({ frames := 2, cells := 0, slots := 0, locals := 26 } : Room) 0 0 [(.ref r0), (.ref r4)] ((r0, ob1 (.ref r1) (.ref r2) (.int al) (.long (0 : Int64)) (.long hi) (.long lo) .null ws) :: (r1, .inr (.long, List.map Value.long (z4))) :: (r2, .inr (.byte, List.map Value.int ml)) :: (r4, ob0 (.ref r5) (.ref r6) (.ref r7) (.long (0 : Int64)) (.int (0 : Int32))) :: (r5, .inr (.int, [(.int pa), (.int pb)])) :: (r6, .inr (.long, [(.long (0 : Int64)), (.long (0 : Int64))])) :: (r7, .inr (.boolean, [(.int f1), (.int f2)])) :: RR) (fun v L' => ∃ ex0 ex1 : Int64, v = none ∧ L' = ((r4, ob0 (.ref r5) (.ref r6) (.ref r7) (.long (0 : Int64)) (.int (0 : Int32))) :: (r5, .inr (.int, [(.int pa), (.int pb)])) :: (r6, .inr (.long, [(.long (0 : Int64)), (.long (0 : Int64))])) :: (r7, .inr (.boolean, [(.int f1), (.int f2)])) :: (r0, ob1 (.ref r1) (.ref r2) (.int (cnt (l2L ml pa pb f1 f2))) (.long (0 : Int64)) (.long ex0) (.long ex1) .null ws) :: (r1, .inr (.long, List.map Value.long (z4))) :: (r2, .inr (.byte, List.map Value.int (l2L ml pa pb f1 f2))) :: RR)) := by
  refine Triple.of_body (tbl := tables_1) (a0 := a0) (Ls := #[.val (.ref r0), .val (.ref r4), .unset, .unset, .unset, .unset, .unset, .unset, .unset, .unset, .unset, .unset, .unset, .unset, .unset, .unset, .unset, .unset, .unset, .unset, .unset]) pn_12 hw rfl ?_
  intro p e s m below meth c T A
  have np : ¬ pa < 0 ∧ pa.toNatClampNeg < 4 ∧ z4[pa.toNatClampNeg]? = some 0 ∧ z4.set pa.toNatClampNeg 0 = z4 := by rw [← hpa]; exact ⟨(own_pp pg).1, (own_pp pg).2.2.1, (own_pp pg).2.2.2.2.1, (own_pp pg).2.2.2.2.2.2.1⟩
  have nq : ¬ pb < 0 ∧ pb.toNatClampNeg < 4 ∧ z4[pb.toNatClampNeg]? = some 0 ∧ z4.set pb.toNatClampNeg 0 = z4 := by rw [← hpb]; exact ⟨(own_pp pg).2.1, (own_pp pg).2.2.2.1, (own_pp pg).2.2.2.2.2.1, (own_pp pg).2.2.2.2.2.2.2⟩
  have len_ml : ml.length = 4 := by rw [← hml]; exact own_mlen sg pg
  refine A.aloadN (q := 1) d12_0 rfl rfl rfl ?_
  have A := A.front (i := 3) (L' := ((r4, ob0 (.ref r5) (.ref r6) (.ref r7) (.long (0 : Int64)) (.int (0 : Int32))) :: (r0, ob1 (.ref r1) (.ref r2) (.int al) (.long (0 : Int64)) (.long hi) (.long lo) .null ws) :: (r1, .inr (.long, List.map Value.long (z4))) :: (r2, .inr (.byte, List.map Value.int ml)) :: (r5, .inr (.int, [(.int pa), (.int pb)])) :: (r6, .inr (.long, [(.long (0 : Int64)), (.long (0 : Int64))])) :: (r7, .inr (.boolean, [(.int f1), (.int f2)])) :: RR)) rfl rfl
  refine A.callV (q := 4) (i := 0) (w1 := 64) (w2 := 65) (w3 := 39) (w4 := 68) (w5 := 67) (w6 := 66) (a := r4) (as := []) (st := []) (W := 0) d12_1 rfl rfl rfl rfl rfl rfl rfl rfl (rm11 l Z a0 hw n0 r4 r5 r6 r7 (0 : Int64) (0 : Int32) _) (by decide) ⟨_, _, pd_3, rfl⟩ rfl rfl rfl (by decide) (by decide) (by decide) (by decide) ?_
  rintro _ T _ ⟨rfl, rfl⟩ A
  show Go p e below _ (T.setTop (mkF m 4 #[.val (.ref r0), .val (.ref r4), .unset, .unset, .unset, .unset, .unset, .unset, .unset, .unset, .unset, .unset, .unset, .unset, .unset, .unset, .unset, .unset, .unset, .unset, .unset] [(.ref r5)]))
  refine A.astoreN (q := 5) (l' := #[.val (.ref r0), .val (.ref r4), .val (.ref r5), .unset, .unset, .unset, .unset, .unset, .unset, .unset, .unset, .unset, .unset, .unset, .unset, .unset, .unset, .unset, .unset, .unset, .unset]) d12_4 rfl rfl rfl ?_
  refine A.iconst (q := 6) (v := (0 : Int32)) d12_5 rfl (by decide) ?_
  refine A.istoreN (q := 7) (l' := #[.val (.ref r0), .val (.ref r4), .val (.ref r5), .val (.int (0 : Int32)), .unset, .unset, .unset, .unset, .unset, .unset, .unset, .unset, .unset, .unset, .unset, .unset, .unset, .unset, .unset, .unset, .unset]) d12_6 rfl rfl ?_
  refine A.iconst (q := 8) (v := (0 : Int32)) d12_7 rfl (by decide) ?_
  refine A.istore (q := 10) (l' := #[.val (.ref r0), .val (.ref r4), .val (.ref r5), .val (.int (0 : Int32)), .val (.int (0 : Int32)), .unset, .unset, .unset, .unset, .unset, .unset, .unset, .unset, .unset, .unset, .unset, .unset, .unset, .unset, .unset, .unset]) d12_8 rfl rfl ?_
  refine A.iload (q := 12) d12_10 rfl rfl ?_
  refine A.aloadN (q := 13) d12_12 rfl rfl rfl ?_
  refine A.arraylength (q := 14) (i := 4) (v := (2 : Int32)) d12_13 rfl rfl (by show Nat.toInt32 2 = 2; decide) ?_
  refine A.icmpF (q := 17) d12_14 rfl (by decide) ?_
  have J17_4 : ∀ (T : State) (j4 : Int32), j4 = (if ((FF pa ml)) = (0 : Int32) then (1 : Int32) else (0 : Int32)) → Here p l e ({ frames := 2, cells := 0, slots := 0, locals := 26 } : Room) s m ([(.ref r0), (.ref r4)] : List Value).toArray below meth c Z a0 tables_1 (⟨"com/example/forebound/forebound/problem/Sum", "addListed", "(Lcom/example/forebound/forebound/problem/Problem$Table;)V"⟩ : MethodName).cls (⟨"com/example/forebound/forebound/problem/Sum", "addListed", "(Lcom/example/forebound/forebound/problem/Problem$Table;)V"⟩ : MethodName).name prog_28_method_7_code 21 none n0 T ((r0, ob1 (.ref r1) (.ref r2) (.int al) (.long (0 : Int64)) (.long hi) (.long lo) .null ws) :: (r2, .inr (.byte, List.map Value.int ml)) :: (r4, ob0 (.ref r5) (.ref r6) (.ref r7) (.long (0 : Int64)) (.int (0 : Int32))) :: (r1, .inr (.long, List.map Value.long (z4))) :: (r5, .inr (.int, [(.int pa), (.int pb)])) :: (r6, .inr (.long, [(.long (0 : Int64)), (.long (0 : Int64))])) :: (r7, .inr (.boolean, [(.int f1), (.int f2)])) :: RR) 0 0 → Go p e below (EndS below s n0 Z 0 0 (fun v L' => ∃ ex0 ex1 : Int64, v = none ∧ L' = ((r4, ob0 (.ref r5) (.ref r6) (.ref r7) (.long (0 : Int64)) (.int (0 : Int32))) :: (r5, .inr (.int, [(.int pa), (.int pb)])) :: (r6, .inr (.long, [(.long (0 : Int64)), (.long (0 : Int64))])) :: (r7, .inr (.boolean, [(.int f1), (.int f2)])) :: (r0, ob1 (.ref r1) (.ref r2) (.int (cnt (l2L ml pa pb f1 f2))) (.long (0 : Int64)) (.long ex0) (.long ex1) .null ws) :: (r1, .inr (.long, List.map Value.long (z4))) :: (r2, .inr (.byte, List.map Value.int (l2L ml pa pb f1 f2))) :: RR))) (T.setTop (mkF m 60 #[.val (.ref r0), .val (.ref r4), .val (.ref r5), .val (.int j4), .val (.int (0 : Int32)), .unset, .unset, .unset, .unset, .unset, .unset, .unset, .unset, .unset, .unset, .unset, .unset, .unset, .unset, .unset, .unset] [])) := by
   intro T j4 ej4 A
   have z_j4 : nar .boolean j4 = j4 := by rw [ej4]; (repeat' split) <;> first | decide | assumption
   refine A.iinc (q := 63) (v := (1 : Int32)) (l' := #[.val (.ref r0), .val (.ref r4), .val (.ref r5), .val (.int j4), .val (.int (1 : Int32)), .unset, .unset, .unset, .unset, .unset, .unset, .unset, .unset, .unset, .unset, .unset, .unset, .unset, .unset, .unset, .unset]) d12_60 rfl rfl (by decide) rfl ?_
   refine A.goto (r := 10) d12_63 (by decide) ?_
   refine A.iload (q := 12) d12_10 rfl rfl ?_
   refine A.aloadN (q := 13) d12_12 rfl rfl rfl ?_
   refine A.arraylength (q := 14) (i := 4) (v := (2 : Int32)) d12_13 rfl rfl (by show Nat.toInt32 2 = 2; decide) ?_
   refine A.icmpF (q := 17) d12_14 rfl (by decide) ?_
   have J17_10 : ∀ (T : State) (j10 : Int32), j10 = (if ((FF pb ml)) = (0 : Int32) then (j4 + Int32.ofInt 1) else j4) → Here p l e ({ frames := 2, cells := 0, slots := 0, locals := 26 } : Room) s m ([(.ref r0), (.ref r4)] : List Value).toArray below meth c Z a0 tables_1 (⟨"com/example/forebound/forebound/problem/Sum", "addListed", "(Lcom/example/forebound/forebound/problem/Problem$Table;)V"⟩ : MethodName).cls (⟨"com/example/forebound/forebound/problem/Sum", "addListed", "(Lcom/example/forebound/forebound/problem/Problem$Table;)V"⟩ : MethodName).name prog_28_method_7_code 21 none n0 T ((r0, ob1 (.ref r1) (.ref r2) (.int al) (.long (0 : Int64)) (.long hi) (.long lo) .null ws) :: (r2, .inr (.byte, List.map Value.int ml)) :: (r4, ob0 (.ref r5) (.ref r6) (.ref r7) (.long (0 : Int64)) (.int (0 : Int32))) :: (r1, .inr (.long, List.map Value.long (z4))) :: (r5, .inr (.int, [(.int pa), (.int pb)])) :: (r6, .inr (.long, [(.long (0 : Int64)), (.long (0 : Int64))])) :: (r7, .inr (.boolean, [(.int f1), (.int f2)])) :: RR) 0 0 → Go p e below (EndS below s n0 Z 0 0 (fun v L' => ∃ ex0 ex1 : Int64, v = none ∧ L' = ((r4, ob0 (.ref r5) (.ref r6) (.ref r7) (.long (0 : Int64)) (.int (0 : Int32))) :: (r5, .inr (.int, [(.int pa), (.int pb)])) :: (r6, .inr (.long, [(.long (0 : Int64)), (.long (0 : Int64))])) :: (r7, .inr (.boolean, [(.int f1), (.int f2)])) :: (r0, ob1 (.ref r1) (.ref r2) (.int (cnt (l2L ml pa pb f1 f2))) (.long (0 : Int64)) (.long ex0) (.long ex1) .null ws) :: (r1, .inr (.long, List.map Value.long (z4))) :: (r2, .inr (.byte, List.map Value.int (l2L ml pa pb f1 f2))) :: RR))) (T.setTop (mkF m 60 #[.val (.ref r0), .val (.ref r4), .val (.ref r5), .val (.int j10), .val (.int (1 : Int32)), .unset, .unset, .unset, .unset, .unset, .unset, .unset, .unset, .unset, .unset, .unset, .unset, .unset, .unset, .unset, .unset] [])) := by
    intro T j10 ej10 A
    refine A.iinc (q := 63) (v := (2 : Int32)) (l' := #[.val (.ref r0), .val (.ref r4), .val (.ref r5), .val (.int j10), .val (.int (2 : Int32)), .unset, .unset, .unset, .unset, .unset, .unset, .unset, .unset, .unset, .unset, .unset, .unset, .unset, .unset, .unset, .unset]) d12_60 rfl rfl (by decide) rfl ?_
    refine A.goto (r := 10) d12_63 (by decide) ?_
    refine A.iload (q := 12) d12_10 rfl rfl ?_
    refine A.aloadN (q := 13) d12_12 rfl rfl rfl ?_
    refine A.arraylength (q := 14) (i := 4) (v := (2 : Int32)) d12_13 rfl rfl (by show Nat.toInt32 2 = 2; decide) ?_
    refine A.icmpT (r := 66) d12_14 (by decide) (by decide) ?_
    refine A.aloadN (q := 67) d12_66 rfl rfl rfl ?_
    refine A.getF (q := 70) (w := 15) (i := 0) (j := 2) d12_67 rfl rfl rfl rfl ?_
    intro T A
    refine A.iloadN (q := 71) d12_70 rfl rfl ?_
    obtain ⟨v12, e12⟩ : ∃ v : Int32, al - j10 = v := ⟨_, rfl⟩
    refine A.isub (q := 72) d12_71 rfl e12 ?_
    refine A.istore (q := 74) (l' := #[.val (.ref r0), .val (.ref r4), .val (.ref r5), .val (.int j10), .val (.int v12), .unset, .unset, .unset, .unset, .unset, .unset, .unset, .unset, .unset, .unset, .unset, .unset, .unset, .unset, .unset, .unset]) d12_72 rfl rfl ?_
    refine A.aloadN (q := 75) d12_74 rfl rfl rfl ?_
    have A := A.front (i := 6) rfl rfl
    have A := A.front (i := 6) rfl rfl
    have A := A.front (i := 6) rfl rfl
    have A := A.front (i := 5) (L' := ((r4, ob0 (.ref r5) (.ref r6) (.ref r7) (.long (0 : Int64)) (.int (0 : Int32))) :: (r5, .inr (.int, [(.int pa), (.int pb)])) :: (r6, .inr (.long, [(.long (0 : Int64)), (.long (0 : Int64))])) :: (r7, .inr (.boolean, [(.int f1), (.int f2)])) :: (r0, ob1 (.ref r1) (.ref r2) (.int al) (.long (0 : Int64)) (.long hi) (.long lo) .null ws) :: (r2, .inr (.byte, List.map Value.int ml)) :: (r1, .inr (.long, List.map Value.long (z4))) :: RR)) rfl rfl
    refine A.callV (q := 78) (i := 0) (w1 := 95) (w2 := 96) (w3 := 39) (w4 := 99) (w5 := 98) (w6 := 97) (a := r4) (as := []) (st := []) (W := 0) d12_75 rfl rfl rfl rfl rfl rfl rfl rfl (rm17_1 l Z a0 hw n0 r4 r5 r6 r7 pa pb f1 f2 _) (by decide) ⟨_, _, pd_8, rfl⟩ rfl rfl rfl (by decide) (by decide) (by decide) (by decide) ?_
    rintro _ T _ ⟨rfl, rfl⟩ A
    show Go p e below _ (T.setTop (mkF m 78 #[.val (.ref r0), .val (.ref r4), .val (.ref r5), .val (.int j10), .val (.int v12), .unset, .unset, .unset, .unset, .unset, .unset, .unset, .unset, .unset, .unset, .unset, .unset, .unset, .unset, .unset, .unset] [(.int (0 : Int32))]))
    refine A.ifT (r := 85) d12_78 (by decide) (by decide) ?_
    refine A.aloadN (q := 86) d12_85 rfl rfl rfl ?_
    refine A.callV (q := 89) (i := 0) (w1 := 100) (w2 := 101) (w3 := 39) (w4 := 104) (w5 := 103) (w6 := 102) (a := r4) (as := []) (st := []) (W := 0) d12_86 rfl rfl rfl rfl rfl rfl rfl rfl (rm18_1 l Z a0 hw n0 r4 r5 r6 r7 pa pb f1 f2 _) (by decide) ⟨_, _, pd_9, rfl⟩ rfl rfl rfl (by decide) (by decide) (by decide) (by decide) ?_
    rintro _ T _ ⟨rfl, rfl⟩ A
    show Go p e below _ (T.setTop (mkF m 89 #[.val (.ref r0), .val (.ref r4), .val (.ref r5), .val (.int j10), .val (.int v12), .unset, .unset, .unset, .unset, .unset, .unset, .unset, .unset, .unset, .unset, .unset, .unset, .unset, .unset, .unset, .unset] [(.long (0 : Int64))]))
    refine A.lstore (q := 91) (l' := #[.val (.ref r0), .val (.ref r4), .val (.ref r5), .val (.int j10), .val (.int v12), .val (.long (0 : Int64)), .second, .unset, .unset, .unset, .unset, .unset, .unset, .unset, .unset, .unset, .unset, .unset, .unset, .unset, .unset]) d12_89 rfl rfl ?_
    refine A.aloadN (q := 92) d12_91 rfl rfl rfl ?_
    refine A.getF (q := 95) (w := 105) (i := 4) (j := 4) d12_92 rfl rfl rfl rfl ?_
    intro T A
    refine A.lstore (q := 97) (l' := #[.val (.ref r0), .val (.ref r4), .val (.ref r5), .val (.int j10), .val (.int v12), .val (.long (0 : Int64)), .second, .val (.long hi), .second, .unset, .unset, .unset, .unset, .unset, .unset, .unset, .unset, .unset, .unset, .unset, .unset]) d12_95 rfl rfl ?_
    refine A.aloadN (q := 98) d12_97 rfl rfl rfl ?_
    refine A.getF (q := 101) (w := 107) (i := 4) (j := 5) d12_98 rfl rfl rfl rfl ?_
    intro T A
    refine A.lstore (q := 103) (l' := #[.val (.ref r0), .val (.ref r4), .val (.ref r5), .val (.int j10), .val (.int v12), .val (.long (0 : Int64)), .second, .val (.long hi), .second, .val (.long lo), .second, .unset, .unset, .unset, .unset, .unset, .unset, .unset, .unset, .unset, .unset]) d12_101 rfl rfl ?_
    have J103_15 : ∀ (T : State), Here p l e ({ frames := 2, cells := 0, slots := 0, locals := 26 } : Room) s m ([(.ref r0), (.ref r4)] : List Value).toArray below meth c Z a0 tables_1 (⟨"com/example/forebound/forebound/problem/Sum", "addListed", "(Lcom/example/forebound/forebound/problem/Problem$Table;)V"⟩ : MethodName).cls (⟨"com/example/forebound/forebound/problem/Sum", "addListed", "(Lcom/example/forebound/forebound/problem/Problem$Table;)V"⟩ : MethodName).name prog_28_method_7_code 21 none n0 T ((r4, ob0 (.ref r5) (.ref r6) (.ref r7) (.long (0 : Int64)) (.int (0 : Int32))) :: (r5, .inr (.int, [(.int pa), (.int pb)])) :: (r6, .inr (.long, [(.long (0 : Int64)), (.long (0 : Int64))])) :: (r7, .inr (.boolean, [(.int f1), (.int f2)])) :: (r0, ob1 (.ref r1) (.ref r2) (.int al) (.long (0 : Int64)) (.long hi) (.long lo) .null ws) :: (r2, .inr (.byte, List.map Value.int ml)) :: (r1, .inr (.long, List.map Value.long (z4))) :: RR) 0 0 → Go p e below (EndS below s n0 Z 0 0 (fun v L' => ∃ ex0 ex1 : Int64, v = none ∧ L' = ((r4, ob0 (.ref r5) (.ref r6) (.ref r7) (.long (0 : Int64)) (.int (0 : Int32))) :: (r5, .inr (.int, [(.int pa), (.int pb)])) :: (r6, .inr (.long, [(.long (0 : Int64)), (.long (0 : Int64))])) :: (r7, .inr (.boolean, [(.int f1), (.int f2)])) :: (r0, ob1 (.ref r1) (.ref r2) (.int (cnt (l2L ml pa pb f1 f2))) (.long (0 : Int64)) (.long ex0) (.long ex1) .null ws) :: (r1, .inr (.long, List.map Value.long (z4))) :: (r2, .inr (.byte, List.map Value.int (l2L ml pa pb f1 f2))) :: RR))) (T.setTop (mkF m 219 #[.val (.ref r0), .val (.ref r4), .val (.ref r5), .val (.int j10), .val (.int v12), .val (.long (0 : Int64)), .second, .val (.long hi), .second, .val (.long lo), .second, .unset, .unset, .unset, .unset, .unset, .unset, .unset, .unset, .unset, .unset] [])) := by
     intro T  A
     refine A.aloadN (q := 220) d12_219 rfl rfl rfl ?_
     refine A.getF (q := 223) (w := 84) (i := 4) (j := 3) d12_220 rfl rfl rfl rfl ?_
     intro T A
     refine A.lload (q := 225) d12_223 rfl rfl ?_
     refine A.ladd (q := 226) (v := (0 : Int64)) d12_225 rfl (by decide) ?_
     refine A.lstore (q := 228) (l' := #[.val (.ref r0), .val (.ref r4), .val (.ref r5), .val (.int j10), .val (.int v12), .val (.long (0 : Int64)), .second, .val (.long hi), .second, .val (.long lo), .second, .val (.long (0 : Int64)), .second, .unset, .unset, .unset, .unset, .unset, .unset, .unset, .unset]) d12_226 rfl rfl ?_
     refine A.ldc2_w (q := 231) (v := (-9223372036854775808 : Int64)) (w := 109) d12_228 rfl rfl ?_
     refine A.lstore (q := 233) (l' := #[.val (.ref r0), .val (.ref r4), .val (.ref r5), .val (.int j10), .val (.int v12), .val (.long (0 : Int64)), .second, .val (.long hi), .second, .val (.long lo), .second, .val (.long (0 : Int64)), .second, .val (.long (-9223372036854775808 : Int64)), .second, .unset, .unset, .unset, .unset, .unset, .unset]) d12_231 rfl rfl ?_
     refine A.ldc2_w (q := 236) (v := (9223372036854775807 : Int64)) (w := 110) d12_233 rfl rfl ?_
     refine A.lstore (q := 238) (l' := #[.val (.ref r0), .val (.ref r4), .val (.ref r5), .val (.int j10), .val (.int v12), .val (.long (0 : Int64)), .second, .val (.long hi), .second, .val (.long lo), .second, .val (.long (0 : Int64)), .second, .val (.long (-9223372036854775808 : Int64)), .second, .val (.long (9223372036854775807 : Int64)), .second, .unset, .unset, .unset, .unset]) d12_236 rfl rfl ?_
     refine A.iconst (q := 239) (v := (0 : Int32)) d12_238 rfl (by decide) ?_
     refine A.istore (q := 241) (l' := #[.val (.ref r0), .val (.ref r4), .val (.ref r5), .val (.int j10), .val (.int v12), .val (.long (0 : Int64)), .second, .val (.long hi), .second, .val (.long lo), .second, .val (.long (0 : Int64)), .second, .val (.long (-9223372036854775808 : Int64)), .second, .val (.long (9223372036854775807 : Int64)), .second, .val (.int (0 : Int32)), .unset, .unset, .unset]) d12_239 rfl rfl ?_
     refine A.iload (q := 243) d12_241 rfl rfl ?_
     refine A.aloadN (q := 244) d12_243 rfl rfl rfl ?_
     refine A.arraylength (q := 245) (i := 1) (v := (2 : Int32)) d12_244 rfl rfl (by show Nat.toInt32 2 = 2; decide) ?_
     refine A.icmpF (q := 248) d12_245 rfl (by decide) ?_
     have J248_27 : ∀ (T : State) (j22 : Int64) (j23 : Int64) (s24 : Slot) (s25 : Slot) (j26 : Int32) (j27 : List Int32), j22 = (if ((FF pa ml)) = (0 : Int32) then (if f1 = (0 : Int32) then ((Fmax (-9223372036854775808 : Int64) (0 : Int64))) else (-9223372036854775808 : Int64)) else (-9223372036854775808 : Int64)) → j23 = (if ((FF pa ml)) = (0 : Int32) then (if f1 = (0 : Int32) then ((Fmin (9223372036854775807 : Int64) (0 : Int64))) else (9223372036854775807 : Int64)) else (9223372036854775807 : Int64)) → Two s24 s25 → Two s24 s25 → j26 = (if ((FF pa ml)) = (0 : Int32) then (if f1 = (0 : Int32) then al else (al - (1 : Int32))) else al) → j27 = (if ((FF pa ml)) = (0 : Int32) then (if f1 = (0 : Int32) then ml else (ml.set (pa).toNatClampNeg (((ml.getD (pa).toNatClampNeg (0 : Int32)) ||| (1 : Int32)).toInt8.toInt32))) else ml) → Here p l e ({ frames := 2, cells := 0, slots := 0, locals := 26 } : Room) s m ([(.ref r0), (.ref r4)] : List Value).toArray below meth c Z a0 tables_1 (⟨"com/example/forebound/forebound/problem/Sum", "addListed", "(Lcom/example/forebound/forebound/problem/Problem$Table;)V"⟩ : MethodName).cls (⟨"com/example/forebound/forebound/problem/Sum", "addListed", "(Lcom/example/forebound/forebound/problem/Problem$Table;)V"⟩ : MethodName).name prog_28_method_7_code 21 none n0 T ((r0, ob1 (.ref r1) (.ref r2) (.int j26) (.long (0 : Int64)) (.long hi) (.long lo) .null ws) :: (r4, ob0 (.ref r5) (.ref r6) (.ref r7) (.long (0 : Int64)) (.int (0 : Int32))) :: (r1, .inr (.long, List.map Value.long (z4))) :: (r2, .inr (.byte, List.map Value.int j27)) :: (r5, .inr (.int, [(.int pa), (.int pb)])) :: (r6, .inr (.long, [(.long (0 : Int64)), (.long (0 : Int64))])) :: (r7, .inr (.boolean, [(.int f1), (.int f2)])) :: RR) 0 0 → Go p e below (EndS below s n0 Z 0 0 (fun v L' => ∃ ex0 ex1 : Int64, v = none ∧ L' = ((r4, ob0 (.ref r5) (.ref r6) (.ref r7) (.long (0 : Int64)) (.int (0 : Int32))) :: (r5, .inr (.int, [(.int pa), (.int pb)])) :: (r6, .inr (.long, [(.long (0 : Int64)), (.long (0 : Int64))])) :: (r7, .inr (.boolean, [(.int f1), (.int f2)])) :: (r0, ob1 (.ref r1) (.ref r2) (.int (cnt (l2L ml pa pb f1 f2))) (.long (0 : Int64)) (.long ex0) (.long ex1) .null ws) :: (r1, .inr (.long, List.map Value.long (z4))) :: (r2, .inr (.byte, List.map Value.int (l2L ml pa pb f1 f2))) :: RR))) (T.setTop (mkF m 337 #[.val (.ref r0), .val (.ref r4), .val (.ref r5), .val (.int j10), .val (.int v12), .val (.long (0 : Int64)), .second, .val (.long hi), .second, .val (.long lo), .second, .val (.long (0 : Int64)), .second, .val (.long j22), .second, .val (.long j23), .second, .val (.int (0 : Int32)), .val (.int pa), s24, s25] [])) := by
      intro T j22 j23 s24 s25 j26 j27 ej22 ej23 os24 os25 ej26 ej27 A
      have q : (fb ml pa f1) = j27 := Eq.symm (own_g69 sg pg f1 f2 hf1 hf2 hS ml hml pa hpa pb hpb al hal j27 ej27 )
      subst q
      have q : (cnt (fb ml pa f1)) = j26 := Eq.symm (own_g70 sg pg f1 f2 hf1 hf2 hS ml hml pa hpa pb hpb al hal j26 ej26 )
      subst q
      have A : Here p l e ({ frames := 2, cells := 0, slots := 0, locals := 26 } : Room) s m ([(.ref r0), (.ref r4)] : List Value).toArray below meth c Z a0 tables_1 (⟨"com/example/forebound/forebound/problem/Sum", "addListed", "(Lcom/example/forebound/forebound/problem/Problem$Table;)V"⟩ : MethodName).cls (⟨"com/example/forebound/forebound/problem/Sum", "addListed", "(Lcom/example/forebound/forebound/problem/Problem$Table;)V"⟩ : MethodName).name prog_28_method_7_code 21 none n0 T ((r0, ob1 (.ref r1) (.ref r2) (.int (cnt (fb ml pa f1))) (.long (0 : Int64)) (.long hi) (.long lo) .null ws) :: (r4, ob0 (.ref r5) (.ref r6) (.ref r7) (.long (0 : Int64)) (.int (0 : Int32))) :: (r1, .inr (.long, List.map Value.long (z4))) :: (r2, .inr (.byte, List.map Value.int (fb ml pa f1))) :: (r5, .inr (.int, [(.int pa), (.int pb)])) :: (r6, .inr (.long, [(.long (0 : Int64)), (.long (0 : Int64))])) :: (r7, .inr (.boolean, [(.int f1), (.int f2)])) :: RR) 0 0 := A
      refine A.iinc (q := 340) (v := (1 : Int32)) (l' := #[.val (.ref r0), .val (.ref r4), .val (.ref r5), .val (.int j10), .val (.int v12), .val (.long (0 : Int64)), .second, .val (.long hi), .second, .val (.long lo), .second, .val (.long (0 : Int64)), .second, .val (.long j22), .second, .val (.long j23), .second, .val (.int (1 : Int32)), .val (.int pa), s24, s25]) d12_337 rfl rfl (by decide) rfl ?_
      refine A.goto (r := 241) d12_340 (by decide) ?_
      refine A.iload (q := 243) d12_241 rfl rfl ?_
      refine A.aloadN (q := 244) d12_243 rfl rfl rfl ?_
      refine A.arraylength (q := 245) (i := 4) (v := (2 : Int32)) d12_244 rfl rfl (by show Nat.toInt32 2 = 2; decide) ?_
      refine A.icmpF (q := 248) d12_245 rfl (by decide) ?_
      have J248_39 : ∀ (T : State) (j34 : Int64) (j35 : Int64) (s36 : Slot) (s37 : Slot) (j38 : Int32) (j39 : List Int32), j34 = (if ((FF pb (fb ml pa f1))) = (0 : Int32) then (if f2 = (0 : Int32) then ((Fmax j22 (0 : Int64))) else j22) else j22) → j35 = (if ((FF pb (fb ml pa f1))) = (0 : Int32) then (if f2 = (0 : Int32) then ((Fmin j23 (0 : Int64))) else j23) else j23) → Two s36 s37 → Two s36 s37 → j38 = (if ((FF pb (fb ml pa f1))) = (0 : Int32) then (if f2 = (0 : Int32) then (cnt (fb ml pa f1)) else ((cnt (fb ml pa f1)) - (1 : Int32))) else (cnt (fb ml pa f1))) → j39 = (if ((FF pb (fb ml pa f1))) = (0 : Int32) then (if f2 = (0 : Int32) then (fb ml pa f1) else ((fb ml pa f1).set (pb).toNatClampNeg ((((fb ml pa f1).getD (pb).toNatClampNeg (0 : Int32)) ||| (1 : Int32)).toInt8.toInt32))) else (fb ml pa f1)) → Here p l e ({ frames := 2, cells := 0, slots := 0, locals := 26 } : Room) s m ([(.ref r0), (.ref r4)] : List Value).toArray below meth c Z a0 tables_1 (⟨"com/example/forebound/forebound/problem/Sum", "addListed", "(Lcom/example/forebound/forebound/problem/Problem$Table;)V"⟩ : MethodName).cls (⟨"com/example/forebound/forebound/problem/Sum", "addListed", "(Lcom/example/forebound/forebound/problem/Problem$Table;)V"⟩ : MethodName).name prog_28_method_7_code 21 none n0 T ((r0, ob1 (.ref r1) (.ref r2) (.int j38) (.long (0 : Int64)) (.long hi) (.long lo) .null ws) :: (r4, ob0 (.ref r5) (.ref r6) (.ref r7) (.long (0 : Int64)) (.int (0 : Int32))) :: (r1, .inr (.long, List.map Value.long (z4))) :: (r2, .inr (.byte, List.map Value.int j39)) :: (r5, .inr (.int, [(.int pa), (.int pb)])) :: (r6, .inr (.long, [(.long (0 : Int64)), (.long (0 : Int64))])) :: (r7, .inr (.boolean, [(.int f1), (.int f2)])) :: RR) 0 0 → Go p e below (EndS below s n0 Z 0 0 (fun v L' => ∃ ex0 ex1 : Int64, v = none ∧ L' = ((r4, ob0 (.ref r5) (.ref r6) (.ref r7) (.long (0 : Int64)) (.int (0 : Int32))) :: (r5, .inr (.int, [(.int pa), (.int pb)])) :: (r6, .inr (.long, [(.long (0 : Int64)), (.long (0 : Int64))])) :: (r7, .inr (.boolean, [(.int f1), (.int f2)])) :: (r0, ob1 (.ref r1) (.ref r2) (.int (cnt (l2L ml pa pb f1 f2))) (.long (0 : Int64)) (.long ex0) (.long ex1) .null ws) :: (r1, .inr (.long, List.map Value.long (z4))) :: (r2, .inr (.byte, List.map Value.int (l2L ml pa pb f1 f2))) :: RR))) (T.setTop (mkF m 337 #[.val (.ref r0), .val (.ref r4), .val (.ref r5), .val (.int j10), .val (.int v12), .val (.long (0 : Int64)), .second, .val (.long hi), .second, .val (.long lo), .second, .val (.long (0 : Int64)), .second, .val (.long j34), .second, .val (.long j35), .second, .val (.int (1 : Int32)), .val (.int pb), s36, s37] [])) := by
       intro T j34 j35 s36 s37 j38 j39 ej34 ej35 os36 os37 ej38 ej39 A
       have q : (l2L ml pa pb f1 f2) = j39 := Eq.symm (own_g71 sg pg f1 f2 hf1 hf2 hS ml hml pa hpa pb hpb al hal j39 ej39 )
       subst q
       have q : (cnt (l2L ml pa pb f1 f2)) = j38 := Eq.symm (own_g72 sg pg f1 f2 hf1 hf2 hS ml hml pa hpa pb hpb al hal j38 ej38 )
       subst q
       have A : Here p l e ({ frames := 2, cells := 0, slots := 0, locals := 26 } : Room) s m ([(.ref r0), (.ref r4)] : List Value).toArray below meth c Z a0 tables_1 (⟨"com/example/forebound/forebound/problem/Sum", "addListed", "(Lcom/example/forebound/forebound/problem/Problem$Table;)V"⟩ : MethodName).cls (⟨"com/example/forebound/forebound/problem/Sum", "addListed", "(Lcom/example/forebound/forebound/problem/Problem$Table;)V"⟩ : MethodName).name prog_28_method_7_code 21 none n0 T ((r0, ob1 (.ref r1) (.ref r2) (.int (cnt (l2L ml pa pb f1 f2))) (.long (0 : Int64)) (.long hi) (.long lo) .null ws) :: (r4, ob0 (.ref r5) (.ref r6) (.ref r7) (.long (0 : Int64)) (.int (0 : Int32))) :: (r1, .inr (.long, List.map Value.long (z4))) :: (r2, .inr (.byte, List.map Value.int (l2L ml pa pb f1 f2))) :: (r5, .inr (.int, [(.int pa), (.int pb)])) :: (r6, .inr (.long, [(.long (0 : Int64)), (.long (0 : Int64))])) :: (r7, .inr (.boolean, [(.int f1), (.int f2)])) :: RR) 0 0 := A
       refine A.iinc (q := 340) (v := (2 : Int32)) (l' := #[.val (.ref r0), .val (.ref r4), .val (.ref r5), .val (.int j10), .val (.int v12), .val (.long (0 : Int64)), .second, .val (.long hi), .second, .val (.long lo), .second, .val (.long (0 : Int64)), .second, .val (.long j34), .second, .val (.long j35), .second, .val (.int (2 : Int32)), .val (.int pb), s36, s37]) d12_337 rfl rfl (by decide) rfl ?_
       refine A.goto (r := 241) d12_340 (by decide) ?_
       refine A.iload (q := 243) d12_241 rfl rfl ?_
       refine A.aloadN (q := 244) d12_243 rfl rfl rfl ?_
       refine A.arraylength (q := 245) (i := 4) (v := (2 : Int32)) d12_244 rfl rfl (by show Nat.toInt32 2 = 2; decide) ?_
       refine A.icmpT (r := 343) d12_245 (by decide) (by decide) ?_
       refine A.aloadN (q := 344) d12_343 rfl rfl rfl ?_
       refine A.lload (q := 346) d12_344 rfl rfl ?_
       refine A.putF (q := 349) (w := 84) (w2 := 85) (w3 := 1) (i := 0) (j := 3) (ty := .long) (v' := (.long (0 : Int64))) (L' := ((r0, ob1 (.ref r1) (.ref r2) (.int (cnt (l2L ml pa pb f1 f2))) (.long (0 : Int64)) (.long hi) (.long lo) .null ws) :: (r4, ob0 (.ref r5) (.ref r6) (.ref r7) (.long (0 : Int64)) (.int (0 : Int32))) :: (r1, .inr (.long, List.map Value.long (z4))) :: (r2, .inr (.byte, List.map Value.int (l2L ml pa pb f1 f2))) :: (r5, .inr (.int, [(.int pa), (.int pb)])) :: (r6, .inr (.long, [(.long (0 : Int64)), (.long (0 : Int64))])) :: (r7, .inr (.boolean, [(.int f1), (.int f2)])) :: RR)) d12_346 rfl rfl rfl rfl (lay_0 Z a0 hw) (Or.inl rfl) rfl (by decide) rfl rfl rfl ?_
       intro T A
       refine A.aloadN (q := 350) d12_349 rfl rfl rfl ?_
       have A := A.front (i := 6) rfl rfl
       have A := A.front (i := 6) rfl rfl
       have A := A.front (i := 6) rfl rfl
       have A := A.front (i := 4) (L' := ((r4, ob0 (.ref r5) (.ref r6) (.ref r7) (.long (0 : Int64)) (.int (0 : Int32))) :: (r5, .inr (.int, [(.int pa), (.int pb)])) :: (r6, .inr (.long, [(.long (0 : Int64)), (.long (0 : Int64))])) :: (r7, .inr (.boolean, [(.int f1), (.int f2)])) :: (r0, ob1 (.ref r1) (.ref r2) (.int (cnt (l2L ml pa pb f1 f2))) (.long (0 : Int64)) (.long hi) (.long lo) .null ws) :: (r1, .inr (.long, List.map Value.long (z4))) :: (r2, .inr (.byte, List.map Value.int (l2L ml pa pb f1 f2))) :: RR)) rfl rfl
       refine A.callV (q := 353) (i := 0) (w1 := 95) (w2 := 96) (w3 := 39) (w4 := 99) (w5 := 98) (w6 := 97) (a := r4) (as := []) (st := []) (W := 0) d12_350 rfl rfl rfl rfl rfl rfl rfl rfl (rm17_1 l Z a0 hw n0 r4 r5 r6 r7 pa pb f1 f2 _) (by decide) ⟨_, _, pd_8, rfl⟩ rfl rfl rfl (by decide) (by decide) (by decide) (by decide) ?_
       rintro _ T _ ⟨rfl, rfl⟩ A
       show Go p e below _ (T.setTop (mkF m 353 #[.val (.ref r0), .val (.ref r4), .val (.ref r5), .val (.int j10), .val (.int v12), .val (.long (0 : Int64)), .second, .val (.long hi), .second, .val (.long lo), .second, .val (.long (0 : Int64)), .second, .val (.long j34), .second, .val (.long j35), .second, .val (.int (2 : Int32)), .val (.int pb), s36, s37] [(.int (0 : Int32))]))
       refine A.ifT (r := 361) d12_353 (by decide) (by decide) ?_
       refine A.aloadN (q := 362) d12_361 rfl rfl rfl ?_
       refine A.callV (q := 365) (i := 0) (w1 := 95) (w2 := 96) (w3 := 39) (w4 := 99) (w5 := 98) (w6 := 97) (a := r4) (as := []) (st := []) (W := 0) d12_362 rfl rfl rfl rfl rfl rfl rfl rfl (rm17_1 l Z a0 hw n0 r4 r5 r6 r7 pa pb f1 f2 _) (by decide) ⟨_, _, pd_8, rfl⟩ rfl rfl rfl (by decide) (by decide) (by decide) (by decide) ?_
       rintro _ T _ ⟨rfl, rfl⟩ A
       show Go p e below _ (T.setTop (mkF m 365 #[.val (.ref r0), .val (.ref r4), .val (.ref r5), .val (.int j10), .val (.int v12), .val (.long (0 : Int64)), .second, .val (.long hi), .second, .val (.long lo), .second, .val (.long (0 : Int64)), .second, .val (.long j34), .second, .val (.long j35), .second, .val (.int (2 : Int32)), .val (.int pb), s36, s37] [(.int (0 : Int32))]))
       refine A.ifF (q := 368) d12_365 rfl (by decide) ?_
       have J368_47 : ∀ (T : State) (j46 : Int64) (j47 : Int64), j46 = (if v12 = (0 : Int32) then j34 else ((Fmax (hi + (0 : Int64)) j34))) → j47 = (if v12 = (0 : Int32) then j35 else ((Fmin (lo + (0 : Int64)) j35))) → Here p l e ({ frames := 2, cells := 0, slots := 0, locals := 26 } : Room) s m ([(.ref r0), (.ref r4)] : List Value).toArray below meth c Z a0 tables_1 (⟨"com/example/forebound/forebound/problem/Sum", "addListed", "(Lcom/example/forebound/forebound/problem/Problem$Table;)V"⟩ : MethodName).cls (⟨"com/example/forebound/forebound/problem/Sum", "addListed", "(Lcom/example/forebound/forebound/problem/Problem$Table;)V"⟩ : MethodName).name prog_28_method_7_code 21 none n0 T ((r4, ob0 (.ref r5) (.ref r6) (.ref r7) (.long (0 : Int64)) (.int (0 : Int32))) :: (r5, .inr (.int, [(.int pa), (.int pb)])) :: (r6, .inr (.long, [(.long (0 : Int64)), (.long (0 : Int64))])) :: (r7, .inr (.boolean, [(.int f1), (.int f2)])) :: (r0, ob1 (.ref r1) (.ref r2) (.int (cnt (l2L ml pa pb f1 f2))) (.long (0 : Int64)) (.long j46) (.long j47) .null ws) :: (r1, .inr (.long, List.map Value.long (z4))) :: (r2, .inr (.byte, List.map Value.int (l2L ml pa pb f1 f2))) :: RR) 0 0 → Go p e below (EndS below s n0 Z 0 0 (fun v L' => ∃ ex0 ex1 : Int64, v = none ∧ L' = ((r4, ob0 (.ref r5) (.ref r6) (.ref r7) (.long (0 : Int64)) (.int (0 : Int32))) :: (r5, .inr (.int, [(.int pa), (.int pb)])) :: (r6, .inr (.long, [(.long (0 : Int64)), (.long (0 : Int64))])) :: (r7, .inr (.boolean, [(.int f1), (.int f2)])) :: (r0, ob1 (.ref r1) (.ref r2) (.int (cnt (l2L ml pa pb f1 f2))) (.long (0 : Int64)) (.long ex0) (.long ex1) .null ws) :: (r1, .inr (.long, List.map Value.long (z4))) :: (r2, .inr (.byte, List.map Value.int (l2L ml pa pb f1 f2))) :: RR))) (T.setTop (mkF m 416 #[.val (.ref r0), .val (.ref r4), .val (.ref r5), .val (.int j10), .val (.int v12), .val (.long (0 : Int64)), .second, .val (.long hi), .second, .val (.long lo), .second, .val (.long (0 : Int64)), .second, .val (.long j34), .second, .val (.long j35), .second, .val (.int (2 : Int32)), .val (.int pb), s36, s37] [])) := by
        intro T j46 j47 ej46 ej47 A
        have Aq := A
        subst ej4 ej10 e12 ej22 ej23 ej34 ej35 ej46 ej47
        have A := Aq
        exact A.retV d12_416 (by decide) (by decide) ⟨_, _, rfl, rfl⟩
       refine A.iload (q := 370) d12_368 rfl rfl ?_
       refine A.if_ne (q := 373) (r := 388) d12_370 rfl (by decide) (fun h41 => ?_) (fun h41 => ?_)
       · refine A.aloadN (q := 389) d12_388 rfl rfl rfl ?_
         refine A.lload (q := 391) d12_389 rfl rfl ?_
         refine A.lload (q := 393) d12_391 rfl rfl ?_
         obtain ⟨v42, e42⟩ : ∃ v : Int64, hi + (0 : Int64) = v := ⟨_, rfl⟩
         refine A.ladd (q := 394) d12_393 rfl e42 ?_
         refine A.lload (q := 396) d12_394 rfl rfl ?_
         refine A.callS (q := 399) (w1 := 117) (w2 := 118) (w3 := 93) (w4 := 119) (as := [(.long v42), (.long j34)]) (st := [(.ref r0)]) (W := 1) d12_396 rfl rfl rfl rfl rfl (rmmax l Z a0 hw n0 v42 j34 _) (by decide) ⟨_, _, pd_7, rfl⟩ rfl rfl rfl (by decide) (by decide) (by decide) (by decide) ?_
         rintro _ T _ ⟨rfl, rfl⟩ A
         show Go p e below _ (T.setTop (mkF m 399 #[.val (.ref r0), .val (.ref r4), .val (.ref r5), .val (.int j10), .val (.int v12), .val (.long (0 : Int64)), .second, .val (.long hi), .second, .val (.long lo), .second, .val (.long (0 : Int64)), .second, .val (.long j34), .second, .val (.long j35), .second, .val (.int (2 : Int32)), .val (.int pb), s36, s37] [(.long (Fmax v42 j34)), (.ref r0)]))
         obtain ⟨v43, e43⟩ : ∃ v : Int64, (Fmax v42 j34) = v := ⟨_, rfl⟩
         rw [e43]
         refine A.putF (q := 402) (w := 105) (w2 := 106) (w3 := 1) (i := 4) (j := 4) (ty := .long) (v' := (.long v43)) (L' := ((r4, ob0 (.ref r5) (.ref r6) (.ref r7) (.long (0 : Int64)) (.int (0 : Int32))) :: (r5, .inr (.int, [(.int pa), (.int pb)])) :: (r6, .inr (.long, [(.long (0 : Int64)), (.long (0 : Int64))])) :: (r7, .inr (.boolean, [(.int f1), (.int f2)])) :: (r0, ob1 (.ref r1) (.ref r2) (.int (cnt (l2L ml pa pb f1 f2))) (.long (0 : Int64)) (.long v43) (.long lo) .null ws) :: (r1, .inr (.long, List.map Value.long (z4))) :: (r2, .inr (.byte, List.map Value.int (l2L ml pa pb f1 f2))) :: RR)) d12_399 rfl rfl rfl rfl (lay_0 Z a0 hw) (Or.inl rfl) rfl (by decide) rfl rfl rfl ?_
         intro T A
         refine A.aloadN (q := 403) d12_402 rfl rfl rfl ?_
         refine A.lload (q := 405) d12_403 rfl rfl ?_
         refine A.lload (q := 407) d12_405 rfl rfl ?_
         obtain ⟨v44, e44⟩ : ∃ v : Int64, lo + (0 : Int64) = v := ⟨_, rfl⟩
         refine A.ladd (q := 408) d12_407 rfl e44 ?_
         refine A.lload (q := 410) d12_408 rfl rfl ?_
         refine A.callS (q := 413) (w1 := 120) (w2 := 121) (w3 := 93) (w4 := 122) (as := [(.long v44), (.long j35)]) (st := [(.ref r0)]) (W := 1) d12_410 rfl rfl rfl rfl rfl (rmmin l Z a0 hw n0 v44 j35 _) (by decide) ⟨_, _, pd_7, rfl⟩ rfl rfl rfl (by decide) (by decide) (by decide) (by decide) ?_
         rintro _ T _ ⟨rfl, rfl⟩ A
         show Go p e below _ (T.setTop (mkF m 413 #[.val (.ref r0), .val (.ref r4), .val (.ref r5), .val (.int j10), .val (.int v12), .val (.long (0 : Int64)), .second, .val (.long hi), .second, .val (.long lo), .second, .val (.long (0 : Int64)), .second, .val (.long j34), .second, .val (.long j35), .second, .val (.int (2 : Int32)), .val (.int pb), s36, s37] [(.long (Fmin v44 j35)), (.ref r0)]))
         obtain ⟨v45, e45⟩ : ∃ v : Int64, (Fmin v44 j35) = v := ⟨_, rfl⟩
         rw [e45]
         refine A.putF (q := 416) (w := 107) (w2 := 108) (w3 := 1) (i := 4) (j := 5) (ty := .long) (v' := (.long v45)) (L' := ((r4, ob0 (.ref r5) (.ref r6) (.ref r7) (.long (0 : Int64)) (.int (0 : Int32))) :: (r5, .inr (.int, [(.int pa), (.int pb)])) :: (r6, .inr (.long, [(.long (0 : Int64)), (.long (0 : Int64))])) :: (r7, .inr (.boolean, [(.int f1), (.int f2)])) :: (r0, ob1 (.ref r1) (.ref r2) (.int (cnt (l2L ml pa pb f1 f2))) (.long (0 : Int64)) (.long v43) (.long v45) .null ws) :: (r1, .inr (.long, List.map Value.long (z4))) :: (r2, .inr (.byte, List.map Value.int (l2L ml pa pb f1 f2))) :: RR)) d12_413 rfl rfl rfl rfl (lay_0 Z a0 hw) (Or.inl rfl) rfl (by decide) rfl rfl rfl ?_
         intro T A
         exact J368_47 T _ _ (by first | (simp only [e42, e43, e44, e45, if_neg h41]; done) | (subst e42 e43 e44 e45; simp only [if_neg h41])) (by first | (simp only [e42, e43, e44, e45, if_neg h41]; done) | (subst e42 e43 e44 e45; simp only [if_neg h41])) A
       · refine A.aloadN (q := 374) d12_373 rfl rfl rfl ?_
         refine A.lload (q := 376) d12_374 rfl rfl ?_
         refine A.putF (q := 379) (w := 105) (w2 := 106) (w3 := 1) (i := 4) (j := 4) (ty := .long) (v' := (.long j34)) (L' := ((r4, ob0 (.ref r5) (.ref r6) (.ref r7) (.long (0 : Int64)) (.int (0 : Int32))) :: (r5, .inr (.int, [(.int pa), (.int pb)])) :: (r6, .inr (.long, [(.long (0 : Int64)), (.long (0 : Int64))])) :: (r7, .inr (.boolean, [(.int f1), (.int f2)])) :: (r0, ob1 (.ref r1) (.ref r2) (.int (cnt (l2L ml pa pb f1 f2))) (.long (0 : Int64)) (.long j34) (.long lo) .null ws) :: (r1, .inr (.long, List.map Value.long (z4))) :: (r2, .inr (.byte, List.map Value.int (l2L ml pa pb f1 f2))) :: RR)) d12_376 rfl rfl rfl rfl (lay_0 Z a0 hw) (Or.inl rfl) rfl (by decide) rfl rfl rfl ?_
         intro T A
         refine A.aloadN (q := 380) d12_379 rfl rfl rfl ?_
         refine A.lload (q := 382) d12_380 rfl rfl ?_
         refine A.putF (q := 385) (w := 107) (w2 := 108) (w3 := 1) (i := 4) (j := 5) (ty := .long) (v' := (.long j35)) (L' := ((r4, ob0 (.ref r5) (.ref r6) (.ref r7) (.long (0 : Int64)) (.int (0 : Int32))) :: (r5, .inr (.int, [(.int pa), (.int pb)])) :: (r6, .inr (.long, [(.long (0 : Int64)), (.long (0 : Int64))])) :: (r7, .inr (.boolean, [(.int f1), (.int f2)])) :: (r0, ob1 (.ref r1) (.ref r2) (.int (cnt (l2L ml pa pb f1 f2))) (.long (0 : Int64)) (.long j34) (.long j35) .null ws) :: (r1, .inr (.long, List.map Value.long (z4))) :: (r2, .inr (.byte, List.map Value.int (l2L ml pa pb f1 f2))) :: RR)) d12_382 rfl rfl rfl rfl (lay_0 Z a0 hw) (Or.inl rfl) rfl (by decide) rfl rfl rfl ?_
         intro T A
         refine A.goto (r := 416) d12_385 (by decide) ?_
         exact J368_47 T _ _ (by simp only [if_pos h41]) (by simp only [if_pos h41]) A
      refine A.aloadN (q := 249) d12_248 rfl rfl rfl ?_
      refine A.iload (q := 251) d12_249 rfl rfl ?_
      refine A.iaload (q := 252) (i := 4) (v := (.int pb)) d12_251 rfl rfl (by decide) rfl ?_
      refine A.istore (q := 254) (l' := #[.val (.ref r0), .val (.ref r4), .val (.ref r5), .val (.int j10), .val (.int v12), .val (.long (0 : Int64)), .second, .val (.long hi), .second, .val (.long lo), .second, .val (.long (0 : Int64)), .second, .val (.long j22), .second, .val (.long j23), .second, .val (.int (1 : Int32)), .val (.int pb), s24, s25]) d12_252 rfl rfl ?_
      refine A.aloadN (q := 255) d12_254 rfl rfl rfl ?_
      refine A.iload (q := 257) d12_255 rfl rfl ?_
      have A := A.front (i := 3) rfl rfl
      have A := A.front (i := 1) (L' := ((r0, ob1 (.ref r1) (.ref r2) (.int (cnt (fb ml pa f1))) (.long (0 : Int64)) (.long hi) (.long lo) .null ws) :: (r2, .inr (.byte, List.map Value.int (fb ml pa f1))) :: (r4, ob0 (.ref r5) (.ref r6) (.ref r7) (.long (0 : Int64)) (.int (0 : Int32))) :: (r1, .inr (.long, List.map Value.long (z4))) :: (r5, .inr (.int, [(.int pa), (.int pb)])) :: (r6, .inr (.long, [(.long (0 : Int64)), (.long (0 : Int64))])) :: (r7, .inr (.boolean, [(.int f1), (.int f2)])) :: RR)) rfl rfl
      refine A.callV (q := 260) (i := 0) (w1 := 73) (w2 := 18) (w3 := 2) (w4 := 21) (w5 := 20) (w6 := 19) (a := r0) (as := [(.int pb)]) (st := []) (W := 0) d12_257 rfl rfl rfl rfl rfl rfl rfl rfl (rmF l Z a0 hw n0 r0 pb r1 r2 (cnt (fb ml pa f1)) (0 : Int64) hi lo .null ws (fb ml pa f1) _ nq.1 (by rw [(show (fb ml pa f1).length = 4 by simp only [List.length_set, own_u1len, own_fblen, own_mkLlen, own_l2Llen, own_uLlen, own_umlen, len_ml])]; exact nq.2.1)) (by decide) ⟨_, _, pd_2, rfl⟩ rfl rfl rfl (by decide) (by decide) (by decide) (by decide) ?_
      rintro _ T _ ⟨rfl, rfl⟩ A
      show Go p e below _ (T.setTop (mkF m 260 #[.val (.ref r0), .val (.ref r4), .val (.ref r5), .val (.int j10), .val (.int v12), .val (.long (0 : Int64)), .second, .val (.long hi), .second, .val (.long lo), .second, .val (.long (0 : Int64)), .second, .val (.long j22), .second, .val (.long j23), .second, .val (.int (1 : Int32)), .val (.int pb), s24, s25] [(.int (FF pb (fb ml pa f1)))]))
      obtain ⟨v29, e29⟩ : ∃ v : Int32, (FF pb (fb ml pa f1)) = v := ⟨_, rfl⟩
      rw [e29]
      refine A.if_eq (q := 263) (r := 266) d12_260 rfl (by decide) (fun h30 => ?_) (fun h30 => ?_)
      · refine A.aloadN (q := 267) d12_266 rfl rfl rfl ?_
        have A := A.front (i := 2) (L' := ((r4, ob0 (.ref r5) (.ref r6) (.ref r7) (.long (0 : Int64)) (.int (0 : Int32))) :: (r0, ob1 (.ref r1) (.ref r2) (.int (cnt (fb ml pa f1))) (.long (0 : Int64)) (.long hi) (.long lo) .null ws) :: (r2, .inr (.byte, List.map Value.int (fb ml pa f1))) :: (r1, .inr (.long, List.map Value.long (z4))) :: (r5, .inr (.int, [(.int pa), (.int pb)])) :: (r6, .inr (.long, [(.long (0 : Int64)), (.long (0 : Int64))])) :: (r7, .inr (.boolean, [(.int f1), (.int f2)])) :: RR)) rfl rfl
        refine A.callV (q := 270) (i := 0) (w1 := 74) (w2 := 75) (w3 := 39) (w4 := 78) (w5 := 77) (w6 := 76) (a := r4) (as := []) (st := []) (W := 0) d12_267 rfl rfl rfl rfl rfl rfl rfl rfl (rm13 l Z a0 hw n0 r4 r5 r6 r7 (0 : Int64) (0 : Int32) _) (by decide) ⟨_, _, pd_4, rfl⟩ rfl rfl rfl (by decide) (by decide) (by decide) (by decide) ?_
        rintro _ T _ ⟨rfl, rfl⟩ A
        show Go p e below _ (T.setTop (mkF m 270 #[.val (.ref r0), .val (.ref r4), .val (.ref r5), .val (.int j10), .val (.int v12), .val (.long (0 : Int64)), .second, .val (.long hi), .second, .val (.long lo), .second, .val (.long (0 : Int64)), .second, .val (.long j22), .second, .val (.long j23), .second, .val (.int (1 : Int32)), .val (.int pb), s24, s25] [(.ref r7)]))
        refine A.iload (q := 272) d12_270 rfl rfl ?_
        refine A.baloadZ (q := 273) (i := 6) (v := (.int f2)) d12_272 rfl rfl (by decide) rfl ?_
        refine A.if_eq (q := 276) (r := 285) d12_273 rfl (by decide) (fun h31 => ?_) (fun h31 => ?_)
        · refine A.aloadN (q := 286) d12_285 rfl rfl rfl ?_
          refine A.iload (q := 288) d12_286 rfl rfl ?_
          have A := A.front (i := 3) rfl rfl
          have A := A.front (i := 2) (L' := ((r0, ob1 (.ref r1) (.ref r2) (.int (cnt (fb ml pa f1))) (.long (0 : Int64)) (.long hi) (.long lo) .null ws) :: (r1, .inr (.long, List.map Value.long (z4))) :: (r4, ob0 (.ref r5) (.ref r6) (.ref r7) (.long (0 : Int64)) (.int (0 : Int32))) :: (r2, .inr (.byte, List.map Value.int (fb ml pa f1))) :: (r5, .inr (.int, [(.int pa), (.int pb)])) :: (r6, .inr (.long, [(.long (0 : Int64)), (.long (0 : Int64))])) :: (r7, .inr (.boolean, [(.int f1), (.int f2)])) :: RR)) rfl rfl
          refine A.callV (q := 291) (i := 0) (w1 := 79) (w2 := 80) (w3 := 2) (w4 := 83) (w5 := 82) (w6 := 81) (a := r0) (as := [(.int pb)]) (st := []) (W := 0) d12_288 rfl rfl rfl rfl rfl rfl rfl rfl (rmC l Z a0 hw n0 r0 pb r1 r2 (cnt (fb ml pa f1)) hi lo .null ws (z4) _ nq.1 nq.2.2.1) (by decide) ⟨_, _, pd_5, rfl⟩ rfl rfl rfl (by decide) (by decide) (by decide) (by decide) ?_
          rintro _ T _ ⟨rfl, rfl⟩ A
          show Go p e below _ (T.setTop (mkF m 291 #[.val (.ref r0), .val (.ref r4), .val (.ref r5), .val (.int j10), .val (.int v12), .val (.long (0 : Int64)), .second, .val (.long hi), .second, .val (.long lo), .second, .val (.long (0 : Int64)), .second, .val (.long j22), .second, .val (.long j23), .second, .val (.int (1 : Int32)), .val (.int pb), s24, s25] [(.long (0 : Int64))]))
          refine A.aloadN (q := 292) d12_291 rfl rfl rfl ?_
          have A := A.front (i := 2) (L' := ((r4, ob0 (.ref r5) (.ref r6) (.ref r7) (.long (0 : Int64)) (.int (0 : Int32))) :: (r0, ob1 (.ref r1) (.ref r2) (.int (cnt (fb ml pa f1))) (.long (0 : Int64)) (.long hi) (.long lo) .null ws) :: (r1, .inr (.long, List.map Value.long (z4))) :: (r2, .inr (.byte, List.map Value.int (fb ml pa f1))) :: (r5, .inr (.int, [(.int pa), (.int pb)])) :: (r6, .inr (.long, [(.long (0 : Int64)), (.long (0 : Int64))])) :: (r7, .inr (.boolean, [(.int f1), (.int f2)])) :: RR)) rfl rfl
          refine A.callV (q := 295) (i := 0) (w1 := 86) (w2 := 87) (w3 := 39) (w4 := 90) (w5 := 89) (w6 := 88) (a := r4) (as := []) (st := [(.long (0 : Int64))]) (W := 2) d12_292 rfl rfl rfl rfl rfl rfl rfl rfl (rm15 l Z a0 hw n0 r4 r5 r6 r7 (0 : Int64) (0 : Int32) _) (by decide) ⟨_, _, pd_6, rfl⟩ rfl rfl rfl (by decide) (by decide) (by decide) (by decide) ?_
          rintro _ T _ ⟨rfl, rfl⟩ A
          show Go p e below _ (T.setTop (mkF m 295 #[.val (.ref r0), .val (.ref r4), .val (.ref r5), .val (.int j10), .val (.int v12), .val (.long (0 : Int64)), .second, .val (.long hi), .second, .val (.long lo), .second, .val (.long (0 : Int64)), .second, .val (.long j22), .second, .val (.long j23), .second, .val (.int (1 : Int32)), .val (.int pb), s24, s25] [(.ref r6), (.long (0 : Int64))]))
          refine A.iload (q := 297) d12_295 rfl rfl ?_
          refine A.laload (q := 298) (i := 5) (v := (.long (0 : Int64))) d12_297 rfl rfl (by decide) rfl ?_
          refine A.ladd (q := 299) (v := (0 : Int64)) d12_298 rfl (by decide) ?_
          refine A.lstore (q := 301) (l' := #[.val (.ref r0), .val (.ref r4), .val (.ref r5), .val (.int j10), .val (.int v12), .val (.long (0 : Int64)), .second, .val (.long hi), .second, .val (.long lo), .second, .val (.long (0 : Int64)), .second, .val (.long j22), .second, .val (.long j23), .second, .val (.int (1 : Int32)), .val (.int pb), .val (.long (0 : Int64)), .second]) d12_299 rfl (by rcases os24 with ⟨rfl, rfl⟩ | ⟨x, rfl, rfl⟩ <;> rfl) ?_
          refine A.aloadN (q := 302) d12_301 rfl rfl rfl ?_
          refine A.getF (q := 305) (w := 10) (i := 1) (j := 0) d12_302 rfl rfl rfl rfl ?_
          intro T A
          refine A.iload (q := 307) d12_305 rfl rfl ?_
          refine A.lload (q := 309) d12_307 rfl rfl ?_
          refine A.lload (q := 311) d12_309 rfl rfl ?_
          refine A.lsub (q := 312) (v := (0 : Int64)) d12_311 rfl (by decide) ?_
          refine A.lastoreM (q := 313) (i := 2) (x' := (0 : Int64)) (L' := ((r4, ob0 (.ref r5) (.ref r6) (.ref r7) (.long (0 : Int64)) (.int (0 : Int32))) :: (r0, ob1 (.ref r1) (.ref r2) (.int (cnt (fb ml pa f1))) (.long (0 : Int64)) (.long hi) (.long lo) .null ws) :: (r1, .inr (.long, List.map Value.long ((z4).set (pb).toNatClampNeg (0 : Int64)))) :: (r2, .inr (.byte, List.map Value.int (fb ml pa f1))) :: (r5, .inr (.int, [(.int pa), (.int pb)])) :: (r6, .inr (.long, [(.long (0 : Int64)), (.long (0 : Int64))])) :: (r7, .inr (.boolean, [(.int f1), (.int f2)])) :: RR)) d12_312 rfl rfl nq.1 nq.2.1 rfl rfl ?_
          intro T A
          rw [nq.2.2.2] at A
          have A : Here p l e ({ frames := 2, cells := 0, slots := 0, locals := 26 } : Room) s m ([(.ref r0), (.ref r4)] : List Value).toArray below meth c Z a0 tables_1 (⟨"com/example/forebound/forebound/problem/Sum", "addListed", "(Lcom/example/forebound/forebound/problem/Problem$Table;)V"⟩ : MethodName).cls (⟨"com/example/forebound/forebound/problem/Sum", "addListed", "(Lcom/example/forebound/forebound/problem/Problem$Table;)V"⟩ : MethodName).name prog_28_method_7_code 21 none n0 T ((r4, ob0 (.ref r5) (.ref r6) (.ref r7) (.long (0 : Int64)) (.int (0 : Int32))) :: (r0, ob1 (.ref r1) (.ref r2) (.int (cnt (fb ml pa f1))) (.long (0 : Int64)) (.long hi) (.long lo) .null ws) :: (r1, .inr (.long, List.map Value.long (z4))) :: (r2, .inr (.byte, List.map Value.int (fb ml pa f1))) :: (r5, .inr (.int, [(.int pa), (.int pb)])) :: (r6, .inr (.long, [(.long (0 : Int64)), (.long (0 : Int64))])) :: (r7, .inr (.boolean, [(.int f1), (.int f2)])) :: RR) 0 0 := A
          refine A.aloadN (q := 314) d12_313 rfl rfl rfl ?_
          refine A.iload (q := 316) d12_314 rfl rfl ?_
          have A := A.front (i := 1) (L' := ((r0, ob1 (.ref r1) (.ref r2) (.int (cnt (fb ml pa f1))) (.long (0 : Int64)) (.long hi) (.long lo) .null ws) :: (r4, ob0 (.ref r5) (.ref r6) (.ref r7) (.long (0 : Int64)) (.int (0 : Int32))) :: (r1, .inr (.long, List.map Value.long (z4))) :: (r2, .inr (.byte, List.map Value.int (fb ml pa f1))) :: (r5, .inr (.int, [(.int pa), (.int pb)])) :: (r6, .inr (.long, [(.long (0 : Int64)), (.long (0 : Int64))])) :: (r7, .inr (.boolean, [(.int f1), (.int f2)])) :: RR)) rfl rfl
          refine A.callP (q := 319) (i := 0) (w1 := 111) (w2 := 113) (w3 := 2) (w4 := 114) (w5 := 1) (w6 := 112) (a := r0) (as := [(.int pb)]) (st := []) (W := 0) d12_316 rfl rfl rfl rfl rfl rfl rfl rfl (rmH l Z a0 hw n0 r0 pb r1 r2 (cnt (fb ml pa f1)) (0 : Int64) hi lo ws _) (by decide) ⟨_, _, pd_1, rfl⟩ rfl rfl rfl (by decide) (by decide) (by decide) (by decide) ?_
          rintro _ T _ ⟨rfl, rfl⟩ A
          show Go p e below _ (T.setTop (mkF m 319 #[.val (.ref r0), .val (.ref r4), .val (.ref r5), .val (.int j10), .val (.int v12), .val (.long (0 : Int64)), .second, .val (.long hi), .second, .val (.long lo), .second, .val (.long (0 : Int64)), .second, .val (.long j22), .second, .val (.long j23), .second, .val (.int (1 : Int32)), .val (.int pb), .val (.long (0 : Int64)), .second] []))
          refine A.lload (q := 321) d12_319 rfl rfl ?_
          refine A.lload (q := 323) d12_321 rfl rfl ?_
          refine A.callS (q := 326) (w1 := 117) (w2 := 118) (w3 := 93) (w4 := 119) (as := [(.long j22), (.long (0 : Int64))]) (st := []) (W := 0) d12_323 rfl rfl rfl rfl rfl (rmmax l Z a0 hw n0 j22 (0 : Int64) _) (by decide) ⟨_, _, pd_7, rfl⟩ rfl rfl rfl (by decide) (by decide) (by decide) (by decide) ?_
          rintro _ T _ ⟨rfl, rfl⟩ A
          show Go p e below _ (T.setTop (mkF m 326 #[.val (.ref r0), .val (.ref r4), .val (.ref r5), .val (.int j10), .val (.int v12), .val (.long (0 : Int64)), .second, .val (.long hi), .second, .val (.long lo), .second, .val (.long (0 : Int64)), .second, .val (.long j22), .second, .val (.long j23), .second, .val (.int (1 : Int32)), .val (.int pb), .val (.long (0 : Int64)), .second] [(.long (Fmax j22 (0 : Int64)))]))
          obtain ⟨v32, e32⟩ : ∃ v : Int64, (Fmax j22 (0 : Int64)) = v := ⟨_, rfl⟩
          rw [e32]
          refine A.lstore (q := 328) (l' := #[.val (.ref r0), .val (.ref r4), .val (.ref r5), .val (.int j10), .val (.int v12), .val (.long (0 : Int64)), .second, .val (.long hi), .second, .val (.long lo), .second, .val (.long (0 : Int64)), .second, .val (.long v32), .second, .val (.long j23), .second, .val (.int (1 : Int32)), .val (.int pb), .val (.long (0 : Int64)), .second]) d12_326 rfl rfl ?_
          refine A.lload (q := 330) d12_328 rfl rfl ?_
          refine A.lload (q := 332) d12_330 rfl rfl ?_
          refine A.callS (q := 335) (w1 := 120) (w2 := 121) (w3 := 93) (w4 := 122) (as := [(.long j23), (.long (0 : Int64))]) (st := []) (W := 0) d12_332 rfl rfl rfl rfl rfl (rmmin l Z a0 hw n0 j23 (0 : Int64) _) (by decide) ⟨_, _, pd_7, rfl⟩ rfl rfl rfl (by decide) (by decide) (by decide) (by decide) ?_
          rintro _ T _ ⟨rfl, rfl⟩ A
          show Go p e below _ (T.setTop (mkF m 335 #[.val (.ref r0), .val (.ref r4), .val (.ref r5), .val (.int j10), .val (.int v12), .val (.long (0 : Int64)), .second, .val (.long hi), .second, .val (.long lo), .second, .val (.long (0 : Int64)), .second, .val (.long v32), .second, .val (.long j23), .second, .val (.int (1 : Int32)), .val (.int pb), .val (.long (0 : Int64)), .second] [(.long (Fmin j23 (0 : Int64)))]))
          obtain ⟨v33, e33⟩ : ∃ v : Int64, (Fmin j23 (0 : Int64)) = v := ⟨_, rfl⟩
          rw [e33]
          refine A.lstore (q := 337) (l' := #[.val (.ref r0), .val (.ref r4), .val (.ref r5), .val (.int j10), .val (.int v12), .val (.long (0 : Int64)), .second, .val (.long hi), .second, .val (.long lo), .second, .val (.long (0 : Int64)), .second, .val (.long v32), .second, .val (.long v33), .second, .val (.int (1 : Int32)), .val (.int pb), .val (.long (0 : Int64)), .second]) d12_335 rfl rfl ?_
          exact J248_39 T _ _ _ _ _ ((fb ml pa f1)) (by first | (simp only [e29, e32, e33, if_pos h30, if_pos h31]; done) | (subst e29 e32 e33; simp only [if_pos h30, if_pos h31])) (by first | (simp only [e29, e32, e33, if_pos h30, if_pos h31]; done) | (subst e29 e32 e33; simp only [if_pos h30, if_pos h31])) (by first | exact Two.u | exact Two.v | assumption) (by first | exact Two.u | exact Two.v | assumption) (by first | (simp only [e29, e32, e33, if_pos h30, if_pos h31]; done) | (subst e29 e32 e33; simp only [if_pos h30, if_pos h31])) (by first | (simp only [e29, e32, e33, if_pos h30, if_pos h31]; done) | (subst e29 e32 e33; simp only [if_pos h30, if_pos h31])) A
        · refine A.aloadN (q := 277) d12_276 rfl rfl rfl ?_
          refine A.iload (q := 279) d12_277 rfl rfl ?_
          have A := A.front (i := 2) rfl rfl
          have A := A.front (i := 2) (L' := ((r0, ob1 (.ref r1) (.ref r2) (.int (cnt (fb ml pa f1))) (.long (0 : Int64)) (.long hi) (.long lo) .null ws) :: (r2, .inr (.byte, List.map Value.int (fb ml pa f1))) :: (r4, ob0 (.ref r5) (.ref r6) (.ref r7) (.long (0 : Int64)) (.int (0 : Int32))) :: (r1, .inr (.long, List.map Value.long (z4))) :: (r5, .inr (.int, [(.int pa), (.int pb)])) :: (r6, .inr (.long, [(.long (0 : Int64)), (.long (0 : Int64))])) :: (r7, .inr (.boolean, [(.int f1), (.int f2)])) :: RR)) rfl rfl
          refine A.callP (q := 282) (i := 0) (w1 := 126) (w2 := 128) (w3 := 2) (w4 := 129) (w5 := 1) (w6 := 127) (a := r0) (as := [(.int pb)]) (st := []) (W := 0) d12_279 rfl rfl rfl rfl rfl rfl rfl rfl (rmO l Z a0 hw n0 r0 pb r1 r2 (cnt (fb ml pa f1)) (0 : Int64) hi lo ws (fb ml pa f1) _ nq.1 (by rw [(show (fb ml pa f1).length = 4 by simp only [List.length_set, own_u1len, own_fblen, own_mkLlen, own_l2Llen, own_uLlen, own_umlen, len_ml])]; exact nq.2.1)) (by decide) ⟨_, _, pd_1, rfl⟩ rfl rfl rfl (by decide) (by decide) (by decide) (by decide) ?_
          rintro _ T _ ⟨rfl, rfl⟩ A
          show Go p e below _ (T.setTop (mkF m 282 #[.val (.ref r0), .val (.ref r4), .val (.ref r5), .val (.int j10), .val (.int v12), .val (.long (0 : Int64)), .second, .val (.long hi), .second, .val (.long lo), .second, .val (.long (0 : Int64)), .second, .val (.long j22), .second, .val (.long j23), .second, .val (.int (1 : Int32)), .val (.int pb), s24, s25] []))
          refine A.goto (r := 337) d12_282 (by decide) ?_
          have A := A.front (i := 6) rfl rfl
          have A := A.front (i := 6) rfl rfl
          have A := A.front (i := 6) rfl rfl
          have A := A.front (i := 4) rfl rfl
          have A := A.front (i := 6) rfl rfl
          have A := A.front (i := 6) rfl rfl
          have A := A.front (i := 6) (L' := ((r0, ob1 (.ref r1) (.ref r2) (.int ((cnt (fb ml pa f1)) - (1 : Int32))) (.long (0 : Int64)) (.long hi) (.long lo) .null ws) :: (r4, ob0 (.ref r5) (.ref r6) (.ref r7) (.long (0 : Int64)) (.int (0 : Int32))) :: (r1, .inr (.long, List.map Value.long (z4))) :: (r2, .inr (.byte, List.map Value.int ((fb ml pa f1).set (pb).toNatClampNeg ((((fb ml pa f1).getD (pb).toNatClampNeg (0 : Int32)) ||| (1 : Int32)).toInt8.toInt32)))) :: (r5, .inr (.int, [(.int pa), (.int pb)])) :: (r6, .inr (.long, [(.long (0 : Int64)), (.long (0 : Int64))])) :: (r7, .inr (.boolean, [(.int f1), (.int f2)])) :: RR)) rfl rfl
          exact J248_39 T _ _ _ _ _ (((fb ml pa f1).set (pb).toNatClampNeg ((((fb ml pa f1).getD (pb).toNatClampNeg (0 : Int32)) ||| (1 : Int32)).toInt8.toInt32))) (by simp only [e29, if_neg h31, if_pos h30]) (by simp only [e29, if_neg h31, if_pos h30]) (by first | exact Two.u | exact Two.v | assumption) (by first | exact Two.u | exact Two.v | assumption) (by simp only [e29, if_neg h31, if_pos h30]) (by simp only [e29, if_neg h31, if_pos h30]) A
      · refine A.goto (r := 337) d12_263 (by decide) ?_
        have A := A.front (i := 6) rfl rfl
        have A := A.front (i := 6) rfl rfl
        have A := A.front (i := 6) rfl rfl
        have A := A.front (i := 4) rfl rfl
        have A := A.front (i := 6) rfl rfl
        have A := A.front (i := 6) rfl rfl
        have A := A.front (i := 6) (L' := ((r0, ob1 (.ref r1) (.ref r2) (.int (cnt (fb ml pa f1))) (.long (0 : Int64)) (.long hi) (.long lo) .null ws) :: (r4, ob0 (.ref r5) (.ref r6) (.ref r7) (.long (0 : Int64)) (.int (0 : Int32))) :: (r1, .inr (.long, List.map Value.long (z4))) :: (r2, .inr (.byte, List.map Value.int (fb ml pa f1))) :: (r5, .inr (.int, [(.int pa), (.int pb)])) :: (r6, .inr (.long, [(.long (0 : Int64)), (.long (0 : Int64))])) :: (r7, .inr (.boolean, [(.int f1), (.int f2)])) :: RR)) rfl rfl
        exact J248_39 T _ _ _ _ _ ((fb ml pa f1)) (by simp only [e29, if_neg h30]) (by simp only [e29, if_neg h30]) (by first | exact Two.u | exact Two.v | assumption) (by first | exact Two.u | exact Two.v | assumption) (by simp only [e29, if_neg h30]) (by simp only [e29, if_neg h30]) A
     refine A.aloadN (q := 249) d12_248 rfl rfl rfl ?_
     refine A.iload (q := 251) d12_249 rfl rfl ?_
     refine A.iaload (q := 252) (i := 1) (v := (.int pa)) d12_251 rfl rfl (by decide) rfl ?_
     refine A.istore (q := 254) (l' := #[.val (.ref r0), .val (.ref r4), .val (.ref r5), .val (.int j10), .val (.int v12), .val (.long (0 : Int64)), .second, .val (.long hi), .second, .val (.long lo), .second, .val (.long (0 : Int64)), .second, .val (.long (-9223372036854775808 : Int64)), .second, .val (.long (9223372036854775807 : Int64)), .second, .val (.int (0 : Int32)), .val (.int pa), .unset, .unset]) d12_252 rfl rfl ?_
     refine A.aloadN (q := 255) d12_254 rfl rfl rfl ?_
     refine A.iload (q := 257) d12_255 rfl rfl ?_
     have A := A.front (i := 5) rfl rfl
     have A := A.front (i := 5) (L' := ((r0, ob1 (.ref r1) (.ref r2) (.int al) (.long (0 : Int64)) (.long hi) (.long lo) .null ws) :: (r2, .inr (.byte, List.map Value.int ml)) :: (r4, ob0 (.ref r5) (.ref r6) (.ref r7) (.long (0 : Int64)) (.int (0 : Int32))) :: (r5, .inr (.int, [(.int pa), (.int pb)])) :: (r6, .inr (.long, [(.long (0 : Int64)), (.long (0 : Int64))])) :: (r7, .inr (.boolean, [(.int f1), (.int f2)])) :: (r1, .inr (.long, List.map Value.long (z4))) :: RR)) rfl rfl
     refine A.callV (q := 260) (i := 0) (w1 := 73) (w2 := 18) (w3 := 2) (w4 := 21) (w5 := 20) (w6 := 19) (a := r0) (as := [(.int pa)]) (st := []) (W := 0) d12_257 rfl rfl rfl rfl rfl rfl rfl rfl (rmF l Z a0 hw n0 r0 pa r1 r2 al (0 : Int64) hi lo .null ws ml _ np.1 (by rw [len_ml]; exact np.2.1)) (by decide) ⟨_, _, pd_2, rfl⟩ rfl rfl rfl (by decide) (by decide) (by decide) (by decide) ?_
     rintro _ T _ ⟨rfl, rfl⟩ A
     show Go p e below _ (T.setTop (mkF m 260 #[.val (.ref r0), .val (.ref r4), .val (.ref r5), .val (.int j10), .val (.int v12), .val (.long (0 : Int64)), .second, .val (.long hi), .second, .val (.long lo), .second, .val (.long (0 : Int64)), .second, .val (.long (-9223372036854775808 : Int64)), .second, .val (.long (9223372036854775807 : Int64)), .second, .val (.int (0 : Int32)), .val (.int pa), .unset, .unset] [(.int (FF pa ml))]))
     obtain ⟨v17, e17⟩ : ∃ v : Int32, (FF pa ml) = v := ⟨_, rfl⟩
     rw [e17]
     refine A.if_eq (q := 263) (r := 266) d12_260 rfl (by decide) (fun h18 => ?_) (fun h18 => ?_)
     · refine A.aloadN (q := 267) d12_266 rfl rfl rfl ?_
       have A := A.front (i := 2) (L' := ((r4, ob0 (.ref r5) (.ref r6) (.ref r7) (.long (0 : Int64)) (.int (0 : Int32))) :: (r0, ob1 (.ref r1) (.ref r2) (.int al) (.long (0 : Int64)) (.long hi) (.long lo) .null ws) :: (r2, .inr (.byte, List.map Value.int ml)) :: (r5, .inr (.int, [(.int pa), (.int pb)])) :: (r6, .inr (.long, [(.long (0 : Int64)), (.long (0 : Int64))])) :: (r7, .inr (.boolean, [(.int f1), (.int f2)])) :: (r1, .inr (.long, List.map Value.long (z4))) :: RR)) rfl rfl
       refine A.callV (q := 270) (i := 0) (w1 := 74) (w2 := 75) (w3 := 39) (w4 := 78) (w5 := 77) (w6 := 76) (a := r4) (as := []) (st := []) (W := 0) d12_267 rfl rfl rfl rfl rfl rfl rfl rfl (rm13 l Z a0 hw n0 r4 r5 r6 r7 (0 : Int64) (0 : Int32) _) (by decide) ⟨_, _, pd_4, rfl⟩ rfl rfl rfl (by decide) (by decide) (by decide) (by decide) ?_
       rintro _ T _ ⟨rfl, rfl⟩ A
       show Go p e below _ (T.setTop (mkF m 270 #[.val (.ref r0), .val (.ref r4), .val (.ref r5), .val (.int j10), .val (.int v12), .val (.long (0 : Int64)), .second, .val (.long hi), .second, .val (.long lo), .second, .val (.long (0 : Int64)), .second, .val (.long (-9223372036854775808 : Int64)), .second, .val (.long (9223372036854775807 : Int64)), .second, .val (.int (0 : Int32)), .val (.int pa), .unset, .unset] [(.ref r7)]))
       refine A.iload (q := 272) d12_270 rfl rfl ?_
       refine A.baloadZ (q := 273) (i := 5) (v := (.int f1)) d12_272 rfl rfl (by decide) rfl ?_
       refine A.if_eq (q := 276) (r := 285) d12_273 rfl (by decide) (fun h19 => ?_) (fun h19 => ?_)
       · refine A.aloadN (q := 286) d12_285 rfl rfl rfl ?_
         refine A.iload (q := 288) d12_286 rfl rfl ?_
         have A := A.front (i := 6) rfl rfl
         have A := A.front (i := 2) (L' := ((r0, ob1 (.ref r1) (.ref r2) (.int al) (.long (0 : Int64)) (.long hi) (.long lo) .null ws) :: (r1, .inr (.long, List.map Value.long (z4))) :: (r4, ob0 (.ref r5) (.ref r6) (.ref r7) (.long (0 : Int64)) (.int (0 : Int32))) :: (r2, .inr (.byte, List.map Value.int ml)) :: (r5, .inr (.int, [(.int pa), (.int pb)])) :: (r6, .inr (.long, [(.long (0 : Int64)), (.long (0 : Int64))])) :: (r7, .inr (.boolean, [(.int f1), (.int f2)])) :: RR)) rfl rfl
         refine A.callV (q := 291) (i := 0) (w1 := 79) (w2 := 80) (w3 := 2) (w4 := 83) (w5 := 82) (w6 := 81) (a := r0) (as := [(.int pa)]) (st := []) (W := 0) d12_288 rfl rfl rfl rfl rfl rfl rfl rfl (rmC l Z a0 hw n0 r0 pa r1 r2 al hi lo .null ws (z4) _ np.1 np.2.2.1) (by decide) ⟨_, _, pd_5, rfl⟩ rfl rfl rfl (by decide) (by decide) (by decide) (by decide) ?_
         rintro _ T _ ⟨rfl, rfl⟩ A
         show Go p e below _ (T.setTop (mkF m 291 #[.val (.ref r0), .val (.ref r4), .val (.ref r5), .val (.int j10), .val (.int v12), .val (.long (0 : Int64)), .second, .val (.long hi), .second, .val (.long lo), .second, .val (.long (0 : Int64)), .second, .val (.long (-9223372036854775808 : Int64)), .second, .val (.long (9223372036854775807 : Int64)), .second, .val (.int (0 : Int32)), .val (.int pa), .unset, .unset] [(.long (0 : Int64))]))
         refine A.aloadN (q := 292) d12_291 rfl rfl rfl ?_
         have A := A.front (i := 2) (L' := ((r4, ob0 (.ref r5) (.ref r6) (.ref r7) (.long (0 : Int64)) (.int (0 : Int32))) :: (r0, ob1 (.ref r1) (.ref r2) (.int al) (.long (0 : Int64)) (.long hi) (.long lo) .null ws) :: (r1, .inr (.long, List.map Value.long (z4))) :: (r2, .inr (.byte, List.map Value.int ml)) :: (r5, .inr (.int, [(.int pa), (.int pb)])) :: (r6, .inr (.long, [(.long (0 : Int64)), (.long (0 : Int64))])) :: (r7, .inr (.boolean, [(.int f1), (.int f2)])) :: RR)) rfl rfl
         refine A.callV (q := 295) (i := 0) (w1 := 86) (w2 := 87) (w3 := 39) (w4 := 90) (w5 := 89) (w6 := 88) (a := r4) (as := []) (st := [(.long (0 : Int64))]) (W := 2) d12_292 rfl rfl rfl rfl rfl rfl rfl rfl (rm15 l Z a0 hw n0 r4 r5 r6 r7 (0 : Int64) (0 : Int32) _) (by decide) ⟨_, _, pd_6, rfl⟩ rfl rfl rfl (by decide) (by decide) (by decide) (by decide) ?_
         rintro _ T _ ⟨rfl, rfl⟩ A
         show Go p e below _ (T.setTop (mkF m 295 #[.val (.ref r0), .val (.ref r4), .val (.ref r5), .val (.int j10), .val (.int v12), .val (.long (0 : Int64)), .second, .val (.long hi), .second, .val (.long lo), .second, .val (.long (0 : Int64)), .second, .val (.long (-9223372036854775808 : Int64)), .second, .val (.long (9223372036854775807 : Int64)), .second, .val (.int (0 : Int32)), .val (.int pa), .unset, .unset] [(.ref r6), (.long (0 : Int64))]))
         refine A.iload (q := 297) d12_295 rfl rfl ?_
         refine A.laload (q := 298) (i := 5) (v := (.long (0 : Int64))) d12_297 rfl rfl (by decide) rfl ?_
         refine A.ladd (q := 299) (v := (0 : Int64)) d12_298 rfl (by decide) ?_
         refine A.lstore (q := 301) (l' := #[.val (.ref r0), .val (.ref r4), .val (.ref r5), .val (.int j10), .val (.int v12), .val (.long (0 : Int64)), .second, .val (.long hi), .second, .val (.long lo), .second, .val (.long (0 : Int64)), .second, .val (.long (-9223372036854775808 : Int64)), .second, .val (.long (9223372036854775807 : Int64)), .second, .val (.int (0 : Int32)), .val (.int pa), .val (.long (0 : Int64)), .second]) d12_299 rfl rfl ?_
         refine A.aloadN (q := 302) d12_301 rfl rfl rfl ?_
         refine A.getF (q := 305) (w := 10) (i := 1) (j := 0) d12_302 rfl rfl rfl rfl ?_
         intro T A
         refine A.iload (q := 307) d12_305 rfl rfl ?_
         refine A.lload (q := 309) d12_307 rfl rfl ?_
         refine A.lload (q := 311) d12_309 rfl rfl ?_
         refine A.lsub (q := 312) (v := (0 : Int64)) d12_311 rfl (by decide) ?_
         refine A.lastoreM (q := 313) (i := 2) (x' := (0 : Int64)) (L' := ((r4, ob0 (.ref r5) (.ref r6) (.ref r7) (.long (0 : Int64)) (.int (0 : Int32))) :: (r0, ob1 (.ref r1) (.ref r2) (.int al) (.long (0 : Int64)) (.long hi) (.long lo) .null ws) :: (r1, .inr (.long, List.map Value.long ((z4).set (pa).toNatClampNeg (0 : Int64)))) :: (r2, .inr (.byte, List.map Value.int ml)) :: (r5, .inr (.int, [(.int pa), (.int pb)])) :: (r6, .inr (.long, [(.long (0 : Int64)), (.long (0 : Int64))])) :: (r7, .inr (.boolean, [(.int f1), (.int f2)])) :: RR)) d12_312 rfl rfl np.1 np.2.1 rfl rfl ?_
         intro T A
         rw [np.2.2.2] at A
         have A : Here p l e ({ frames := 2, cells := 0, slots := 0, locals := 26 } : Room) s m ([(.ref r0), (.ref r4)] : List Value).toArray below meth c Z a0 tables_1 (⟨"com/example/forebound/forebound/problem/Sum", "addListed", "(Lcom/example/forebound/forebound/problem/Problem$Table;)V"⟩ : MethodName).cls (⟨"com/example/forebound/forebound/problem/Sum", "addListed", "(Lcom/example/forebound/forebound/problem/Problem$Table;)V"⟩ : MethodName).name prog_28_method_7_code 21 none n0 T ((r4, ob0 (.ref r5) (.ref r6) (.ref r7) (.long (0 : Int64)) (.int (0 : Int32))) :: (r0, ob1 (.ref r1) (.ref r2) (.int al) (.long (0 : Int64)) (.long hi) (.long lo) .null ws) :: (r1, .inr (.long, List.map Value.long (z4))) :: (r2, .inr (.byte, List.map Value.int ml)) :: (r5, .inr (.int, [(.int pa), (.int pb)])) :: (r6, .inr (.long, [(.long (0 : Int64)), (.long (0 : Int64))])) :: (r7, .inr (.boolean, [(.int f1), (.int f2)])) :: RR) 0 0 := A
         refine A.aloadN (q := 314) d12_313 rfl rfl rfl ?_
         refine A.iload (q := 316) d12_314 rfl rfl ?_
         have A := A.front (i := 1) (L' := ((r0, ob1 (.ref r1) (.ref r2) (.int al) (.long (0 : Int64)) (.long hi) (.long lo) .null ws) :: (r4, ob0 (.ref r5) (.ref r6) (.ref r7) (.long (0 : Int64)) (.int (0 : Int32))) :: (r1, .inr (.long, List.map Value.long (z4))) :: (r2, .inr (.byte, List.map Value.int ml)) :: (r5, .inr (.int, [(.int pa), (.int pb)])) :: (r6, .inr (.long, [(.long (0 : Int64)), (.long (0 : Int64))])) :: (r7, .inr (.boolean, [(.int f1), (.int f2)])) :: RR)) rfl rfl
         refine A.callP (q := 319) (i := 0) (w1 := 111) (w2 := 113) (w3 := 2) (w4 := 114) (w5 := 1) (w6 := 112) (a := r0) (as := [(.int pa)]) (st := []) (W := 0) d12_316 rfl rfl rfl rfl rfl rfl rfl rfl (rmH l Z a0 hw n0 r0 pa r1 r2 al (0 : Int64) hi lo ws _) (by decide) ⟨_, _, pd_1, rfl⟩ rfl rfl rfl (by decide) (by decide) (by decide) (by decide) ?_
         rintro _ T _ ⟨rfl, rfl⟩ A
         show Go p e below _ (T.setTop (mkF m 319 #[.val (.ref r0), .val (.ref r4), .val (.ref r5), .val (.int j10), .val (.int v12), .val (.long (0 : Int64)), .second, .val (.long hi), .second, .val (.long lo), .second, .val (.long (0 : Int64)), .second, .val (.long (-9223372036854775808 : Int64)), .second, .val (.long (9223372036854775807 : Int64)), .second, .val (.int (0 : Int32)), .val (.int pa), .val (.long (0 : Int64)), .second] []))
         refine A.lload (q := 321) d12_319 rfl rfl ?_
         refine A.lload (q := 323) d12_321 rfl rfl ?_
         refine A.callS (q := 326) (w1 := 117) (w2 := 118) (w3 := 93) (w4 := 119) (as := [(.long (-9223372036854775808 : Int64)), (.long (0 : Int64))]) (st := []) (W := 0) d12_323 rfl rfl rfl rfl rfl (rmmax l Z a0 hw n0 (-9223372036854775808 : Int64) (0 : Int64) _) (by decide) ⟨_, _, pd_7, rfl⟩ rfl rfl rfl (by decide) (by decide) (by decide) (by decide) ?_
         rintro _ T _ ⟨rfl, rfl⟩ A
         show Go p e below _ (T.setTop (mkF m 326 #[.val (.ref r0), .val (.ref r4), .val (.ref r5), .val (.int j10), .val (.int v12), .val (.long (0 : Int64)), .second, .val (.long hi), .second, .val (.long lo), .second, .val (.long (0 : Int64)), .second, .val (.long (-9223372036854775808 : Int64)), .second, .val (.long (9223372036854775807 : Int64)), .second, .val (.int (0 : Int32)), .val (.int pa), .val (.long (0 : Int64)), .second] [(.long (Fmax (-9223372036854775808 : Int64) (0 : Int64)))]))
         obtain ⟨v20, e20⟩ : ∃ v : Int64, (Fmax (-9223372036854775808 : Int64) (0 : Int64)) = v := ⟨_, rfl⟩
         rw [e20]
         refine A.lstore (q := 328) (l' := #[.val (.ref r0), .val (.ref r4), .val (.ref r5), .val (.int j10), .val (.int v12), .val (.long (0 : Int64)), .second, .val (.long hi), .second, .val (.long lo), .second, .val (.long (0 : Int64)), .second, .val (.long v20), .second, .val (.long (9223372036854775807 : Int64)), .second, .val (.int (0 : Int32)), .val (.int pa), .val (.long (0 : Int64)), .second]) d12_326 rfl rfl ?_
         refine A.lload (q := 330) d12_328 rfl rfl ?_
         refine A.lload (q := 332) d12_330 rfl rfl ?_
         refine A.callS (q := 335) (w1 := 120) (w2 := 121) (w3 := 93) (w4 := 122) (as := [(.long (9223372036854775807 : Int64)), (.long (0 : Int64))]) (st := []) (W := 0) d12_332 rfl rfl rfl rfl rfl (rmmin l Z a0 hw n0 (9223372036854775807 : Int64) (0 : Int64) _) (by decide) ⟨_, _, pd_7, rfl⟩ rfl rfl rfl (by decide) (by decide) (by decide) (by decide) ?_
         rintro _ T _ ⟨rfl, rfl⟩ A
         show Go p e below _ (T.setTop (mkF m 335 #[.val (.ref r0), .val (.ref r4), .val (.ref r5), .val (.int j10), .val (.int v12), .val (.long (0 : Int64)), .second, .val (.long hi), .second, .val (.long lo), .second, .val (.long (0 : Int64)), .second, .val (.long v20), .second, .val (.long (9223372036854775807 : Int64)), .second, .val (.int (0 : Int32)), .val (.int pa), .val (.long (0 : Int64)), .second] [(.long (Fmin (9223372036854775807 : Int64) (0 : Int64)))]))
         obtain ⟨v21, e21⟩ : ∃ v : Int64, (Fmin (9223372036854775807 : Int64) (0 : Int64)) = v := ⟨_, rfl⟩
         rw [e21]
         refine A.lstore (q := 337) (l' := #[.val (.ref r0), .val (.ref r4), .val (.ref r5), .val (.int j10), .val (.int v12), .val (.long (0 : Int64)), .second, .val (.long hi), .second, .val (.long lo), .second, .val (.long (0 : Int64)), .second, .val (.long v20), .second, .val (.long v21), .second, .val (.int (0 : Int32)), .val (.int pa), .val (.long (0 : Int64)), .second]) d12_335 rfl rfl ?_
         exact J248_27 T _ _ _ _ _ (ml) (by first | (simp only [e17, e20, e21, if_pos h18, if_pos h19]; done) | (subst e17 e20 e21; simp only [if_pos h18, if_pos h19])) (by first | (simp only [e17, e20, e21, if_pos h18, if_pos h19]; done) | (subst e17 e20 e21; simp only [if_pos h18, if_pos h19])) (by first | exact Two.u | exact Two.v | assumption) (by first | exact Two.u | exact Two.v | assumption) (by first | (simp only [e17, e20, e21, if_pos h18, if_pos h19]; done) | (subst e17 e20 e21; simp only [if_pos h18, if_pos h19])) (by first | (simp only [e17, e20, e21, if_pos h18, if_pos h19]; done) | (subst e17 e20 e21; simp only [if_pos h18, if_pos h19])) A
       · refine A.aloadN (q := 277) d12_276 rfl rfl rfl ?_
         refine A.iload (q := 279) d12_277 rfl rfl ?_
         have A := A.front (i := 2) rfl rfl
         have A := A.front (i := 2) (L' := ((r0, ob1 (.ref r1) (.ref r2) (.int al) (.long (0 : Int64)) (.long hi) (.long lo) .null ws) :: (r2, .inr (.byte, List.map Value.int ml)) :: (r4, ob0 (.ref r5) (.ref r6) (.ref r7) (.long (0 : Int64)) (.int (0 : Int32))) :: (r5, .inr (.int, [(.int pa), (.int pb)])) :: (r6, .inr (.long, [(.long (0 : Int64)), (.long (0 : Int64))])) :: (r7, .inr (.boolean, [(.int f1), (.int f2)])) :: (r1, .inr (.long, List.map Value.long (z4))) :: RR)) rfl rfl
         refine A.callP (q := 282) (i := 0) (w1 := 126) (w2 := 128) (w3 := 2) (w4 := 129) (w5 := 1) (w6 := 127) (a := r0) (as := [(.int pa)]) (st := []) (W := 0) d12_279 rfl rfl rfl rfl rfl rfl rfl rfl (rmO l Z a0 hw n0 r0 pa r1 r2 al (0 : Int64) hi lo ws ml _ np.1 (by rw [len_ml]; exact np.2.1)) (by decide) ⟨_, _, pd_1, rfl⟩ rfl rfl rfl (by decide) (by decide) (by decide) (by decide) ?_
         rintro _ T _ ⟨rfl, rfl⟩ A
         show Go p e below _ (T.setTop (mkF m 282 #[.val (.ref r0), .val (.ref r4), .val (.ref r5), .val (.int j10), .val (.int v12), .val (.long (0 : Int64)), .second, .val (.long hi), .second, .val (.long lo), .second, .val (.long (0 : Int64)), .second, .val (.long (-9223372036854775808 : Int64)), .second, .val (.long (9223372036854775807 : Int64)), .second, .val (.int (0 : Int32)), .val (.int pa), .unset, .unset] []))
         refine A.goto (r := 337) d12_282 (by decide) ?_
         have A := A.front (i := 5) rfl rfl
         have A := A.front (i := 5) rfl rfl
         have A := A.front (i := 5) rfl rfl
         have A := A.front (i := 4) rfl rfl
         have A := A.front (i := 6) rfl rfl
         have A := A.front (i := 6) rfl rfl
         have A := A.front (i := 6) (L' := ((r0, ob1 (.ref r1) (.ref r2) (.int (al - (1 : Int32))) (.long (0 : Int64)) (.long hi) (.long lo) .null ws) :: (r4, ob0 (.ref r5) (.ref r6) (.ref r7) (.long (0 : Int64)) (.int (0 : Int32))) :: (r1, .inr (.long, List.map Value.long (z4))) :: (r2, .inr (.byte, List.map Value.int (ml.set (pa).toNatClampNeg (((ml.getD (pa).toNatClampNeg (0 : Int32)) ||| (1 : Int32)).toInt8.toInt32)))) :: (r5, .inr (.int, [(.int pa), (.int pb)])) :: (r6, .inr (.long, [(.long (0 : Int64)), (.long (0 : Int64))])) :: (r7, .inr (.boolean, [(.int f1), (.int f2)])) :: RR)) rfl rfl
         exact J248_27 T _ _ _ _ _ ((ml.set (pa).toNatClampNeg (((ml.getD (pa).toNatClampNeg (0 : Int32)) ||| (1 : Int32)).toInt8.toInt32))) (by simp only [e17, if_neg h19, if_pos h18]) (by simp only [e17, if_neg h19, if_pos h18]) (by first | exact Two.u | exact Two.v | assumption) (by first | exact Two.u | exact Two.v | assumption) (by simp only [e17, if_neg h19, if_pos h18]) (by simp only [e17, if_neg h19, if_pos h18]) A
     · refine A.goto (r := 337) d12_263 (by decide) ?_
       have A := A.front (i := 5) rfl rfl
       have A := A.front (i := 5) rfl rfl
       have A := A.front (i := 5) rfl rfl
       have A := A.front (i := 4) rfl rfl
       have A := A.front (i := 6) rfl rfl
       have A := A.front (i := 6) rfl rfl
       have A := A.front (i := 6) (L' := ((r0, ob1 (.ref r1) (.ref r2) (.int al) (.long (0 : Int64)) (.long hi) (.long lo) .null ws) :: (r4, ob0 (.ref r5) (.ref r6) (.ref r7) (.long (0 : Int64)) (.int (0 : Int32))) :: (r1, .inr (.long, List.map Value.long (z4))) :: (r2, .inr (.byte, List.map Value.int ml)) :: (r5, .inr (.int, [(.int pa), (.int pb)])) :: (r6, .inr (.long, [(.long (0 : Int64)), (.long (0 : Int64))])) :: (r7, .inr (.boolean, [(.int f1), (.int f2)])) :: RR)) rfl rfl
       exact J248_27 T _ _ _ _ _ (ml) (by simp only [e17, if_neg h18]) (by simp only [e17, if_neg h18]) (by first | exact Two.u | exact Two.v | assumption) (by first | exact Two.u | exact Two.v | assumption) (by simp only [e17, if_neg h18]) (by simp only [e17, if_neg h18]) A
    refine A.iload (q := 105) d12_103 rfl rfl ?_
    refine A.if_le (q := 108) (r := 161) d12_105 rfl (by decide) (fun h13 => ?_) (fun h13 => ?_)
    · refine A.iload (q := 163) d12_161 rfl rfl ?_
      refine A.ifT (r := 219) d12_163 (by decide) ((if0 _ _).trans (flt h13).2.2.2) ?_
      exact J103_15 T  A
    · refine A.lload (q := 110) d12_108 rfl rfl ?_
      refine A.lconst (q := 111) (v := (0 : Int64)) d12_110 rfl (by decide) ?_
      refine A.lcmp_le (q := 112) (q2 := 115) (r := 161) d12_111 rfl d12_112 rfl (by decide) (fun _ => ?_) (fun h => ((show ¬ ((0 : Int64) < (0 : Int64)) by decide) h).elim)
      refine A.iload (q := 163) d12_161 rfl rfl ?_
      refine A.ifF (q := 166) d12_163 rfl ((if0 _ _).trans (tlt h13).2.2.2) ?_
      refine A.lload (q := 168) d12_166 rfl rfl ?_
      refine A.lconst (q := 169) (v := (0 : Int64)) d12_168 rfl (by decide) ?_
      refine A.lcmp_ge (q := 170) (q2 := 173) (r := 219) d12_169 rfl d12_170 rfl (by decide) (fun _ => ?_) (fun h => ((show ¬ ((0 : Int64) < (0 : Int64)) by decide) h).elim)
      exact J103_15 T  A
   refine A.aloadN (q := 18) d12_17 rfl rfl rfl ?_
   refine A.aloadN (q := 19) d12_18 rfl rfl rfl ?_
   refine A.iload (q := 21) d12_19 rfl rfl ?_
   refine A.iaload (q := 22) (i := 4) (v := (.int pb)) d12_21 rfl rfl (by decide) rfl ?_
   refine A.callV (q := 25) (i := 0) (w1 := 73) (w2 := 18) (w3 := 2) (w4 := 21) (w5 := 20) (w6 := 19) (a := r0) (as := [(.int pb)]) (st := []) (W := 0) d12_22 rfl rfl rfl rfl rfl rfl rfl rfl (rmF l Z a0 hw n0 r0 pb r1 r2 al (0 : Int64) hi lo .null ws ml _ nq.1 (by rw [len_ml]; exact nq.2.1)) (by decide) ⟨_, _, pd_2, rfl⟩ rfl rfl rfl (by decide) (by decide) (by decide) (by decide) ?_
   rintro _ T _ ⟨rfl, rfl⟩ A
   show Go p e below _ (T.setTop (mkF m 25 #[.val (.ref r0), .val (.ref r4), .val (.ref r5), .val (.int j4), .val (.int (1 : Int32)), .unset, .unset, .unset, .unset, .unset, .unset, .unset, .unset, .unset, .unset, .unset, .unset, .unset, .unset, .unset, .unset] [(.int (FF pb ml))]))
   obtain ⟨v6, e6⟩ : ∃ v : Int32, (FF pb ml) = v := ⟨_, rfl⟩
   rw [e6]
   refine A.if_ne (q := 28) (r := 60) d12_25 rfl (by decide) (fun h7 => ?_) (fun h7 => ?_)
   · exact J17_10 T _ (by simp only [e6, if_neg h7]) A
   · obtain ⟨v8, e8⟩ : ∃ v : Int32, j4 + Int32.ofInt 1 = v := ⟨_, rfl⟩
     refine A.iinc (q := 31) (l' := #[.val (.ref r0), .val (.ref r4), .val (.ref r5), .val (.int v8), .val (.int (1 : Int32)), .unset, .unset, .unset, .unset, .unset, .unset, .unset, .unset, .unset, .unset, .unset, .unset, .unset, .unset, .unset, .unset]) d12_28 rfl rfl e8 rfl ?_
     refine A.aloadN (q := 32) d12_31 rfl rfl rfl ?_
     have A := A.front (i := 2) (L' := ((r4, ob0 (.ref r5) (.ref r6) (.ref r7) (.long (0 : Int64)) (.int (0 : Int32))) :: (r0, ob1 (.ref r1) (.ref r2) (.int al) (.long (0 : Int64)) (.long hi) (.long lo) .null ws) :: (r2, .inr (.byte, List.map Value.int ml)) :: (r1, .inr (.long, List.map Value.long (z4))) :: (r5, .inr (.int, [(.int pa), (.int pb)])) :: (r6, .inr (.long, [(.long (0 : Int64)), (.long (0 : Int64))])) :: (r7, .inr (.boolean, [(.int f1), (.int f2)])) :: RR)) rfl rfl
     refine A.callV (q := 35) (i := 0) (w1 := 74) (w2 := 75) (w3 := 39) (w4 := 78) (w5 := 77) (w6 := 76) (a := r4) (as := []) (st := []) (W := 0) d12_32 rfl rfl rfl rfl rfl rfl rfl rfl (rm13 l Z a0 hw n0 r4 r5 r6 r7 (0 : Int64) (0 : Int32) _) (by decide) ⟨_, _, pd_4, rfl⟩ rfl rfl rfl (by decide) (by decide) (by decide) (by decide) ?_
     rintro _ T _ ⟨rfl, rfl⟩ A
     show Go p e below _ (T.setTop (mkF m 35 #[.val (.ref r0), .val (.ref r4), .val (.ref r5), .val (.int v8), .val (.int (1 : Int32)), .unset, .unset, .unset, .unset, .unset, .unset, .unset, .unset, .unset, .unset, .unset, .unset, .unset, .unset, .unset, .unset] [(.ref r7)]))
     refine A.iload (q := 37) d12_35 rfl rfl ?_
     refine A.baloadZ (q := 38) (i := 6) (v := (.int f2)) d12_37 rfl rfl (by decide) rfl ?_
     refine A.if_ne (q := 41) (r := 60) d12_38 rfl (by decide) (fun h9 => ?_) (fun h9 => ?_)
     · have A := A.front (i := 6) rfl rfl
       have A := A.front (i := 6) rfl rfl
       have A := A.front (i := 6) rfl rfl
       have A := A.front (i := 6) rfl rfl
       have A := A.front (i := 4) rfl rfl
       have A := A.front (i := 6) rfl rfl
       have A := A.front (i := 6) (L' := ((r0, ob1 (.ref r1) (.ref r2) (.int al) (.long (0 : Int64)) (.long hi) (.long lo) .null ws) :: (r2, .inr (.byte, List.map Value.int ml)) :: (r4, ob0 (.ref r5) (.ref r6) (.ref r7) (.long (0 : Int64)) (.int (0 : Int32))) :: (r1, .inr (.long, List.map Value.long (z4))) :: (r5, .inr (.int, [(.int pa), (.int pb)])) :: (r6, .inr (.long, [(.long (0 : Int64)), (.long (0 : Int64))])) :: (r7, .inr (.boolean, [(.int f1), (.int f2)])) :: RR)) rfl rfl
       exact J17_10 T _ (by first | (simp only [e6, e8, if_neg h9, if_pos h7]; done) | (subst e6 e8; simp only [if_neg h9, if_pos h7])) A
     · refine A.aloadN (q := 42) d12_41 rfl rfl rfl ?_
       refine A.aloadN (q := 43) d12_42 rfl rfl rfl ?_
       refine A.iload (q := 45) d12_43 rfl rfl ?_
       refine A.iaload (q := 46) (i := 4) (v := (.int pb)) d12_45 rfl rfl (by decide) rfl ?_
       have A := A.front (i := 3) rfl rfl
       have A := A.front (i := 2) (L' := ((r0, ob1 (.ref r1) (.ref r2) (.int al) (.long (0 : Int64)) (.long hi) (.long lo) .null ws) :: (r1, .inr (.long, List.map Value.long (z4))) :: (r4, ob0 (.ref r5) (.ref r6) (.ref r7) (.long (0 : Int64)) (.int (0 : Int32))) :: (r2, .inr (.byte, List.map Value.int ml)) :: (r5, .inr (.int, [(.int pa), (.int pb)])) :: (r6, .inr (.long, [(.long (0 : Int64)), (.long (0 : Int64))])) :: (r7, .inr (.boolean, [(.int f1), (.int f2)])) :: RR)) rfl rfl
       refine A.callV (q := 49) (i := 0) (w1 := 79) (w2 := 80) (w3 := 2) (w4 := 83) (w5 := 82) (w6 := 81) (a := r0) (as := [(.int pb)]) (st := []) (W := 0) d12_46 rfl rfl rfl rfl rfl rfl rfl rfl (rmC l Z a0 hw n0 r0 pb r1 r2 al hi lo .null ws (z4) _ nq.1 nq.2.2.1) (by decide) ⟨_, _, pd_5, rfl⟩ rfl rfl rfl (by decide) (by decide) (by decide) (by decide) ?_
       rintro _ T _ ⟨rfl, rfl⟩ A
       show Go p e below _ (T.setTop (mkF m 49 #[.val (.ref r0), .val (.ref r4), .val (.ref r5), .val (.int v8), .val (.int (1 : Int32)), .unset, .unset, .unset, .unset, .unset, .unset, .unset, .unset, .unset, .unset, .unset, .unset, .unset, .unset, .unset, .unset] [(.long (0 : Int64))]))
       refine A.aloadN (q := 50) d12_49 rfl rfl rfl ?_
       have A := A.front (i := 2) (L' := ((r4, ob0 (.ref r5) (.ref r6) (.ref r7) (.long (0 : Int64)) (.int (0 : Int32))) :: (r0, ob1 (.ref r1) (.ref r2) (.int al) (.long (0 : Int64)) (.long hi) (.long lo) .null ws) :: (r1, .inr (.long, List.map Value.long (z4))) :: (r2, .inr (.byte, List.map Value.int ml)) :: (r5, .inr (.int, [(.int pa), (.int pb)])) :: (r6, .inr (.long, [(.long (0 : Int64)), (.long (0 : Int64))])) :: (r7, .inr (.boolean, [(.int f1), (.int f2)])) :: RR)) rfl rfl
       refine A.callV (q := 53) (i := 0) (w1 := 86) (w2 := 87) (w3 := 39) (w4 := 90) (w5 := 89) (w6 := 88) (a := r4) (as := []) (st := [(.long (0 : Int64))]) (W := 2) d12_50 rfl rfl rfl rfl rfl rfl rfl rfl (rm15 l Z a0 hw n0 r4 r5 r6 r7 (0 : Int64) (0 : Int32) _) (by decide) ⟨_, _, pd_6, rfl⟩ rfl rfl rfl (by decide) (by decide) (by decide) (by decide) ?_
       rintro _ T _ ⟨rfl, rfl⟩ A
       show Go p e below _ (T.setTop (mkF m 53 #[.val (.ref r0), .val (.ref r4), .val (.ref r5), .val (.int v8), .val (.int (1 : Int32)), .unset, .unset, .unset, .unset, .unset, .unset, .unset, .unset, .unset, .unset, .unset, .unset, .unset, .unset, .unset, .unset] [(.ref r6), (.long (0 : Int64))]))
       refine A.iload (q := 55) d12_53 rfl rfl ?_
       refine A.laload (q := 56) (i := 5) (v := (.long (0 : Int64))) d12_55 rfl rfl (by decide) rfl ?_
       refine A.callS (q := 59) (w1 := 91) (w2 := 92) (w3 := 93) (w4 := 94) (as := [(.long (0 : Int64)), (.long (0 : Int64))]) (st := []) (W := 0) d12_56 rfl rfl rfl rfl rfl (rm16_1 l Z a0 hw n0  _) (by decide) ⟨_, _, pd_7, rfl⟩ rfl rfl rfl (by decide) (by decide) (by decide) (by decide) ?_
       rintro _ T _ ⟨rfl, rfl⟩ A
       show Go p e below _ (T.setTop (mkF m 59 #[.val (.ref r0), .val (.ref r4), .val (.ref r5), .val (.int v8), .val (.int (1 : Int32)), .unset, .unset, .unset, .unset, .unset, .unset, .unset, .unset, .unset, .unset, .unset, .unset, .unset, .unset, .unset, .unset] [(.long (0 : Int64))]))
       refine A.pop2L (q := 60) d12_59 rfl ?_
       have A := A.front (i := 6) rfl rfl
       have A := A.front (i := 6) rfl rfl
       have A := A.front (i := 6) rfl rfl
       have A := A.front (i := 5) rfl rfl
       have A := A.front (i := 4) rfl rfl
       have A := A.front (i := 6) rfl rfl
       have A := A.front (i := 6) (L' := ((r0, ob1 (.ref r1) (.ref r2) (.int al) (.long (0 : Int64)) (.long hi) (.long lo) .null ws) :: (r2, .inr (.byte, List.map Value.int ml)) :: (r4, ob0 (.ref r5) (.ref r6) (.ref r7) (.long (0 : Int64)) (.int (0 : Int32))) :: (r1, .inr (.long, List.map Value.long (z4))) :: (r5, .inr (.int, [(.int pa), (.int pb)])) :: (r6, .inr (.long, [(.long (0 : Int64)), (.long (0 : Int64))])) :: (r7, .inr (.boolean, [(.int f1), (.int f2)])) :: RR)) rfl rfl
       exact J17_10 T _ (by first | (simp only [e6, e8, if_pos h7, if_pos h9]; done) | (subst e6 e8; simp only [if_pos h7, if_pos h9])) A
  refine A.aloadN (q := 18) d12_17 rfl rfl rfl ?_
  refine A.aloadN (q := 19) d12_18 rfl rfl rfl ?_
  refine A.iload (q := 21) d12_19 rfl rfl ?_
  refine A.iaload (q := 22) (i := 4) (v := (.int pa)) d12_21 rfl rfl (by decide) rfl ?_
  have A := A.front (i := 3) rfl rfl
  have A := A.front (i := 2) (L' := ((r0, ob1 (.ref r1) (.ref r2) (.int al) (.long (0 : Int64)) (.long hi) (.long lo) .null ws) :: (r2, .inr (.byte, List.map Value.int ml)) :: (r4, ob0 (.ref r5) (.ref r6) (.ref r7) (.long (0 : Int64)) (.int (0 : Int32))) :: (r1, .inr (.long, List.map Value.long (z4))) :: (r5, .inr (.int, [(.int pa), (.int pb)])) :: (r6, .inr (.long, [(.long (0 : Int64)), (.long (0 : Int64))])) :: (r7, .inr (.boolean, [(.int f1), (.int f2)])) :: RR)) rfl rfl
  refine A.callV (q := 25) (i := 0) (w1 := 73) (w2 := 18) (w3 := 2) (w4 := 21) (w5 := 20) (w6 := 19) (a := r0) (as := [(.int pa)]) (st := []) (W := 0) d12_22 rfl rfl rfl rfl rfl rfl rfl rfl (rmF l Z a0 hw n0 r0 pa r1 r2 al (0 : Int64) hi lo .null ws ml _ np.1 (by rw [len_ml]; exact np.2.1)) (by decide) ⟨_, _, pd_2, rfl⟩ rfl rfl rfl (by decide) (by decide) (by decide) (by decide) ?_
  rintro _ T _ ⟨rfl, rfl⟩ A
  show Go p e below _ (T.setTop (mkF m 25 #[.val (.ref r0), .val (.ref r4), .val (.ref r5), .val (.int (0 : Int32)), .val (.int (0 : Int32)), .unset, .unset, .unset, .unset, .unset, .unset, .unset, .unset, .unset, .unset, .unset, .unset, .unset, .unset, .unset, .unset] [(.int (FF pa ml))]))
  obtain ⟨v1, e1⟩ : ∃ v : Int32, (FF pa ml) = v := ⟨_, rfl⟩
  rw [e1]
  refine A.if_ne (q := 28) (r := 60) d12_25 rfl (by decide) (fun h2 => ?_) (fun h2 => ?_)
  · exact J17_4 T _ (by simp only [e1, if_neg h2]) A
  · refine A.iinc (q := 31) (v := (1 : Int32)) (l' := #[.val (.ref r0), .val (.ref r4), .val (.ref r5), .val (.int (1 : Int32)), .val (.int (0 : Int32)), .unset, .unset, .unset, .unset, .unset, .unset, .unset, .unset, .unset, .unset, .unset, .unset, .unset, .unset, .unset, .unset]) d12_28 rfl rfl (by decide) rfl ?_
    refine A.aloadN (q := 32) d12_31 rfl rfl rfl ?_
    have A := A.front (i := 2) (L' := ((r4, ob0 (.ref r5) (.ref r6) (.ref r7) (.long (0 : Int64)) (.int (0 : Int32))) :: (r0, ob1 (.ref r1) (.ref r2) (.int al) (.long (0 : Int64)) (.long hi) (.long lo) .null ws) :: (r2, .inr (.byte, List.map Value.int ml)) :: (r1, .inr (.long, List.map Value.long (z4))) :: (r5, .inr (.int, [(.int pa), (.int pb)])) :: (r6, .inr (.long, [(.long (0 : Int64)), (.long (0 : Int64))])) :: (r7, .inr (.boolean, [(.int f1), (.int f2)])) :: RR)) rfl rfl
    refine A.callV (q := 35) (i := 0) (w1 := 74) (w2 := 75) (w3 := 39) (w4 := 78) (w5 := 77) (w6 := 76) (a := r4) (as := []) (st := []) (W := 0) d12_32 rfl rfl rfl rfl rfl rfl rfl rfl (rm13 l Z a0 hw n0 r4 r5 r6 r7 (0 : Int64) (0 : Int32) _) (by decide) ⟨_, _, pd_4, rfl⟩ rfl rfl rfl (by decide) (by decide) (by decide) (by decide) ?_
    rintro _ T _ ⟨rfl, rfl⟩ A
    show Go p e below _ (T.setTop (mkF m 35 #[.val (.ref r0), .val (.ref r4), .val (.ref r5), .val (.int (1 : Int32)), .val (.int (0 : Int32)), .unset, .unset, .unset, .unset, .unset, .unset, .unset, .unset, .unset, .unset, .unset, .unset, .unset, .unset, .unset, .unset] [(.ref r7)]))
    refine A.iload (q := 37) d12_35 rfl rfl ?_
    refine A.baloadZ (q := 38) (i := 6) (v := (.int f1)) d12_37 rfl rfl (by decide) rfl ?_
    refine A.if_ne (q := 41) (r := 60) d12_38 rfl (by decide) (fun h3 => ?_) (fun h3 => ?_)
    · have A := A.front (i := 6) rfl rfl
      have A := A.front (i := 6) rfl rfl
      have A := A.front (i := 6) rfl rfl
      have A := A.front (i := 6) rfl rfl
      have A := A.front (i := 4) rfl rfl
      have A := A.front (i := 6) rfl rfl
      have A := A.front (i := 6) (L' := ((r0, ob1 (.ref r1) (.ref r2) (.int al) (.long (0 : Int64)) (.long hi) (.long lo) .null ws) :: (r2, .inr (.byte, List.map Value.int ml)) :: (r4, ob0 (.ref r5) (.ref r6) (.ref r7) (.long (0 : Int64)) (.int (0 : Int32))) :: (r1, .inr (.long, List.map Value.long (z4))) :: (r5, .inr (.int, [(.int pa), (.int pb)])) :: (r6, .inr (.long, [(.long (0 : Int64)), (.long (0 : Int64))])) :: (r7, .inr (.boolean, [(.int f1), (.int f2)])) :: RR)) rfl rfl
      exact J17_4 T _ (by simp only [e1, if_neg h3, if_pos h2]) A
    · refine A.aloadN (q := 42) d12_41 rfl rfl rfl ?_
      refine A.aloadN (q := 43) d12_42 rfl rfl rfl ?_
      refine A.iload (q := 45) d12_43 rfl rfl ?_
      refine A.iaload (q := 46) (i := 4) (v := (.int pa)) d12_45 rfl rfl (by decide) rfl ?_
      have A := A.front (i := 3) rfl rfl
      have A := A.front (i := 2) (L' := ((r0, ob1 (.ref r1) (.ref r2) (.int al) (.long (0 : Int64)) (.long hi) (.long lo) .null ws) :: (r1, .inr (.long, List.map Value.long (z4))) :: (r4, ob0 (.ref r5) (.ref r6) (.ref r7) (.long (0 : Int64)) (.int (0 : Int32))) :: (r2, .inr (.byte, List.map Value.int ml)) :: (r5, .inr (.int, [(.int pa), (.int pb)])) :: (r6, .inr (.long, [(.long (0 : Int64)), (.long (0 : Int64))])) :: (r7, .inr (.boolean, [(.int f1), (.int f2)])) :: RR)) rfl rfl
      refine A.callV (q := 49) (i := 0) (w1 := 79) (w2 := 80) (w3 := 2) (w4 := 83) (w5 := 82) (w6 := 81) (a := r0) (as := [(.int pa)]) (st := []) (W := 0) d12_46 rfl rfl rfl rfl rfl rfl rfl rfl (rmC l Z a0 hw n0 r0 pa r1 r2 al hi lo .null ws (z4) _ np.1 np.2.2.1) (by decide) ⟨_, _, pd_5, rfl⟩ rfl rfl rfl (by decide) (by decide) (by decide) (by decide) ?_
      rintro _ T _ ⟨rfl, rfl⟩ A
      show Go p e below _ (T.setTop (mkF m 49 #[.val (.ref r0), .val (.ref r4), .val (.ref r5), .val (.int (1 : Int32)), .val (.int (0 : Int32)), .unset, .unset, .unset, .unset, .unset, .unset, .unset, .unset, .unset, .unset, .unset, .unset, .unset, .unset, .unset, .unset] [(.long (0 : Int64))]))
      refine A.aloadN (q := 50) d12_49 rfl rfl rfl ?_
      have A := A.front (i := 2) (L' := ((r4, ob0 (.ref r5) (.ref r6) (.ref r7) (.long (0 : Int64)) (.int (0 : Int32))) :: (r0, ob1 (.ref r1) (.ref r2) (.int al) (.long (0 : Int64)) (.long hi) (.long lo) .null ws) :: (r1, .inr (.long, List.map Value.long (z4))) :: (r2, .inr (.byte, List.map Value.int ml)) :: (r5, .inr (.int, [(.int pa), (.int pb)])) :: (r6, .inr (.long, [(.long (0 : Int64)), (.long (0 : Int64))])) :: (r7, .inr (.boolean, [(.int f1), (.int f2)])) :: RR)) rfl rfl
      refine A.callV (q := 53) (i := 0) (w1 := 86) (w2 := 87) (w3 := 39) (w4 := 90) (w5 := 89) (w6 := 88) (a := r4) (as := []) (st := [(.long (0 : Int64))]) (W := 2) d12_50 rfl rfl rfl rfl rfl rfl rfl rfl (rm15 l Z a0 hw n0 r4 r5 r6 r7 (0 : Int64) (0 : Int32) _) (by decide) ⟨_, _, pd_6, rfl⟩ rfl rfl rfl (by decide) (by decide) (by decide) (by decide) ?_
      rintro _ T _ ⟨rfl, rfl⟩ A
      show Go p e below _ (T.setTop (mkF m 53 #[.val (.ref r0), .val (.ref r4), .val (.ref r5), .val (.int (1 : Int32)), .val (.int (0 : Int32)), .unset, .unset, .unset, .unset, .unset, .unset, .unset, .unset, .unset, .unset, .unset, .unset, .unset, .unset, .unset, .unset] [(.ref r6), (.long (0 : Int64))]))
      refine A.iload (q := 55) d12_53 rfl rfl ?_
      refine A.laload (q := 56) (i := 5) (v := (.long (0 : Int64))) d12_55 rfl rfl (by decide) rfl ?_
      refine A.callS (q := 59) (w1 := 91) (w2 := 92) (w3 := 93) (w4 := 94) (as := [(.long (0 : Int64)), (.long (0 : Int64))]) (st := []) (W := 0) d12_56 rfl rfl rfl rfl rfl (rm16_1 l Z a0 hw n0  _) (by decide) ⟨_, _, pd_7, rfl⟩ rfl rfl rfl (by decide) (by decide) (by decide) (by decide) ?_
      rintro _ T _ ⟨rfl, rfl⟩ A
      show Go p e below _ (T.setTop (mkF m 59 #[.val (.ref r0), .val (.ref r4), .val (.ref r5), .val (.int (1 : Int32)), .val (.int (0 : Int32)), .unset, .unset, .unset, .unset, .unset, .unset, .unset, .unset, .unset, .unset, .unset, .unset, .unset, .unset, .unset, .unset] [(.long (0 : Int64))]))
      refine A.pop2L (q := 60) d12_59 rfl ?_
      have A := A.front (i := 6) rfl rfl
      have A := A.front (i := 6) rfl rfl
      have A := A.front (i := 6) rfl rfl
      have A := A.front (i := 5) rfl rfl
      have A := A.front (i := 4) rfl rfl
      have A := A.front (i := 6) rfl rfl
      have A := A.front (i := 6) (L' := ((r0, ob1 (.ref r1) (.ref r2) (.int al) (.long (0 : Int64)) (.long hi) (.long lo) .null ws) :: (r2, .inr (.byte, List.map Value.int ml)) :: (r4, ob0 (.ref r5) (.ref r6) (.ref r7) (.long (0 : Int64)) (.int (0 : Int32))) :: (r1, .inr (.long, List.map Value.long (z4))) :: (r5, .inr (.int, [(.int pa), (.int pb)])) :: (r6, .inr (.long, [(.long (0 : Int64)), (.long (0 : Int64))])) :: (r7, .inr (.boolean, [(.int f1), (.int f2)])) :: RR)) rfl rfl
      exact J17_4 T _ (by simp only [e1, if_pos h2, if_pos h3]) A
set_option maxRecDepth 65536 in
set_option maxHeartbeats 8000000 in
theorem rm17_2 (l : Launch) (Z : State) (a0 : Array Value) (hw : ∀ d ∈ tables_1, d.before a0 Z = true) (n0 : Nat) (r0 : Addr) (r1 : Addr) (r2 : Addr) (r3 : Addr) (p4 : Int32) (p5 : Int32) (p6 : Int32) (p7 : Int32) (RR : Obs) :
    Triple l Z n0 (⟨"com/example/forebound/forebound/problem/Problem$Table", "defaultForbidden", "()Z"⟩ : MethodName) prog_27_method_11_code 1 (some .boolean) ({ frames := 0, cells := 0, slots := 0, locals := 0 } : Room) 0 0 [(.ref r0)] ((r0, ob0 (.ref r1) (.ref r2) (.ref r3) (.long (0 : Int64)) (.int (1 : Int32))) :: (r1, .inr (.int, [(.int p4), (.int p5)])) :: (r2, .inr (.long, [(.long (0 : Int64)), (.long (0 : Int64))])) :: (r3, .inr (.boolean, [(.int p6), (.int p7)])) :: RR) (fun v L' => v = some (.int (1 : Int32)) ∧ L' = ((r0, ob0 (.ref r1) (.ref r2) (.ref r3) (.long (0 : Int64)) (.int (1 : Int32))) :: (r1, .inr (.int, [(.int p4), (.int p5)])) :: (r2, .inr (.long, [(.long (0 : Int64)), (.long (0 : Int64))])) :: (r3, .inr (.boolean, [(.int p6), (.int p7)])) :: RR)) := by
  refine Triple.of_body (tbl := tables_1) (a0 := a0) (Ls := #[.val (.ref r0)]) pn_17 hw rfl ?_
  intro p e s m below meth c T A
  refine A.aloadN (q := 1) d17_0 rfl rfl rfl ?_
  refine A.getF (q := 4) (w := 57) (i := 0) (j := 4) d17_1 rfl rfl rfl rfl ?_
  intro T A
  exact A.retZ (v := (1 : Int32)) d17_4 (by decide) (by decide) (by decide) ⟨rfl, rfl⟩
theorem own_g73 (sg : Fin 28) (pg : Fin 12) (f1 f2 : Int32) (hf1 : f1 = 0 ∨ f1 = 1) (hf2 : f2 = 0 ∨ f2 = 1) (hS : sg.val < 11) (ml : List Int32) (hml : mkO sg pg = ml) (pa : Int32) (hpa : pA pg = pa) (pb : Int32) (hpb : pB pg = pb) (al : Int32) (hal : cnt (flO sg) = al) (j27 : List Int32) (ej27 : j27 = (if ((FF pa ml)) = (0 : Int32) then (if f1 = (0 : Int32) then ml else (ml.set (pa).toNatClampNeg (((ml.getD (pa).toNatClampNeg (0 : Int32)) ||| (1 : Int32)).toInt8.toInt32))) else ml)) : j27 = (fb ml pa f1) := by
  subst hml hpa hpb hal ej27; exact own_f32 sg pg f1 f2 hf1 hf2 trivial 
theorem own_g74 (sg : Fin 28) (pg : Fin 12) (f1 f2 : Int32) (hf1 : f1 = 0 ∨ f1 = 1) (hf2 : f2 = 0 ∨ f2 = 1) (hS : sg.val < 11) (ml : List Int32) (hml : mkO sg pg = ml) (pa : Int32) (hpa : pA pg = pa) (pb : Int32) (hpb : pB pg = pb) (al : Int32) (hal : cnt (flO sg) = al) (j26 : Int32) (ej26 : j26 = (if ((FF pa ml)) = (0 : Int32) then (if f1 = (0 : Int32) then al else (al - (1 : Int32))) else al)) : j26 = (cnt (fb ml pa f1)) := by
  subst hml hpa hpb hal ej26; exact own_f33 sg pg f1 f2 hf1 hf2 trivial 
theorem own_g75 (sg : Fin 28) (pg : Fin 12) (f1 f2 : Int32) (hf1 : f1 = 0 ∨ f1 = 1) (hf2 : f2 = 0 ∨ f2 = 1) (hS : sg.val < 11) (ml : List Int32) (hml : mkO sg pg = ml) (pa : Int32) (hpa : pA pg = pa) (pb : Int32) (hpb : pB pg = pb) (al : Int32) (hal : cnt (flO sg) = al) (j39 : List Int32) (ej39 : j39 = (if ((FF pb (fb ml pa f1))) = (0 : Int32) then (if f2 = (0 : Int32) then (fb ml pa f1) else ((fb ml pa f1).set (pb).toNatClampNeg ((((fb ml pa f1).getD (pb).toNatClampNeg (0 : Int32)) ||| (1 : Int32)).toInt8.toInt32))) else (fb ml pa f1))) : j39 = (l2L ml pa pb f1 f2) := by
  subst hml hpa hpb hal ej39; exact own_f34 sg pg f1 f2 hf1 hf2 trivial 
theorem own_g76 (sg : Fin 28) (pg : Fin 12) (f1 f2 : Int32) (hf1 : f1 = 0 ∨ f1 = 1) (hf2 : f2 = 0 ∨ f2 = 1) (hS : sg.val < 11) (ml : List Int32) (hml : mkO sg pg = ml) (pa : Int32) (hpa : pA pg = pa) (pb : Int32) (hpb : pB pg = pb) (al : Int32) (hal : cnt (flO sg) = al) (j38 : Int32) (ej38 : j38 = (if ((FF pb (fb ml pa f1))) = (0 : Int32) then (if f2 = (0 : Int32) then (cnt (fb ml pa f1)) else ((cnt (fb ml pa f1)) - (1 : Int32))) else (cnt (fb ml pa f1)))) : j38 = (cnt (l2L ml pa pb f1 f2)) := by
  subst hml hpa hpb hal ej38; exact own_f35 sg pg f1 f2 hf1 hf2 trivial 
theorem pd_10 : parseMethodDescriptor "([I)V" = some ⟨[(.array .int)], none⟩ := by decide +kernel
theorem own_g77 (sg : Fin 28) (pg : Fin 12) (f1 f2 : Int32) (hf1 : f1 = 0 ∨ f1 = 1) (hf2 : f2 = 0 ∨ f2 = 1) (hS : sg.val < 11) (ml : List Int32) (hml : mkO sg pg = ml) (pa : Int32) (hpa : pA pg = pa) (pb : Int32) (hpb : pB pg = pb) (al : Int32) (hal : cnt (flO sg) = al) (j27 : List Int32) (ej27 : j27 = (if ((FF pa ml)) = (0 : Int32) then (if f1 = (0 : Int32) then ml else (ml.set (pa).toNatClampNeg (((ml.getD (pa).toNatClampNeg (0 : Int32)) ||| (1 : Int32)).toInt8.toInt32))) else ml)) : j27 = (fb ml pa f1) := by
  subst hml hpa hpb hal ej27; exact own_f32 sg pg f1 f2 hf1 hf2 trivial 
theorem own_g78 (sg : Fin 28) (pg : Fin 12) (f1 f2 : Int32) (hf1 : f1 = 0 ∨ f1 = 1) (hf2 : f2 = 0 ∨ f2 = 1) (hS : sg.val < 11) (ml : List Int32) (hml : mkO sg pg = ml) (pa : Int32) (hpa : pA pg = pa) (pb : Int32) (hpb : pB pg = pb) (al : Int32) (hal : cnt (flO sg) = al) (j26 : Int32) (ej26 : j26 = (if ((FF pa ml)) = (0 : Int32) then (if f1 = (0 : Int32) then al else (al - (1 : Int32))) else al)) : j26 = (cnt (fb ml pa f1)) := by
  subst hml hpa hpb hal ej26; exact own_f33 sg pg f1 f2 hf1 hf2 trivial 
theorem own_g79 (sg : Fin 28) (pg : Fin 12) (f1 f2 : Int32) (hf1 : f1 = 0 ∨ f1 = 1) (hf2 : f2 = 0 ∨ f2 = 1) (hS : sg.val < 11) (ml : List Int32) (hml : mkO sg pg = ml) (pa : Int32) (hpa : pA pg = pa) (pb : Int32) (hpb : pB pg = pb) (al : Int32) (hal : cnt (flO sg) = al) (j39 : List Int32) (ej39 : j39 = (if ((FF pb (fb ml pa f1))) = (0 : Int32) then (if f2 = (0 : Int32) then (fb ml pa f1) else ((fb ml pa f1).set (pb).toNatClampNeg ((((fb ml pa f1).getD (pb).toNatClampNeg (0 : Int32)) ||| (1 : Int32)).toInt8.toInt32))) else (fb ml pa f1))) : j39 = (l2L ml pa pb f1 f2) := by
  subst hml hpa hpb hal ej39; exact own_f34 sg pg f1 f2 hf1 hf2 trivial 
theorem own_g80 (sg : Fin 28) (pg : Fin 12) (f1 f2 : Int32) (hf1 : f1 = 0 ∨ f1 = 1) (hf2 : f2 = 0 ∨ f2 = 1) (hS : sg.val < 11) (ml : List Int32) (hml : mkO sg pg = ml) (pa : Int32) (hpa : pA pg = pa) (pb : Int32) (hpb : pB pg = pb) (al : Int32) (hal : cnt (flO sg) = al) (j38 : Int32) (ej38 : j38 = (if ((FF pb (fb ml pa f1))) = (0 : Int32) then (if f2 = (0 : Int32) then (cnt (fb ml pa f1)) else ((cnt (fb ml pa f1)) - (1 : Int32))) else (cnt (fb ml pa f1)))) : j38 = (cnt (l2L ml pa pb f1 f2)) := by
  subst hml hpa hpb hal ej38; exact own_f35 sg pg f1 f2 hf1 hf2 trivial 
set_option maxRecDepth 65536 in
set_option maxHeartbeats 8000000 in
theorem rmKN1 (l : Launch) (Z : State) (a0 : Array Value) (hw : ∀ d ∈ tables_1, d.before a0 Z = true) (n0 : Nat) (r0 : Addr) (r4 : Addr) (r1 : Addr) (r2 : Addr) (al : Int32) (hi : Int64) (lo : Int64) (ml : List Int32) (r5 : Addr) (r6 : Addr) (r7 : Addr) (pa : Int32) (pb : Int32) (f1 : Int32) (f2 : Int32) (sg : Fin 28) (pg : Fin 12) (RR : Obs) (hml : mkO sg pg = ml) (hpa : pA pg = pa) (hpb : pB pg = pb) (hal : cnt (flO sg) = al) (hf1 : f1 = 0 ∨ f1 = 1) (hf2 : f2 = 0 ∨ f2 = 1) (hS : sg.val < 11) :
    Triple l Z n0 (⟨"com/example/forebound/forebound/problem/Sum", "addListed", "(Lcom/example/forebound/forebound/problem/Problem$Table;)V"⟩ : MethodName) prog_28_method_7_code 21 none ({ frames := 2, cells := 1, slots := 2, locals := 31 } : Room) 1 2 [(.ref r0), (.ref r4)] ((r0, ob1 (.ref r1) (.ref r2) (.int al) (.long (0 : Int64)) (.long hi) (.long lo) .null .null) :: (r1, .inr (.long, List.map Value.long (z4))) :: (r2, .inr (.byte, List.map Value.int ml)) :: (r4, ob0 (.ref r5) (.ref r6) (.ref r7) (.long (0 : Int64)) (.int (1 : Int32))) :: (r5, .inr (.int, [(.int pa), (.int pb)])) :: (r6, .inr (.long, [(.long (0 : Int64)), (.long (0 : Int64))])) :: (r7, .inr (.boolean, [(.int f1), (.int f2)])) :: RR) (fun v L' => ∃ b41 : Addr, ∃ ex0 ex1 : Int64, v = none ∧ L' = ((r4, ob0 (.ref r5) (.ref r6) (.ref r7) (.long (0 : Int64)) (.int (1 : Int32))) :: (r5, .inr (.int, [(.int pa), (.int pb)])) :: (r6, .inr (.long, [(.long (0 : Int64)), (.long (0 : Int64))])) :: (r7, .inr (.boolean, [(.int f1), (.int f2)])) :: (r0, ob1 (.ref r1) (.ref r2) (.int (cnt (uL (l2L ml pa pb f1 f2)))) (.long (0 : Int64)) (.long ex0) (.long ex1) .null (.ref b41)) :: (r2, .inr (.byte, List.map Value.int (uL (l2L ml pa pb f1 f2)))) :: (b41, .inr (.int, List.map Value.int (svL (uL (l2L ml pa pb f1 f2)) pa pb))) :: (r1, .inr (.long, List.map Value.long (z4))) :: RR)) := by
  refine Triple.of_body (tbl := tables_1) (a0 := a0) (Ls := #[.val (.ref r0), .val (.ref r4), .unset, .unset, .unset, .unset, .unset, .unset, .unset, .unset, .unset, .unset, .unset, .unset, .unset, .unset, .unset, .unset, .unset, .unset, .unset]) pn_12 hw rfl ?_
  intro p e s m below meth c T A
  have np : ¬ pa < 0 ∧ pa.toNatClampNeg < 4 ∧ z4[pa.toNatClampNeg]? = some 0 ∧ z4.set pa.toNatClampNeg 0 = z4 := by rw [← hpa]; exact ⟨(own_pp pg).1, (own_pp pg).2.2.1, (own_pp pg).2.2.2.2.1, (own_pp pg).2.2.2.2.2.2.1⟩
  have nq : ¬ pb < 0 ∧ pb.toNatClampNeg < 4 ∧ z4[pb.toNatClampNeg]? = some 0 ∧ z4.set pb.toNatClampNeg 0 = z4 := by rw [← hpb]; exact ⟨(own_pp pg).2.1, (own_pp pg).2.2.2.1, (own_pp pg).2.2.2.2.2.1, (own_pp pg).2.2.2.2.2.2.2⟩
  have len_ml : ml.length = 4 := by rw [← hml]; exact own_mlen sg pg
  refine A.aloadN (q := 1) d12_0 rfl rfl rfl ?_
  have A := A.front (i := 3) (L' := ((r4, ob0 (.ref r5) (.ref r6) (.ref r7) (.long (0 : Int64)) (.int (1 : Int32))) :: (r0, ob1 (.ref r1) (.ref r2) (.int al) (.long (0 : Int64)) (.long hi) (.long lo) .null .null) :: (r1, .inr (.long, List.map Value.long (z4))) :: (r2, .inr (.byte, List.map Value.int ml)) :: (r5, .inr (.int, [(.int pa), (.int pb)])) :: (r6, .inr (.long, [(.long (0 : Int64)), (.long (0 : Int64))])) :: (r7, .inr (.boolean, [(.int f1), (.int f2)])) :: RR)) rfl rfl
  refine A.callV (q := 4) (i := 0) (w1 := 64) (w2 := 65) (w3 := 39) (w4 := 68) (w5 := 67) (w6 := 66) (a := r4) (as := []) (st := []) (W := 0) d12_1 rfl rfl rfl rfl rfl rfl rfl rfl (rm11 l Z a0 hw n0 r4 r5 r6 r7 (0 : Int64) (1 : Int32) _) (by decide) ⟨_, _, pd_3, rfl⟩ rfl rfl rfl (by decide) (by decide) (by decide) (by decide) ?_
  rintro _ T _ ⟨rfl, rfl⟩ A
  show Go p e below _ (T.setTop (mkF m 4 #[.val (.ref r0), .val (.ref r4), .unset, .unset, .unset, .unset, .unset, .unset, .unset, .unset, .unset, .unset, .unset, .unset, .unset, .unset, .unset, .unset, .unset, .unset, .unset] [(.ref r5)]))
  refine A.astoreN (q := 5) (l' := #[.val (.ref r0), .val (.ref r4), .val (.ref r5), .unset, .unset, .unset, .unset, .unset, .unset, .unset, .unset, .unset, .unset, .unset, .unset, .unset, .unset, .unset, .unset, .unset, .unset]) d12_4 rfl rfl rfl ?_
  refine A.iconst (q := 6) (v := (0 : Int32)) d12_5 rfl (by decide) ?_
  refine A.istoreN (q := 7) (l' := #[.val (.ref r0), .val (.ref r4), .val (.ref r5), .val (.int (0 : Int32)), .unset, .unset, .unset, .unset, .unset, .unset, .unset, .unset, .unset, .unset, .unset, .unset, .unset, .unset, .unset, .unset, .unset]) d12_6 rfl rfl ?_
  refine A.iconst (q := 8) (v := (0 : Int32)) d12_7 rfl (by decide) ?_
  refine A.istore (q := 10) (l' := #[.val (.ref r0), .val (.ref r4), .val (.ref r5), .val (.int (0 : Int32)), .val (.int (0 : Int32)), .unset, .unset, .unset, .unset, .unset, .unset, .unset, .unset, .unset, .unset, .unset, .unset, .unset, .unset, .unset, .unset]) d12_8 rfl rfl ?_
  refine A.iload (q := 12) d12_10 rfl rfl ?_
  refine A.aloadN (q := 13) d12_12 rfl rfl rfl ?_
  refine A.arraylength (q := 14) (i := 4) (v := (2 : Int32)) d12_13 rfl rfl (by show Nat.toInt32 2 = 2; decide) ?_
  refine A.icmpF (q := 17) d12_14 rfl (by decide) ?_
  have J17_4 : ∀ (T : State) (j4 : Int32), j4 = (if ((FF pa ml)) = (0 : Int32) then (1 : Int32) else (0 : Int32)) → Here p l e ({ frames := 2, cells := 1, slots := 2, locals := 31 } : Room) s m ([(.ref r0), (.ref r4)] : List Value).toArray below meth c Z a0 tables_1 (⟨"com/example/forebound/forebound/problem/Sum", "addListed", "(Lcom/example/forebound/forebound/problem/Problem$Table;)V"⟩ : MethodName).cls (⟨"com/example/forebound/forebound/problem/Sum", "addListed", "(Lcom/example/forebound/forebound/problem/Problem$Table;)V"⟩ : MethodName).name prog_28_method_7_code 21 none n0 T ((r0, ob1 (.ref r1) (.ref r2) (.int al) (.long (0 : Int64)) (.long hi) (.long lo) .null .null) :: (r2, .inr (.byte, List.map Value.int ml)) :: (r4, ob0 (.ref r5) (.ref r6) (.ref r7) (.long (0 : Int64)) (.int (1 : Int32))) :: (r1, .inr (.long, List.map Value.long (z4))) :: (r5, .inr (.int, [(.int pa), (.int pb)])) :: (r6, .inr (.long, [(.long (0 : Int64)), (.long (0 : Int64))])) :: (r7, .inr (.boolean, [(.int f1), (.int f2)])) :: RR) 0 0 → Go p e below (EndS below s n0 Z 1 2 (fun v L' => ∃ b41 : Addr, ∃ ex0 ex1 : Int64, v = none ∧ L' = ((r4, ob0 (.ref r5) (.ref r6) (.ref r7) (.long (0 : Int64)) (.int (1 : Int32))) :: (r5, .inr (.int, [(.int pa), (.int pb)])) :: (r6, .inr (.long, [(.long (0 : Int64)), (.long (0 : Int64))])) :: (r7, .inr (.boolean, [(.int f1), (.int f2)])) :: (r0, ob1 (.ref r1) (.ref r2) (.int (cnt (uL (l2L ml pa pb f1 f2)))) (.long (0 : Int64)) (.long ex0) (.long ex1) .null (.ref b41)) :: (r2, .inr (.byte, List.map Value.int (uL (l2L ml pa pb f1 f2)))) :: (b41, .inr (.int, List.map Value.int (svL (uL (l2L ml pa pb f1 f2)) pa pb))) :: (r1, .inr (.long, List.map Value.long (z4))) :: RR))) (T.setTop (mkF m 60 #[.val (.ref r0), .val (.ref r4), .val (.ref r5), .val (.int j4), .val (.int (0 : Int32)), .unset, .unset, .unset, .unset, .unset, .unset, .unset, .unset, .unset, .unset, .unset, .unset, .unset, .unset, .unset, .unset] [])) := by
   intro T j4 ej4 A
   have z_j4 : nar .boolean j4 = j4 := by rw [ej4]; (repeat' split) <;> first | decide | assumption
   refine A.iinc (q := 63) (v := (1 : Int32)) (l' := #[.val (.ref r0), .val (.ref r4), .val (.ref r5), .val (.int j4), .val (.int (1 : Int32)), .unset, .unset, .unset, .unset, .unset, .unset, .unset, .unset, .unset, .unset, .unset, .unset, .unset, .unset, .unset, .unset]) d12_60 rfl rfl (by decide) rfl ?_
   refine A.goto (r := 10) d12_63 (by decide) ?_
   refine A.iload (q := 12) d12_10 rfl rfl ?_
   refine A.aloadN (q := 13) d12_12 rfl rfl rfl ?_
   refine A.arraylength (q := 14) (i := 4) (v := (2 : Int32)) d12_13 rfl rfl (by show Nat.toInt32 2 = 2; decide) ?_
   refine A.icmpF (q := 17) d12_14 rfl (by decide) ?_
   have J17_10 : ∀ (T : State) (j10 : Int32), j10 = (if ((FF pb ml)) = (0 : Int32) then (j4 + Int32.ofInt 1) else j4) → Here p l e ({ frames := 2, cells := 1, slots := 2, locals := 31 } : Room) s m ([(.ref r0), (.ref r4)] : List Value).toArray below meth c Z a0 tables_1 (⟨"com/example/forebound/forebound/problem/Sum", "addListed", "(Lcom/example/forebound/forebound/problem/Problem$Table;)V"⟩ : MethodName).cls (⟨"com/example/forebound/forebound/problem/Sum", "addListed", "(Lcom/example/forebound/forebound/problem/Problem$Table;)V"⟩ : MethodName).name prog_28_method_7_code 21 none n0 T ((r0, ob1 (.ref r1) (.ref r2) (.int al) (.long (0 : Int64)) (.long hi) (.long lo) .null .null) :: (r2, .inr (.byte, List.map Value.int ml)) :: (r4, ob0 (.ref r5) (.ref r6) (.ref r7) (.long (0 : Int64)) (.int (1 : Int32))) :: (r1, .inr (.long, List.map Value.long (z4))) :: (r5, .inr (.int, [(.int pa), (.int pb)])) :: (r6, .inr (.long, [(.long (0 : Int64)), (.long (0 : Int64))])) :: (r7, .inr (.boolean, [(.int f1), (.int f2)])) :: RR) 0 0 → Go p e below (EndS below s n0 Z 1 2 (fun v L' => ∃ b41 : Addr, ∃ ex0 ex1 : Int64, v = none ∧ L' = ((r4, ob0 (.ref r5) (.ref r6) (.ref r7) (.long (0 : Int64)) (.int (1 : Int32))) :: (r5, .inr (.int, [(.int pa), (.int pb)])) :: (r6, .inr (.long, [(.long (0 : Int64)), (.long (0 : Int64))])) :: (r7, .inr (.boolean, [(.int f1), (.int f2)])) :: (r0, ob1 (.ref r1) (.ref r2) (.int (cnt (uL (l2L ml pa pb f1 f2)))) (.long (0 : Int64)) (.long ex0) (.long ex1) .null (.ref b41)) :: (r2, .inr (.byte, List.map Value.int (uL (l2L ml pa pb f1 f2)))) :: (b41, .inr (.int, List.map Value.int (svL (uL (l2L ml pa pb f1 f2)) pa pb))) :: (r1, .inr (.long, List.map Value.long (z4))) :: RR))) (T.setTop (mkF m 60 #[.val (.ref r0), .val (.ref r4), .val (.ref r5), .val (.int j10), .val (.int (1 : Int32)), .unset, .unset, .unset, .unset, .unset, .unset, .unset, .unset, .unset, .unset, .unset, .unset, .unset, .unset, .unset, .unset] [])) := by
    intro T j10 ej10 A
    refine A.iinc (q := 63) (v := (2 : Int32)) (l' := #[.val (.ref r0), .val (.ref r4), .val (.ref r5), .val (.int j10), .val (.int (2 : Int32)), .unset, .unset, .unset, .unset, .unset, .unset, .unset, .unset, .unset, .unset, .unset, .unset, .unset, .unset, .unset, .unset]) d12_60 rfl rfl (by decide) rfl ?_
    refine A.goto (r := 10) d12_63 (by decide) ?_
    refine A.iload (q := 12) d12_10 rfl rfl ?_
    refine A.aloadN (q := 13) d12_12 rfl rfl rfl ?_
    refine A.arraylength (q := 14) (i := 4) (v := (2 : Int32)) d12_13 rfl rfl (by show Nat.toInt32 2 = 2; decide) ?_
    refine A.icmpT (r := 66) d12_14 (by decide) (by decide) ?_
    refine A.aloadN (q := 67) d12_66 rfl rfl rfl ?_
    refine A.getF (q := 70) (w := 15) (i := 0) (j := 2) d12_67 rfl rfl rfl rfl ?_
    intro T A
    refine A.iloadN (q := 71) d12_70 rfl rfl ?_
    obtain ⟨v12, e12⟩ : ∃ v : Int32, al - j10 = v := ⟨_, rfl⟩
    refine A.isub (q := 72) d12_71 rfl e12 ?_
    refine A.istore (q := 74) (l' := #[.val (.ref r0), .val (.ref r4), .val (.ref r5), .val (.int j10), .val (.int v12), .unset, .unset, .unset, .unset, .unset, .unset, .unset, .unset, .unset, .unset, .unset, .unset, .unset, .unset, .unset, .unset]) d12_72 rfl rfl ?_
    refine A.aloadN (q := 75) d12_74 rfl rfl rfl ?_
    have A := A.front (i := 6) rfl rfl
    have A := A.front (i := 6) rfl rfl
    have A := A.front (i := 6) rfl rfl
    have A := A.front (i := 5) (L' := ((r4, ob0 (.ref r5) (.ref r6) (.ref r7) (.long (0 : Int64)) (.int (1 : Int32))) :: (r5, .inr (.int, [(.int pa), (.int pb)])) :: (r6, .inr (.long, [(.long (0 : Int64)), (.long (0 : Int64))])) :: (r7, .inr (.boolean, [(.int f1), (.int f2)])) :: (r0, ob1 (.ref r1) (.ref r2) (.int al) (.long (0 : Int64)) (.long hi) (.long lo) .null .null) :: (r2, .inr (.byte, List.map Value.int ml)) :: (r1, .inr (.long, List.map Value.long (z4))) :: RR)) rfl rfl
    refine A.callV (q := 78) (i := 0) (w1 := 95) (w2 := 96) (w3 := 39) (w4 := 99) (w5 := 98) (w6 := 97) (a := r4) (as := []) (st := []) (W := 0) d12_75 rfl rfl rfl rfl rfl rfl rfl rfl (rm17_2 l Z a0 hw n0 r4 r5 r6 r7 pa pb f1 f2 _) (by decide) ⟨_, _, pd_8, rfl⟩ rfl rfl rfl (by decide) (by decide) (by decide) (by decide) ?_
    rintro _ T _ ⟨rfl, rfl⟩ A
    show Go p e below _ (T.setTop (mkF m 78 #[.val (.ref r0), .val (.ref r4), .val (.ref r5), .val (.int j10), .val (.int v12), .unset, .unset, .unset, .unset, .unset, .unset, .unset, .unset, .unset, .unset, .unset, .unset, .unset, .unset, .unset, .unset] [(.int (1 : Int32))]))
    refine A.ifF (q := 81) d12_78 rfl (by decide) ?_
    refine A.lconst (q := 82) (v := (0 : Int64)) d12_81 rfl (by decide) ?_
    refine A.goto (r := 89) d12_82 (by decide) ?_
    refine A.lstore (q := 91) (l' := #[.val (.ref r0), .val (.ref r4), .val (.ref r5), .val (.int j10), .val (.int v12), .val (.long (0 : Int64)), .second, .unset, .unset, .unset, .unset, .unset, .unset, .unset, .unset, .unset, .unset, .unset, .unset, .unset, .unset]) d12_89 rfl rfl ?_
    refine A.aloadN (q := 92) d12_91 rfl rfl rfl ?_
    refine A.getF (q := 95) (w := 105) (i := 4) (j := 4) d12_92 rfl rfl rfl rfl ?_
    intro T A
    refine A.lstore (q := 97) (l' := #[.val (.ref r0), .val (.ref r4), .val (.ref r5), .val (.int j10), .val (.int v12), .val (.long (0 : Int64)), .second, .val (.long hi), .second, .unset, .unset, .unset, .unset, .unset, .unset, .unset, .unset, .unset, .unset, .unset, .unset]) d12_95 rfl rfl ?_
    refine A.aloadN (q := 98) d12_97 rfl rfl rfl ?_
    refine A.getF (q := 101) (w := 107) (i := 4) (j := 5) d12_98 rfl rfl rfl rfl ?_
    intro T A
    refine A.lstore (q := 103) (l' := #[.val (.ref r0), .val (.ref r4), .val (.ref r5), .val (.int j10), .val (.int v12), .val (.long (0 : Int64)), .second, .val (.long hi), .second, .val (.long lo), .second, .unset, .unset, .unset, .unset, .unset, .unset, .unset, .unset, .unset, .unset]) d12_101 rfl rfl ?_
    have J103_15 : ∀ (T : State), Here p l e ({ frames := 2, cells := 1, slots := 2, locals := 31 } : Room) s m ([(.ref r0), (.ref r4)] : List Value).toArray below meth c Z a0 tables_1 (⟨"com/example/forebound/forebound/problem/Sum", "addListed", "(Lcom/example/forebound/forebound/problem/Problem$Table;)V"⟩ : MethodName).cls (⟨"com/example/forebound/forebound/problem/Sum", "addListed", "(Lcom/example/forebound/forebound/problem/Problem$Table;)V"⟩ : MethodName).name prog_28_method_7_code 21 none n0 T ((r4, ob0 (.ref r5) (.ref r6) (.ref r7) (.long (0 : Int64)) (.int (1 : Int32))) :: (r5, .inr (.int, [(.int pa), (.int pb)])) :: (r6, .inr (.long, [(.long (0 : Int64)), (.long (0 : Int64))])) :: (r7, .inr (.boolean, [(.int f1), (.int f2)])) :: (r0, ob1 (.ref r1) (.ref r2) (.int al) (.long (0 : Int64)) (.long hi) (.long lo) .null .null) :: (r2, .inr (.byte, List.map Value.int ml)) :: (r1, .inr (.long, List.map Value.long (z4))) :: RR) 0 0 → Go p e below (EndS below s n0 Z 1 2 (fun v L' => ∃ b41 : Addr, ∃ ex0 ex1 : Int64, v = none ∧ L' = ((r4, ob0 (.ref r5) (.ref r6) (.ref r7) (.long (0 : Int64)) (.int (1 : Int32))) :: (r5, .inr (.int, [(.int pa), (.int pb)])) :: (r6, .inr (.long, [(.long (0 : Int64)), (.long (0 : Int64))])) :: (r7, .inr (.boolean, [(.int f1), (.int f2)])) :: (r0, ob1 (.ref r1) (.ref r2) (.int (cnt (uL (l2L ml pa pb f1 f2)))) (.long (0 : Int64)) (.long ex0) (.long ex1) .null (.ref b41)) :: (r2, .inr (.byte, List.map Value.int (uL (l2L ml pa pb f1 f2)))) :: (b41, .inr (.int, List.map Value.int (svL (uL (l2L ml pa pb f1 f2)) pa pb))) :: (r1, .inr (.long, List.map Value.long (z4))) :: RR))) (T.setTop (mkF m 219 #[.val (.ref r0), .val (.ref r4), .val (.ref r5), .val (.int j10), .val (.int v12), .val (.long (0 : Int64)), .second, .val (.long hi), .second, .val (.long lo), .second, .unset, .unset, .unset, .unset, .unset, .unset, .unset, .unset, .unset, .unset] [])) := by
     intro T  A
     refine A.aloadN (q := 220) d12_219 rfl rfl rfl ?_
     refine A.getF (q := 223) (w := 84) (i := 4) (j := 3) d12_220 rfl rfl rfl rfl ?_
     intro T A
     refine A.lload (q := 225) d12_223 rfl rfl ?_
     refine A.ladd (q := 226) (v := (0 : Int64)) d12_225 rfl (by decide) ?_
     refine A.lstore (q := 228) (l' := #[.val (.ref r0), .val (.ref r4), .val (.ref r5), .val (.int j10), .val (.int v12), .val (.long (0 : Int64)), .second, .val (.long hi), .second, .val (.long lo), .second, .val (.long (0 : Int64)), .second, .unset, .unset, .unset, .unset, .unset, .unset, .unset, .unset]) d12_226 rfl rfl ?_
     refine A.ldc2_w (q := 231) (v := (-9223372036854775808 : Int64)) (w := 109) d12_228 rfl rfl ?_
     refine A.lstore (q := 233) (l' := #[.val (.ref r0), .val (.ref r4), .val (.ref r5), .val (.int j10), .val (.int v12), .val (.long (0 : Int64)), .second, .val (.long hi), .second, .val (.long lo), .second, .val (.long (0 : Int64)), .second, .val (.long (-9223372036854775808 : Int64)), .second, .unset, .unset, .unset, .unset, .unset, .unset]) d12_231 rfl rfl ?_
     refine A.ldc2_w (q := 236) (v := (9223372036854775807 : Int64)) (w := 110) d12_233 rfl rfl ?_
     refine A.lstore (q := 238) (l' := #[.val (.ref r0), .val (.ref r4), .val (.ref r5), .val (.int j10), .val (.int v12), .val (.long (0 : Int64)), .second, .val (.long hi), .second, .val (.long lo), .second, .val (.long (0 : Int64)), .second, .val (.long (-9223372036854775808 : Int64)), .second, .val (.long (9223372036854775807 : Int64)), .second, .unset, .unset, .unset, .unset]) d12_236 rfl rfl ?_
     refine A.iconst (q := 239) (v := (0 : Int32)) d12_238 rfl (by decide) ?_
     refine A.istore (q := 241) (l' := #[.val (.ref r0), .val (.ref r4), .val (.ref r5), .val (.int j10), .val (.int v12), .val (.long (0 : Int64)), .second, .val (.long hi), .second, .val (.long lo), .second, .val (.long (0 : Int64)), .second, .val (.long (-9223372036854775808 : Int64)), .second, .val (.long (9223372036854775807 : Int64)), .second, .val (.int (0 : Int32)), .unset, .unset, .unset]) d12_239 rfl rfl ?_
     refine A.iload (q := 243) d12_241 rfl rfl ?_
     refine A.aloadN (q := 244) d12_243 rfl rfl rfl ?_
     refine A.arraylength (q := 245) (i := 1) (v := (2 : Int32)) d12_244 rfl rfl (by show Nat.toInt32 2 = 2; decide) ?_
     refine A.icmpF (q := 248) d12_245 rfl (by decide) ?_
     have J248_27 : ∀ (T : State) (j22 : Int64) (j23 : Int64) (s24 : Slot) (s25 : Slot) (j26 : Int32) (j27 : List Int32), j22 = (if ((FF pa ml)) = (0 : Int32) then (if f1 = (0 : Int32) then ((Fmax (-9223372036854775808 : Int64) (0 : Int64))) else (-9223372036854775808 : Int64)) else (-9223372036854775808 : Int64)) → j23 = (if ((FF pa ml)) = (0 : Int32) then (if f1 = (0 : Int32) then ((Fmin (9223372036854775807 : Int64) (0 : Int64))) else (9223372036854775807 : Int64)) else (9223372036854775807 : Int64)) → Two s24 s25 → Two s24 s25 → j26 = (if ((FF pa ml)) = (0 : Int32) then (if f1 = (0 : Int32) then al else (al - (1 : Int32))) else al) → j27 = (if ((FF pa ml)) = (0 : Int32) then (if f1 = (0 : Int32) then ml else (ml.set (pa).toNatClampNeg (((ml.getD (pa).toNatClampNeg (0 : Int32)) ||| (1 : Int32)).toInt8.toInt32))) else ml) → Here p l e ({ frames := 2, cells := 1, slots := 2, locals := 31 } : Room) s m ([(.ref r0), (.ref r4)] : List Value).toArray below meth c Z a0 tables_1 (⟨"com/example/forebound/forebound/problem/Sum", "addListed", "(Lcom/example/forebound/forebound/problem/Problem$Table;)V"⟩ : MethodName).cls (⟨"com/example/forebound/forebound/problem/Sum", "addListed", "(Lcom/example/forebound/forebound/problem/Problem$Table;)V"⟩ : MethodName).name prog_28_method_7_code 21 none n0 T ((r0, ob1 (.ref r1) (.ref r2) (.int j26) (.long (0 : Int64)) (.long hi) (.long lo) .null .null) :: (r4, ob0 (.ref r5) (.ref r6) (.ref r7) (.long (0 : Int64)) (.int (1 : Int32))) :: (r1, .inr (.long, List.map Value.long (z4))) :: (r2, .inr (.byte, List.map Value.int j27)) :: (r5, .inr (.int, [(.int pa), (.int pb)])) :: (r6, .inr (.long, [(.long (0 : Int64)), (.long (0 : Int64))])) :: (r7, .inr (.boolean, [(.int f1), (.int f2)])) :: RR) 0 0 → Go p e below (EndS below s n0 Z 1 2 (fun v L' => ∃ b41 : Addr, ∃ ex0 ex1 : Int64, v = none ∧ L' = ((r4, ob0 (.ref r5) (.ref r6) (.ref r7) (.long (0 : Int64)) (.int (1 : Int32))) :: (r5, .inr (.int, [(.int pa), (.int pb)])) :: (r6, .inr (.long, [(.long (0 : Int64)), (.long (0 : Int64))])) :: (r7, .inr (.boolean, [(.int f1), (.int f2)])) :: (r0, ob1 (.ref r1) (.ref r2) (.int (cnt (uL (l2L ml pa pb f1 f2)))) (.long (0 : Int64)) (.long ex0) (.long ex1) .null (.ref b41)) :: (r2, .inr (.byte, List.map Value.int (uL (l2L ml pa pb f1 f2)))) :: (b41, .inr (.int, List.map Value.int (svL (uL (l2L ml pa pb f1 f2)) pa pb))) :: (r1, .inr (.long, List.map Value.long (z4))) :: RR))) (T.setTop (mkF m 337 #[.val (.ref r0), .val (.ref r4), .val (.ref r5), .val (.int j10), .val (.int v12), .val (.long (0 : Int64)), .second, .val (.long hi), .second, .val (.long lo), .second, .val (.long (0 : Int64)), .second, .val (.long j22), .second, .val (.long j23), .second, .val (.int (0 : Int32)), .val (.int pa), s24, s25] [])) := by
      intro T j22 j23 s24 s25 j26 j27 ej22 ej23 os24 os25 ej26 ej27 A
      have q : (fb ml pa f1) = j27 := Eq.symm (own_g77 sg pg f1 f2 hf1 hf2 hS ml hml pa hpa pb hpb al hal j27 ej27 )
      subst q
      have q : (cnt (fb ml pa f1)) = j26 := Eq.symm (own_g78 sg pg f1 f2 hf1 hf2 hS ml hml pa hpa pb hpb al hal j26 ej26 )
      subst q
      have A : Here p l e ({ frames := 2, cells := 1, slots := 2, locals := 31 } : Room) s m ([(.ref r0), (.ref r4)] : List Value).toArray below meth c Z a0 tables_1 (⟨"com/example/forebound/forebound/problem/Sum", "addListed", "(Lcom/example/forebound/forebound/problem/Problem$Table;)V"⟩ : MethodName).cls (⟨"com/example/forebound/forebound/problem/Sum", "addListed", "(Lcom/example/forebound/forebound/problem/Problem$Table;)V"⟩ : MethodName).name prog_28_method_7_code 21 none n0 T ((r0, ob1 (.ref r1) (.ref r2) (.int (cnt (fb ml pa f1))) (.long (0 : Int64)) (.long hi) (.long lo) .null .null) :: (r4, ob0 (.ref r5) (.ref r6) (.ref r7) (.long (0 : Int64)) (.int (1 : Int32))) :: (r1, .inr (.long, List.map Value.long (z4))) :: (r2, .inr (.byte, List.map Value.int (fb ml pa f1))) :: (r5, .inr (.int, [(.int pa), (.int pb)])) :: (r6, .inr (.long, [(.long (0 : Int64)), (.long (0 : Int64))])) :: (r7, .inr (.boolean, [(.int f1), (.int f2)])) :: RR) 0 0 := A
      refine A.iinc (q := 340) (v := (1 : Int32)) (l' := #[.val (.ref r0), .val (.ref r4), .val (.ref r5), .val (.int j10), .val (.int v12), .val (.long (0 : Int64)), .second, .val (.long hi), .second, .val (.long lo), .second, .val (.long (0 : Int64)), .second, .val (.long j22), .second, .val (.long j23), .second, .val (.int (1 : Int32)), .val (.int pa), s24, s25]) d12_337 rfl rfl (by decide) rfl ?_
      refine A.goto (r := 241) d12_340 (by decide) ?_
      refine A.iload (q := 243) d12_241 rfl rfl ?_
      refine A.aloadN (q := 244) d12_243 rfl rfl rfl ?_
      refine A.arraylength (q := 245) (i := 4) (v := (2 : Int32)) d12_244 rfl rfl (by show Nat.toInt32 2 = 2; decide) ?_
      refine A.icmpF (q := 248) d12_245 rfl (by decide) ?_
      have J248_39 : ∀ (T : State) (j34 : Int64) (j35 : Int64) (s36 : Slot) (s37 : Slot) (j38 : Int32) (j39 : List Int32), j34 = (if ((FF pb (fb ml pa f1))) = (0 : Int32) then (if f2 = (0 : Int32) then ((Fmax j22 (0 : Int64))) else j22) else j22) → j35 = (if ((FF pb (fb ml pa f1))) = (0 : Int32) then (if f2 = (0 : Int32) then ((Fmin j23 (0 : Int64))) else j23) else j23) → Two s36 s37 → Two s36 s37 → j38 = (if ((FF pb (fb ml pa f1))) = (0 : Int32) then (if f2 = (0 : Int32) then (cnt (fb ml pa f1)) else ((cnt (fb ml pa f1)) - (1 : Int32))) else (cnt (fb ml pa f1))) → j39 = (if ((FF pb (fb ml pa f1))) = (0 : Int32) then (if f2 = (0 : Int32) then (fb ml pa f1) else ((fb ml pa f1).set (pb).toNatClampNeg ((((fb ml pa f1).getD (pb).toNatClampNeg (0 : Int32)) ||| (1 : Int32)).toInt8.toInt32))) else (fb ml pa f1)) → Here p l e ({ frames := 2, cells := 1, slots := 2, locals := 31 } : Room) s m ([(.ref r0), (.ref r4)] : List Value).toArray below meth c Z a0 tables_1 (⟨"com/example/forebound/forebound/problem/Sum", "addListed", "(Lcom/example/forebound/forebound/problem/Problem$Table;)V"⟩ : MethodName).cls (⟨"com/example/forebound/forebound/problem/Sum", "addListed", "(Lcom/example/forebound/forebound/problem/Problem$Table;)V"⟩ : MethodName).name prog_28_method_7_code 21 none n0 T ((r0, ob1 (.ref r1) (.ref r2) (.int j38) (.long (0 : Int64)) (.long hi) (.long lo) .null .null) :: (r4, ob0 (.ref r5) (.ref r6) (.ref r7) (.long (0 : Int64)) (.int (1 : Int32))) :: (r1, .inr (.long, List.map Value.long (z4))) :: (r2, .inr (.byte, List.map Value.int j39)) :: (r5, .inr (.int, [(.int pa), (.int pb)])) :: (r6, .inr (.long, [(.long (0 : Int64)), (.long (0 : Int64))])) :: (r7, .inr (.boolean, [(.int f1), (.int f2)])) :: RR) 0 0 → Go p e below (EndS below s n0 Z 1 2 (fun v L' => ∃ b41 : Addr, ∃ ex0 ex1 : Int64, v = none ∧ L' = ((r4, ob0 (.ref r5) (.ref r6) (.ref r7) (.long (0 : Int64)) (.int (1 : Int32))) :: (r5, .inr (.int, [(.int pa), (.int pb)])) :: (r6, .inr (.long, [(.long (0 : Int64)), (.long (0 : Int64))])) :: (r7, .inr (.boolean, [(.int f1), (.int f2)])) :: (r0, ob1 (.ref r1) (.ref r2) (.int (cnt (uL (l2L ml pa pb f1 f2)))) (.long (0 : Int64)) (.long ex0) (.long ex1) .null (.ref b41)) :: (r2, .inr (.byte, List.map Value.int (uL (l2L ml pa pb f1 f2)))) :: (b41, .inr (.int, List.map Value.int (svL (uL (l2L ml pa pb f1 f2)) pa pb))) :: (r1, .inr (.long, List.map Value.long (z4))) :: RR))) (T.setTop (mkF m 337 #[.val (.ref r0), .val (.ref r4), .val (.ref r5), .val (.int j10), .val (.int v12), .val (.long (0 : Int64)), .second, .val (.long hi), .second, .val (.long lo), .second, .val (.long (0 : Int64)), .second, .val (.long j34), .second, .val (.long j35), .second, .val (.int (1 : Int32)), .val (.int pb), s36, s37] [])) := by
       intro T j34 j35 s36 s37 j38 j39 ej34 ej35 os36 os37 ej38 ej39 A
       have q : (l2L ml pa pb f1 f2) = j39 := Eq.symm (own_g79 sg pg f1 f2 hf1 hf2 hS ml hml pa hpa pb hpb al hal j39 ej39 )
       subst q
       have q : (cnt (l2L ml pa pb f1 f2)) = j38 := Eq.symm (own_g80 sg pg f1 f2 hf1 hf2 hS ml hml pa hpa pb hpb al hal j38 ej38 )
       subst q
       have A : Here p l e ({ frames := 2, cells := 1, slots := 2, locals := 31 } : Room) s m ([(.ref r0), (.ref r4)] : List Value).toArray below meth c Z a0 tables_1 (⟨"com/example/forebound/forebound/problem/Sum", "addListed", "(Lcom/example/forebound/forebound/problem/Problem$Table;)V"⟩ : MethodName).cls (⟨"com/example/forebound/forebound/problem/Sum", "addListed", "(Lcom/example/forebound/forebound/problem/Problem$Table;)V"⟩ : MethodName).name prog_28_method_7_code 21 none n0 T ((r0, ob1 (.ref r1) (.ref r2) (.int (cnt (l2L ml pa pb f1 f2))) (.long (0 : Int64)) (.long hi) (.long lo) .null .null) :: (r4, ob0 (.ref r5) (.ref r6) (.ref r7) (.long (0 : Int64)) (.int (1 : Int32))) :: (r1, .inr (.long, List.map Value.long (z4))) :: (r2, .inr (.byte, List.map Value.int (l2L ml pa pb f1 f2))) :: (r5, .inr (.int, [(.int pa), (.int pb)])) :: (r6, .inr (.long, [(.long (0 : Int64)), (.long (0 : Int64))])) :: (r7, .inr (.boolean, [(.int f1), (.int f2)])) :: RR) 0 0 := A
       refine A.iinc (q := 340) (v := (2 : Int32)) (l' := #[.val (.ref r0), .val (.ref r4), .val (.ref r5), .val (.int j10), .val (.int v12), .val (.long (0 : Int64)), .second, .val (.long hi), .second, .val (.long lo), .second, .val (.long (0 : Int64)), .second, .val (.long j34), .second, .val (.long j35), .second, .val (.int (2 : Int32)), .val (.int pb), s36, s37]) d12_337 rfl rfl (by decide) rfl ?_
       refine A.goto (r := 241) d12_340 (by decide) ?_
       refine A.iload (q := 243) d12_241 rfl rfl ?_
       refine A.aloadN (q := 244) d12_243 rfl rfl rfl ?_
       refine A.arraylength (q := 245) (i := 4) (v := (2 : Int32)) d12_244 rfl rfl (by show Nat.toInt32 2 = 2; decide) ?_
       refine A.icmpT (r := 343) d12_245 (by decide) (by decide) ?_
       refine A.aloadN (q := 344) d12_343 rfl rfl rfl ?_
       refine A.lload (q := 346) d12_344 rfl rfl ?_
       refine A.putF (q := 349) (w := 84) (w2 := 85) (w3 := 1) (i := 0) (j := 3) (ty := .long) (v' := (.long (0 : Int64))) (L' := ((r0, ob1 (.ref r1) (.ref r2) (.int (cnt (l2L ml pa pb f1 f2))) (.long (0 : Int64)) (.long hi) (.long lo) .null .null) :: (r4, ob0 (.ref r5) (.ref r6) (.ref r7) (.long (0 : Int64)) (.int (1 : Int32))) :: (r1, .inr (.long, List.map Value.long (z4))) :: (r2, .inr (.byte, List.map Value.int (l2L ml pa pb f1 f2))) :: (r5, .inr (.int, [(.int pa), (.int pb)])) :: (r6, .inr (.long, [(.long (0 : Int64)), (.long (0 : Int64))])) :: (r7, .inr (.boolean, [(.int f1), (.int f2)])) :: RR)) d12_346 rfl rfl rfl rfl (lay_0 Z a0 hw) (Or.inl rfl) rfl (by decide) rfl rfl rfl ?_
       intro T A
       refine A.aloadN (q := 350) d12_349 rfl rfl rfl ?_
       have A := A.front (i := 6) rfl rfl
       have A := A.front (i := 6) rfl rfl
       have A := A.front (i := 6) rfl rfl
       have A := A.front (i := 4) (L' := ((r4, ob0 (.ref r5) (.ref r6) (.ref r7) (.long (0 : Int64)) (.int (1 : Int32))) :: (r5, .inr (.int, [(.int pa), (.int pb)])) :: (r6, .inr (.long, [(.long (0 : Int64)), (.long (0 : Int64))])) :: (r7, .inr (.boolean, [(.int f1), (.int f2)])) :: (r0, ob1 (.ref r1) (.ref r2) (.int (cnt (l2L ml pa pb f1 f2))) (.long (0 : Int64)) (.long hi) (.long lo) .null .null) :: (r1, .inr (.long, List.map Value.long (z4))) :: (r2, .inr (.byte, List.map Value.int (l2L ml pa pb f1 f2))) :: RR)) rfl rfl
       refine A.callV (q := 353) (i := 0) (w1 := 95) (w2 := 96) (w3 := 39) (w4 := 99) (w5 := 98) (w6 := 97) (a := r4) (as := []) (st := []) (W := 0) d12_350 rfl rfl rfl rfl rfl rfl rfl rfl (rm17_2 l Z a0 hw n0 r4 r5 r6 r7 pa pb f1 f2 _) (by decide) ⟨_, _, pd_8, rfl⟩ rfl rfl rfl (by decide) (by decide) (by decide) (by decide) ?_
       rintro _ T _ ⟨rfl, rfl⟩ A
       show Go p e below _ (T.setTop (mkF m 353 #[.val (.ref r0), .val (.ref r4), .val (.ref r5), .val (.int j10), .val (.int v12), .val (.long (0 : Int64)), .second, .val (.long hi), .second, .val (.long lo), .second, .val (.long (0 : Int64)), .second, .val (.long j34), .second, .val (.long j35), .second, .val (.int (2 : Int32)), .val (.int pb), s36, s37] [(.int (1 : Int32))]))
       refine A.ifF (q := 356) d12_353 rfl (by decide) ?_
       refine A.aloadN (q := 357) d12_356 rfl rfl rfl ?_
       refine A.aloadN (q := 358) d12_357 rfl rfl rfl ?_
       have A := A.front (i := 1) rfl rfl
       have A := A.front (i := 6) rfl rfl
       have A := A.front (i := 5) (L' := ((r0, ob1 (.ref r1) (.ref r2) (.int (cnt (l2L ml pa pb f1 f2))) (.long (0 : Int64)) (.long hi) (.long lo) .null .null) :: (r2, .inr (.byte, List.map Value.int (l2L ml pa pb f1 f2))) :: (r5, .inr (.int, [(.int pa), (.int pb)])) :: (r4, ob0 (.ref r5) (.ref r6) (.ref r7) (.long (0 : Int64)) (.int (1 : Int32))) :: (r6, .inr (.long, [(.long (0 : Int64)), (.long (0 : Int64))])) :: (r7, .inr (.boolean, [(.int f1), (.int f2)])) :: (r1, .inr (.long, List.map Value.long (z4))) :: RR)) rfl rfl
       refine A.callP (q := 361) (i := 0) (w1 := 130) (w2 := 132) (w3 := 2) (w4 := 133) (w5 := 1) (w6 := 131) (a := r0) (as := [(.ref r5)]) (st := []) (W := 0) d12_358 rfl rfl rfl rfl rfl rfl rfl rfl (rmUN l Z a0 hw n0 r0 r5 r1 r2 hi lo (l2L ml pa pb f1 f2) pa pb sg pg f1 f2 _ (by rw [← hml, ← hpa, ← hpb]; rfl) hpa hpb hf1 hf2 hS) (by decide) ⟨_, _, pd_10, rfl⟩ rfl rfl rfl (by decide) (by decide) (by decide) (by decide) ?_
       rintro _ T _ ⟨b41, rfl, rfl⟩ A
       show Go p e below _ (T.setTop (mkF m 361 #[.val (.ref r0), .val (.ref r4), .val (.ref r5), .val (.int j10), .val (.int v12), .val (.long (0 : Int64)), .second, .val (.long hi), .second, .val (.long lo), .second, .val (.long (0 : Int64)), .second, .val (.long j34), .second, .val (.long j35), .second, .val (.int (2 : Int32)), .val (.int pb), s36, s37] []))
       refine A.aloadN (q := 362) d12_361 rfl rfl rfl ?_
       have A := A.front (i := 6) rfl rfl
       have A := A.front (i := 6) rfl rfl
       have A := A.front (i := 5) rfl rfl
       have A := A.front (i := 6) (L' := ((r4, ob0 (.ref r5) (.ref r6) (.ref r7) (.long (0 : Int64)) (.int (1 : Int32))) :: (r5, .inr (.int, [(.int pa), (.int pb)])) :: (r6, .inr (.long, [(.long (0 : Int64)), (.long (0 : Int64))])) :: (r7, .inr (.boolean, [(.int f1), (.int f2)])) :: (r0, ob1 (.ref r1) (.ref r2) (.int (cnt (uL (l2L ml pa pb f1 f2)))) (.long (0 : Int64)) (.long hi) (.long lo) .null (.ref b41)) :: (r2, .inr (.byte, List.map Value.int (uL (l2L ml pa pb f1 f2)))) :: (b41, .inr (.int, List.map Value.int (svL (uL (l2L ml pa pb f1 f2)) pa pb))) :: (r1, .inr (.long, List.map Value.long (z4))) :: RR)) rfl rfl
       refine A.callV (q := 365) (i := 0) (w1 := 95) (w2 := 96) (w3 := 39) (w4 := 99) (w5 := 98) (w6 := 97) (a := r4) (as := []) (st := []) (W := 0) d12_362 rfl rfl rfl rfl rfl rfl rfl rfl (rm17_2 l Z a0 hw n0 r4 r5 r6 r7 pa pb f1 f2 _) (by decide) ⟨_, _, pd_8, rfl⟩ rfl rfl rfl (by decide) (by decide) (by decide) (by decide) ?_
       rintro _ T _ ⟨rfl, rfl⟩ A
       show Go p e below _ (T.setTop (mkF m 365 #[.val (.ref r0), .val (.ref r4), .val (.ref r5), .val (.int j10), .val (.int v12), .val (.long (0 : Int64)), .second, .val (.long hi), .second, .val (.long lo), .second, .val (.long (0 : Int64)), .second, .val (.long j34), .second, .val (.long j35), .second, .val (.int (2 : Int32)), .val (.int pb), s36, s37] [(.int (1 : Int32))]))
       refine A.ifT (r := 373) d12_365 (by decide) (by decide) ?_
       refine A.aloadN (q := 374) d12_373 rfl rfl rfl ?_
       refine A.lload (q := 376) d12_374 rfl rfl ?_
       refine A.putF (q := 379) (w := 105) (w2 := 106) (w3 := 1) (i := 4) (j := 4) (ty := .long) (v' := (.long j34)) (L' := ((r4, ob0 (.ref r5) (.ref r6) (.ref r7) (.long (0 : Int64)) (.int (1 : Int32))) :: (r5, .inr (.int, [(.int pa), (.int pb)])) :: (r6, .inr (.long, [(.long (0 : Int64)), (.long (0 : Int64))])) :: (r7, .inr (.boolean, [(.int f1), (.int f2)])) :: (r0, ob1 (.ref r1) (.ref r2) (.int (cnt (uL (l2L ml pa pb f1 f2)))) (.long (0 : Int64)) (.long j34) (.long lo) .null (.ref b41)) :: (r2, .inr (.byte, List.map Value.int (uL (l2L ml pa pb f1 f2)))) :: (b41, .inr (.int, List.map Value.int (svL (uL (l2L ml pa pb f1 f2)) pa pb))) :: (r1, .inr (.long, List.map Value.long (z4))) :: RR)) d12_376 rfl rfl rfl rfl (lay_0 Z a0 hw) (Or.inl rfl) rfl (by decide) rfl rfl rfl ?_
       intro T A
       refine A.aloadN (q := 380) d12_379 rfl rfl rfl ?_
       refine A.lload (q := 382) d12_380 rfl rfl ?_
       refine A.putF (q := 385) (w := 107) (w2 := 108) (w3 := 1) (i := 4) (j := 5) (ty := .long) (v' := (.long j35)) (L' := ((r4, ob0 (.ref r5) (.ref r6) (.ref r7) (.long (0 : Int64)) (.int (1 : Int32))) :: (r5, .inr (.int, [(.int pa), (.int pb)])) :: (r6, .inr (.long, [(.long (0 : Int64)), (.long (0 : Int64))])) :: (r7, .inr (.boolean, [(.int f1), (.int f2)])) :: (r0, ob1 (.ref r1) (.ref r2) (.int (cnt (uL (l2L ml pa pb f1 f2)))) (.long (0 : Int64)) (.long j34) (.long j35) .null (.ref b41)) :: (r2, .inr (.byte, List.map Value.int (uL (l2L ml pa pb f1 f2)))) :: (b41, .inr (.int, List.map Value.int (svL (uL (l2L ml pa pb f1 f2)) pa pb))) :: (r1, .inr (.long, List.map Value.long (z4))) :: RR)) d12_382 rfl rfl rfl rfl (lay_0 Z a0 hw) (Or.inl rfl) rfl (by decide) rfl rfl rfl ?_
       intro T A
       refine A.goto (r := 416) d12_385 (by decide) ?_
       have Aq := A
       subst ej4 ej10 e12 ej22 ej23 ej34 ej35
       have A := Aq
       exact A.retV d12_416 (by decide) (by decide) ⟨b41, _, _, rfl, rfl⟩
      refine A.aloadN (q := 249) d12_248 rfl rfl rfl ?_
      refine A.iload (q := 251) d12_249 rfl rfl ?_
      refine A.iaload (q := 252) (i := 4) (v := (.int pb)) d12_251 rfl rfl (by decide) rfl ?_
      refine A.istore (q := 254) (l' := #[.val (.ref r0), .val (.ref r4), .val (.ref r5), .val (.int j10), .val (.int v12), .val (.long (0 : Int64)), .second, .val (.long hi), .second, .val (.long lo), .second, .val (.long (0 : Int64)), .second, .val (.long j22), .second, .val (.long j23), .second, .val (.int (1 : Int32)), .val (.int pb), s24, s25]) d12_252 rfl rfl ?_
      refine A.aloadN (q := 255) d12_254 rfl rfl rfl ?_
      refine A.iload (q := 257) d12_255 rfl rfl ?_
      have A := A.front (i := 3) rfl rfl
      have A := A.front (i := 1) (L' := ((r0, ob1 (.ref r1) (.ref r2) (.int (cnt (fb ml pa f1))) (.long (0 : Int64)) (.long hi) (.long lo) .null .null) :: (r2, .inr (.byte, List.map Value.int (fb ml pa f1))) :: (r4, ob0 (.ref r5) (.ref r6) (.ref r7) (.long (0 : Int64)) (.int (1 : Int32))) :: (r1, .inr (.long, List.map Value.long (z4))) :: (r5, .inr (.int, [(.int pa), (.int pb)])) :: (r6, .inr (.long, [(.long (0 : Int64)), (.long (0 : Int64))])) :: (r7, .inr (.boolean, [(.int f1), (.int f2)])) :: RR)) rfl rfl
      refine A.callV (q := 260) (i := 0) (w1 := 73) (w2 := 18) (w3 := 2) (w4 := 21) (w5 := 20) (w6 := 19) (a := r0) (as := [(.int pb)]) (st := []) (W := 0) d12_257 rfl rfl rfl rfl rfl rfl rfl rfl (rmF l Z a0 hw n0 r0 pb r1 r2 (cnt (fb ml pa f1)) (0 : Int64) hi lo .null .null (fb ml pa f1) _ nq.1 (by rw [(show (fb ml pa f1).length = 4 by simp only [List.length_set, own_u1len, own_fblen, own_mkLlen, own_l2Llen, own_uLlen, own_umlen, len_ml])]; exact nq.2.1)) (by decide) ⟨_, _, pd_2, rfl⟩ rfl rfl rfl (by decide) (by decide) (by decide) (by decide) ?_
      rintro _ T _ ⟨rfl, rfl⟩ A
      show Go p e below _ (T.setTop (mkF m 260 #[.val (.ref r0), .val (.ref r4), .val (.ref r5), .val (.int j10), .val (.int v12), .val (.long (0 : Int64)), .second, .val (.long hi), .second, .val (.long lo), .second, .val (.long (0 : Int64)), .second, .val (.long j22), .second, .val (.long j23), .second, .val (.int (1 : Int32)), .val (.int pb), s24, s25] [(.int (FF pb (fb ml pa f1)))]))
      obtain ⟨v29, e29⟩ : ∃ v : Int32, (FF pb (fb ml pa f1)) = v := ⟨_, rfl⟩
      rw [e29]
      refine A.if_eq (q := 263) (r := 266) d12_260 rfl (by decide) (fun h30 => ?_) (fun h30 => ?_)
      · refine A.aloadN (q := 267) d12_266 rfl rfl rfl ?_
        have A := A.front (i := 2) (L' := ((r4, ob0 (.ref r5) (.ref r6) (.ref r7) (.long (0 : Int64)) (.int (1 : Int32))) :: (r0, ob1 (.ref r1) (.ref r2) (.int (cnt (fb ml pa f1))) (.long (0 : Int64)) (.long hi) (.long lo) .null .null) :: (r2, .inr (.byte, List.map Value.int (fb ml pa f1))) :: (r1, .inr (.long, List.map Value.long (z4))) :: (r5, .inr (.int, [(.int pa), (.int pb)])) :: (r6, .inr (.long, [(.long (0 : Int64)), (.long (0 : Int64))])) :: (r7, .inr (.boolean, [(.int f1), (.int f2)])) :: RR)) rfl rfl
        refine A.callV (q := 270) (i := 0) (w1 := 74) (w2 := 75) (w3 := 39) (w4 := 78) (w5 := 77) (w6 := 76) (a := r4) (as := []) (st := []) (W := 0) d12_267 rfl rfl rfl rfl rfl rfl rfl rfl (rm13 l Z a0 hw n0 r4 r5 r6 r7 (0 : Int64) (1 : Int32) _) (by decide) ⟨_, _, pd_4, rfl⟩ rfl rfl rfl (by decide) (by decide) (by decide) (by decide) ?_
        rintro _ T _ ⟨rfl, rfl⟩ A
        show Go p e below _ (T.setTop (mkF m 270 #[.val (.ref r0), .val (.ref r4), .val (.ref r5), .val (.int j10), .val (.int v12), .val (.long (0 : Int64)), .second, .val (.long hi), .second, .val (.long lo), .second, .val (.long (0 : Int64)), .second, .val (.long j22), .second, .val (.long j23), .second, .val (.int (1 : Int32)), .val (.int pb), s24, s25] [(.ref r7)]))
        refine A.iload (q := 272) d12_270 rfl rfl ?_
        refine A.baloadZ (q := 273) (i := 6) (v := (.int f2)) d12_272 rfl rfl (by decide) rfl ?_
        refine A.if_eq (q := 276) (r := 285) d12_273 rfl (by decide) (fun h31 => ?_) (fun h31 => ?_)
        · refine A.aloadN (q := 286) d12_285 rfl rfl rfl ?_
          refine A.iload (q := 288) d12_286 rfl rfl ?_
          have A := A.front (i := 3) rfl rfl
          have A := A.front (i := 2) (L' := ((r0, ob1 (.ref r1) (.ref r2) (.int (cnt (fb ml pa f1))) (.long (0 : Int64)) (.long hi) (.long lo) .null .null) :: (r1, .inr (.long, List.map Value.long (z4))) :: (r4, ob0 (.ref r5) (.ref r6) (.ref r7) (.long (0 : Int64)) (.int (1 : Int32))) :: (r2, .inr (.byte, List.map Value.int (fb ml pa f1))) :: (r5, .inr (.int, [(.int pa), (.int pb)])) :: (r6, .inr (.long, [(.long (0 : Int64)), (.long (0 : Int64))])) :: (r7, .inr (.boolean, [(.int f1), (.int f2)])) :: RR)) rfl rfl
          refine A.callV (q := 291) (i := 0) (w1 := 79) (w2 := 80) (w3 := 2) (w4 := 83) (w5 := 82) (w6 := 81) (a := r0) (as := [(.int pb)]) (st := []) (W := 0) d12_288 rfl rfl rfl rfl rfl rfl rfl rfl (rmC l Z a0 hw n0 r0 pb r1 r2 (cnt (fb ml pa f1)) hi lo .null .null (z4) _ nq.1 nq.2.2.1) (by decide) ⟨_, _, pd_5, rfl⟩ rfl rfl rfl (by decide) (by decide) (by decide) (by decide) ?_
          rintro _ T _ ⟨rfl, rfl⟩ A
          show Go p e below _ (T.setTop (mkF m 291 #[.val (.ref r0), .val (.ref r4), .val (.ref r5), .val (.int j10), .val (.int v12), .val (.long (0 : Int64)), .second, .val (.long hi), .second, .val (.long lo), .second, .val (.long (0 : Int64)), .second, .val (.long j22), .second, .val (.long j23), .second, .val (.int (1 : Int32)), .val (.int pb), s24, s25] [(.long (0 : Int64))]))
          refine A.aloadN (q := 292) d12_291 rfl rfl rfl ?_
          have A := A.front (i := 2) (L' := ((r4, ob0 (.ref r5) (.ref r6) (.ref r7) (.long (0 : Int64)) (.int (1 : Int32))) :: (r0, ob1 (.ref r1) (.ref r2) (.int (cnt (fb ml pa f1))) (.long (0 : Int64)) (.long hi) (.long lo) .null .null) :: (r1, .inr (.long, List.map Value.long (z4))) :: (r2, .inr (.byte, List.map Value.int (fb ml pa f1))) :: (r5, .inr (.int, [(.int pa), (.int pb)])) :: (r6, .inr (.long, [(.long (0 : Int64)), (.long (0 : Int64))])) :: (r7, .inr (.boolean, [(.int f1), (.int f2)])) :: RR)) rfl rfl
          refine A.callV (q := 295) (i := 0) (w1 := 86) (w2 := 87) (w3 := 39) (w4 := 90) (w5 := 89) (w6 := 88) (a := r4) (as := []) (st := [(.long (0 : Int64))]) (W := 2) d12_292 rfl rfl rfl rfl rfl rfl rfl rfl (rm15 l Z a0 hw n0 r4 r5 r6 r7 (0 : Int64) (1 : Int32) _) (by decide) ⟨_, _, pd_6, rfl⟩ rfl rfl rfl (by decide) (by decide) (by decide) (by decide) ?_
          rintro _ T _ ⟨rfl, rfl⟩ A
          show Go p e below _ (T.setTop (mkF m 295 #[.val (.ref r0), .val (.ref r4), .val (.ref r5), .val (.int j10), .val (.int v12), .val (.long (0 : Int64)), .second, .val (.long hi), .second, .val (.long lo), .second, .val (.long (0 : Int64)), .second, .val (.long j22), .second, .val (.long j23), .second, .val (.int (1 : Int32)), .val (.int pb), s24, s25] [(.ref r6), (.long (0 : Int64))]))
          refine A.iload (q := 297) d12_295 rfl rfl ?_
          refine A.laload (q := 298) (i := 5) (v := (.long (0 : Int64))) d12_297 rfl rfl (by decide) rfl ?_
          refine A.ladd (q := 299) (v := (0 : Int64)) d12_298 rfl (by decide) ?_
          refine A.lstore (q := 301) (l' := #[.val (.ref r0), .val (.ref r4), .val (.ref r5), .val (.int j10), .val (.int v12), .val (.long (0 : Int64)), .second, .val (.long hi), .second, .val (.long lo), .second, .val (.long (0 : Int64)), .second, .val (.long j22), .second, .val (.long j23), .second, .val (.int (1 : Int32)), .val (.int pb), .val (.long (0 : Int64)), .second]) d12_299 rfl (by rcases os24 with ⟨rfl, rfl⟩ | ⟨x, rfl, rfl⟩ <;> rfl) ?_
          refine A.aloadN (q := 302) d12_301 rfl rfl rfl ?_
          refine A.getF (q := 305) (w := 10) (i := 1) (j := 0) d12_302 rfl rfl rfl rfl ?_
          intro T A
          refine A.iload (q := 307) d12_305 rfl rfl ?_
          refine A.lload (q := 309) d12_307 rfl rfl ?_
          refine A.lload (q := 311) d12_309 rfl rfl ?_
          refine A.lsub (q := 312) (v := (0 : Int64)) d12_311 rfl (by decide) ?_
          refine A.lastoreM (q := 313) (i := 2) (x' := (0 : Int64)) (L' := ((r4, ob0 (.ref r5) (.ref r6) (.ref r7) (.long (0 : Int64)) (.int (1 : Int32))) :: (r0, ob1 (.ref r1) (.ref r2) (.int (cnt (fb ml pa f1))) (.long (0 : Int64)) (.long hi) (.long lo) .null .null) :: (r1, .inr (.long, List.map Value.long ((z4).set (pb).toNatClampNeg (0 : Int64)))) :: (r2, .inr (.byte, List.map Value.int (fb ml pa f1))) :: (r5, .inr (.int, [(.int pa), (.int pb)])) :: (r6, .inr (.long, [(.long (0 : Int64)), (.long (0 : Int64))])) :: (r7, .inr (.boolean, [(.int f1), (.int f2)])) :: RR)) d12_312 rfl rfl nq.1 nq.2.1 rfl rfl ?_
          intro T A
          rw [nq.2.2.2] at A
          have A : Here p l e ({ frames := 2, cells := 1, slots := 2, locals := 31 } : Room) s m ([(.ref r0), (.ref r4)] : List Value).toArray below meth c Z a0 tables_1 (⟨"com/example/forebound/forebound/problem/Sum", "addListed", "(Lcom/example/forebound/forebound/problem/Problem$Table;)V"⟩ : MethodName).cls (⟨"com/example/forebound/forebound/problem/Sum", "addListed", "(Lcom/example/forebound/forebound/problem/Problem$Table;)V"⟩ : MethodName).name prog_28_method_7_code 21 none n0 T ((r4, ob0 (.ref r5) (.ref r6) (.ref r7) (.long (0 : Int64)) (.int (1 : Int32))) :: (r0, ob1 (.ref r1) (.ref r2) (.int (cnt (fb ml pa f1))) (.long (0 : Int64)) (.long hi) (.long lo) .null .null) :: (r1, .inr (.long, List.map Value.long (z4))) :: (r2, .inr (.byte, List.map Value.int (fb ml pa f1))) :: (r5, .inr (.int, [(.int pa), (.int pb)])) :: (r6, .inr (.long, [(.long (0 : Int64)), (.long (0 : Int64))])) :: (r7, .inr (.boolean, [(.int f1), (.int f2)])) :: RR) 0 0 := A
          refine A.aloadN (q := 314) d12_313 rfl rfl rfl ?_
          refine A.iload (q := 316) d12_314 rfl rfl ?_
          have A := A.front (i := 1) (L' := ((r0, ob1 (.ref r1) (.ref r2) (.int (cnt (fb ml pa f1))) (.long (0 : Int64)) (.long hi) (.long lo) .null .null) :: (r4, ob0 (.ref r5) (.ref r6) (.ref r7) (.long (0 : Int64)) (.int (1 : Int32))) :: (r1, .inr (.long, List.map Value.long (z4))) :: (r2, .inr (.byte, List.map Value.int (fb ml pa f1))) :: (r5, .inr (.int, [(.int pa), (.int pb)])) :: (r6, .inr (.long, [(.long (0 : Int64)), (.long (0 : Int64))])) :: (r7, .inr (.boolean, [(.int f1), (.int f2)])) :: RR)) rfl rfl
          refine A.callP (q := 319) (i := 0) (w1 := 111) (w2 := 113) (w3 := 2) (w4 := 114) (w5 := 1) (w6 := 112) (a := r0) (as := [(.int pb)]) (st := []) (W := 0) d12_316 rfl rfl rfl rfl rfl rfl rfl rfl (rmH l Z a0 hw n0 r0 pb r1 r2 (cnt (fb ml pa f1)) (0 : Int64) hi lo .null _) (by decide) ⟨_, _, pd_1, rfl⟩ rfl rfl rfl (by decide) (by decide) (by decide) (by decide) ?_
          rintro _ T _ ⟨rfl, rfl⟩ A
          show Go p e below _ (T.setTop (mkF m 319 #[.val (.ref r0), .val (.ref r4), .val (.ref r5), .val (.int j10), .val (.int v12), .val (.long (0 : Int64)), .second, .val (.long hi), .second, .val (.long lo), .second, .val (.long (0 : Int64)), .second, .val (.long j22), .second, .val (.long j23), .second, .val (.int (1 : Int32)), .val (.int pb), .val (.long (0 : Int64)), .second] []))
          refine A.lload (q := 321) d12_319 rfl rfl ?_
          refine A.lload (q := 323) d12_321 rfl rfl ?_
          refine A.callS (q := 326) (w1 := 117) (w2 := 118) (w3 := 93) (w4 := 119) (as := [(.long j22), (.long (0 : Int64))]) (st := []) (W := 0) d12_323 rfl rfl rfl rfl rfl (rmmax l Z a0 hw n0 j22 (0 : Int64) _) (by decide) ⟨_, _, pd_7, rfl⟩ rfl rfl rfl (by decide) (by decide) (by decide) (by decide) ?_
          rintro _ T _ ⟨rfl, rfl⟩ A
          show Go p e below _ (T.setTop (mkF m 326 #[.val (.ref r0), .val (.ref r4), .val (.ref r5), .val (.int j10), .val (.int v12), .val (.long (0 : Int64)), .second, .val (.long hi), .second, .val (.long lo), .second, .val (.long (0 : Int64)), .second, .val (.long j22), .second, .val (.long j23), .second, .val (.int (1 : Int32)), .val (.int pb), .val (.long (0 : Int64)), .second] [(.long (Fmax j22 (0 : Int64)))]))
          obtain ⟨v32, e32⟩ : ∃ v : Int64, (Fmax j22 (0 : Int64)) = v := ⟨_, rfl⟩
          rw [e32]
          refine A.lstore (q := 328) (l' := #[.val (.ref r0), .val (.ref r4), .val (.ref r5), .val (.int j10), .val (.int v12), .val (.long (0 : Int64)), .second, .val (.long hi), .second, .val (.long lo), .second, .val (.long (0 : Int64)), .second, .val (.long v32), .second, .val (.long j23), .second, .val (.int (1 : Int32)), .val (.int pb), .val (.long (0 : Int64)), .second]) d12_326 rfl rfl ?_
          refine A.lload (q := 330) d12_328 rfl rfl ?_
          refine A.lload (q := 332) d12_330 rfl rfl ?_
          refine A.callS (q := 335) (w1 := 120) (w2 := 121) (w3 := 93) (w4 := 122) (as := [(.long j23), (.long (0 : Int64))]) (st := []) (W := 0) d12_332 rfl rfl rfl rfl rfl (rmmin l Z a0 hw n0 j23 (0 : Int64) _) (by decide) ⟨_, _, pd_7, rfl⟩ rfl rfl rfl (by decide) (by decide) (by decide) (by decide) ?_
          rintro _ T _ ⟨rfl, rfl⟩ A
          show Go p e below _ (T.setTop (mkF m 335 #[.val (.ref r0), .val (.ref r4), .val (.ref r5), .val (.int j10), .val (.int v12), .val (.long (0 : Int64)), .second, .val (.long hi), .second, .val (.long lo), .second, .val (.long (0 : Int64)), .second, .val (.long v32), .second, .val (.long j23), .second, .val (.int (1 : Int32)), .val (.int pb), .val (.long (0 : Int64)), .second] [(.long (Fmin j23 (0 : Int64)))]))
          obtain ⟨v33, e33⟩ : ∃ v : Int64, (Fmin j23 (0 : Int64)) = v := ⟨_, rfl⟩
          rw [e33]
          refine A.lstore (q := 337) (l' := #[.val (.ref r0), .val (.ref r4), .val (.ref r5), .val (.int j10), .val (.int v12), .val (.long (0 : Int64)), .second, .val (.long hi), .second, .val (.long lo), .second, .val (.long (0 : Int64)), .second, .val (.long v32), .second, .val (.long v33), .second, .val (.int (1 : Int32)), .val (.int pb), .val (.long (0 : Int64)), .second]) d12_335 rfl rfl ?_
          exact J248_39 T _ _ _ _ _ ((fb ml pa f1)) (by first | (simp only [e29, e32, e33, if_pos h30, if_pos h31]; done) | (subst e29 e32 e33; simp only [if_pos h30, if_pos h31])) (by first | (simp only [e29, e32, e33, if_pos h30, if_pos h31]; done) | (subst e29 e32 e33; simp only [if_pos h30, if_pos h31])) (by first | exact Two.u | exact Two.v | assumption) (by first | exact Two.u | exact Two.v | assumption) (by first | (simp only [e29, e32, e33, if_pos h30, if_pos h31]; done) | (subst e29 e32 e33; simp only [if_pos h30, if_pos h31])) (by first | (simp only [e29, e32, e33, if_pos h30, if_pos h31]; done) | (subst e29 e32 e33; simp only [if_pos h30, if_pos h31])) A
        · refine A.aloadN (q := 277) d12_276 rfl rfl rfl ?_
          refine A.iload (q := 279) d12_277 rfl rfl ?_
          have A := A.front (i := 2) rfl rfl
          have A := A.front (i := 2) (L' := ((r0, ob1 (.ref r1) (.ref r2) (.int (cnt (fb ml pa f1))) (.long (0 : Int64)) (.long hi) (.long lo) .null .null) :: (r2, .inr (.byte, List.map Value.int (fb ml pa f1))) :: (r4, ob0 (.ref r5) (.ref r6) (.ref r7) (.long (0 : Int64)) (.int (1 : Int32))) :: (r1, .inr (.long, List.map Value.long (z4))) :: (r5, .inr (.int, [(.int pa), (.int pb)])) :: (r6, .inr (.long, [(.long (0 : Int64)), (.long (0 : Int64))])) :: (r7, .inr (.boolean, [(.int f1), (.int f2)])) :: RR)) rfl rfl
          refine A.callP (q := 282) (i := 0) (w1 := 126) (w2 := 128) (w3 := 2) (w4 := 129) (w5 := 1) (w6 := 127) (a := r0) (as := [(.int pb)]) (st := []) (W := 0) d12_279 rfl rfl rfl rfl rfl rfl rfl rfl (rmO l Z a0 hw n0 r0 pb r1 r2 (cnt (fb ml pa f1)) (0 : Int64) hi lo .null (fb ml pa f1) _ nq.1 (by rw [(show (fb ml pa f1).length = 4 by simp only [List.length_set, own_u1len, own_fblen, own_mkLlen, own_l2Llen, own_uLlen, own_umlen, len_ml])]; exact nq.2.1)) (by decide) ⟨_, _, pd_1, rfl⟩ rfl rfl rfl (by decide) (by decide) (by decide) (by decide) ?_
          rintro _ T _ ⟨rfl, rfl⟩ A
          show Go p e below _ (T.setTop (mkF m 282 #[.val (.ref r0), .val (.ref r4), .val (.ref r5), .val (.int j10), .val (.int v12), .val (.long (0 : Int64)), .second, .val (.long hi), .second, .val (.long lo), .second, .val (.long (0 : Int64)), .second, .val (.long j22), .second, .val (.long j23), .second, .val (.int (1 : Int32)), .val (.int pb), s24, s25] []))
          refine A.goto (r := 337) d12_282 (by decide) ?_
          have A := A.front (i := 6) rfl rfl
          have A := A.front (i := 6) rfl rfl
          have A := A.front (i := 6) rfl rfl
          have A := A.front (i := 4) rfl rfl
          have A := A.front (i := 6) rfl rfl
          have A := A.front (i := 6) rfl rfl
          have A := A.front (i := 6) (L' := ((r0, ob1 (.ref r1) (.ref r2) (.int ((cnt (fb ml pa f1)) - (1 : Int32))) (.long (0 : Int64)) (.long hi) (.long lo) .null .null) :: (r4, ob0 (.ref r5) (.ref r6) (.ref r7) (.long (0 : Int64)) (.int (1 : Int32))) :: (r1, .inr (.long, List.map Value.long (z4))) :: (r2, .inr (.byte, List.map Value.int ((fb ml pa f1).set (pb).toNatClampNeg ((((fb ml pa f1).getD (pb).toNatClampNeg (0 : Int32)) ||| (1 : Int32)).toInt8.toInt32)))) :: (r5, .inr (.int, [(.int pa), (.int pb)])) :: (r6, .inr (.long, [(.long (0 : Int64)), (.long (0 : Int64))])) :: (r7, .inr (.boolean, [(.int f1), (.int f2)])) :: RR)) rfl rfl
          exact J248_39 T _ _ _ _ _ (((fb ml pa f1).set (pb).toNatClampNeg ((((fb ml pa f1).getD (pb).toNatClampNeg (0 : Int32)) ||| (1 : Int32)).toInt8.toInt32))) (by simp only [e29, if_neg h31, if_pos h30]) (by simp only [e29, if_neg h31, if_pos h30]) (by first | exact Two.u | exact Two.v | assumption) (by first | exact Two.u | exact Two.v | assumption) (by simp only [e29, if_neg h31, if_pos h30]) (by simp only [e29, if_neg h31, if_pos h30]) A
      · refine A.goto (r := 337) d12_263 (by decide) ?_
        have A := A.front (i := 6) rfl rfl
        have A := A.front (i := 6) rfl rfl
        have A := A.front (i := 6) rfl rfl
        have A := A.front (i := 4) rfl rfl
        have A := A.front (i := 6) rfl rfl
        have A := A.front (i := 6) rfl rfl
        have A := A.front (i := 6) (L' := ((r0, ob1 (.ref r1) (.ref r2) (.int (cnt (fb ml pa f1))) (.long (0 : Int64)) (.long hi) (.long lo) .null .null) :: (r4, ob0 (.ref r5) (.ref r6) (.ref r7) (.long (0 : Int64)) (.int (1 : Int32))) :: (r1, .inr (.long, List.map Value.long (z4))) :: (r2, .inr (.byte, List.map Value.int (fb ml pa f1))) :: (r5, .inr (.int, [(.int pa), (.int pb)])) :: (r6, .inr (.long, [(.long (0 : Int64)), (.long (0 : Int64))])) :: (r7, .inr (.boolean, [(.int f1), (.int f2)])) :: RR)) rfl rfl
        exact J248_39 T _ _ _ _ _ ((fb ml pa f1)) (by simp only [e29, if_neg h30]) (by simp only [e29, if_neg h30]) (by first | exact Two.u | exact Two.v | assumption) (by first | exact Two.u | exact Two.v | assumption) (by simp only [e29, if_neg h30]) (by simp only [e29, if_neg h30]) A
     refine A.aloadN (q := 249) d12_248 rfl rfl rfl ?_
     refine A.iload (q := 251) d12_249 rfl rfl ?_
     refine A.iaload (q := 252) (i := 1) (v := (.int pa)) d12_251 rfl rfl (by decide) rfl ?_
     refine A.istore (q := 254) (l' := #[.val (.ref r0), .val (.ref r4), .val (.ref r5), .val (.int j10), .val (.int v12), .val (.long (0 : Int64)), .second, .val (.long hi), .second, .val (.long lo), .second, .val (.long (0 : Int64)), .second, .val (.long (-9223372036854775808 : Int64)), .second, .val (.long (9223372036854775807 : Int64)), .second, .val (.int (0 : Int32)), .val (.int pa), .unset, .unset]) d12_252 rfl rfl ?_
     refine A.aloadN (q := 255) d12_254 rfl rfl rfl ?_
     refine A.iload (q := 257) d12_255 rfl rfl ?_
     have A := A.front (i := 5) rfl rfl
     have A := A.front (i := 5) (L' := ((r0, ob1 (.ref r1) (.ref r2) (.int al) (.long (0 : Int64)) (.long hi) (.long lo) .null .null) :: (r2, .inr (.byte, List.map Value.int ml)) :: (r4, ob0 (.ref r5) (.ref r6) (.ref r7) (.long (0 : Int64)) (.int (1 : Int32))) :: (r5, .inr (.int, [(.int pa), (.int pb)])) :: (r6, .inr (.long, [(.long (0 : Int64)), (.long (0 : Int64))])) :: (r7, .inr (.boolean, [(.int f1), (.int f2)])) :: (r1, .inr (.long, List.map Value.long (z4))) :: RR)) rfl rfl
     refine A.callV (q := 260) (i := 0) (w1 := 73) (w2 := 18) (w3 := 2) (w4 := 21) (w5 := 20) (w6 := 19) (a := r0) (as := [(.int pa)]) (st := []) (W := 0) d12_257 rfl rfl rfl rfl rfl rfl rfl rfl (rmF l Z a0 hw n0 r0 pa r1 r2 al (0 : Int64) hi lo .null .null ml _ np.1 (by rw [len_ml]; exact np.2.1)) (by decide) ⟨_, _, pd_2, rfl⟩ rfl rfl rfl (by decide) (by decide) (by decide) (by decide) ?_
     rintro _ T _ ⟨rfl, rfl⟩ A
     show Go p e below _ (T.setTop (mkF m 260 #[.val (.ref r0), .val (.ref r4), .val (.ref r5), .val (.int j10), .val (.int v12), .val (.long (0 : Int64)), .second, .val (.long hi), .second, .val (.long lo), .second, .val (.long (0 : Int64)), .second, .val (.long (-9223372036854775808 : Int64)), .second, .val (.long (9223372036854775807 : Int64)), .second, .val (.int (0 : Int32)), .val (.int pa), .unset, .unset] [(.int (FF pa ml))]))
     obtain ⟨v17, e17⟩ : ∃ v : Int32, (FF pa ml) = v := ⟨_, rfl⟩
     rw [e17]
     refine A.if_eq (q := 263) (r := 266) d12_260 rfl (by decide) (fun h18 => ?_) (fun h18 => ?_)
     · refine A.aloadN (q := 267) d12_266 rfl rfl rfl ?_
       have A := A.front (i := 2) (L' := ((r4, ob0 (.ref r5) (.ref r6) (.ref r7) (.long (0 : Int64)) (.int (1 : Int32))) :: (r0, ob1 (.ref r1) (.ref r2) (.int al) (.long (0 : Int64)) (.long hi) (.long lo) .null .null) :: (r2, .inr (.byte, List.map Value.int ml)) :: (r5, .inr (.int, [(.int pa), (.int pb)])) :: (r6, .inr (.long, [(.long (0 : Int64)), (.long (0 : Int64))])) :: (r7, .inr (.boolean, [(.int f1), (.int f2)])) :: (r1, .inr (.long, List.map Value.long (z4))) :: RR)) rfl rfl
       refine A.callV (q := 270) (i := 0) (w1 := 74) (w2 := 75) (w3 := 39) (w4 := 78) (w5 := 77) (w6 := 76) (a := r4) (as := []) (st := []) (W := 0) d12_267 rfl rfl rfl rfl rfl rfl rfl rfl (rm13 l Z a0 hw n0 r4 r5 r6 r7 (0 : Int64) (1 : Int32) _) (by decide) ⟨_, _, pd_4, rfl⟩ rfl rfl rfl (by decide) (by decide) (by decide) (by decide) ?_
       rintro _ T _ ⟨rfl, rfl⟩ A
       show Go p e below _ (T.setTop (mkF m 270 #[.val (.ref r0), .val (.ref r4), .val (.ref r5), .val (.int j10), .val (.int v12), .val (.long (0 : Int64)), .second, .val (.long hi), .second, .val (.long lo), .second, .val (.long (0 : Int64)), .second, .val (.long (-9223372036854775808 : Int64)), .second, .val (.long (9223372036854775807 : Int64)), .second, .val (.int (0 : Int32)), .val (.int pa), .unset, .unset] [(.ref r7)]))
       refine A.iload (q := 272) d12_270 rfl rfl ?_
       refine A.baloadZ (q := 273) (i := 5) (v := (.int f1)) d12_272 rfl rfl (by decide) rfl ?_
       refine A.if_eq (q := 276) (r := 285) d12_273 rfl (by decide) (fun h19 => ?_) (fun h19 => ?_)
       · refine A.aloadN (q := 286) d12_285 rfl rfl rfl ?_
         refine A.iload (q := 288) d12_286 rfl rfl ?_
         have A := A.front (i := 6) rfl rfl
         have A := A.front (i := 2) (L' := ((r0, ob1 (.ref r1) (.ref r2) (.int al) (.long (0 : Int64)) (.long hi) (.long lo) .null .null) :: (r1, .inr (.long, List.map Value.long (z4))) :: (r4, ob0 (.ref r5) (.ref r6) (.ref r7) (.long (0 : Int64)) (.int (1 : Int32))) :: (r2, .inr (.byte, List.map Value.int ml)) :: (r5, .inr (.int, [(.int pa), (.int pb)])) :: (r6, .inr (.long, [(.long (0 : Int64)), (.long (0 : Int64))])) :: (r7, .inr (.boolean, [(.int f1), (.int f2)])) :: RR)) rfl rfl
         refine A.callV (q := 291) (i := 0) (w1 := 79) (w2 := 80) (w3 := 2) (w4 := 83) (w5 := 82) (w6 := 81) (a := r0) (as := [(.int pa)]) (st := []) (W := 0) d12_288 rfl rfl rfl rfl rfl rfl rfl rfl (rmC l Z a0 hw n0 r0 pa r1 r2 al hi lo .null .null (z4) _ np.1 np.2.2.1) (by decide) ⟨_, _, pd_5, rfl⟩ rfl rfl rfl (by decide) (by decide) (by decide) (by decide) ?_
         rintro _ T _ ⟨rfl, rfl⟩ A
         show Go p e below _ (T.setTop (mkF m 291 #[.val (.ref r0), .val (.ref r4), .val (.ref r5), .val (.int j10), .val (.int v12), .val (.long (0 : Int64)), .second, .val (.long hi), .second, .val (.long lo), .second, .val (.long (0 : Int64)), .second, .val (.long (-9223372036854775808 : Int64)), .second, .val (.long (9223372036854775807 : Int64)), .second, .val (.int (0 : Int32)), .val (.int pa), .unset, .unset] [(.long (0 : Int64))]))
         refine A.aloadN (q := 292) d12_291 rfl rfl rfl ?_
         have A := A.front (i := 2) (L' := ((r4, ob0 (.ref r5) (.ref r6) (.ref r7) (.long (0 : Int64)) (.int (1 : Int32))) :: (r0, ob1 (.ref r1) (.ref r2) (.int al) (.long (0 : Int64)) (.long hi) (.long lo) .null .null) :: (r1, .inr (.long, List.map Value.long (z4))) :: (r2, .inr (.byte, List.map Value.int ml)) :: (r5, .inr (.int, [(.int pa), (.int pb)])) :: (r6, .inr (.long, [(.long (0 : Int64)), (.long (0 : Int64))])) :: (r7, .inr (.boolean, [(.int f1), (.int f2)])) :: RR)) rfl rfl
         refine A.callV (q := 295) (i := 0) (w1 := 86) (w2 := 87) (w3 := 39) (w4 := 90) (w5 := 89) (w6 := 88) (a := r4) (as := []) (st := [(.long (0 : Int64))]) (W := 2) d12_292 rfl rfl rfl rfl rfl rfl rfl rfl (rm15 l Z a0 hw n0 r4 r5 r6 r7 (0 : Int64) (1 : Int32) _) (by decide) ⟨_, _, pd_6, rfl⟩ rfl rfl rfl (by decide) (by decide) (by decide) (by decide) ?_
         rintro _ T _ ⟨rfl, rfl⟩ A
         show Go p e below _ (T.setTop (mkF m 295 #[.val (.ref r0), .val (.ref r4), .val (.ref r5), .val (.int j10), .val (.int v12), .val (.long (0 : Int64)), .second, .val (.long hi), .second, .val (.long lo), .second, .val (.long (0 : Int64)), .second, .val (.long (-9223372036854775808 : Int64)), .second, .val (.long (9223372036854775807 : Int64)), .second, .val (.int (0 : Int32)), .val (.int pa), .unset, .unset] [(.ref r6), (.long (0 : Int64))]))
         refine A.iload (q := 297) d12_295 rfl rfl ?_
         refine A.laload (q := 298) (i := 5) (v := (.long (0 : Int64))) d12_297 rfl rfl (by decide) rfl ?_
         refine A.ladd (q := 299) (v := (0 : Int64)) d12_298 rfl (by decide) ?_
         refine A.lstore (q := 301) (l' := #[.val (.ref r0), .val (.ref r4), .val (.ref r5), .val (.int j10), .val (.int v12), .val (.long (0 : Int64)), .second, .val (.long hi), .second, .val (.long lo), .second, .val (.long (0 : Int64)), .second, .val (.long (-9223372036854775808 : Int64)), .second, .val (.long (9223372036854775807 : Int64)), .second, .val (.int (0 : Int32)), .val (.int pa), .val (.long (0 : Int64)), .second]) d12_299 rfl rfl ?_
         refine A.aloadN (q := 302) d12_301 rfl rfl rfl ?_
         refine A.getF (q := 305) (w := 10) (i := 1) (j := 0) d12_302 rfl rfl rfl rfl ?_
         intro T A
         refine A.iload (q := 307) d12_305 rfl rfl ?_
         refine A.lload (q := 309) d12_307 rfl rfl ?_
         refine A.lload (q := 311) d12_309 rfl rfl ?_
         refine A.lsub (q := 312) (v := (0 : Int64)) d12_311 rfl (by decide) ?_
         refine A.lastoreM (q := 313) (i := 2) (x' := (0 : Int64)) (L' := ((r4, ob0 (.ref r5) (.ref r6) (.ref r7) (.long (0 : Int64)) (.int (1 : Int32))) :: (r0, ob1 (.ref r1) (.ref r2) (.int al) (.long (0 : Int64)) (.long hi) (.long lo) .null .null) :: (r1, .inr (.long, List.map Value.long ((z4).set (pa).toNatClampNeg (0 : Int64)))) :: (r2, .inr (.byte, List.map Value.int ml)) :: (r5, .inr (.int, [(.int pa), (.int pb)])) :: (r6, .inr (.long, [(.long (0 : Int64)), (.long (0 : Int64))])) :: (r7, .inr (.boolean, [(.int f1), (.int f2)])) :: RR)) d12_312 rfl rfl np.1 np.2.1 rfl rfl ?_
         intro T A
         rw [np.2.2.2] at A
         have A : Here p l e ({ frames := 2, cells := 1, slots := 2, locals := 31 } : Room) s m ([(.ref r0), (.ref r4)] : List Value).toArray below meth c Z a0 tables_1 (⟨"com/example/forebound/forebound/problem/Sum", "addListed", "(Lcom/example/forebound/forebound/problem/Problem$Table;)V"⟩ : MethodName).cls (⟨"com/example/forebound/forebound/problem/Sum", "addListed", "(Lcom/example/forebound/forebound/problem/Problem$Table;)V"⟩ : MethodName).name prog_28_method_7_code 21 none n0 T ((r4, ob0 (.ref r5) (.ref r6) (.ref r7) (.long (0 : Int64)) (.int (1 : Int32))) :: (r0, ob1 (.ref r1) (.ref r2) (.int al) (.long (0 : Int64)) (.long hi) (.long lo) .null .null) :: (r1, .inr (.long, List.map Value.long (z4))) :: (r2, .inr (.byte, List.map Value.int ml)) :: (r5, .inr (.int, [(.int pa), (.int pb)])) :: (r6, .inr (.long, [(.long (0 : Int64)), (.long (0 : Int64))])) :: (r7, .inr (.boolean, [(.int f1), (.int f2)])) :: RR) 0 0 := A
         refine A.aloadN (q := 314) d12_313 rfl rfl rfl ?_
         refine A.iload (q := 316) d12_314 rfl rfl ?_
         have A := A.front (i := 1) (L' := ((r0, ob1 (.ref r1) (.ref r2) (.int al) (.long (0 : Int64)) (.long hi) (.long lo) .null .null) :: (r4, ob0 (.ref r5) (.ref r6) (.ref r7) (.long (0 : Int64)) (.int (1 : Int32))) :: (r1, .inr (.long, List.map Value.long (z4))) :: (r2, .inr (.byte, List.map Value.int ml)) :: (r5, .inr (.int, [(.int pa), (.int pb)])) :: (r6, .inr (.long, [(.long (0 : Int64)), (.long (0 : Int64))])) :: (r7, .inr (.boolean, [(.int f1), (.int f2)])) :: RR)) rfl rfl
         refine A.callP (q := 319) (i := 0) (w1 := 111) (w2 := 113) (w3 := 2) (w4 := 114) (w5 := 1) (w6 := 112) (a := r0) (as := [(.int pa)]) (st := []) (W := 0) d12_316 rfl rfl rfl rfl rfl rfl rfl rfl (rmH l Z a0 hw n0 r0 pa r1 r2 al (0 : Int64) hi lo .null _) (by decide) ⟨_, _, pd_1, rfl⟩ rfl rfl rfl (by decide) (by decide) (by decide) (by decide) ?_
         rintro _ T _ ⟨rfl, rfl⟩ A
         show Go p e below _ (T.setTop (mkF m 319 #[.val (.ref r0), .val (.ref r4), .val (.ref r5), .val (.int j10), .val (.int v12), .val (.long (0 : Int64)), .second, .val (.long hi), .second, .val (.long lo), .second, .val (.long (0 : Int64)), .second, .val (.long (-9223372036854775808 : Int64)), .second, .val (.long (9223372036854775807 : Int64)), .second, .val (.int (0 : Int32)), .val (.int pa), .val (.long (0 : Int64)), .second] []))
         refine A.lload (q := 321) d12_319 rfl rfl ?_
         refine A.lload (q := 323) d12_321 rfl rfl ?_
         refine A.callS (q := 326) (w1 := 117) (w2 := 118) (w3 := 93) (w4 := 119) (as := [(.long (-9223372036854775808 : Int64)), (.long (0 : Int64))]) (st := []) (W := 0) d12_323 rfl rfl rfl rfl rfl (rmmax l Z a0 hw n0 (-9223372036854775808 : Int64) (0 : Int64) _) (by decide) ⟨_, _, pd_7, rfl⟩ rfl rfl rfl (by decide) (by decide) (by decide) (by decide) ?_
         rintro _ T _ ⟨rfl, rfl⟩ A
         show Go p e below _ (T.setTop (mkF m 326 #[.val (.ref r0), .val (.ref r4), .val (.ref r5), .val (.int j10), .val (.int v12), .val (.long (0 : Int64)), .second, .val (.long hi), .second, .val (.long lo), .second, .val (.long (0 : Int64)), .second, .val (.long (-9223372036854775808 : Int64)), .second, .val (.long (9223372036854775807 : Int64)), .second, .val (.int (0 : Int32)), .val (.int pa), .val (.long (0 : Int64)), .second] [(.long (Fmax (-9223372036854775808 : Int64) (0 : Int64)))]))
         obtain ⟨v20, e20⟩ : ∃ v : Int64, (Fmax (-9223372036854775808 : Int64) (0 : Int64)) = v := ⟨_, rfl⟩
         rw [e20]
         refine A.lstore (q := 328) (l' := #[.val (.ref r0), .val (.ref r4), .val (.ref r5), .val (.int j10), .val (.int v12), .val (.long (0 : Int64)), .second, .val (.long hi), .second, .val (.long lo), .second, .val (.long (0 : Int64)), .second, .val (.long v20), .second, .val (.long (9223372036854775807 : Int64)), .second, .val (.int (0 : Int32)), .val (.int pa), .val (.long (0 : Int64)), .second]) d12_326 rfl rfl ?_
         refine A.lload (q := 330) d12_328 rfl rfl ?_
         refine A.lload (q := 332) d12_330 rfl rfl ?_
         refine A.callS (q := 335) (w1 := 120) (w2 := 121) (w3 := 93) (w4 := 122) (as := [(.long (9223372036854775807 : Int64)), (.long (0 : Int64))]) (st := []) (W := 0) d12_332 rfl rfl rfl rfl rfl (rmmin l Z a0 hw n0 (9223372036854775807 : Int64) (0 : Int64) _) (by decide) ⟨_, _, pd_7, rfl⟩ rfl rfl rfl (by decide) (by decide) (by decide) (by decide) ?_
         rintro _ T _ ⟨rfl, rfl⟩ A
         show Go p e below _ (T.setTop (mkF m 335 #[.val (.ref r0), .val (.ref r4), .val (.ref r5), .val (.int j10), .val (.int v12), .val (.long (0 : Int64)), .second, .val (.long hi), .second, .val (.long lo), .second, .val (.long (0 : Int64)), .second, .val (.long v20), .second, .val (.long (9223372036854775807 : Int64)), .second, .val (.int (0 : Int32)), .val (.int pa), .val (.long (0 : Int64)), .second] [(.long (Fmin (9223372036854775807 : Int64) (0 : Int64)))]))
         obtain ⟨v21, e21⟩ : ∃ v : Int64, (Fmin (9223372036854775807 : Int64) (0 : Int64)) = v := ⟨_, rfl⟩
         rw [e21]
         refine A.lstore (q := 337) (l' := #[.val (.ref r0), .val (.ref r4), .val (.ref r5), .val (.int j10), .val (.int v12), .val (.long (0 : Int64)), .second, .val (.long hi), .second, .val (.long lo), .second, .val (.long (0 : Int64)), .second, .val (.long v20), .second, .val (.long v21), .second, .val (.int (0 : Int32)), .val (.int pa), .val (.long (0 : Int64)), .second]) d12_335 rfl rfl ?_
         exact J248_27 T _ _ _ _ _ (ml) (by first | (simp only [e17, e20, e21, if_pos h18, if_pos h19]; done) | (subst e17 e20 e21; simp only [if_pos h18, if_pos h19])) (by first | (simp only [e17, e20, e21, if_pos h18, if_pos h19]; done) | (subst e17 e20 e21; simp only [if_pos h18, if_pos h19])) (by first | exact Two.u | exact Two.v | assumption) (by first | exact Two.u | exact Two.v | assumption) (by first | (simp only [e17, e20, e21, if_pos h18, if_pos h19]; done) | (subst e17 e20 e21; simp only [if_pos h18, if_pos h19])) (by first | (simp only [e17, e20, e21, if_pos h18, if_pos h19]; done) | (subst e17 e20 e21; simp only [if_pos h18, if_pos h19])) A
       · refine A.aloadN (q := 277) d12_276 rfl rfl rfl ?_
         refine A.iload (q := 279) d12_277 rfl rfl ?_
         have A := A.front (i := 2) rfl rfl
         have A := A.front (i := 2) (L' := ((r0, ob1 (.ref r1) (.ref r2) (.int al) (.long (0 : Int64)) (.long hi) (.long lo) .null .null) :: (r2, .inr (.byte, List.map Value.int ml)) :: (r4, ob0 (.ref r5) (.ref r6) (.ref r7) (.long (0 : Int64)) (.int (1 : Int32))) :: (r5, .inr (.int, [(.int pa), (.int pb)])) :: (r6, .inr (.long, [(.long (0 : Int64)), (.long (0 : Int64))])) :: (r7, .inr (.boolean, [(.int f1), (.int f2)])) :: (r1, .inr (.long, List.map Value.long (z4))) :: RR)) rfl rfl
         refine A.callP (q := 282) (i := 0) (w1 := 126) (w2 := 128) (w3 := 2) (w4 := 129) (w5 := 1) (w6 := 127) (a := r0) (as := [(.int pa)]) (st := []) (W := 0) d12_279 rfl rfl rfl rfl rfl rfl rfl rfl (rmO l Z a0 hw n0 r0 pa r1 r2 al (0 : Int64) hi lo .null ml _ np.1 (by rw [len_ml]; exact np.2.1)) (by decide) ⟨_, _, pd_1, rfl⟩ rfl rfl rfl (by decide) (by decide) (by decide) (by decide) ?_
         rintro _ T _ ⟨rfl, rfl⟩ A
         show Go p e below _ (T.setTop (mkF m 282 #[.val (.ref r0), .val (.ref r4), .val (.ref r5), .val (.int j10), .val (.int v12), .val (.long (0 : Int64)), .second, .val (.long hi), .second, .val (.long lo), .second, .val (.long (0 : Int64)), .second, .val (.long (-9223372036854775808 : Int64)), .second, .val (.long (9223372036854775807 : Int64)), .second, .val (.int (0 : Int32)), .val (.int pa), .unset, .unset] []))
         refine A.goto (r := 337) d12_282 (by decide) ?_
         have A := A.front (i := 5) rfl rfl
         have A := A.front (i := 5) rfl rfl
         have A := A.front (i := 5) rfl rfl
         have A := A.front (i := 4) rfl rfl
         have A := A.front (i := 6) rfl rfl
         have A := A.front (i := 6) rfl rfl
         have A := A.front (i := 6) (L' := ((r0, ob1 (.ref r1) (.ref r2) (.int (al - (1 : Int32))) (.long (0 : Int64)) (.long hi) (.long lo) .null .null) :: (r4, ob0 (.ref r5) (.ref r6) (.ref r7) (.long (0 : Int64)) (.int (1 : Int32))) :: (r1, .inr (.long, List.map Value.long (z4))) :: (r2, .inr (.byte, List.map Value.int (ml.set (pa).toNatClampNeg (((ml.getD (pa).toNatClampNeg (0 : Int32)) ||| (1 : Int32)).toInt8.toInt32)))) :: (r5, .inr (.int, [(.int pa), (.int pb)])) :: (r6, .inr (.long, [(.long (0 : Int64)), (.long (0 : Int64))])) :: (r7, .inr (.boolean, [(.int f1), (.int f2)])) :: RR)) rfl rfl
         exact J248_27 T _ _ _ _ _ ((ml.set (pa).toNatClampNeg (((ml.getD (pa).toNatClampNeg (0 : Int32)) ||| (1 : Int32)).toInt8.toInt32))) (by simp only [e17, if_neg h19, if_pos h18]) (by simp only [e17, if_neg h19, if_pos h18]) (by first | exact Two.u | exact Two.v | assumption) (by first | exact Two.u | exact Two.v | assumption) (by simp only [e17, if_neg h19, if_pos h18]) (by simp only [e17, if_neg h19, if_pos h18]) A
     · refine A.goto (r := 337) d12_263 (by decide) ?_
       have A := A.front (i := 5) rfl rfl
       have A := A.front (i := 5) rfl rfl
       have A := A.front (i := 5) rfl rfl
       have A := A.front (i := 4) rfl rfl
       have A := A.front (i := 6) rfl rfl
       have A := A.front (i := 6) rfl rfl
       have A := A.front (i := 6) (L' := ((r0, ob1 (.ref r1) (.ref r2) (.int al) (.long (0 : Int64)) (.long hi) (.long lo) .null .null) :: (r4, ob0 (.ref r5) (.ref r6) (.ref r7) (.long (0 : Int64)) (.int (1 : Int32))) :: (r1, .inr (.long, List.map Value.long (z4))) :: (r2, .inr (.byte, List.map Value.int ml)) :: (r5, .inr (.int, [(.int pa), (.int pb)])) :: (r6, .inr (.long, [(.long (0 : Int64)), (.long (0 : Int64))])) :: (r7, .inr (.boolean, [(.int f1), (.int f2)])) :: RR)) rfl rfl
       exact J248_27 T _ _ _ _ _ (ml) (by simp only [e17, if_neg h18]) (by simp only [e17, if_neg h18]) (by first | exact Two.u | exact Two.v | assumption) (by first | exact Two.u | exact Two.v | assumption) (by simp only [e17, if_neg h18]) (by simp only [e17, if_neg h18]) A
    refine A.iload (q := 105) d12_103 rfl rfl ?_
    refine A.if_le (q := 108) (r := 161) d12_105 rfl (by decide) (fun h13 => ?_) (fun h13 => ?_)
    · refine A.iload (q := 163) d12_161 rfl rfl ?_
      refine A.ifT (r := 219) d12_163 (by decide) ((if0 _ _).trans (flt h13).2.2.2) ?_
      exact J103_15 T  A
    · refine A.lload (q := 110) d12_108 rfl rfl ?_
      refine A.lconst (q := 111) (v := (0 : Int64)) d12_110 rfl (by decide) ?_
      refine A.lcmp_le (q := 112) (q2 := 115) (r := 161) d12_111 rfl d12_112 rfl (by decide) (fun _ => ?_) (fun h => ((show ¬ ((0 : Int64) < (0 : Int64)) by decide) h).elim)
      refine A.iload (q := 163) d12_161 rfl rfl ?_
      refine A.ifF (q := 166) d12_163 rfl ((if0 _ _).trans (tlt h13).2.2.2) ?_
      refine A.lload (q := 168) d12_166 rfl rfl ?_
      refine A.lconst (q := 169) (v := (0 : Int64)) d12_168 rfl (by decide) ?_
      refine A.lcmp_ge (q := 170) (q2 := 173) (r := 219) d12_169 rfl d12_170 rfl (by decide) (fun _ => ?_) (fun h => ((show ¬ ((0 : Int64) < (0 : Int64)) by decide) h).elim)
      exact J103_15 T  A
   refine A.aloadN (q := 18) d12_17 rfl rfl rfl ?_
   refine A.aloadN (q := 19) d12_18 rfl rfl rfl ?_
   refine A.iload (q := 21) d12_19 rfl rfl ?_
   refine A.iaload (q := 22) (i := 4) (v := (.int pb)) d12_21 rfl rfl (by decide) rfl ?_
   refine A.callV (q := 25) (i := 0) (w1 := 73) (w2 := 18) (w3 := 2) (w4 := 21) (w5 := 20) (w6 := 19) (a := r0) (as := [(.int pb)]) (st := []) (W := 0) d12_22 rfl rfl rfl rfl rfl rfl rfl rfl (rmF l Z a0 hw n0 r0 pb r1 r2 al (0 : Int64) hi lo .null .null ml _ nq.1 (by rw [len_ml]; exact nq.2.1)) (by decide) ⟨_, _, pd_2, rfl⟩ rfl rfl rfl (by decide) (by decide) (by decide) (by decide) ?_
   rintro _ T _ ⟨rfl, rfl⟩ A
   show Go p e below _ (T.setTop (mkF m 25 #[.val (.ref r0), .val (.ref r4), .val (.ref r5), .val (.int j4), .val (.int (1 : Int32)), .unset, .unset, .unset, .unset, .unset, .unset, .unset, .unset, .unset, .unset, .unset, .unset, .unset, .unset, .unset, .unset] [(.int (FF pb ml))]))
   obtain ⟨v6, e6⟩ : ∃ v : Int32, (FF pb ml) = v := ⟨_, rfl⟩
   rw [e6]
   refine A.if_ne (q := 28) (r := 60) d12_25 rfl (by decide) (fun h7 => ?_) (fun h7 => ?_)
   · exact J17_10 T _ (by simp only [e6, if_neg h7]) A
   · obtain ⟨v8, e8⟩ : ∃ v : Int32, j4 + Int32.ofInt 1 = v := ⟨_, rfl⟩
     refine A.iinc (q := 31) (l' := #[.val (.ref r0), .val (.ref r4), .val (.ref r5), .val (.int v8), .val (.int (1 : Int32)), .unset, .unset, .unset, .unset, .unset, .unset, .unset, .unset, .unset, .unset, .unset, .unset, .unset, .unset, .unset, .unset]) d12_28 rfl rfl e8 rfl ?_
     refine A.aloadN (q := 32) d12_31 rfl rfl rfl ?_
     have A := A.front (i := 2) (L' := ((r4, ob0 (.ref r5) (.ref r6) (.ref r7) (.long (0 : Int64)) (.int (1 : Int32))) :: (r0, ob1 (.ref r1) (.ref r2) (.int al) (.long (0 : Int64)) (.long hi) (.long lo) .null .null) :: (r2, .inr (.byte, List.map Value.int ml)) :: (r1, .inr (.long, List.map Value.long (z4))) :: (r5, .inr (.int, [(.int pa), (.int pb)])) :: (r6, .inr (.long, [(.long (0 : Int64)), (.long (0 : Int64))])) :: (r7, .inr (.boolean, [(.int f1), (.int f2)])) :: RR)) rfl rfl
     refine A.callV (q := 35) (i := 0) (w1 := 74) (w2 := 75) (w3 := 39) (w4 := 78) (w5 := 77) (w6 := 76) (a := r4) (as := []) (st := []) (W := 0) d12_32 rfl rfl rfl rfl rfl rfl rfl rfl (rm13 l Z a0 hw n0 r4 r5 r6 r7 (0 : Int64) (1 : Int32) _) (by decide) ⟨_, _, pd_4, rfl⟩ rfl rfl rfl (by decide) (by decide) (by decide) (by decide) ?_
     rintro _ T _ ⟨rfl, rfl⟩ A
     show Go p e below _ (T.setTop (mkF m 35 #[.val (.ref r0), .val (.ref r4), .val (.ref r5), .val (.int v8), .val (.int (1 : Int32)), .unset, .unset, .unset, .unset, .unset, .unset, .unset, .unset, .unset, .unset, .unset, .unset, .unset, .unset, .unset, .unset] [(.ref r7)]))
     refine A.iload (q := 37) d12_35 rfl rfl ?_
     refine A.baloadZ (q := 38) (i := 6) (v := (.int f2)) d12_37 rfl rfl (by decide) rfl ?_
     refine A.if_ne (q := 41) (r := 60) d12_38 rfl (by decide) (fun h9 => ?_) (fun h9 => ?_)
     · have A := A.front (i := 6) rfl rfl
       have A := A.front (i := 6) rfl rfl
       have A := A.front (i := 6) rfl rfl
       have A := A.front (i := 6) rfl rfl
       have A := A.front (i := 4) rfl rfl
       have A := A.front (i := 6) rfl rfl
       have A := A.front (i := 6) (L' := ((r0, ob1 (.ref r1) (.ref r2) (.int al) (.long (0 : Int64)) (.long hi) (.long lo) .null .null) :: (r2, .inr (.byte, List.map Value.int ml)) :: (r4, ob0 (.ref r5) (.ref r6) (.ref r7) (.long (0 : Int64)) (.int (1 : Int32))) :: (r1, .inr (.long, List.map Value.long (z4))) :: (r5, .inr (.int, [(.int pa), (.int pb)])) :: (r6, .inr (.long, [(.long (0 : Int64)), (.long (0 : Int64))])) :: (r7, .inr (.boolean, [(.int f1), (.int f2)])) :: RR)) rfl rfl
       exact J17_10 T _ (by first | (simp only [e6, e8, if_neg h9, if_pos h7]; done) | (subst e6 e8; simp only [if_neg h9, if_pos h7])) A
     · refine A.aloadN (q := 42) d12_41 rfl rfl rfl ?_
       refine A.aloadN (q := 43) d12_42 rfl rfl rfl ?_
       refine A.iload (q := 45) d12_43 rfl rfl ?_
       refine A.iaload (q := 46) (i := 4) (v := (.int pb)) d12_45 rfl rfl (by decide) rfl ?_
       have A := A.front (i := 3) rfl rfl
       have A := A.front (i := 2) (L' := ((r0, ob1 (.ref r1) (.ref r2) (.int al) (.long (0 : Int64)) (.long hi) (.long lo) .null .null) :: (r1, .inr (.long, List.map Value.long (z4))) :: (r4, ob0 (.ref r5) (.ref r6) (.ref r7) (.long (0 : Int64)) (.int (1 : Int32))) :: (r2, .inr (.byte, List.map Value.int ml)) :: (r5, .inr (.int, [(.int pa), (.int pb)])) :: (r6, .inr (.long, [(.long (0 : Int64)), (.long (0 : Int64))])) :: (r7, .inr (.boolean, [(.int f1), (.int f2)])) :: RR)) rfl rfl
       refine A.callV (q := 49) (i := 0) (w1 := 79) (w2 := 80) (w3 := 2) (w4 := 83) (w5 := 82) (w6 := 81) (a := r0) (as := [(.int pb)]) (st := []) (W := 0) d12_46 rfl rfl rfl rfl rfl rfl rfl rfl (rmC l Z a0 hw n0 r0 pb r1 r2 al hi lo .null .null (z4) _ nq.1 nq.2.2.1) (by decide) ⟨_, _, pd_5, rfl⟩ rfl rfl rfl (by decide) (by decide) (by decide) (by decide) ?_
       rintro _ T _ ⟨rfl, rfl⟩ A
       show Go p e below _ (T.setTop (mkF m 49 #[.val (.ref r0), .val (.ref r4), .val (.ref r5), .val (.int v8), .val (.int (1 : Int32)), .unset, .unset, .unset, .unset, .unset, .unset, .unset, .unset, .unset, .unset, .unset, .unset, .unset, .unset, .unset, .unset] [(.long (0 : Int64))]))
       refine A.aloadN (q := 50) d12_49 rfl rfl rfl ?_
       have A := A.front (i := 2) (L' := ((r4, ob0 (.ref r5) (.ref r6) (.ref r7) (.long (0 : Int64)) (.int (1 : Int32))) :: (r0, ob1 (.ref r1) (.ref r2) (.int al) (.long (0 : Int64)) (.long hi) (.long lo) .null .null) :: (r1, .inr (.long, List.map Value.long (z4))) :: (r2, .inr (.byte, List.map Value.int ml)) :: (r5, .inr (.int, [(.int pa), (.int pb)])) :: (r6, .inr (.long, [(.long (0 : Int64)), (.long (0 : Int64))])) :: (r7, .inr (.boolean, [(.int f1), (.int f2)])) :: RR)) rfl rfl
       refine A.callV (q := 53) (i := 0) (w1 := 86) (w2 := 87) (w3 := 39) (w4 := 90) (w5 := 89) (w6 := 88) (a := r4) (as := []) (st := [(.long (0 : Int64))]) (W := 2) d12_50 rfl rfl rfl rfl rfl rfl rfl rfl (rm15 l Z a0 hw n0 r4 r5 r6 r7 (0 : Int64) (1 : Int32) _) (by decide) ⟨_, _, pd_6, rfl⟩ rfl rfl rfl (by decide) (by decide) (by decide) (by decide) ?_
       rintro _ T _ ⟨rfl, rfl⟩ A
       show Go p e below _ (T.setTop (mkF m 53 #[.val (.ref r0), .val (.ref r4), .val (.ref r5), .val (.int v8), .val (.int (1 : Int32)), .unset, .unset, .unset, .unset, .unset, .unset, .unset, .unset, .unset, .unset, .unset, .unset, .unset, .unset, .unset, .unset] [(.ref r6), (.long (0 : Int64))]))
       refine A.iload (q := 55) d12_53 rfl rfl ?_
       refine A.laload (q := 56) (i := 5) (v := (.long (0 : Int64))) d12_55 rfl rfl (by decide) rfl ?_
       refine A.callS (q := 59) (w1 := 91) (w2 := 92) (w3 := 93) (w4 := 94) (as := [(.long (0 : Int64)), (.long (0 : Int64))]) (st := []) (W := 0) d12_56 rfl rfl rfl rfl rfl (rm16_1 l Z a0 hw n0  _) (by decide) ⟨_, _, pd_7, rfl⟩ rfl rfl rfl (by decide) (by decide) (by decide) (by decide) ?_
       rintro _ T _ ⟨rfl, rfl⟩ A
       show Go p e below _ (T.setTop (mkF m 59 #[.val (.ref r0), .val (.ref r4), .val (.ref r5), .val (.int v8), .val (.int (1 : Int32)), .unset, .unset, .unset, .unset, .unset, .unset, .unset, .unset, .unset, .unset, .unset, .unset, .unset, .unset, .unset, .unset] [(.long (0 : Int64))]))
       refine A.pop2L (q := 60) d12_59 rfl ?_
       have A := A.front (i := 6) rfl rfl
       have A := A.front (i := 6) rfl rfl
       have A := A.front (i := 6) rfl rfl
       have A := A.front (i := 5) rfl rfl
       have A := A.front (i := 4) rfl rfl
       have A := A.front (i := 6) rfl rfl
       have A := A.front (i := 6) (L' := ((r0, ob1 (.ref r1) (.ref r2) (.int al) (.long (0 : Int64)) (.long hi) (.long lo) .null .null) :: (r2, .inr (.byte, List.map Value.int ml)) :: (r4, ob0 (.ref r5) (.ref r6) (.ref r7) (.long (0 : Int64)) (.int (1 : Int32))) :: (r1, .inr (.long, List.map Value.long (z4))) :: (r5, .inr (.int, [(.int pa), (.int pb)])) :: (r6, .inr (.long, [(.long (0 : Int64)), (.long (0 : Int64))])) :: (r7, .inr (.boolean, [(.int f1), (.int f2)])) :: RR)) rfl rfl
       exact J17_10 T _ (by first | (simp only [e6, e8, if_pos h7, if_pos h9]; done) | (subst e6 e8; simp only [if_pos h7, if_pos h9])) A
  refine A.aloadN (q := 18) d12_17 rfl rfl rfl ?_
  refine A.aloadN (q := 19) d12_18 rfl rfl rfl ?_
  refine A.iload (q := 21) d12_19 rfl rfl ?_
  refine A.iaload (q := 22) (i := 4) (v := (.int pa)) d12_21 rfl rfl (by decide) rfl ?_
  have A := A.front (i := 3) rfl rfl
  have A := A.front (i := 2) (L' := ((r0, ob1 (.ref r1) (.ref r2) (.int al) (.long (0 : Int64)) (.long hi) (.long lo) .null .null) :: (r2, .inr (.byte, List.map Value.int ml)) :: (r4, ob0 (.ref r5) (.ref r6) (.ref r7) (.long (0 : Int64)) (.int (1 : Int32))) :: (r1, .inr (.long, List.map Value.long (z4))) :: (r5, .inr (.int, [(.int pa), (.int pb)])) :: (r6, .inr (.long, [(.long (0 : Int64)), (.long (0 : Int64))])) :: (r7, .inr (.boolean, [(.int f1), (.int f2)])) :: RR)) rfl rfl
  refine A.callV (q := 25) (i := 0) (w1 := 73) (w2 := 18) (w3 := 2) (w4 := 21) (w5 := 20) (w6 := 19) (a := r0) (as := [(.int pa)]) (st := []) (W := 0) d12_22 rfl rfl rfl rfl rfl rfl rfl rfl (rmF l Z a0 hw n0 r0 pa r1 r2 al (0 : Int64) hi lo .null .null ml _ np.1 (by rw [len_ml]; exact np.2.1)) (by decide) ⟨_, _, pd_2, rfl⟩ rfl rfl rfl (by decide) (by decide) (by decide) (by decide) ?_
  rintro _ T _ ⟨rfl, rfl⟩ A
  show Go p e below _ (T.setTop (mkF m 25 #[.val (.ref r0), .val (.ref r4), .val (.ref r5), .val (.int (0 : Int32)), .val (.int (0 : Int32)), .unset, .unset, .unset, .unset, .unset, .unset, .unset, .unset, .unset, .unset, .unset, .unset, .unset, .unset, .unset, .unset] [(.int (FF pa ml))]))
  obtain ⟨v1, e1⟩ : ∃ v : Int32, (FF pa ml) = v := ⟨_, rfl⟩
  rw [e1]
  refine A.if_ne (q := 28) (r := 60) d12_25 rfl (by decide) (fun h2 => ?_) (fun h2 => ?_)
  · exact J17_4 T _ (by simp only [e1, if_neg h2]) A
  · refine A.iinc (q := 31) (v := (1 : Int32)) (l' := #[.val (.ref r0), .val (.ref r4), .val (.ref r5), .val (.int (1 : Int32)), .val (.int (0 : Int32)), .unset, .unset, .unset, .unset, .unset, .unset, .unset, .unset, .unset, .unset, .unset, .unset, .unset, .unset, .unset, .unset]) d12_28 rfl rfl (by decide) rfl ?_
    refine A.aloadN (q := 32) d12_31 rfl rfl rfl ?_
    have A := A.front (i := 2) (L' := ((r4, ob0 (.ref r5) (.ref r6) (.ref r7) (.long (0 : Int64)) (.int (1 : Int32))) :: (r0, ob1 (.ref r1) (.ref r2) (.int al) (.long (0 : Int64)) (.long hi) (.long lo) .null .null) :: (r2, .inr (.byte, List.map Value.int ml)) :: (r1, .inr (.long, List.map Value.long (z4))) :: (r5, .inr (.int, [(.int pa), (.int pb)])) :: (r6, .inr (.long, [(.long (0 : Int64)), (.long (0 : Int64))])) :: (r7, .inr (.boolean, [(.int f1), (.int f2)])) :: RR)) rfl rfl
    refine A.callV (q := 35) (i := 0) (w1 := 74) (w2 := 75) (w3 := 39) (w4 := 78) (w5 := 77) (w6 := 76) (a := r4) (as := []) (st := []) (W := 0) d12_32 rfl rfl rfl rfl rfl rfl rfl rfl (rm13 l Z a0 hw n0 r4 r5 r6 r7 (0 : Int64) (1 : Int32) _) (by decide) ⟨_, _, pd_4, rfl⟩ rfl rfl rfl (by decide) (by decide) (by decide) (by decide) ?_
    rintro _ T _ ⟨rfl, rfl⟩ A
    show Go p e below _ (T.setTop (mkF m 35 #[.val (.ref r0), .val (.ref r4), .val (.ref r5), .val (.int (1 : Int32)), .val (.int (0 : Int32)), .unset, .unset, .unset, .unset, .unset, .unset, .unset, .unset, .unset, .unset, .unset, .unset, .unset, .unset, .unset, .unset] [(.ref r7)]))
    refine A.iload (q := 37) d12_35 rfl rfl ?_
    refine A.baloadZ (q := 38) (i := 6) (v := (.int f1)) d12_37 rfl rfl (by decide) rfl ?_
    refine A.if_ne (q := 41) (r := 60) d12_38 rfl (by decide) (fun h3 => ?_) (fun h3 => ?_)
    · have A := A.front (i := 6) rfl rfl
      have A := A.front (i := 6) rfl rfl
      have A := A.front (i := 6) rfl rfl
      have A := A.front (i := 6) rfl rfl
      have A := A.front (i := 4) rfl rfl
      have A := A.front (i := 6) rfl rfl
      have A := A.front (i := 6) (L' := ((r0, ob1 (.ref r1) (.ref r2) (.int al) (.long (0 : Int64)) (.long hi) (.long lo) .null .null) :: (r2, .inr (.byte, List.map Value.int ml)) :: (r4, ob0 (.ref r5) (.ref r6) (.ref r7) (.long (0 : Int64)) (.int (1 : Int32))) :: (r1, .inr (.long, List.map Value.long (z4))) :: (r5, .inr (.int, [(.int pa), (.int pb)])) :: (r6, .inr (.long, [(.long (0 : Int64)), (.long (0 : Int64))])) :: (r7, .inr (.boolean, [(.int f1), (.int f2)])) :: RR)) rfl rfl
      exact J17_4 T _ (by simp only [e1, if_neg h3, if_pos h2]) A
    · refine A.aloadN (q := 42) d12_41 rfl rfl rfl ?_
      refine A.aloadN (q := 43) d12_42 rfl rfl rfl ?_
      refine A.iload (q := 45) d12_43 rfl rfl ?_
      refine A.iaload (q := 46) (i := 4) (v := (.int pa)) d12_45 rfl rfl (by decide) rfl ?_
      have A := A.front (i := 3) rfl rfl
      have A := A.front (i := 2) (L' := ((r0, ob1 (.ref r1) (.ref r2) (.int al) (.long (0 : Int64)) (.long hi) (.long lo) .null .null) :: (r1, .inr (.long, List.map Value.long (z4))) :: (r4, ob0 (.ref r5) (.ref r6) (.ref r7) (.long (0 : Int64)) (.int (1 : Int32))) :: (r2, .inr (.byte, List.map Value.int ml)) :: (r5, .inr (.int, [(.int pa), (.int pb)])) :: (r6, .inr (.long, [(.long (0 : Int64)), (.long (0 : Int64))])) :: (r7, .inr (.boolean, [(.int f1), (.int f2)])) :: RR)) rfl rfl
      refine A.callV (q := 49) (i := 0) (w1 := 79) (w2 := 80) (w3 := 2) (w4 := 83) (w5 := 82) (w6 := 81) (a := r0) (as := [(.int pa)]) (st := []) (W := 0) d12_46 rfl rfl rfl rfl rfl rfl rfl rfl (rmC l Z a0 hw n0 r0 pa r1 r2 al hi lo .null .null (z4) _ np.1 np.2.2.1) (by decide) ⟨_, _, pd_5, rfl⟩ rfl rfl rfl (by decide) (by decide) (by decide) (by decide) ?_
      rintro _ T _ ⟨rfl, rfl⟩ A
      show Go p e below _ (T.setTop (mkF m 49 #[.val (.ref r0), .val (.ref r4), .val (.ref r5), .val (.int (1 : Int32)), .val (.int (0 : Int32)), .unset, .unset, .unset, .unset, .unset, .unset, .unset, .unset, .unset, .unset, .unset, .unset, .unset, .unset, .unset, .unset] [(.long (0 : Int64))]))
      refine A.aloadN (q := 50) d12_49 rfl rfl rfl ?_
      have A := A.front (i := 2) (L' := ((r4, ob0 (.ref r5) (.ref r6) (.ref r7) (.long (0 : Int64)) (.int (1 : Int32))) :: (r0, ob1 (.ref r1) (.ref r2) (.int al) (.long (0 : Int64)) (.long hi) (.long lo) .null .null) :: (r1, .inr (.long, List.map Value.long (z4))) :: (r2, .inr (.byte, List.map Value.int ml)) :: (r5, .inr (.int, [(.int pa), (.int pb)])) :: (r6, .inr (.long, [(.long (0 : Int64)), (.long (0 : Int64))])) :: (r7, .inr (.boolean, [(.int f1), (.int f2)])) :: RR)) rfl rfl
      refine A.callV (q := 53) (i := 0) (w1 := 86) (w2 := 87) (w3 := 39) (w4 := 90) (w5 := 89) (w6 := 88) (a := r4) (as := []) (st := [(.long (0 : Int64))]) (W := 2) d12_50 rfl rfl rfl rfl rfl rfl rfl rfl (rm15 l Z a0 hw n0 r4 r5 r6 r7 (0 : Int64) (1 : Int32) _) (by decide) ⟨_, _, pd_6, rfl⟩ rfl rfl rfl (by decide) (by decide) (by decide) (by decide) ?_
      rintro _ T _ ⟨rfl, rfl⟩ A
      show Go p e below _ (T.setTop (mkF m 53 #[.val (.ref r0), .val (.ref r4), .val (.ref r5), .val (.int (1 : Int32)), .val (.int (0 : Int32)), .unset, .unset, .unset, .unset, .unset, .unset, .unset, .unset, .unset, .unset, .unset, .unset, .unset, .unset, .unset, .unset] [(.ref r6), (.long (0 : Int64))]))
      refine A.iload (q := 55) d12_53 rfl rfl ?_
      refine A.laload (q := 56) (i := 5) (v := (.long (0 : Int64))) d12_55 rfl rfl (by decide) rfl ?_
      refine A.callS (q := 59) (w1 := 91) (w2 := 92) (w3 := 93) (w4 := 94) (as := [(.long (0 : Int64)), (.long (0 : Int64))]) (st := []) (W := 0) d12_56 rfl rfl rfl rfl rfl (rm16_1 l Z a0 hw n0  _) (by decide) ⟨_, _, pd_7, rfl⟩ rfl rfl rfl (by decide) (by decide) (by decide) (by decide) ?_
      rintro _ T _ ⟨rfl, rfl⟩ A
      show Go p e below _ (T.setTop (mkF m 59 #[.val (.ref r0), .val (.ref r4), .val (.ref r5), .val (.int (1 : Int32)), .val (.int (0 : Int32)), .unset, .unset, .unset, .unset, .unset, .unset, .unset, .unset, .unset, .unset, .unset, .unset, .unset, .unset, .unset, .unset] [(.long (0 : Int64))]))
      refine A.pop2L (q := 60) d12_59 rfl ?_
      have A := A.front (i := 6) rfl rfl
      have A := A.front (i := 6) rfl rfl
      have A := A.front (i := 6) rfl rfl
      have A := A.front (i := 5) rfl rfl
      have A := A.front (i := 4) rfl rfl
      have A := A.front (i := 6) rfl rfl
      have A := A.front (i := 6) (L' := ((r0, ob1 (.ref r1) (.ref r2) (.int al) (.long (0 : Int64)) (.long hi) (.long lo) .null .null) :: (r2, .inr (.byte, List.map Value.int ml)) :: (r4, ob0 (.ref r5) (.ref r6) (.ref r7) (.long (0 : Int64)) (.int (1 : Int32))) :: (r1, .inr (.long, List.map Value.long (z4))) :: (r5, .inr (.int, [(.int pa), (.int pb)])) :: (r6, .inr (.long, [(.long (0 : Int64)), (.long (0 : Int64))])) :: (r7, .inr (.boolean, [(.int f1), (.int f2)])) :: RR)) rfl rfl
      exact J17_4 T _ (by simp only [e1, if_pos h2, if_pos h3]) A
theorem own_g81 (sg : Fin 28) (pg : Fin 12) (f1 f2 : Int32) (hf1 : f1 = 0 ∨ f1 = 1) (hf2 : f2 = 0 ∨ f2 = 1) (hS : 11 ≤ sg.val) (ml : List Int32) (hml : mkO sg pg = ml) (pa : Int32) (hpa : pA pg = pa) (pb : Int32) (hpb : pB pg = pb) (al : Int32) (hal : cnt (flO sg) = al) (sv : List Int32) (hsv : svO sg = sv) (j27 : List Int32) (ej27 : j27 = (if ((FF pa ml)) = (0 : Int32) then (if f1 = (0 : Int32) then ml else (ml.set (pa).toNatClampNeg (((ml.getD (pa).toNatClampNeg (0 : Int32)) ||| (1 : Int32)).toInt8.toInt32))) else ml)) : j27 = (fb ml pa f1) := by
  subst hml hpa hpb hal hsv ej27; exact own_f32 sg pg f1 f2 hf1 hf2 trivial 
theorem own_g82 (sg : Fin 28) (pg : Fin 12) (f1 f2 : Int32) (hf1 : f1 = 0 ∨ f1 = 1) (hf2 : f2 = 0 ∨ f2 = 1) (hS : 11 ≤ sg.val) (ml : List Int32) (hml : mkO sg pg = ml) (pa : Int32) (hpa : pA pg = pa) (pb : Int32) (hpb : pB pg = pb) (al : Int32) (hal : cnt (flO sg) = al) (sv : List Int32) (hsv : svO sg = sv) (j26 : Int32) (ej26 : j26 = (if ((FF pa ml)) = (0 : Int32) then (if f1 = (0 : Int32) then al else (al - (1 : Int32))) else al)) : j26 = (cnt (fb ml pa f1)) := by
  subst hml hpa hpb hal hsv ej26; exact own_f33 sg pg f1 f2 hf1 hf2 trivial 
theorem own_g83 (sg : Fin 28) (pg : Fin 12) (f1 f2 : Int32) (hf1 : f1 = 0 ∨ f1 = 1) (hf2 : f2 = 0 ∨ f2 = 1) (hS : 11 ≤ sg.val) (ml : List Int32) (hml : mkO sg pg = ml) (pa : Int32) (hpa : pA pg = pa) (pb : Int32) (hpb : pB pg = pb) (al : Int32) (hal : cnt (flO sg) = al) (sv : List Int32) (hsv : svO sg = sv) (j39 : List Int32) (ej39 : j39 = (if ((FF pb (fb ml pa f1))) = (0 : Int32) then (if f2 = (0 : Int32) then (fb ml pa f1) else ((fb ml pa f1).set (pb).toNatClampNeg ((((fb ml pa f1).getD (pb).toNatClampNeg (0 : Int32)) ||| (1 : Int32)).toInt8.toInt32))) else (fb ml pa f1))) : j39 = (l2L ml pa pb f1 f2) := by
  subst hml hpa hpb hal hsv ej39; exact own_f34 sg pg f1 f2 hf1 hf2 trivial 
theorem own_g84 (sg : Fin 28) (pg : Fin 12) (f1 f2 : Int32) (hf1 : f1 = 0 ∨ f1 = 1) (hf2 : f2 = 0 ∨ f2 = 1) (hS : 11 ≤ sg.val) (ml : List Int32) (hml : mkO sg pg = ml) (pa : Int32) (hpa : pA pg = pa) (pb : Int32) (hpb : pB pg = pb) (al : Int32) (hal : cnt (flO sg) = al) (sv : List Int32) (hsv : svO sg = sv) (j38 : Int32) (ej38 : j38 = (if ((FF pb (fb ml pa f1))) = (0 : Int32) then (if f2 = (0 : Int32) then (cnt (fb ml pa f1)) else ((cnt (fb ml pa f1)) - (1 : Int32))) else (cnt (fb ml pa f1)))) : j38 = (cnt (l2L ml pa pb f1 f2)) := by
  subst hml hpa hpb hal hsv ej38; exact own_f35 sg pg f1 f2 hf1 hf2 trivial 
theorem own_g85 (sg : Fin 28) (pg : Fin 12) (f1 f2 : Int32) (hf1 : f1 = 0 ∨ f1 = 1) (hf2 : f2 = 0 ∨ f2 = 1) (hS : 11 ≤ sg.val) (ml : List Int32) (hml : mkO sg pg = ml) (pa : Int32) (hpa : pA pg = pa) (pb : Int32) (hpb : pB pg = pb) (al : Int32) (hal : cnt (flO sg) = al) (sv : List Int32) (hsv : svO sg = sv) (j27 : List Int32) (ej27 : j27 = (if ((FF pa ml)) = (0 : Int32) then (if f1 = (0 : Int32) then ml else (ml.set (pa).toNatClampNeg (((ml.getD (pa).toNatClampNeg (0 : Int32)) ||| (1 : Int32)).toInt8.toInt32))) else ml)) : j27 = (fb ml pa f1) := by
  subst hml hpa hpb hal hsv ej27; exact own_f32 sg pg f1 f2 hf1 hf2 trivial 
theorem own_g86 (sg : Fin 28) (pg : Fin 12) (f1 f2 : Int32) (hf1 : f1 = 0 ∨ f1 = 1) (hf2 : f2 = 0 ∨ f2 = 1) (hS : 11 ≤ sg.val) (ml : List Int32) (hml : mkO sg pg = ml) (pa : Int32) (hpa : pA pg = pa) (pb : Int32) (hpb : pB pg = pb) (al : Int32) (hal : cnt (flO sg) = al) (sv : List Int32) (hsv : svO sg = sv) (j26 : Int32) (ej26 : j26 = (if ((FF pa ml)) = (0 : Int32) then (if f1 = (0 : Int32) then al else (al - (1 : Int32))) else al)) : j26 = (cnt (fb ml pa f1)) := by
  subst hml hpa hpb hal hsv ej26; exact own_f33 sg pg f1 f2 hf1 hf2 trivial 
theorem own_g87 (sg : Fin 28) (pg : Fin 12) (f1 f2 : Int32) (hf1 : f1 = 0 ∨ f1 = 1) (hf2 : f2 = 0 ∨ f2 = 1) (hS : 11 ≤ sg.val) (ml : List Int32) (hml : mkO sg pg = ml) (pa : Int32) (hpa : pA pg = pa) (pb : Int32) (hpb : pB pg = pb) (al : Int32) (hal : cnt (flO sg) = al) (sv : List Int32) (hsv : svO sg = sv) (j39 : List Int32) (ej39 : j39 = (if ((FF pb (fb ml pa f1))) = (0 : Int32) then (if f2 = (0 : Int32) then (fb ml pa f1) else ((fb ml pa f1).set (pb).toNatClampNeg ((((fb ml pa f1).getD (pb).toNatClampNeg (0 : Int32)) ||| (1 : Int32)).toInt8.toInt32))) else (fb ml pa f1))) : j39 = (l2L ml pa pb f1 f2) := by
  subst hml hpa hpb hal hsv ej39; exact own_f34 sg pg f1 f2 hf1 hf2 trivial 
theorem own_g88 (sg : Fin 28) (pg : Fin 12) (f1 f2 : Int32) (hf1 : f1 = 0 ∨ f1 = 1) (hf2 : f2 = 0 ∨ f2 = 1) (hS : 11 ≤ sg.val) (ml : List Int32) (hml : mkO sg pg = ml) (pa : Int32) (hpa : pA pg = pa) (pb : Int32) (hpb : pB pg = pb) (al : Int32) (hal : cnt (flO sg) = al) (sv : List Int32) (hsv : svO sg = sv) (j38 : Int32) (ej38 : j38 = (if ((FF pb (fb ml pa f1))) = (0 : Int32) then (if f2 = (0 : Int32) then (cnt (fb ml pa f1)) else ((cnt (fb ml pa f1)) - (1 : Int32))) else (cnt (fb ml pa f1)))) : j38 = (cnt (l2L ml pa pb f1 f2)) := by
  subst hml hpa hpb hal hsv ej38; exact own_f35 sg pg f1 f2 hf1 hf2 trivial 
set_option maxRecDepth 65536 in
set_option maxHeartbeats 8000000 in
theorem rmKA1 (l : Launch) (Z : State) (a0 : Array Value) (hw : ∀ d ∈ tables_1, d.before a0 Z = true) (n0 : Nat) (r0 : Addr) (r4 : Addr) (r1 : Addr) (r2 : Addr) (al : Int32) (hi : Int64) (lo : Int64) (r3 : Addr) (ml : List Int32) (r5 : Addr) (r6 : Addr) (r7 : Addr) (pa : Int32) (pb : Int32) (f1 : Int32) (f2 : Int32) (sv : List Int32) (sg : Fin 28) (pg : Fin 12) (RR : Obs) (hml : mkO sg pg = ml) (hpa : pA pg = pa) (hpb : pB pg = pb) (hal : cnt (flO sg) = al) (hsv : svO sg = sv) (hf1 : f1 = 0 ∨ f1 = 1) (hf2 : f2 = 0 ∨ f2 = 1) (hS : 11 ≤ sg.val) :
    Triple l Z n0 (⟨"com/example/forebound/forebound/problem/Sum", "addListed", "(Lcom/example/forebound/forebound/problem/Problem$Table;)V"⟩ : MethodName) prog_28_method_7_code 21 none ({ frames := 3, cells := 1, slots := 2, locals := 44 } : Room) 1 2 [(.ref r0), (.ref r4)] ((r0, ob1 (.ref r1) (.ref r2) (.int al) (.long (0 : Int64)) (.long hi) (.long lo) .null (.ref r3)) :: (r1, .inr (.long, List.map Value.long (z4))) :: (r2, .inr (.byte, List.map Value.int ml)) :: (r4, ob0 (.ref r5) (.ref r6) (.ref r7) (.long (0 : Int64)) (.int (1 : Int32))) :: (r5, .inr (.int, [(.int pa), (.int pb)])) :: (r6, .inr (.long, [(.long (0 : Int64)), (.long (0 : Int64))])) :: (r7, .inr (.boolean, [(.int f1), (.int f2)])) :: (r3, .inr (.int, List.map Value.int sv)) :: RR) (fun v L' => ∃ b41 : Addr, ∃ ex0 ex1 : Int64, v = none ∧ L' = ((r4, ob0 (.ref r5) (.ref r6) (.ref r7) (.long (0 : Int64)) (.int (1 : Int32))) :: (r5, .inr (.int, [(.int pa), (.int pb)])) :: (r6, .inr (.long, [(.long (0 : Int64)), (.long (0 : Int64))])) :: (r7, .inr (.boolean, [(.int f1), (.int f2)])) :: (r0, ob1 (.ref r1) (.ref r2) (.int (cnt (uL (l2L ml pa pb f1 f2)))) (.long (0 : Int64)) (.long ex0) (.long ex1) .null (.ref b41)) :: (r2, .inr (.byte, List.map Value.int (uL (l2L ml pa pb f1 f2)))) :: (b41, .inr (.int, List.map Value.int (svL (uL (l2L ml pa pb f1 f2)) pa pb))) :: (r3, .inr (.int, List.map Value.int sv)) :: (r1, .inr (.long, List.map Value.long (z4))) :: RR)) := by
  refine Triple.of_body (tbl := tables_1) (a0 := a0) (Ls := #[.val (.ref r0), .val (.ref r4), .unset, .unset, .unset, .unset, .unset, .unset, .unset, .unset, .unset, .unset, .unset, .unset, .unset, .unset, .unset, .unset, .unset, .unset, .unset]) pn_12 hw rfl ?_
  intro p e s m below meth c T A
  have np : ¬ pa < 0 ∧ pa.toNatClampNeg < 4 ∧ z4[pa.toNatClampNeg]? = some 0 ∧ z4.set pa.toNatClampNeg 0 = z4 := by rw [← hpa]; exact ⟨(own_pp pg).1, (own_pp pg).2.2.1, (own_pp pg).2.2.2.2.1, (own_pp pg).2.2.2.2.2.2.1⟩
  have nq : ¬ pb < 0 ∧ pb.toNatClampNeg < 4 ∧ z4[pb.toNatClampNeg]? = some 0 ∧ z4.set pb.toNatClampNeg 0 = z4 := by rw [← hpb]; exact ⟨(own_pp pg).2.1, (own_pp pg).2.2.2.1, (own_pp pg).2.2.2.2.2.1, (own_pp pg).2.2.2.2.2.2.2⟩
  have len_ml : ml.length = 4 := by rw [← hml]; exact own_mlen sg pg
  refine A.aloadN (q := 1) d12_0 rfl rfl rfl ?_
  have A := A.front (i := 3) (L' := ((r4, ob0 (.ref r5) (.ref r6) (.ref r7) (.long (0 : Int64)) (.int (1 : Int32))) :: (r0, ob1 (.ref r1) (.ref r2) (.int al) (.long (0 : Int64)) (.long hi) (.long lo) .null (.ref r3)) :: (r1, .inr (.long, List.map Value.long (z4))) :: (r2, .inr (.byte, List.map Value.int ml)) :: (r5, .inr (.int, [(.int pa), (.int pb)])) :: (r6, .inr (.long, [(.long (0 : Int64)), (.long (0 : Int64))])) :: (r7, .inr (.boolean, [(.int f1), (.int f2)])) :: (r3, .inr (.int, List.map Value.int sv)) :: RR)) rfl rfl
  refine A.callV (q := 4) (i := 0) (w1 := 64) (w2 := 65) (w3 := 39) (w4 := 68) (w5 := 67) (w6 := 66) (a := r4) (as := []) (st := []) (W := 0) d12_1 rfl rfl rfl rfl rfl rfl rfl rfl (rm11 l Z a0 hw n0 r4 r5 r6 r7 (0 : Int64) (1 : Int32) _) (by decide) ⟨_, _, pd_3, rfl⟩ rfl rfl rfl (by decide) (by decide) (by decide) (by decide) ?_
  rintro _ T _ ⟨rfl, rfl⟩ A
  show Go p e below _ (T.setTop (mkF m 4 #[.val (.ref r0), .val (.ref r4), .unset, .unset, .unset, .unset, .unset, .unset, .unset, .unset, .unset, .unset, .unset, .unset, .unset, .unset, .unset, .unset, .unset, .unset, .unset] [(.ref r5)]))
  refine A.astoreN (q := 5) (l' := #[.val (.ref r0), .val (.ref r4), .val (.ref r5), .unset, .unset, .unset, .unset, .unset, .unset, .unset, .unset, .unset, .unset, .unset, .unset, .unset, .unset, .unset, .unset, .unset, .unset]) d12_4 rfl rfl rfl ?_
  refine A.iconst (q := 6) (v := (0 : Int32)) d12_5 rfl (by decide) ?_
  refine A.istoreN (q := 7) (l' := #[.val (.ref r0), .val (.ref r4), .val (.ref r5), .val (.int (0 : Int32)), .unset, .unset, .unset, .unset, .unset, .unset, .unset, .unset, .unset, .unset, .unset, .unset, .unset, .unset, .unset, .unset, .unset]) d12_6 rfl rfl ?_
  refine A.iconst (q := 8) (v := (0 : Int32)) d12_7 rfl (by decide) ?_
  refine A.istore (q := 10) (l' := #[.val (.ref r0), .val (.ref r4), .val (.ref r5), .val (.int (0 : Int32)), .val (.int (0 : Int32)), .unset, .unset, .unset, .unset, .unset, .unset, .unset, .unset, .unset, .unset, .unset, .unset, .unset, .unset, .unset, .unset]) d12_8 rfl rfl ?_
  refine A.iload (q := 12) d12_10 rfl rfl ?_
  refine A.aloadN (q := 13) d12_12 rfl rfl rfl ?_
  refine A.arraylength (q := 14) (i := 4) (v := (2 : Int32)) d12_13 rfl rfl (by show Nat.toInt32 2 = 2; decide) ?_
  refine A.icmpF (q := 17) d12_14 rfl (by decide) ?_
  have J17_4 : ∀ (T : State) (j4 : Int32), j4 = (if ((FF pa ml)) = (0 : Int32) then (1 : Int32) else (0 : Int32)) → Here p l e ({ frames := 3, cells := 1, slots := 2, locals := 44 } : Room) s m ([(.ref r0), (.ref r4)] : List Value).toArray below meth c Z a0 tables_1 (⟨"com/example/forebound/forebound/problem/Sum", "addListed", "(Lcom/example/forebound/forebound/problem/Problem$Table;)V"⟩ : MethodName).cls (⟨"com/example/forebound/forebound/problem/Sum", "addListed", "(Lcom/example/forebound/forebound/problem/Problem$Table;)V"⟩ : MethodName).name prog_28_method_7_code 21 none n0 T ((r0, ob1 (.ref r1) (.ref r2) (.int al) (.long (0 : Int64)) (.long hi) (.long lo) .null (.ref r3)) :: (r2, .inr (.byte, List.map Value.int ml)) :: (r4, ob0 (.ref r5) (.ref r6) (.ref r7) (.long (0 : Int64)) (.int (1 : Int32))) :: (r1, .inr (.long, List.map Value.long (z4))) :: (r5, .inr (.int, [(.int pa), (.int pb)])) :: (r6, .inr (.long, [(.long (0 : Int64)), (.long (0 : Int64))])) :: (r7, .inr (.boolean, [(.int f1), (.int f2)])) :: (r3, .inr (.int, List.map Value.int sv)) :: RR) 0 0 → Go p e below (EndS below s n0 Z 1 2 (fun v L' => ∃ b41 : Addr, ∃ ex0 ex1 : Int64, v = none ∧ L' = ((r4, ob0 (.ref r5) (.ref r6) (.ref r7) (.long (0 : Int64)) (.int (1 : Int32))) :: (r5, .inr (.int, [(.int pa), (.int pb)])) :: (r6, .inr (.long, [(.long (0 : Int64)), (.long (0 : Int64))])) :: (r7, .inr (.boolean, [(.int f1), (.int f2)])) :: (r0, ob1 (.ref r1) (.ref r2) (.int (cnt (uL (l2L ml pa pb f1 f2)))) (.long (0 : Int64)) (.long ex0) (.long ex1) .null (.ref b41)) :: (r2, .inr (.byte, List.map Value.int (uL (l2L ml pa pb f1 f2)))) :: (b41, .inr (.int, List.map Value.int (svL (uL (l2L ml pa pb f1 f2)) pa pb))) :: (r3, .inr (.int, List.map Value.int sv)) :: (r1, .inr (.long, List.map Value.long (z4))) :: RR))) (T.setTop (mkF m 60 #[.val (.ref r0), .val (.ref r4), .val (.ref r5), .val (.int j4), .val (.int (0 : Int32)), .unset, .unset, .unset, .unset, .unset, .unset, .unset, .unset, .unset, .unset, .unset, .unset, .unset, .unset, .unset, .unset] [])) := by
   intro T j4 ej4 A
   have z_j4 : nar .boolean j4 = j4 := by rw [ej4]; (repeat' split) <;> first | decide | assumption
   refine A.iinc (q := 63) (v := (1 : Int32)) (l' := #[.val (.ref r0), .val (.ref r4), .val (.ref r5), .val (.int j4), .val (.int (1 : Int32)), .unset, .unset, .unset, .unset, .unset, .unset, .unset, .unset, .unset, .unset, .unset, .unset, .unset, .unset, .unset, .unset]) d12_60 rfl rfl (by decide) rfl ?_
   refine A.goto (r := 10) d12_63 (by decide) ?_
   refine A.iload (q := 12) d12_10 rfl rfl ?_
   refine A.aloadN (q := 13) d12_12 rfl rfl rfl ?_
   refine A.arraylength (q := 14) (i := 4) (v := (2 : Int32)) d12_13 rfl rfl (by show Nat.toInt32 2 = 2; decide) ?_
   refine A.icmpF (q := 17) d12_14 rfl (by decide) ?_
   have J17_10 : ∀ (T : State) (j10 : Int32), j10 = (if ((FF pb ml)) = (0 : Int32) then (j4 + Int32.ofInt 1) else j4) → Here p l e ({ frames := 3, cells := 1, slots := 2, locals := 44 } : Room) s m ([(.ref r0), (.ref r4)] : List Value).toArray below meth c Z a0 tables_1 (⟨"com/example/forebound/forebound/problem/Sum", "addListed", "(Lcom/example/forebound/forebound/problem/Problem$Table;)V"⟩ : MethodName).cls (⟨"com/example/forebound/forebound/problem/Sum", "addListed", "(Lcom/example/forebound/forebound/problem/Problem$Table;)V"⟩ : MethodName).name prog_28_method_7_code 21 none n0 T ((r0, ob1 (.ref r1) (.ref r2) (.int al) (.long (0 : Int64)) (.long hi) (.long lo) .null (.ref r3)) :: (r2, .inr (.byte, List.map Value.int ml)) :: (r4, ob0 (.ref r5) (.ref r6) (.ref r7) (.long (0 : Int64)) (.int (1 : Int32))) :: (r1, .inr (.long, List.map Value.long (z4))) :: (r5, .inr (.int, [(.int pa), (.int pb)])) :: (r6, .inr (.long, [(.long (0 : Int64)), (.long (0 : Int64))])) :: (r7, .inr (.boolean, [(.int f1), (.int f2)])) :: (r3, .inr (.int, List.map Value.int sv)) :: RR) 0 0 → Go p e below (EndS below s n0 Z 1 2 (fun v L' => ∃ b41 : Addr, ∃ ex0 ex1 : Int64, v = none ∧ L' = ((r4, ob0 (.ref r5) (.ref r6) (.ref r7) (.long (0 : Int64)) (.int (1 : Int32))) :: (r5, .inr (.int, [(.int pa), (.int pb)])) :: (r6, .inr (.long, [(.long (0 : Int64)), (.long (0 : Int64))])) :: (r7, .inr (.boolean, [(.int f1), (.int f2)])) :: (r0, ob1 (.ref r1) (.ref r2) (.int (cnt (uL (l2L ml pa pb f1 f2)))) (.long (0 : Int64)) (.long ex0) (.long ex1) .null (.ref b41)) :: (r2, .inr (.byte, List.map Value.int (uL (l2L ml pa pb f1 f2)))) :: (b41, .inr (.int, List.map Value.int (svL (uL (l2L ml pa pb f1 f2)) pa pb))) :: (r3, .inr (.int, List.map Value.int sv)) :: (r1, .inr (.long, List.map Value.long (z4))) :: RR))) (T.setTop (mkF m 60 #[.val (.ref r0), .val (.ref r4), .val (.ref r5), .val (.int j10), .val (.int (1 : Int32)), .unset, .unset, .unset, .unset, .unset, .unset, .unset, .unset, .unset, .unset, .unset, .unset, .unset, .unset, .unset, .unset] [])) := by
    intro T j10 ej10 A
    refine A.iinc (q := 63) (v := (2 : Int32)) (l' := #[.val (.ref r0), .val (.ref r4), .val (.ref r5), .val (.int j10), .val (.int (2 : Int32)), .unset, .unset, .unset, .unset, .unset, .unset, .unset, .unset, .unset, .unset, .unset, .unset, .unset, .unset, .unset, .unset]) d12_60 rfl rfl (by decide) rfl ?_
    refine A.goto (r := 10) d12_63 (by decide) ?_
    refine A.iload (q := 12) d12_10 rfl rfl ?_
    refine A.aloadN (q := 13) d12_12 rfl rfl rfl ?_
    refine A.arraylength (q := 14) (i := 4) (v := (2 : Int32)) d12_13 rfl rfl (by show Nat.toInt32 2 = 2; decide) ?_
    refine A.icmpT (r := 66) d12_14 (by decide) (by decide) ?_
    refine A.aloadN (q := 67) d12_66 rfl rfl rfl ?_
    refine A.getF (q := 70) (w := 15) (i := 0) (j := 2) d12_67 rfl rfl rfl rfl ?_
    intro T A
    refine A.iloadN (q := 71) d12_70 rfl rfl ?_
    obtain ⟨v12, e12⟩ : ∃ v : Int32, al - j10 = v := ⟨_, rfl⟩
    refine A.isub (q := 72) d12_71 rfl e12 ?_
    refine A.istore (q := 74) (l' := #[.val (.ref r0), .val (.ref r4), .val (.ref r5), .val (.int j10), .val (.int v12), .unset, .unset, .unset, .unset, .unset, .unset, .unset, .unset, .unset, .unset, .unset, .unset, .unset, .unset, .unset, .unset]) d12_72 rfl rfl ?_
    refine A.aloadN (q := 75) d12_74 rfl rfl rfl ?_
    have A := A.front (i := 6) rfl rfl
    have A := A.front (i := 6) rfl rfl
    have A := A.front (i := 6) rfl rfl
    have A := A.front (i := 5) (L' := ((r4, ob0 (.ref r5) (.ref r6) (.ref r7) (.long (0 : Int64)) (.int (1 : Int32))) :: (r5, .inr (.int, [(.int pa), (.int pb)])) :: (r6, .inr (.long, [(.long (0 : Int64)), (.long (0 : Int64))])) :: (r7, .inr (.boolean, [(.int f1), (.int f2)])) :: (r0, ob1 (.ref r1) (.ref r2) (.int al) (.long (0 : Int64)) (.long hi) (.long lo) .null (.ref r3)) :: (r2, .inr (.byte, List.map Value.int ml)) :: (r1, .inr (.long, List.map Value.long (z4))) :: (r3, .inr (.int, List.map Value.int sv)) :: RR)) rfl rfl
    refine A.callV (q := 78) (i := 0) (w1 := 95) (w2 := 96) (w3 := 39) (w4 := 99) (w5 := 98) (w6 := 97) (a := r4) (as := []) (st := []) (W := 0) d12_75 rfl rfl rfl rfl rfl rfl rfl rfl (rm17_2 l Z a0 hw n0 r4 r5 r6 r7 pa pb f1 f2 _) (by decide) ⟨_, _, pd_8, rfl⟩ rfl rfl rfl (by decide) (by decide) (by decide) (by decide) ?_
    rintro _ T _ ⟨rfl, rfl⟩ A
    show Go p e below _ (T.setTop (mkF m 78 #[.val (.ref r0), .val (.ref r4), .val (.ref r5), .val (.int j10), .val (.int v12), .unset, .unset, .unset, .unset, .unset, .unset, .unset, .unset, .unset, .unset, .unset, .unset, .unset, .unset, .unset, .unset] [(.int (1 : Int32))]))
    refine A.ifF (q := 81) d12_78 rfl (by decide) ?_
    refine A.lconst (q := 82) (v := (0 : Int64)) d12_81 rfl (by decide) ?_
    refine A.goto (r := 89) d12_82 (by decide) ?_
    refine A.lstore (q := 91) (l' := #[.val (.ref r0), .val (.ref r4), .val (.ref r5), .val (.int j10), .val (.int v12), .val (.long (0 : Int64)), .second, .unset, .unset, .unset, .unset, .unset, .unset, .unset, .unset, .unset, .unset, .unset, .unset, .unset, .unset]) d12_89 rfl rfl ?_
    refine A.aloadN (q := 92) d12_91 rfl rfl rfl ?_
    refine A.getF (q := 95) (w := 105) (i := 4) (j := 4) d12_92 rfl rfl rfl rfl ?_
    intro T A
    refine A.lstore (q := 97) (l' := #[.val (.ref r0), .val (.ref r4), .val (.ref r5), .val (.int j10), .val (.int v12), .val (.long (0 : Int64)), .second, .val (.long hi), .second, .unset, .unset, .unset, .unset, .unset, .unset, .unset, .unset, .unset, .unset, .unset, .unset]) d12_95 rfl rfl ?_
    refine A.aloadN (q := 98) d12_97 rfl rfl rfl ?_
    refine A.getF (q := 101) (w := 107) (i := 4) (j := 5) d12_98 rfl rfl rfl rfl ?_
    intro T A
    refine A.lstore (q := 103) (l' := #[.val (.ref r0), .val (.ref r4), .val (.ref r5), .val (.int j10), .val (.int v12), .val (.long (0 : Int64)), .second, .val (.long hi), .second, .val (.long lo), .second, .unset, .unset, .unset, .unset, .unset, .unset, .unset, .unset, .unset, .unset]) d12_101 rfl rfl ?_
    have J103_15 : ∀ (T : State), Here p l e ({ frames := 3, cells := 1, slots := 2, locals := 44 } : Room) s m ([(.ref r0), (.ref r4)] : List Value).toArray below meth c Z a0 tables_1 (⟨"com/example/forebound/forebound/problem/Sum", "addListed", "(Lcom/example/forebound/forebound/problem/Problem$Table;)V"⟩ : MethodName).cls (⟨"com/example/forebound/forebound/problem/Sum", "addListed", "(Lcom/example/forebound/forebound/problem/Problem$Table;)V"⟩ : MethodName).name prog_28_method_7_code 21 none n0 T ((r4, ob0 (.ref r5) (.ref r6) (.ref r7) (.long (0 : Int64)) (.int (1 : Int32))) :: (r5, .inr (.int, [(.int pa), (.int pb)])) :: (r6, .inr (.long, [(.long (0 : Int64)), (.long (0 : Int64))])) :: (r7, .inr (.boolean, [(.int f1), (.int f2)])) :: (r0, ob1 (.ref r1) (.ref r2) (.int al) (.long (0 : Int64)) (.long hi) (.long lo) .null (.ref r3)) :: (r2, .inr (.byte, List.map Value.int ml)) :: (r1, .inr (.long, List.map Value.long (z4))) :: (r3, .inr (.int, List.map Value.int sv)) :: RR) 0 0 → Go p e below (EndS below s n0 Z 1 2 (fun v L' => ∃ b41 : Addr, ∃ ex0 ex1 : Int64, v = none ∧ L' = ((r4, ob0 (.ref r5) (.ref r6) (.ref r7) (.long (0 : Int64)) (.int (1 : Int32))) :: (r5, .inr (.int, [(.int pa), (.int pb)])) :: (r6, .inr (.long, [(.long (0 : Int64)), (.long (0 : Int64))])) :: (r7, .inr (.boolean, [(.int f1), (.int f2)])) :: (r0, ob1 (.ref r1) (.ref r2) (.int (cnt (uL (l2L ml pa pb f1 f2)))) (.long (0 : Int64)) (.long ex0) (.long ex1) .null (.ref b41)) :: (r2, .inr (.byte, List.map Value.int (uL (l2L ml pa pb f1 f2)))) :: (b41, .inr (.int, List.map Value.int (svL (uL (l2L ml pa pb f1 f2)) pa pb))) :: (r3, .inr (.int, List.map Value.int sv)) :: (r1, .inr (.long, List.map Value.long (z4))) :: RR))) (T.setTop (mkF m 219 #[.val (.ref r0), .val (.ref r4), .val (.ref r5), .val (.int j10), .val (.int v12), .val (.long (0 : Int64)), .second, .val (.long hi), .second, .val (.long lo), .second, .unset, .unset, .unset, .unset, .unset, .unset, .unset, .unset, .unset, .unset] [])) := by
     intro T  A
     refine A.aloadN (q := 220) d12_219 rfl rfl rfl ?_
     refine A.getF (q := 223) (w := 84) (i := 4) (j := 3) d12_220 rfl rfl rfl rfl ?_
     intro T A
     refine A.lload (q := 225) d12_223 rfl rfl ?_
     refine A.ladd (q := 226) (v := (0 : Int64)) d12_225 rfl (by decide) ?_
     refine A.lstore (q := 228) (l' := #[.val (.ref r0), .val (.ref r4), .val (.ref r5), .val (.int j10), .val (.int v12), .val (.long (0 : Int64)), .second, .val (.long hi), .second, .val (.long lo), .second, .val (.long (0 : Int64)), .second, .unset, .unset, .unset, .unset, .unset, .unset, .unset, .unset]) d12_226 rfl rfl ?_
     refine A.ldc2_w (q := 231) (v := (-9223372036854775808 : Int64)) (w := 109) d12_228 rfl rfl ?_
     refine A.lstore (q := 233) (l' := #[.val (.ref r0), .val (.ref r4), .val (.ref r5), .val (.int j10), .val (.int v12), .val (.long (0 : Int64)), .second, .val (.long hi), .second, .val (.long lo), .second, .val (.long (0 : Int64)), .second, .val (.long (-9223372036854775808 : Int64)), .second, .unset, .unset, .unset, .unset, .unset, .unset]) d12_231 rfl rfl ?_
     refine A.ldc2_w (q := 236) (v := (9223372036854775807 : Int64)) (w := 110) d12_233 rfl rfl ?_
     refine A.lstore (q := 238) (l' := #[.val (.ref r0), .val (.ref r4), .val (.ref r5), .val (.int j10), .val (.int v12), .val (.long (0 : Int64)), .second, .val (.long hi), .second, .val (.long lo), .second, .val (.long (0 : Int64)), .second, .val (.long (-9223372036854775808 : Int64)), .second, .val (.long (9223372036854775807 : Int64)), .second, .unset, .unset, .unset, .unset]) d12_236 rfl rfl ?_
     refine A.iconst (q := 239) (v := (0 : Int32)) d12_238 rfl (by decide) ?_
     refine A.istore (q := 241) (l' := #[.val (.ref r0), .val (.ref r4), .val (.ref r5), .val (.int j10), .val (.int v12), .val (.long (0 : Int64)), .second, .val (.long hi), .second, .val (.long lo), .second, .val (.long (0 : Int64)), .second, .val (.long (-9223372036854775808 : Int64)), .second, .val (.long (9223372036854775807 : Int64)), .second, .val (.int (0 : Int32)), .unset, .unset, .unset]) d12_239 rfl rfl ?_
     refine A.iload (q := 243) d12_241 rfl rfl ?_
     refine A.aloadN (q := 244) d12_243 rfl rfl rfl ?_
     refine A.arraylength (q := 245) (i := 1) (v := (2 : Int32)) d12_244 rfl rfl (by show Nat.toInt32 2 = 2; decide) ?_
     refine A.icmpF (q := 248) d12_245 rfl (by decide) ?_
     have J248_27 : ∀ (T : State) (j22 : Int64) (j23 : Int64) (s24 : Slot) (s25 : Slot) (j26 : Int32) (j27 : List Int32), j22 = (if ((FF pa ml)) = (0 : Int32) then (if f1 = (0 : Int32) then ((Fmax (-9223372036854775808 : Int64) (0 : Int64))) else (-9223372036854775808 : Int64)) else (-9223372036854775808 : Int64)) → j23 = (if ((FF pa ml)) = (0 : Int32) then (if f1 = (0 : Int32) then ((Fmin (9223372036854775807 : Int64) (0 : Int64))) else (9223372036854775807 : Int64)) else (9223372036854775807 : Int64)) → Two s24 s25 → Two s24 s25 → j26 = (if ((FF pa ml)) = (0 : Int32) then (if f1 = (0 : Int32) then al else (al - (1 : Int32))) else al) → j27 = (if ((FF pa ml)) = (0 : Int32) then (if f1 = (0 : Int32) then ml else (ml.set (pa).toNatClampNeg (((ml.getD (pa).toNatClampNeg (0 : Int32)) ||| (1 : Int32)).toInt8.toInt32))) else ml) → Here p l e ({ frames := 3, cells := 1, slots := 2, locals := 44 } : Room) s m ([(.ref r0), (.ref r4)] : List Value).toArray below meth c Z a0 tables_1 (⟨"com/example/forebound/forebound/problem/Sum", "addListed", "(Lcom/example/forebound/forebound/problem/Problem$Table;)V"⟩ : MethodName).cls (⟨"com/example/forebound/forebound/problem/Sum", "addListed", "(Lcom/example/forebound/forebound/problem/Problem$Table;)V"⟩ : MethodName).name prog_28_method_7_code 21 none n0 T ((r0, ob1 (.ref r1) (.ref r2) (.int j26) (.long (0 : Int64)) (.long hi) (.long lo) .null (.ref r3)) :: (r4, ob0 (.ref r5) (.ref r6) (.ref r7) (.long (0 : Int64)) (.int (1 : Int32))) :: (r1, .inr (.long, List.map Value.long (z4))) :: (r2, .inr (.byte, List.map Value.int j27)) :: (r5, .inr (.int, [(.int pa), (.int pb)])) :: (r6, .inr (.long, [(.long (0 : Int64)), (.long (0 : Int64))])) :: (r7, .inr (.boolean, [(.int f1), (.int f2)])) :: (r3, .inr (.int, List.map Value.int sv)) :: RR) 0 0 → Go p e below (EndS below s n0 Z 1 2 (fun v L' => ∃ b41 : Addr, ∃ ex0 ex1 : Int64, v = none ∧ L' = ((r4, ob0 (.ref r5) (.ref r6) (.ref r7) (.long (0 : Int64)) (.int (1 : Int32))) :: (r5, .inr (.int, [(.int pa), (.int pb)])) :: (r6, .inr (.long, [(.long (0 : Int64)), (.long (0 : Int64))])) :: (r7, .inr (.boolean, [(.int f1), (.int f2)])) :: (r0, ob1 (.ref r1) (.ref r2) (.int (cnt (uL (l2L ml pa pb f1 f2)))) (.long (0 : Int64)) (.long ex0) (.long ex1) .null (.ref b41)) :: (r2, .inr (.byte, List.map Value.int (uL (l2L ml pa pb f1 f2)))) :: (b41, .inr (.int, List.map Value.int (svL (uL (l2L ml pa pb f1 f2)) pa pb))) :: (r3, .inr (.int, List.map Value.int sv)) :: (r1, .inr (.long, List.map Value.long (z4))) :: RR))) (T.setTop (mkF m 337 #[.val (.ref r0), .val (.ref r4), .val (.ref r5), .val (.int j10), .val (.int v12), .val (.long (0 : Int64)), .second, .val (.long hi), .second, .val (.long lo), .second, .val (.long (0 : Int64)), .second, .val (.long j22), .second, .val (.long j23), .second, .val (.int (0 : Int32)), .val (.int pa), s24, s25] [])) := by
      intro T j22 j23 s24 s25 j26 j27 ej22 ej23 os24 os25 ej26 ej27 A
      have q : (fb ml pa f1) = j27 := Eq.symm (own_g85 sg pg f1 f2 hf1 hf2 hS ml hml pa hpa pb hpb al hal sv hsv j27 ej27 )
      subst q
      have q : (cnt (fb ml pa f1)) = j26 := Eq.symm (own_g86 sg pg f1 f2 hf1 hf2 hS ml hml pa hpa pb hpb al hal sv hsv j26 ej26 )
      subst q
      have A : Here p l e ({ frames := 3, cells := 1, slots := 2, locals := 44 } : Room) s m ([(.ref r0), (.ref r4)] : List Value).toArray below meth c Z a0 tables_1 (⟨"com/example/forebound/forebound/problem/Sum", "addListed", "(Lcom/example/forebound/forebound/problem/Problem$Table;)V"⟩ : MethodName).cls (⟨"com/example/forebound/forebound/problem/Sum", "addListed", "(Lcom/example/forebound/forebound/problem/Problem$Table;)V"⟩ : MethodName).name prog_28_method_7_code 21 none n0 T ((r0, ob1 (.ref r1) (.ref r2) (.int (cnt (fb ml pa f1))) (.long (0 : Int64)) (.long hi) (.long lo) .null (.ref r3)) :: (r4, ob0 (.ref r5) (.ref r6) (.ref r7) (.long (0 : Int64)) (.int (1 : Int32))) :: (r1, .inr (.long, List.map Value.long (z4))) :: (r2, .inr (.byte, List.map Value.int (fb ml pa f1))) :: (r5, .inr (.int, [(.int pa), (.int pb)])) :: (r6, .inr (.long, [(.long (0 : Int64)), (.long (0 : Int64))])) :: (r7, .inr (.boolean, [(.int f1), (.int f2)])) :: (r3, .inr (.int, List.map Value.int sv)) :: RR) 0 0 := A
      refine A.iinc (q := 340) (v := (1 : Int32)) (l' := #[.val (.ref r0), .val (.ref r4), .val (.ref r5), .val (.int j10), .val (.int v12), .val (.long (0 : Int64)), .second, .val (.long hi), .second, .val (.long lo), .second, .val (.long (0 : Int64)), .second, .val (.long j22), .second, .val (.long j23), .second, .val (.int (1 : Int32)), .val (.int pa), s24, s25]) d12_337 rfl rfl (by decide) rfl ?_
      refine A.goto (r := 241) d12_340 (by decide) ?_
      refine A.iload (q := 243) d12_241 rfl rfl ?_
      refine A.aloadN (q := 244) d12_243 rfl rfl rfl ?_
      refine A.arraylength (q := 245) (i := 4) (v := (2 : Int32)) d12_244 rfl rfl (by show Nat.toInt32 2 = 2; decide) ?_
      refine A.icmpF (q := 248) d12_245 rfl (by decide) ?_
      have J248_39 : ∀ (T : State) (j34 : Int64) (j35 : Int64) (s36 : Slot) (s37 : Slot) (j38 : Int32) (j39 : List Int32), j34 = (if ((FF pb (fb ml pa f1))) = (0 : Int32) then (if f2 = (0 : Int32) then ((Fmax j22 (0 : Int64))) else j22) else j22) → j35 = (if ((FF pb (fb ml pa f1))) = (0 : Int32) then (if f2 = (0 : Int32) then ((Fmin j23 (0 : Int64))) else j23) else j23) → Two s36 s37 → Two s36 s37 → j38 = (if ((FF pb (fb ml pa f1))) = (0 : Int32) then (if f2 = (0 : Int32) then (cnt (fb ml pa f1)) else ((cnt (fb ml pa f1)) - (1 : Int32))) else (cnt (fb ml pa f1))) → j39 = (if ((FF pb (fb ml pa f1))) = (0 : Int32) then (if f2 = (0 : Int32) then (fb ml pa f1) else ((fb ml pa f1).set (pb).toNatClampNeg ((((fb ml pa f1).getD (pb).toNatClampNeg (0 : Int32)) ||| (1 : Int32)).toInt8.toInt32))) else (fb ml pa f1)) → Here p l e ({ frames := 3, cells := 1, slots := 2, locals := 44 } : Room) s m ([(.ref r0), (.ref r4)] : List Value).toArray below meth c Z a0 tables_1 (⟨"com/example/forebound/forebound/problem/Sum", "addListed", "(Lcom/example/forebound/forebound/problem/Problem$Table;)V"⟩ : MethodName).cls (⟨"com/example/forebound/forebound/problem/Sum", "addListed", "(Lcom/example/forebound/forebound/problem/Problem$Table;)V"⟩ : MethodName).name prog_28_method_7_code 21 none n0 T ((r0, ob1 (.ref r1) (.ref r2) (.int j38) (.long (0 : Int64)) (.long hi) (.long lo) .null (.ref r3)) :: (r4, ob0 (.ref r5) (.ref r6) (.ref r7) (.long (0 : Int64)) (.int (1 : Int32))) :: (r1, .inr (.long, List.map Value.long (z4))) :: (r2, .inr (.byte, List.map Value.int j39)) :: (r5, .inr (.int, [(.int pa), (.int pb)])) :: (r6, .inr (.long, [(.long (0 : Int64)), (.long (0 : Int64))])) :: (r7, .inr (.boolean, [(.int f1), (.int f2)])) :: (r3, .inr (.int, List.map Value.int sv)) :: RR) 0 0 → Go p e below (EndS below s n0 Z 1 2 (fun v L' => ∃ b41 : Addr, ∃ ex0 ex1 : Int64, v = none ∧ L' = ((r4, ob0 (.ref r5) (.ref r6) (.ref r7) (.long (0 : Int64)) (.int (1 : Int32))) :: (r5, .inr (.int, [(.int pa), (.int pb)])) :: (r6, .inr (.long, [(.long (0 : Int64)), (.long (0 : Int64))])) :: (r7, .inr (.boolean, [(.int f1), (.int f2)])) :: (r0, ob1 (.ref r1) (.ref r2) (.int (cnt (uL (l2L ml pa pb f1 f2)))) (.long (0 : Int64)) (.long ex0) (.long ex1) .null (.ref b41)) :: (r2, .inr (.byte, List.map Value.int (uL (l2L ml pa pb f1 f2)))) :: (b41, .inr (.int, List.map Value.int (svL (uL (l2L ml pa pb f1 f2)) pa pb))) :: (r3, .inr (.int, List.map Value.int sv)) :: (r1, .inr (.long, List.map Value.long (z4))) :: RR))) (T.setTop (mkF m 337 #[.val (.ref r0), .val (.ref r4), .val (.ref r5), .val (.int j10), .val (.int v12), .val (.long (0 : Int64)), .second, .val (.long hi), .second, .val (.long lo), .second, .val (.long (0 : Int64)), .second, .val (.long j34), .second, .val (.long j35), .second, .val (.int (1 : Int32)), .val (.int pb), s36, s37] [])) := by
       intro T j34 j35 s36 s37 j38 j39 ej34 ej35 os36 os37 ej38 ej39 A
       have q : (l2L ml pa pb f1 f2) = j39 := Eq.symm (own_g87 sg pg f1 f2 hf1 hf2 hS ml hml pa hpa pb hpb al hal sv hsv j39 ej39 )
       subst q
       have q : (cnt (l2L ml pa pb f1 f2)) = j38 := Eq.symm (own_g88 sg pg f1 f2 hf1 hf2 hS ml hml pa hpa pb hpb al hal sv hsv j38 ej38 )
       subst q
       have A : Here p l e ({ frames := 3, cells := 1, slots := 2, locals := 44 } : Room) s m ([(.ref r0), (.ref r4)] : List Value).toArray below meth c Z a0 tables_1 (⟨"com/example/forebound/forebound/problem/Sum", "addListed", "(Lcom/example/forebound/forebound/problem/Problem$Table;)V"⟩ : MethodName).cls (⟨"com/example/forebound/forebound/problem/Sum", "addListed", "(Lcom/example/forebound/forebound/problem/Problem$Table;)V"⟩ : MethodName).name prog_28_method_7_code 21 none n0 T ((r0, ob1 (.ref r1) (.ref r2) (.int (cnt (l2L ml pa pb f1 f2))) (.long (0 : Int64)) (.long hi) (.long lo) .null (.ref r3)) :: (r4, ob0 (.ref r5) (.ref r6) (.ref r7) (.long (0 : Int64)) (.int (1 : Int32))) :: (r1, .inr (.long, List.map Value.long (z4))) :: (r2, .inr (.byte, List.map Value.int (l2L ml pa pb f1 f2))) :: (r5, .inr (.int, [(.int pa), (.int pb)])) :: (r6, .inr (.long, [(.long (0 : Int64)), (.long (0 : Int64))])) :: (r7, .inr (.boolean, [(.int f1), (.int f2)])) :: (r3, .inr (.int, List.map Value.int sv)) :: RR) 0 0 := A
       refine A.iinc (q := 340) (v := (2 : Int32)) (l' := #[.val (.ref r0), .val (.ref r4), .val (.ref r5), .val (.int j10), .val (.int v12), .val (.long (0 : Int64)), .second, .val (.long hi), .second, .val (.long lo), .second, .val (.long (0 : Int64)), .second, .val (.long j34), .second, .val (.long j35), .second, .val (.int (2 : Int32)), .val (.int pb), s36, s37]) d12_337 rfl rfl (by decide) rfl ?_
       refine A.goto (r := 241) d12_340 (by decide) ?_
       refine A.iload (q := 243) d12_241 rfl rfl ?_
       refine A.aloadN (q := 244) d12_243 rfl rfl rfl ?_
       refine A.arraylength (q := 245) (i := 4) (v := (2 : Int32)) d12_244 rfl rfl (by show Nat.toInt32 2 = 2; decide) ?_
       refine A.icmpT (r := 343) d12_245 (by decide) (by decide) ?_
       refine A.aloadN (q := 344) d12_343 rfl rfl rfl ?_
       refine A.lload (q := 346) d12_344 rfl rfl ?_
       refine A.putF (q := 349) (w := 84) (w2 := 85) (w3 := 1) (i := 0) (j := 3) (ty := .long) (v' := (.long (0 : Int64))) (L' := ((r0, ob1 (.ref r1) (.ref r2) (.int (cnt (l2L ml pa pb f1 f2))) (.long (0 : Int64)) (.long hi) (.long lo) .null (.ref r3)) :: (r4, ob0 (.ref r5) (.ref r6) (.ref r7) (.long (0 : Int64)) (.int (1 : Int32))) :: (r1, .inr (.long, List.map Value.long (z4))) :: (r2, .inr (.byte, List.map Value.int (l2L ml pa pb f1 f2))) :: (r5, .inr (.int, [(.int pa), (.int pb)])) :: (r6, .inr (.long, [(.long (0 : Int64)), (.long (0 : Int64))])) :: (r7, .inr (.boolean, [(.int f1), (.int f2)])) :: (r3, .inr (.int, List.map Value.int sv)) :: RR)) d12_346 rfl rfl rfl rfl (lay_0 Z a0 hw) (Or.inl rfl) rfl (by decide) rfl rfl rfl ?_
       intro T A
       refine A.aloadN (q := 350) d12_349 rfl rfl rfl ?_
       have A := A.front (i := 6) rfl rfl
       have A := A.front (i := 6) rfl rfl
       have A := A.front (i := 6) rfl rfl
       have A := A.front (i := 4) (L' := ((r4, ob0 (.ref r5) (.ref r6) (.ref r7) (.long (0 : Int64)) (.int (1 : Int32))) :: (r5, .inr (.int, [(.int pa), (.int pb)])) :: (r6, .inr (.long, [(.long (0 : Int64)), (.long (0 : Int64))])) :: (r7, .inr (.boolean, [(.int f1), (.int f2)])) :: (r0, ob1 (.ref r1) (.ref r2) (.int (cnt (l2L ml pa pb f1 f2))) (.long (0 : Int64)) (.long hi) (.long lo) .null (.ref r3)) :: (r1, .inr (.long, List.map Value.long (z4))) :: (r2, .inr (.byte, List.map Value.int (l2L ml pa pb f1 f2))) :: (r3, .inr (.int, List.map Value.int sv)) :: RR)) rfl rfl
       refine A.callV (q := 353) (i := 0) (w1 := 95) (w2 := 96) (w3 := 39) (w4 := 99) (w5 := 98) (w6 := 97) (a := r4) (as := []) (st := []) (W := 0) d12_350 rfl rfl rfl rfl rfl rfl rfl rfl (rm17_2 l Z a0 hw n0 r4 r5 r6 r7 pa pb f1 f2 _) (by decide) ⟨_, _, pd_8, rfl⟩ rfl rfl rfl (by decide) (by decide) (by decide) (by decide) ?_
       rintro _ T _ ⟨rfl, rfl⟩ A
       show Go p e below _ (T.setTop (mkF m 353 #[.val (.ref r0), .val (.ref r4), .val (.ref r5), .val (.int j10), .val (.int v12), .val (.long (0 : Int64)), .second, .val (.long hi), .second, .val (.long lo), .second, .val (.long (0 : Int64)), .second, .val (.long j34), .second, .val (.long j35), .second, .val (.int (2 : Int32)), .val (.int pb), s36, s37] [(.int (1 : Int32))]))
       refine A.ifF (q := 356) d12_353 rfl (by decide) ?_
       refine A.aloadN (q := 357) d12_356 rfl rfl rfl ?_
       refine A.aloadN (q := 358) d12_357 rfl rfl rfl ?_
       have A := A.front (i := 7) rfl rfl
       have A := A.front (i := 2) rfl rfl
       have A := A.front (i := 7) rfl rfl
       have A := A.front (i := 6) (L' := ((r0, ob1 (.ref r1) (.ref r2) (.int (cnt (l2L ml pa pb f1 f2))) (.long (0 : Int64)) (.long hi) (.long lo) .null (.ref r3)) :: (r2, .inr (.byte, List.map Value.int (l2L ml pa pb f1 f2))) :: (r5, .inr (.int, [(.int pa), (.int pb)])) :: (r3, .inr (.int, List.map Value.int sv)) :: (r4, ob0 (.ref r5) (.ref r6) (.ref r7) (.long (0 : Int64)) (.int (1 : Int32))) :: (r6, .inr (.long, [(.long (0 : Int64)), (.long (0 : Int64))])) :: (r7, .inr (.boolean, [(.int f1), (.int f2)])) :: (r1, .inr (.long, List.map Value.long (z4))) :: RR)) rfl rfl
       refine A.callP (q := 361) (i := 0) (w1 := 130) (w2 := 132) (w3 := 2) (w4 := 133) (w5 := 1) (w6 := 131) (a := r0) (as := [(.ref r5)]) (st := []) (W := 0) d12_358 rfl rfl rfl rfl rfl rfl rfl rfl (rmUA l Z a0 hw n0 r0 r5 r1 r2 hi lo r3 (l2L ml pa pb f1 f2) pa pb sv sg pg f1 f2 _ (by rw [← hml, ← hpa, ← hpb]; rfl) hpa hpb hsv hf1 hf2 hS) (by decide) ⟨_, _, pd_10, rfl⟩ rfl rfl rfl (by decide) (by decide) (by decide) (by decide) ?_
       rintro _ T _ ⟨b41, rfl, rfl⟩ A
       show Go p e below _ (T.setTop (mkF m 361 #[.val (.ref r0), .val (.ref r4), .val (.ref r5), .val (.int j10), .val (.int v12), .val (.long (0 : Int64)), .second, .val (.long hi), .second, .val (.long lo), .second, .val (.long (0 : Int64)), .second, .val (.long j34), .second, .val (.long j35), .second, .val (.int (2 : Int32)), .val (.int pb), s36, s37] []))
       refine A.aloadN (q := 362) d12_361 rfl rfl rfl ?_
       have A := A.front (i := 7) rfl rfl
       have A := A.front (i := 7) rfl rfl
       have A := A.front (i := 5) rfl rfl
       have A := A.front (i := 7) (L' := ((r4, ob0 (.ref r5) (.ref r6) (.ref r7) (.long (0 : Int64)) (.int (1 : Int32))) :: (r5, .inr (.int, [(.int pa), (.int pb)])) :: (r6, .inr (.long, [(.long (0 : Int64)), (.long (0 : Int64))])) :: (r7, .inr (.boolean, [(.int f1), (.int f2)])) :: (r0, ob1 (.ref r1) (.ref r2) (.int (cnt (uL (l2L ml pa pb f1 f2)))) (.long (0 : Int64)) (.long hi) (.long lo) .null (.ref b41)) :: (r2, .inr (.byte, List.map Value.int (uL (l2L ml pa pb f1 f2)))) :: (b41, .inr (.int, List.map Value.int (svL (uL (l2L ml pa pb f1 f2)) pa pb))) :: (r3, .inr (.int, List.map Value.int sv)) :: (r1, .inr (.long, List.map Value.long (z4))) :: RR)) rfl rfl
       refine A.callV (q := 365) (i := 0) (w1 := 95) (w2 := 96) (w3 := 39) (w4 := 99) (w5 := 98) (w6 := 97) (a := r4) (as := []) (st := []) (W := 0) d12_362 rfl rfl rfl rfl rfl rfl rfl rfl (rm17_2 l Z a0 hw n0 r4 r5 r6 r7 pa pb f1 f2 _) (by decide) ⟨_, _, pd_8, rfl⟩ rfl rfl rfl (by decide) (by decide) (by decide) (by decide) ?_
       rintro _ T _ ⟨rfl, rfl⟩ A
       show Go p e below _ (T.setTop (mkF m 365 #[.val (.ref r0), .val (.ref r4), .val (.ref r5), .val (.int j10), .val (.int v12), .val (.long (0 : Int64)), .second, .val (.long hi), .second, .val (.long lo), .second, .val (.long (0 : Int64)), .second, .val (.long j34), .second, .val (.long j35), .second, .val (.int (2 : Int32)), .val (.int pb), s36, s37] [(.int (1 : Int32))]))
       refine A.ifT (r := 373) d12_365 (by decide) (by decide) ?_
       refine A.aloadN (q := 374) d12_373 rfl rfl rfl ?_
       refine A.lload (q := 376) d12_374 rfl rfl ?_
       refine A.putF (q := 379) (w := 105) (w2 := 106) (w3 := 1) (i := 4) (j := 4) (ty := .long) (v' := (.long j34)) (L' := ((r4, ob0 (.ref r5) (.ref r6) (.ref r7) (.long (0 : Int64)) (.int (1 : Int32))) :: (r5, .inr (.int, [(.int pa), (.int pb)])) :: (r6, .inr (.long, [(.long (0 : Int64)), (.long (0 : Int64))])) :: (r7, .inr (.boolean, [(.int f1), (.int f2)])) :: (r0, ob1 (.ref r1) (.ref r2) (.int (cnt (uL (l2L ml pa pb f1 f2)))) (.long (0 : Int64)) (.long j34) (.long lo) .null (.ref b41)) :: (r2, .inr (.byte, List.map Value.int (uL (l2L ml pa pb f1 f2)))) :: (b41, .inr (.int, List.map Value.int (svL (uL (l2L ml pa pb f1 f2)) pa pb))) :: (r3, .inr (.int, List.map Value.int sv)) :: (r1, .inr (.long, List.map Value.long (z4))) :: RR)) d12_376 rfl rfl rfl rfl (lay_0 Z a0 hw) (Or.inl rfl) rfl (by decide) rfl rfl rfl ?_
       intro T A
       refine A.aloadN (q := 380) d12_379 rfl rfl rfl ?_
       refine A.lload (q := 382) d12_380 rfl rfl ?_
       refine A.putF (q := 385) (w := 107) (w2 := 108) (w3 := 1) (i := 4) (j := 5) (ty := .long) (v' := (.long j35)) (L' := ((r4, ob0 (.ref r5) (.ref r6) (.ref r7) (.long (0 : Int64)) (.int (1 : Int32))) :: (r5, .inr (.int, [(.int pa), (.int pb)])) :: (r6, .inr (.long, [(.long (0 : Int64)), (.long (0 : Int64))])) :: (r7, .inr (.boolean, [(.int f1), (.int f2)])) :: (r0, ob1 (.ref r1) (.ref r2) (.int (cnt (uL (l2L ml pa pb f1 f2)))) (.long (0 : Int64)) (.long j34) (.long j35) .null (.ref b41)) :: (r2, .inr (.byte, List.map Value.int (uL (l2L ml pa pb f1 f2)))) :: (b41, .inr (.int, List.map Value.int (svL (uL (l2L ml pa pb f1 f2)) pa pb))) :: (r3, .inr (.int, List.map Value.int sv)) :: (r1, .inr (.long, List.map Value.long (z4))) :: RR)) d12_382 rfl rfl rfl rfl (lay_0 Z a0 hw) (Or.inl rfl) rfl (by decide) rfl rfl rfl ?_
       intro T A
       refine A.goto (r := 416) d12_385 (by decide) ?_
       have Aq := A
       subst ej4 ej10 e12 ej22 ej23 ej34 ej35
       have A := Aq
       exact A.retV d12_416 (by decide) (by decide) ⟨b41, _, _, rfl, rfl⟩
      refine A.aloadN (q := 249) d12_248 rfl rfl rfl ?_
      refine A.iload (q := 251) d12_249 rfl rfl ?_
      refine A.iaload (q := 252) (i := 4) (v := (.int pb)) d12_251 rfl rfl (by decide) rfl ?_
      refine A.istore (q := 254) (l' := #[.val (.ref r0), .val (.ref r4), .val (.ref r5), .val (.int j10), .val (.int v12), .val (.long (0 : Int64)), .second, .val (.long hi), .second, .val (.long lo), .second, .val (.long (0 : Int64)), .second, .val (.long j22), .second, .val (.long j23), .second, .val (.int (1 : Int32)), .val (.int pb), s24, s25]) d12_252 rfl rfl ?_
      refine A.aloadN (q := 255) d12_254 rfl rfl rfl ?_
      refine A.iload (q := 257) d12_255 rfl rfl ?_
      have A := A.front (i := 3) rfl rfl
      have A := A.front (i := 1) (L' := ((r0, ob1 (.ref r1) (.ref r2) (.int (cnt (fb ml pa f1))) (.long (0 : Int64)) (.long hi) (.long lo) .null (.ref r3)) :: (r2, .inr (.byte, List.map Value.int (fb ml pa f1))) :: (r4, ob0 (.ref r5) (.ref r6) (.ref r7) (.long (0 : Int64)) (.int (1 : Int32))) :: (r1, .inr (.long, List.map Value.long (z4))) :: (r5, .inr (.int, [(.int pa), (.int pb)])) :: (r6, .inr (.long, [(.long (0 : Int64)), (.long (0 : Int64))])) :: (r7, .inr (.boolean, [(.int f1), (.int f2)])) :: (r3, .inr (.int, List.map Value.int sv)) :: RR)) rfl rfl
      refine A.callV (q := 260) (i := 0) (w1 := 73) (w2 := 18) (w3 := 2) (w4 := 21) (w5 := 20) (w6 := 19) (a := r0) (as := [(.int pb)]) (st := []) (W := 0) d12_257 rfl rfl rfl rfl rfl rfl rfl rfl (rmF l Z a0 hw n0 r0 pb r1 r2 (cnt (fb ml pa f1)) (0 : Int64) hi lo .null (.ref r3) (fb ml pa f1) _ nq.1 (by rw [(show (fb ml pa f1).length = 4 by simp only [List.length_set, own_u1len, own_fblen, own_mkLlen, own_l2Llen, own_uLlen, own_umlen, len_ml])]; exact nq.2.1)) (by decide) ⟨_, _, pd_2, rfl⟩ rfl rfl rfl (by decide) (by decide) (by decide) (by decide) ?_
      rintro _ T _ ⟨rfl, rfl⟩ A
      show Go p e below _ (T.setTop (mkF m 260 #[.val (.ref r0), .val (.ref r4), .val (.ref r5), .val (.int j10), .val (.int v12), .val (.long (0 : Int64)), .second, .val (.long hi), .second, .val (.long lo), .second, .val (.long (0 : Int64)), .second, .val (.long j22), .second, .val (.long j23), .second, .val (.int (1 : Int32)), .val (.int pb), s24, s25] [(.int (FF pb (fb ml pa f1)))]))
      obtain ⟨v29, e29⟩ : ∃ v : Int32, (FF pb (fb ml pa f1)) = v := ⟨_, rfl⟩
      rw [e29]
      refine A.if_eq (q := 263) (r := 266) d12_260 rfl (by decide) (fun h30 => ?_) (fun h30 => ?_)
      · refine A.aloadN (q := 267) d12_266 rfl rfl rfl ?_
        have A := A.front (i := 2) (L' := ((r4, ob0 (.ref r5) (.ref r6) (.ref r7) (.long (0 : Int64)) (.int (1 : Int32))) :: (r0, ob1 (.ref r1) (.ref r2) (.int (cnt (fb ml pa f1))) (.long (0 : Int64)) (.long hi) (.long lo) .null (.ref r3)) :: (r2, .inr (.byte, List.map Value.int (fb ml pa f1))) :: (r1, .inr (.long, List.map Value.long (z4))) :: (r5, .inr (.int, [(.int pa), (.int pb)])) :: (r6, .inr (.long, [(.long (0 : Int64)), (.long (0 : Int64))])) :: (r7, .inr (.boolean, [(.int f1), (.int f2)])) :: (r3, .inr (.int, List.map Value.int sv)) :: RR)) rfl rfl
        refine A.callV (q := 270) (i := 0) (w1 := 74) (w2 := 75) (w3 := 39) (w4 := 78) (w5 := 77) (w6 := 76) (a := r4) (as := []) (st := []) (W := 0) d12_267 rfl rfl rfl rfl rfl rfl rfl rfl (rm13 l Z a0 hw n0 r4 r5 r6 r7 (0 : Int64) (1 : Int32) _) (by decide) ⟨_, _, pd_4, rfl⟩ rfl rfl rfl (by decide) (by decide) (by decide) (by decide) ?_
        rintro _ T _ ⟨rfl, rfl⟩ A
        show Go p e below _ (T.setTop (mkF m 270 #[.val (.ref r0), .val (.ref r4), .val (.ref r5), .val (.int j10), .val (.int v12), .val (.long (0 : Int64)), .second, .val (.long hi), .second, .val (.long lo), .second, .val (.long (0 : Int64)), .second, .val (.long j22), .second, .val (.long j23), .second, .val (.int (1 : Int32)), .val (.int pb), s24, s25] [(.ref r7)]))
        refine A.iload (q := 272) d12_270 rfl rfl ?_
        refine A.baloadZ (q := 273) (i := 6) (v := (.int f2)) d12_272 rfl rfl (by decide) rfl ?_
        refine A.if_eq (q := 276) (r := 285) d12_273 rfl (by decide) (fun h31 => ?_) (fun h31 => ?_)
        · refine A.aloadN (q := 286) d12_285 rfl rfl rfl ?_
          refine A.iload (q := 288) d12_286 rfl rfl ?_
          have A := A.front (i := 3) rfl rfl
          have A := A.front (i := 2) (L' := ((r0, ob1 (.ref r1) (.ref r2) (.int (cnt (fb ml pa f1))) (.long (0 : Int64)) (.long hi) (.long lo) .null (.ref r3)) :: (r1, .inr (.long, List.map Value.long (z4))) :: (r4, ob0 (.ref r5) (.ref r6) (.ref r7) (.long (0 : Int64)) (.int (1 : Int32))) :: (r2, .inr (.byte, List.map Value.int (fb ml pa f1))) :: (r5, .inr (.int, [(.int pa), (.int pb)])) :: (r6, .inr (.long, [(.long (0 : Int64)), (.long (0 : Int64))])) :: (r7, .inr (.boolean, [(.int f1), (.int f2)])) :: (r3, .inr (.int, List.map Value.int sv)) :: RR)) rfl rfl
          refine A.callV (q := 291) (i := 0) (w1 := 79) (w2 := 80) (w3 := 2) (w4 := 83) (w5 := 82) (w6 := 81) (a := r0) (as := [(.int pb)]) (st := []) (W := 0) d12_288 rfl rfl rfl rfl rfl rfl rfl rfl (rmC l Z a0 hw n0 r0 pb r1 r2 (cnt (fb ml pa f1)) hi lo .null (.ref r3) (z4) _ nq.1 nq.2.2.1) (by decide) ⟨_, _, pd_5, rfl⟩ rfl rfl rfl (by decide) (by decide) (by decide) (by decide) ?_
          rintro _ T _ ⟨rfl, rfl⟩ A
          show Go p e below _ (T.setTop (mkF m 291 #[.val (.ref r0), .val (.ref r4), .val (.ref r5), .val (.int j10), .val (.int v12), .val (.long (0 : Int64)), .second, .val (.long hi), .second, .val (.long lo), .second, .val (.long (0 : Int64)), .second, .val (.long j22), .second, .val (.long j23), .second, .val (.int (1 : Int32)), .val (.int pb), s24, s25] [(.long (0 : Int64))]))
          refine A.aloadN (q := 292) d12_291 rfl rfl rfl ?_
          have A := A.front (i := 2) (L' := ((r4, ob0 (.ref r5) (.ref r6) (.ref r7) (.long (0 : Int64)) (.int (1 : Int32))) :: (r0, ob1 (.ref r1) (.ref r2) (.int (cnt (fb ml pa f1))) (.long (0 : Int64)) (.long hi) (.long lo) .null (.ref r3)) :: (r1, .inr (.long, List.map Value.long (z4))) :: (r2, .inr (.byte, List.map Value.int (fb ml pa f1))) :: (r5, .inr (.int, [(.int pa), (.int pb)])) :: (r6, .inr (.long, [(.long (0 : Int64)), (.long (0 : Int64))])) :: (r7, .inr (.boolean, [(.int f1), (.int f2)])) :: (r3, .inr (.int, List.map Value.int sv)) :: RR)) rfl rfl
          refine A.callV (q := 295) (i := 0) (w1 := 86) (w2 := 87) (w3 := 39) (w4 := 90) (w5 := 89) (w6 := 88) (a := r4) (as := []) (st := [(.long (0 : Int64))]) (W := 2) d12_292 rfl rfl rfl rfl rfl rfl rfl rfl (rm15 l Z a0 hw n0 r4 r5 r6 r7 (0 : Int64) (1 : Int32) _) (by decide) ⟨_, _, pd_6, rfl⟩ rfl rfl rfl (by decide) (by decide) (by decide) (by decide) ?_
          rintro _ T _ ⟨rfl, rfl⟩ A
          show Go p e below _ (T.setTop (mkF m 295 #[.val (.ref r0), .val (.ref r4), .val (.ref r5), .val (.int j10), .val (.int v12), .val (.long (0 : Int64)), .second, .val (.long hi), .second, .val (.long lo), .second, .val (.long (0 : Int64)), .second, .val (.long j22), .second, .val (.long j23), .second, .val (.int (1 : Int32)), .val (.int pb), s24, s25] [(.ref r6), (.long (0 : Int64))]))
          refine A.iload (q := 297) d12_295 rfl rfl ?_
          refine A.laload (q := 298) (i := 5) (v := (.long (0 : Int64))) d12_297 rfl rfl (by decide) rfl ?_
          refine A.ladd (q := 299) (v := (0 : Int64)) d12_298 rfl (by decide) ?_
          refine A.lstore (q := 301) (l' := #[.val (.ref r0), .val (.ref r4), .val (.ref r5), .val (.int j10), .val (.int v12), .val (.long (0 : Int64)), .second, .val (.long hi), .second, .val (.long lo), .second, .val (.long (0 : Int64)), .second, .val (.long j22), .second, .val (.long j23), .second, .val (.int (1 : Int32)), .val (.int pb), .val (.long (0 : Int64)), .second]) d12_299 rfl (by rcases os24 with ⟨rfl, rfl⟩ | ⟨x, rfl, rfl⟩ <;> rfl) ?_
          refine A.aloadN (q := 302) d12_301 rfl rfl rfl ?_
          refine A.getF (q := 305) (w := 10) (i := 1) (j := 0) d12_302 rfl rfl rfl rfl ?_
          intro T A
          refine A.iload (q := 307) d12_305 rfl rfl ?_
          refine A.lload (q := 309) d12_307 rfl rfl ?_
          refine A.lload (q := 311) d12_309 rfl rfl ?_
          refine A.lsub (q := 312) (v := (0 : Int64)) d12_311 rfl (by decide) ?_
          refine A.lastoreM (q := 313) (i := 2) (x' := (0 : Int64)) (L' := ((r4, ob0 (.ref r5) (.ref r6) (.ref r7) (.long (0 : Int64)) (.int (1 : Int32))) :: (r0, ob1 (.ref r1) (.ref r2) (.int (cnt (fb ml pa f1))) (.long (0 : Int64)) (.long hi) (.long lo) .null (.ref r3)) :: (r1, .inr (.long, List.map Value.long ((z4).set (pb).toNatClampNeg (0 : Int64)))) :: (r2, .inr (.byte, List.map Value.int (fb ml pa f1))) :: (r5, .inr (.int, [(.int pa), (.int pb)])) :: (r6, .inr (.long, [(.long (0 : Int64)), (.long (0 : Int64))])) :: (r7, .inr (.boolean, [(.int f1), (.int f2)])) :: (r3, .inr (.int, List.map Value.int sv)) :: RR)) d12_312 rfl rfl nq.1 nq.2.1 rfl rfl ?_
          intro T A
          rw [nq.2.2.2] at A
          have A : Here p l e ({ frames := 3, cells := 1, slots := 2, locals := 44 } : Room) s m ([(.ref r0), (.ref r4)] : List Value).toArray below meth c Z a0 tables_1 (⟨"com/example/forebound/forebound/problem/Sum", "addListed", "(Lcom/example/forebound/forebound/problem/Problem$Table;)V"⟩ : MethodName).cls (⟨"com/example/forebound/forebound/problem/Sum", "addListed", "(Lcom/example/forebound/forebound/problem/Problem$Table;)V"⟩ : MethodName).name prog_28_method_7_code 21 none n0 T ((r4, ob0 (.ref r5) (.ref r6) (.ref r7) (.long (0 : Int64)) (.int (1 : Int32))) :: (r0, ob1 (.ref r1) (.ref r2) (.int (cnt (fb ml pa f1))) (.long (0 : Int64)) (.long hi) (.long lo) .null (.ref r3)) :: (r1, .inr (.long, List.map Value.long (z4))) :: (r2, .inr (.byte, List.map Value.int (fb ml pa f1))) :: (r5, .inr (.int, [(.int pa), (.int pb)])) :: (r6, .inr (.long, [(.long (0 : Int64)), (.long (0 : Int64))])) :: (r7, .inr (.boolean, [(.int f1), (.int f2)])) :: (r3, .inr (.int, List.map Value.int sv)) :: RR) 0 0 := A
          refine A.aloadN (q := 314) d12_313 rfl rfl rfl ?_
          refine A.iload (q := 316) d12_314 rfl rfl ?_
          have A := A.front (i := 1) (L' := ((r0, ob1 (.ref r1) (.ref r2) (.int (cnt (fb ml pa f1))) (.long (0 : Int64)) (.long hi) (.long lo) .null (.ref r3)) :: (r4, ob0 (.ref r5) (.ref r6) (.ref r7) (.long (0 : Int64)) (.int (1 : Int32))) :: (r1, .inr (.long, List.map Value.long (z4))) :: (r2, .inr (.byte, List.map Value.int (fb ml pa f1))) :: (r5, .inr (.int, [(.int pa), (.int pb)])) :: (r6, .inr (.long, [(.long (0 : Int64)), (.long (0 : Int64))])) :: (r7, .inr (.boolean, [(.int f1), (.int f2)])) :: (r3, .inr (.int, List.map Value.int sv)) :: RR)) rfl rfl
          refine A.callP (q := 319) (i := 0) (w1 := 111) (w2 := 113) (w3 := 2) (w4 := 114) (w5 := 1) (w6 := 112) (a := r0) (as := [(.int pb)]) (st := []) (W := 0) d12_316 rfl rfl rfl rfl rfl rfl rfl rfl (rmH l Z a0 hw n0 r0 pb r1 r2 (cnt (fb ml pa f1)) (0 : Int64) hi lo (.ref r3) _) (by decide) ⟨_, _, pd_1, rfl⟩ rfl rfl rfl (by decide) (by decide) (by decide) (by decide) ?_
          rintro _ T _ ⟨rfl, rfl⟩ A
          show Go p e below _ (T.setTop (mkF m 319 #[.val (.ref r0), .val (.ref r4), .val (.ref r5), .val (.int j10), .val (.int v12), .val (.long (0 : Int64)), .second, .val (.long hi), .second, .val (.long lo), .second, .val (.long (0 : Int64)), .second, .val (.long j22), .second, .val (.long j23), .second, .val (.int (1 : Int32)), .val (.int pb), .val (.long (0 : Int64)), .second] []))
          refine A.lload (q := 321) d12_319 rfl rfl ?_
          refine A.lload (q := 323) d12_321 rfl rfl ?_
          refine A.callS (q := 326) (w1 := 117) (w2 := 118) (w3 := 93) (w4 := 119) (as := [(.long j22), (.long (0 : Int64))]) (st := []) (W := 0) d12_323 rfl rfl rfl rfl rfl (rmmax l Z a0 hw n0 j22 (0 : Int64) _) (by decide) ⟨_, _, pd_7, rfl⟩ rfl rfl rfl (by decide) (by decide) (by decide) (by decide) ?_
          rintro _ T _ ⟨rfl, rfl⟩ A
          show Go p e below _ (T.setTop (mkF m 326 #[.val (.ref r0), .val (.ref r4), .val (.ref r5), .val (.int j10), .val (.int v12), .val (.long (0 : Int64)), .second, .val (.long hi), .second, .val (.long lo), .second, .val (.long (0 : Int64)), .second, .val (.long j22), .second, .val (.long j23), .second, .val (.int (1 : Int32)), .val (.int pb), .val (.long (0 : Int64)), .second] [(.long (Fmax j22 (0 : Int64)))]))
          obtain ⟨v32, e32⟩ : ∃ v : Int64, (Fmax j22 (0 : Int64)) = v := ⟨_, rfl⟩
          rw [e32]
          refine A.lstore (q := 328) (l' := #[.val (.ref r0), .val (.ref r4), .val (.ref r5), .val (.int j10), .val (.int v12), .val (.long (0 : Int64)), .second, .val (.long hi), .second, .val (.long lo), .second, .val (.long (0 : Int64)), .second, .val (.long v32), .second, .val (.long j23), .second, .val (.int (1 : Int32)), .val (.int pb), .val (.long (0 : Int64)), .second]) d12_326 rfl rfl ?_
          refine A.lload (q := 330) d12_328 rfl rfl ?_
          refine A.lload (q := 332) d12_330 rfl rfl ?_
          refine A.callS (q := 335) (w1 := 120) (w2 := 121) (w3 := 93) (w4 := 122) (as := [(.long j23), (.long (0 : Int64))]) (st := []) (W := 0) d12_332 rfl rfl rfl rfl rfl (rmmin l Z a0 hw n0 j23 (0 : Int64) _) (by decide) ⟨_, _, pd_7, rfl⟩ rfl rfl rfl (by decide) (by decide) (by decide) (by decide) ?_
          rintro _ T _ ⟨rfl, rfl⟩ A
          show Go p e below _ (T.setTop (mkF m 335 #[.val (.ref r0), .val (.ref r4), .val (.ref r5), .val (.int j10), .val (.int v12), .val (.long (0 : Int64)), .second, .val (.long hi), .second, .val (.long lo), .second, .val (.long (0 : Int64)), .second, .val (.long v32), .second, .val (.long j23), .second, .val (.int (1 : Int32)), .val (.int pb), .val (.long (0 : Int64)), .second] [(.long (Fmin j23 (0 : Int64)))]))
          obtain ⟨v33, e33⟩ : ∃ v : Int64, (Fmin j23 (0 : Int64)) = v := ⟨_, rfl⟩
          rw [e33]
          refine A.lstore (q := 337) (l' := #[.val (.ref r0), .val (.ref r4), .val (.ref r5), .val (.int j10), .val (.int v12), .val (.long (0 : Int64)), .second, .val (.long hi), .second, .val (.long lo), .second, .val (.long (0 : Int64)), .second, .val (.long v32), .second, .val (.long v33), .second, .val (.int (1 : Int32)), .val (.int pb), .val (.long (0 : Int64)), .second]) d12_335 rfl rfl ?_
          exact J248_39 T _ _ _ _ _ ((fb ml pa f1)) (by first | (simp only [e29, e32, e33, if_pos h30, if_pos h31]; done) | (subst e29 e32 e33; simp only [if_pos h30, if_pos h31])) (by first | (simp only [e29, e32, e33, if_pos h30, if_pos h31]; done) | (subst e29 e32 e33; simp only [if_pos h30, if_pos h31])) (by first | exact Two.u | exact Two.v | assumption) (by first | exact Two.u | exact Two.v | assumption) (by first | (simp only [e29, e32, e33, if_pos h30, if_pos h31]; done) | (subst e29 e32 e33; simp only [if_pos h30, if_pos h31])) (by first | (simp only [e29, e32, e33, if_pos h30, if_pos h31]; done) | (subst e29 e32 e33; simp only [if_pos h30, if_pos h31])) A
        · refine A.aloadN (q := 277) d12_276 rfl rfl rfl ?_
          refine A.iload (q := 279) d12_277 rfl rfl ?_
          have A := A.front (i := 2) rfl rfl
          have A := A.front (i := 2) (L' := ((r0, ob1 (.ref r1) (.ref r2) (.int (cnt (fb ml pa f1))) (.long (0 : Int64)) (.long hi) (.long lo) .null (.ref r3)) :: (r2, .inr (.byte, List.map Value.int (fb ml pa f1))) :: (r4, ob0 (.ref r5) (.ref r6) (.ref r7) (.long (0 : Int64)) (.int (1 : Int32))) :: (r1, .inr (.long, List.map Value.long (z4))) :: (r5, .inr (.int, [(.int pa), (.int pb)])) :: (r6, .inr (.long, [(.long (0 : Int64)), (.long (0 : Int64))])) :: (r7, .inr (.boolean, [(.int f1), (.int f2)])) :: (r3, .inr (.int, List.map Value.int sv)) :: RR)) rfl rfl
          refine A.callP (q := 282) (i := 0) (w1 := 126) (w2 := 128) (w3 := 2) (w4 := 129) (w5 := 1) (w6 := 127) (a := r0) (as := [(.int pb)]) (st := []) (W := 0) d12_279 rfl rfl rfl rfl rfl rfl rfl rfl (rmO l Z a0 hw n0 r0 pb r1 r2 (cnt (fb ml pa f1)) (0 : Int64) hi lo (.ref r3) (fb ml pa f1) _ nq.1 (by rw [(show (fb ml pa f1).length = 4 by simp only [List.length_set, own_u1len, own_fblen, own_mkLlen, own_l2Llen, own_uLlen, own_umlen, len_ml])]; exact nq.2.1)) (by decide) ⟨_, _, pd_1, rfl⟩ rfl rfl rfl (by decide) (by decide) (by decide) (by decide) ?_
          rintro _ T _ ⟨rfl, rfl⟩ A
          show Go p e below _ (T.setTop (mkF m 282 #[.val (.ref r0), .val (.ref r4), .val (.ref r5), .val (.int j10), .val (.int v12), .val (.long (0 : Int64)), .second, .val (.long hi), .second, .val (.long lo), .second, .val (.long (0 : Int64)), .second, .val (.long j22), .second, .val (.long j23), .second, .val (.int (1 : Int32)), .val (.int pb), s24, s25] []))
          refine A.goto (r := 337) d12_282 (by decide) ?_
          have A := A.front (i := 7) rfl rfl
          have A := A.front (i := 7) rfl rfl
          have A := A.front (i := 7) rfl rfl
          have A := A.front (i := 7) rfl rfl
          have A := A.front (i := 5) rfl rfl
          have A := A.front (i := 7) rfl rfl
          have A := A.front (i := 7) rfl rfl
          have A := A.front (i := 7) (L' := ((r0, ob1 (.ref r1) (.ref r2) (.int ((cnt (fb ml pa f1)) - (1 : Int32))) (.long (0 : Int64)) (.long hi) (.long lo) .null (.ref r3)) :: (r4, ob0 (.ref r5) (.ref r6) (.ref r7) (.long (0 : Int64)) (.int (1 : Int32))) :: (r1, .inr (.long, List.map Value.long (z4))) :: (r2, .inr (.byte, List.map Value.int ((fb ml pa f1).set (pb).toNatClampNeg ((((fb ml pa f1).getD (pb).toNatClampNeg (0 : Int32)) ||| (1 : Int32)).toInt8.toInt32)))) :: (r5, .inr (.int, [(.int pa), (.int pb)])) :: (r6, .inr (.long, [(.long (0 : Int64)), (.long (0 : Int64))])) :: (r7, .inr (.boolean, [(.int f1), (.int f2)])) :: (r3, .inr (.int, List.map Value.int sv)) :: RR)) rfl rfl
          exact J248_39 T _ _ _ _ _ (((fb ml pa f1).set (pb).toNatClampNeg ((((fb ml pa f1).getD (pb).toNatClampNeg (0 : Int32)) ||| (1 : Int32)).toInt8.toInt32))) (by simp only [e29, if_neg h31, if_pos h30]) (by simp only [e29, if_neg h31, if_pos h30]) (by first | exact Two.u | exact Two.v | assumption) (by first | exact Two.u | exact Two.v | assumption) (by simp only [e29, if_neg h31, if_pos h30]) (by simp only [e29, if_neg h31, if_pos h30]) A
      · refine A.goto (r := 337) d12_263 (by decide) ?_
        have A := A.front (i := 7) rfl rfl
        have A := A.front (i := 7) rfl rfl
        have A := A.front (i := 7) rfl rfl
        have A := A.front (i := 7) rfl rfl
        have A := A.front (i := 5) rfl rfl
        have A := A.front (i := 7) rfl rfl
        have A := A.front (i := 7) rfl rfl
        have A := A.front (i := 7) (L' := ((r0, ob1 (.ref r1) (.ref r2) (.int (cnt (fb ml pa f1))) (.long (0 : Int64)) (.long hi) (.long lo) .null (.ref r3)) :: (r4, ob0 (.ref r5) (.ref r6) (.ref r7) (.long (0 : Int64)) (.int (1 : Int32))) :: (r1, .inr (.long, List.map Value.long (z4))) :: (r2, .inr (.byte, List.map Value.int (fb ml pa f1))) :: (r5, .inr (.int, [(.int pa), (.int pb)])) :: (r6, .inr (.long, [(.long (0 : Int64)), (.long (0 : Int64))])) :: (r7, .inr (.boolean, [(.int f1), (.int f2)])) :: (r3, .inr (.int, List.map Value.int sv)) :: RR)) rfl rfl
        exact J248_39 T _ _ _ _ _ ((fb ml pa f1)) (by simp only [e29, if_neg h30]) (by simp only [e29, if_neg h30]) (by first | exact Two.u | exact Two.v | assumption) (by first | exact Two.u | exact Two.v | assumption) (by simp only [e29, if_neg h30]) (by simp only [e29, if_neg h30]) A
     refine A.aloadN (q := 249) d12_248 rfl rfl rfl ?_
     refine A.iload (q := 251) d12_249 rfl rfl ?_
     refine A.iaload (q := 252) (i := 1) (v := (.int pa)) d12_251 rfl rfl (by decide) rfl ?_
     refine A.istore (q := 254) (l' := #[.val (.ref r0), .val (.ref r4), .val (.ref r5), .val (.int j10), .val (.int v12), .val (.long (0 : Int64)), .second, .val (.long hi), .second, .val (.long lo), .second, .val (.long (0 : Int64)), .second, .val (.long (-9223372036854775808 : Int64)), .second, .val (.long (9223372036854775807 : Int64)), .second, .val (.int (0 : Int32)), .val (.int pa), .unset, .unset]) d12_252 rfl rfl ?_
     refine A.aloadN (q := 255) d12_254 rfl rfl rfl ?_
     refine A.iload (q := 257) d12_255 rfl rfl ?_
     have A := A.front (i := 5) rfl rfl
     have A := A.front (i := 5) (L' := ((r0, ob1 (.ref r1) (.ref r2) (.int al) (.long (0 : Int64)) (.long hi) (.long lo) .null (.ref r3)) :: (r2, .inr (.byte, List.map Value.int ml)) :: (r4, ob0 (.ref r5) (.ref r6) (.ref r7) (.long (0 : Int64)) (.int (1 : Int32))) :: (r5, .inr (.int, [(.int pa), (.int pb)])) :: (r6, .inr (.long, [(.long (0 : Int64)), (.long (0 : Int64))])) :: (r7, .inr (.boolean, [(.int f1), (.int f2)])) :: (r1, .inr (.long, List.map Value.long (z4))) :: (r3, .inr (.int, List.map Value.int sv)) :: RR)) rfl rfl
     refine A.callV (q := 260) (i := 0) (w1 := 73) (w2 := 18) (w3 := 2) (w4 := 21) (w5 := 20) (w6 := 19) (a := r0) (as := [(.int pa)]) (st := []) (W := 0) d12_257 rfl rfl rfl rfl rfl rfl rfl rfl (rmF l Z a0 hw n0 r0 pa r1 r2 al (0 : Int64) hi lo .null (.ref r3) ml _ np.1 (by rw [len_ml]; exact np.2.1)) (by decide) ⟨_, _, pd_2, rfl⟩ rfl rfl rfl (by decide) (by decide) (by decide) (by decide) ?_
     rintro _ T _ ⟨rfl, rfl⟩ A
     show Go p e below _ (T.setTop (mkF m 260 #[.val (.ref r0), .val (.ref r4), .val (.ref r5), .val (.int j10), .val (.int v12), .val (.long (0 : Int64)), .second, .val (.long hi), .second, .val (.long lo), .second, .val (.long (0 : Int64)), .second, .val (.long (-9223372036854775808 : Int64)), .second, .val (.long (9223372036854775807 : Int64)), .second, .val (.int (0 : Int32)), .val (.int pa), .unset, .unset] [(.int (FF pa ml))]))
     obtain ⟨v17, e17⟩ : ∃ v : Int32, (FF pa ml) = v := ⟨_, rfl⟩
     rw [e17]
     refine A.if_eq (q := 263) (r := 266) d12_260 rfl (by decide) (fun h18 => ?_) (fun h18 => ?_)
     · refine A.aloadN (q := 267) d12_266 rfl rfl rfl ?_
       have A := A.front (i := 2) (L' := ((r4, ob0 (.ref r5) (.ref r6) (.ref r7) (.long (0 : Int64)) (.int (1 : Int32))) :: (r0, ob1 (.ref r1) (.ref r2) (.int al) (.long (0 : Int64)) (.long hi) (.long lo) .null (.ref r3)) :: (r2, .inr (.byte, List.map Value.int ml)) :: (r5, .inr (.int, [(.int pa), (.int pb)])) :: (r6, .inr (.long, [(.long (0 : Int64)), (.long (0 : Int64))])) :: (r7, .inr (.boolean, [(.int f1), (.int f2)])) :: (r1, .inr (.long, List.map Value.long (z4))) :: (r3, .inr (.int, List.map Value.int sv)) :: RR)) rfl rfl
       refine A.callV (q := 270) (i := 0) (w1 := 74) (w2 := 75) (w3 := 39) (w4 := 78) (w5 := 77) (w6 := 76) (a := r4) (as := []) (st := []) (W := 0) d12_267 rfl rfl rfl rfl rfl rfl rfl rfl (rm13 l Z a0 hw n0 r4 r5 r6 r7 (0 : Int64) (1 : Int32) _) (by decide) ⟨_, _, pd_4, rfl⟩ rfl rfl rfl (by decide) (by decide) (by decide) (by decide) ?_
       rintro _ T _ ⟨rfl, rfl⟩ A
       show Go p e below _ (T.setTop (mkF m 270 #[.val (.ref r0), .val (.ref r4), .val (.ref r5), .val (.int j10), .val (.int v12), .val (.long (0 : Int64)), .second, .val (.long hi), .second, .val (.long lo), .second, .val (.long (0 : Int64)), .second, .val (.long (-9223372036854775808 : Int64)), .second, .val (.long (9223372036854775807 : Int64)), .second, .val (.int (0 : Int32)), .val (.int pa), .unset, .unset] [(.ref r7)]))
       refine A.iload (q := 272) d12_270 rfl rfl ?_
       refine A.baloadZ (q := 273) (i := 5) (v := (.int f1)) d12_272 rfl rfl (by decide) rfl ?_
       refine A.if_eq (q := 276) (r := 285) d12_273 rfl (by decide) (fun h19 => ?_) (fun h19 => ?_)
       · refine A.aloadN (q := 286) d12_285 rfl rfl rfl ?_
         refine A.iload (q := 288) d12_286 rfl rfl ?_
         have A := A.front (i := 6) rfl rfl
         have A := A.front (i := 2) (L' := ((r0, ob1 (.ref r1) (.ref r2) (.int al) (.long (0 : Int64)) (.long hi) (.long lo) .null (.ref r3)) :: (r1, .inr (.long, List.map Value.long (z4))) :: (r4, ob0 (.ref r5) (.ref r6) (.ref r7) (.long (0 : Int64)) (.int (1 : Int32))) :: (r2, .inr (.byte, List.map Value.int ml)) :: (r5, .inr (.int, [(.int pa), (.int pb)])) :: (r6, .inr (.long, [(.long (0 : Int64)), (.long (0 : Int64))])) :: (r7, .inr (.boolean, [(.int f1), (.int f2)])) :: (r3, .inr (.int, List.map Value.int sv)) :: RR)) rfl rfl
         refine A.callV (q := 291) (i := 0) (w1 := 79) (w2 := 80) (w3 := 2) (w4 := 83) (w5 := 82) (w6 := 81) (a := r0) (as := [(.int pa)]) (st := []) (W := 0) d12_288 rfl rfl rfl rfl rfl rfl rfl rfl (rmC l Z a0 hw n0 r0 pa r1 r2 al hi lo .null (.ref r3) (z4) _ np.1 np.2.2.1) (by decide) ⟨_, _, pd_5, rfl⟩ rfl rfl rfl (by decide) (by decide) (by decide) (by decide) ?_
         rintro _ T _ ⟨rfl, rfl⟩ A
         show Go p e below _ (T.setTop (mkF m 291 #[.val (.ref r0), .val (.ref r4), .val (.ref r5), .val (.int j10), .val (.int v12), .val (.long (0 : Int64)), .second, .val (.long hi), .second, .val (.long lo), .second, .val (.long (0 : Int64)), .second, .val (.long (-9223372036854775808 : Int64)), .second, .val (.long (9223372036854775807 : Int64)), .second, .val (.int (0 : Int32)), .val (.int pa), .unset, .unset] [(.long (0 : Int64))]))
         refine A.aloadN (q := 292) d12_291 rfl rfl rfl ?_
         have A := A.front (i := 2) (L' := ((r4, ob0 (.ref r5) (.ref r6) (.ref r7) (.long (0 : Int64)) (.int (1 : Int32))) :: (r0, ob1 (.ref r1) (.ref r2) (.int al) (.long (0 : Int64)) (.long hi) (.long lo) .null (.ref r3)) :: (r1, .inr (.long, List.map Value.long (z4))) :: (r2, .inr (.byte, List.map Value.int ml)) :: (r5, .inr (.int, [(.int pa), (.int pb)])) :: (r6, .inr (.long, [(.long (0 : Int64)), (.long (0 : Int64))])) :: (r7, .inr (.boolean, [(.int f1), (.int f2)])) :: (r3, .inr (.int, List.map Value.int sv)) :: RR)) rfl rfl
         refine A.callV (q := 295) (i := 0) (w1 := 86) (w2 := 87) (w3 := 39) (w4 := 90) (w5 := 89) (w6 := 88) (a := r4) (as := []) (st := [(.long (0 : Int64))]) (W := 2) d12_292 rfl rfl rfl rfl rfl rfl rfl rfl (rm15 l Z a0 hw n0 r4 r5 r6 r7 (0 : Int64) (1 : Int32) _) (by decide) ⟨_, _, pd_6, rfl⟩ rfl rfl rfl (by decide) (by decide) (by decide) (by decide) ?_
         rintro _ T _ ⟨rfl, rfl⟩ A
         show Go p e below _ (T.setTop (mkF m 295 #[.val (.ref r0), .val (.ref r4), .val (.ref r5), .val (.int j10), .val (.int v12), .val (.long (0 : Int64)), .second, .val (.long hi), .second, .val (.long lo), .second, .val (.long (0 : Int64)), .second, .val (.long (-9223372036854775808 : Int64)), .second, .val (.long (9223372036854775807 : Int64)), .second, .val (.int (0 : Int32)), .val (.int pa), .unset, .unset] [(.ref r6), (.long (0 : Int64))]))
         refine A.iload (q := 297) d12_295 rfl rfl ?_
         refine A.laload (q := 298) (i := 5) (v := (.long (0 : Int64))) d12_297 rfl rfl (by decide) rfl ?_
         refine A.ladd (q := 299) (v := (0 : Int64)) d12_298 rfl (by decide) ?_
         refine A.lstore (q := 301) (l' := #[.val (.ref r0), .val (.ref r4), .val (.ref r5), .val (.int j10), .val (.int v12), .val (.long (0 : Int64)), .second, .val (.long hi), .second, .val (.long lo), .second, .val (.long (0 : Int64)), .second, .val (.long (-9223372036854775808 : Int64)), .second, .val (.long (9223372036854775807 : Int64)), .second, .val (.int (0 : Int32)), .val (.int pa), .val (.long (0 : Int64)), .second]) d12_299 rfl rfl ?_
         refine A.aloadN (q := 302) d12_301 rfl rfl rfl ?_
         refine A.getF (q := 305) (w := 10) (i := 1) (j := 0) d12_302 rfl rfl rfl rfl ?_
         intro T A
         refine A.iload (q := 307) d12_305 rfl rfl ?_
         refine A.lload (q := 309) d12_307 rfl rfl ?_
         refine A.lload (q := 311) d12_309 rfl rfl ?_
         refine A.lsub (q := 312) (v := (0 : Int64)) d12_311 rfl (by decide) ?_
         refine A.lastoreM (q := 313) (i := 2) (x' := (0 : Int64)) (L' := ((r4, ob0 (.ref r5) (.ref r6) (.ref r7) (.long (0 : Int64)) (.int (1 : Int32))) :: (r0, ob1 (.ref r1) (.ref r2) (.int al) (.long (0 : Int64)) (.long hi) (.long lo) .null (.ref r3)) :: (r1, .inr (.long, List.map Value.long ((z4).set (pa).toNatClampNeg (0 : Int64)))) :: (r2, .inr (.byte, List.map Value.int ml)) :: (r5, .inr (.int, [(.int pa), (.int pb)])) :: (r6, .inr (.long, [(.long (0 : Int64)), (.long (0 : Int64))])) :: (r7, .inr (.boolean, [(.int f1), (.int f2)])) :: (r3, .inr (.int, List.map Value.int sv)) :: RR)) d12_312 rfl rfl np.1 np.2.1 rfl rfl ?_
         intro T A
         rw [np.2.2.2] at A
         have A : Here p l e ({ frames := 3, cells := 1, slots := 2, locals := 44 } : Room) s m ([(.ref r0), (.ref r4)] : List Value).toArray below meth c Z a0 tables_1 (⟨"com/example/forebound/forebound/problem/Sum", "addListed", "(Lcom/example/forebound/forebound/problem/Problem$Table;)V"⟩ : MethodName).cls (⟨"com/example/forebound/forebound/problem/Sum", "addListed", "(Lcom/example/forebound/forebound/problem/Problem$Table;)V"⟩ : MethodName).name prog_28_method_7_code 21 none n0 T ((r4, ob0 (.ref r5) (.ref r6) (.ref r7) (.long (0 : Int64)) (.int (1 : Int32))) :: (r0, ob1 (.ref r1) (.ref r2) (.int al) (.long (0 : Int64)) (.long hi) (.long lo) .null (.ref r3)) :: (r1, .inr (.long, List.map Value.long (z4))) :: (r2, .inr (.byte, List.map Value.int ml)) :: (r5, .inr (.int, [(.int pa), (.int pb)])) :: (r6, .inr (.long, [(.long (0 : Int64)), (.long (0 : Int64))])) :: (r7, .inr (.boolean, [(.int f1), (.int f2)])) :: (r3, .inr (.int, List.map Value.int sv)) :: RR) 0 0 := A
         refine A.aloadN (q := 314) d12_313 rfl rfl rfl ?_
         refine A.iload (q := 316) d12_314 rfl rfl ?_
         have A := A.front (i := 1) (L' := ((r0, ob1 (.ref r1) (.ref r2) (.int al) (.long (0 : Int64)) (.long hi) (.long lo) .null (.ref r3)) :: (r4, ob0 (.ref r5) (.ref r6) (.ref r7) (.long (0 : Int64)) (.int (1 : Int32))) :: (r1, .inr (.long, List.map Value.long (z4))) :: (r2, .inr (.byte, List.map Value.int ml)) :: (r5, .inr (.int, [(.int pa), (.int pb)])) :: (r6, .inr (.long, [(.long (0 : Int64)), (.long (0 : Int64))])) :: (r7, .inr (.boolean, [(.int f1), (.int f2)])) :: (r3, .inr (.int, List.map Value.int sv)) :: RR)) rfl rfl
         refine A.callP (q := 319) (i := 0) (w1 := 111) (w2 := 113) (w3 := 2) (w4 := 114) (w5 := 1) (w6 := 112) (a := r0) (as := [(.int pa)]) (st := []) (W := 0) d12_316 rfl rfl rfl rfl rfl rfl rfl rfl (rmH l Z a0 hw n0 r0 pa r1 r2 al (0 : Int64) hi lo (.ref r3) _) (by decide) ⟨_, _, pd_1, rfl⟩ rfl rfl rfl (by decide) (by decide) (by decide) (by decide) ?_
         rintro _ T _ ⟨rfl, rfl⟩ A
         show Go p e below _ (T.setTop (mkF m 319 #[.val (.ref r0), .val (.ref r4), .val (.ref r5), .val (.int j10), .val (.int v12), .val (.long (0 : Int64)), .second, .val (.long hi), .second, .val (.long lo), .second, .val (.long (0 : Int64)), .second, .val (.long (-9223372036854775808 : Int64)), .second, .val (.long (9223372036854775807 : Int64)), .second, .val (.int (0 : Int32)), .val (.int pa), .val (.long (0 : Int64)), .second] []))
         refine A.lload (q := 321) d12_319 rfl rfl ?_
         refine A.lload (q := 323) d12_321 rfl rfl ?_
         refine A.callS (q := 326) (w1 := 117) (w2 := 118) (w3 := 93) (w4 := 119) (as := [(.long (-9223372036854775808 : Int64)), (.long (0 : Int64))]) (st := []) (W := 0) d12_323 rfl rfl rfl rfl rfl (rmmax l Z a0 hw n0 (-9223372036854775808 : Int64) (0 : Int64) _) (by decide) ⟨_, _, pd_7, rfl⟩ rfl rfl rfl (by decide) (by decide) (by decide) (by decide) ?_
         rintro _ T _ ⟨rfl, rfl⟩ A
         show Go p e below _ (T.setTop (mkF m 326 #[.val (.ref r0), .val (.ref r4), .val (.ref r5), .val (.int j10), .val (.int v12), .val (.long (0 : Int64)), .second, .val (.long hi), .second, .val (.long lo), .second, .val (.long (0 : Int64)), .second, .val (.long (-9223372036854775808 : Int64)), .second, .val (.long (9223372036854775807 : Int64)), .second, .val (.int (0 : Int32)), .val (.int pa), .val (.long (0 : Int64)), .second] [(.long (Fmax (-9223372036854775808 : Int64) (0 : Int64)))]))
         obtain ⟨v20, e20⟩ : ∃ v : Int64, (Fmax (-9223372036854775808 : Int64) (0 : Int64)) = v := ⟨_, rfl⟩
         rw [e20]
         refine A.lstore (q := 328) (l' := #[.val (.ref r0), .val (.ref r4), .val (.ref r5), .val (.int j10), .val (.int v12), .val (.long (0 : Int64)), .second, .val (.long hi), .second, .val (.long lo), .second, .val (.long (0 : Int64)), .second, .val (.long v20), .second, .val (.long (9223372036854775807 : Int64)), .second, .val (.int (0 : Int32)), .val (.int pa), .val (.long (0 : Int64)), .second]) d12_326 rfl rfl ?_
         refine A.lload (q := 330) d12_328 rfl rfl ?_
         refine A.lload (q := 332) d12_330 rfl rfl ?_
         refine A.callS (q := 335) (w1 := 120) (w2 := 121) (w3 := 93) (w4 := 122) (as := [(.long (9223372036854775807 : Int64)), (.long (0 : Int64))]) (st := []) (W := 0) d12_332 rfl rfl rfl rfl rfl (rmmin l Z a0 hw n0 (9223372036854775807 : Int64) (0 : Int64) _) (by decide) ⟨_, _, pd_7, rfl⟩ rfl rfl rfl (by decide) (by decide) (by decide) (by decide) ?_
         rintro _ T _ ⟨rfl, rfl⟩ A
         show Go p e below _ (T.setTop (mkF m 335 #[.val (.ref r0), .val (.ref r4), .val (.ref r5), .val (.int j10), .val (.int v12), .val (.long (0 : Int64)), .second, .val (.long hi), .second, .val (.long lo), .second, .val (.long (0 : Int64)), .second, .val (.long v20), .second, .val (.long (9223372036854775807 : Int64)), .second, .val (.int (0 : Int32)), .val (.int pa), .val (.long (0 : Int64)), .second] [(.long (Fmin (9223372036854775807 : Int64) (0 : Int64)))]))
         obtain ⟨v21, e21⟩ : ∃ v : Int64, (Fmin (9223372036854775807 : Int64) (0 : Int64)) = v := ⟨_, rfl⟩
         rw [e21]
         refine A.lstore (q := 337) (l' := #[.val (.ref r0), .val (.ref r4), .val (.ref r5), .val (.int j10), .val (.int v12), .val (.long (0 : Int64)), .second, .val (.long hi), .second, .val (.long lo), .second, .val (.long (0 : Int64)), .second, .val (.long v20), .second, .val (.long v21), .second, .val (.int (0 : Int32)), .val (.int pa), .val (.long (0 : Int64)), .second]) d12_335 rfl rfl ?_
         exact J248_27 T _ _ _ _ _ (ml) (by first | (simp only [e17, e20, e21, if_pos h18, if_pos h19]; done) | (subst e17 e20 e21; simp only [if_pos h18, if_pos h19])) (by first | (simp only [e17, e20, e21, if_pos h18, if_pos h19]; done) | (subst e17 e20 e21; simp only [if_pos h18, if_pos h19])) (by first | exact Two.u | exact Two.v | assumption) (by first | exact Two.u | exact Two.v | assumption) (by first | (simp only [e17, e20, e21, if_pos h18, if_pos h19]; done) | (subst e17 e20 e21; simp only [if_pos h18, if_pos h19])) (by first | (simp only [e17, e20, e21, if_pos h18, if_pos h19]; done) | (subst e17 e20 e21; simp only [if_pos h18, if_pos h19])) A
       · refine A.aloadN (q := 277) d12_276 rfl rfl rfl ?_
         refine A.iload (q := 279) d12_277 rfl rfl ?_
         have A := A.front (i := 2) rfl rfl
         have A := A.front (i := 2) (L' := ((r0, ob1 (.ref r1) (.ref r2) (.int al) (.long (0 : Int64)) (.long hi) (.long lo) .null (.ref r3)) :: (r2, .inr (.byte, List.map Value.int ml)) :: (r4, ob0 (.ref r5) (.ref r6) (.ref r7) (.long (0 : Int64)) (.int (1 : Int32))) :: (r5, .inr (.int, [(.int pa), (.int pb)])) :: (r6, .inr (.long, [(.long (0 : Int64)), (.long (0 : Int64))])) :: (r7, .inr (.boolean, [(.int f1), (.int f2)])) :: (r1, .inr (.long, List.map Value.long (z4))) :: (r3, .inr (.int, List.map Value.int sv)) :: RR)) rfl rfl
         refine A.callP (q := 282) (i := 0) (w1 := 126) (w2 := 128) (w3 := 2) (w4 := 129) (w5 := 1) (w6 := 127) (a := r0) (as := [(.int pa)]) (st := []) (W := 0) d12_279 rfl rfl rfl rfl rfl rfl rfl rfl (rmO l Z a0 hw n0 r0 pa r1 r2 al (0 : Int64) hi lo (.ref r3) ml _ np.1 (by rw [len_ml]; exact np.2.1)) (by decide) ⟨_, _, pd_1, rfl⟩ rfl rfl rfl (by decide) (by decide) (by decide) (by decide) ?_
         rintro _ T _ ⟨rfl, rfl⟩ A
         show Go p e below _ (T.setTop (mkF m 282 #[.val (.ref r0), .val (.ref r4), .val (.ref r5), .val (.int j10), .val (.int v12), .val (.long (0 : Int64)), .second, .val (.long hi), .second, .val (.long lo), .second, .val (.long (0 : Int64)), .second, .val (.long (-9223372036854775808 : Int64)), .second, .val (.long (9223372036854775807 : Int64)), .second, .val (.int (0 : Int32)), .val (.int pa), .unset, .unset] []))
         refine A.goto (r := 337) d12_282 (by decide) ?_
         have A := A.front (i := 7) rfl rfl
         have A := A.front (i := 6) rfl rfl
         have A := A.front (i := 6) rfl rfl
         have A := A.front (i := 6) rfl rfl
         have A := A.front (i := 5) rfl rfl
         have A := A.front (i := 7) rfl rfl
         have A := A.front (i := 7) rfl rfl
         have A := A.front (i := 7) (L' := ((r0, ob1 (.ref r1) (.ref r2) (.int (al - (1 : Int32))) (.long (0 : Int64)) (.long hi) (.long lo) .null (.ref r3)) :: (r4, ob0 (.ref r5) (.ref r6) (.ref r7) (.long (0 : Int64)) (.int (1 : Int32))) :: (r1, .inr (.long, List.map Value.long (z4))) :: (r2, .inr (.byte, List.map Value.int (ml.set (pa).toNatClampNeg (((ml.getD (pa).toNatClampNeg (0 : Int32)) ||| (1 : Int32)).toInt8.toInt32)))) :: (r5, .inr (.int, [(.int pa), (.int pb)])) :: (r6, .inr (.long, [(.long (0 : Int64)), (.long (0 : Int64))])) :: (r7, .inr (.boolean, [(.int f1), (.int f2)])) :: (r3, .inr (.int, List.map Value.int sv)) :: RR)) rfl rfl
         exact J248_27 T _ _ _ _ _ ((ml.set (pa).toNatClampNeg (((ml.getD (pa).toNatClampNeg (0 : Int32)) ||| (1 : Int32)).toInt8.toInt32))) (by simp only [e17, if_neg h19, if_pos h18]) (by simp only [e17, if_neg h19, if_pos h18]) (by first | exact Two.u | exact Two.v | assumption) (by first | exact Two.u | exact Two.v | assumption) (by simp only [e17, if_neg h19, if_pos h18]) (by simp only [e17, if_neg h19, if_pos h18]) A
     · refine A.goto (r := 337) d12_263 (by decide) ?_
       have A := A.front (i := 7) rfl rfl
       have A := A.front (i := 6) rfl rfl
       have A := A.front (i := 6) rfl rfl
       have A := A.front (i := 6) rfl rfl
       have A := A.front (i := 5) rfl rfl
       have A := A.front (i := 7) rfl rfl
       have A := A.front (i := 7) rfl rfl
       have A := A.front (i := 7) (L' := ((r0, ob1 (.ref r1) (.ref r2) (.int al) (.long (0 : Int64)) (.long hi) (.long lo) .null (.ref r3)) :: (r4, ob0 (.ref r5) (.ref r6) (.ref r7) (.long (0 : Int64)) (.int (1 : Int32))) :: (r1, .inr (.long, List.map Value.long (z4))) :: (r2, .inr (.byte, List.map Value.int ml)) :: (r5, .inr (.int, [(.int pa), (.int pb)])) :: (r6, .inr (.long, [(.long (0 : Int64)), (.long (0 : Int64))])) :: (r7, .inr (.boolean, [(.int f1), (.int f2)])) :: (r3, .inr (.int, List.map Value.int sv)) :: RR)) rfl rfl
       exact J248_27 T _ _ _ _ _ (ml) (by simp only [e17, if_neg h18]) (by simp only [e17, if_neg h18]) (by first | exact Two.u | exact Two.v | assumption) (by first | exact Two.u | exact Two.v | assumption) (by simp only [e17, if_neg h18]) (by simp only [e17, if_neg h18]) A
    refine A.iload (q := 105) d12_103 rfl rfl ?_
    refine A.if_le (q := 108) (r := 161) d12_105 rfl (by decide) (fun h13 => ?_) (fun h13 => ?_)
    · refine A.iload (q := 163) d12_161 rfl rfl ?_
      refine A.ifT (r := 219) d12_163 (by decide) ((if0 _ _).trans (flt h13).2.2.2) ?_
      exact J103_15 T  A
    · refine A.lload (q := 110) d12_108 rfl rfl ?_
      refine A.lconst (q := 111) (v := (0 : Int64)) d12_110 rfl (by decide) ?_
      refine A.lcmp_le (q := 112) (q2 := 115) (r := 161) d12_111 rfl d12_112 rfl (by decide) (fun _ => ?_) (fun h => ((show ¬ ((0 : Int64) < (0 : Int64)) by decide) h).elim)
      refine A.iload (q := 163) d12_161 rfl rfl ?_
      refine A.ifF (q := 166) d12_163 rfl ((if0 _ _).trans (tlt h13).2.2.2) ?_
      refine A.lload (q := 168) d12_166 rfl rfl ?_
      refine A.lconst (q := 169) (v := (0 : Int64)) d12_168 rfl (by decide) ?_
      refine A.lcmp_ge (q := 170) (q2 := 173) (r := 219) d12_169 rfl d12_170 rfl (by decide) (fun _ => ?_) (fun h => ((show ¬ ((0 : Int64) < (0 : Int64)) by decide) h).elim)
      exact J103_15 T  A
   refine A.aloadN (q := 18) d12_17 rfl rfl rfl ?_
   refine A.aloadN (q := 19) d12_18 rfl rfl rfl ?_
   refine A.iload (q := 21) d12_19 rfl rfl ?_
   refine A.iaload (q := 22) (i := 4) (v := (.int pb)) d12_21 rfl rfl (by decide) rfl ?_
   refine A.callV (q := 25) (i := 0) (w1 := 73) (w2 := 18) (w3 := 2) (w4 := 21) (w5 := 20) (w6 := 19) (a := r0) (as := [(.int pb)]) (st := []) (W := 0) d12_22 rfl rfl rfl rfl rfl rfl rfl rfl (rmF l Z a0 hw n0 r0 pb r1 r2 al (0 : Int64) hi lo .null (.ref r3) ml _ nq.1 (by rw [len_ml]; exact nq.2.1)) (by decide) ⟨_, _, pd_2, rfl⟩ rfl rfl rfl (by decide) (by decide) (by decide) (by decide) ?_
   rintro _ T _ ⟨rfl, rfl⟩ A
   show Go p e below _ (T.setTop (mkF m 25 #[.val (.ref r0), .val (.ref r4), .val (.ref r5), .val (.int j4), .val (.int (1 : Int32)), .unset, .unset, .unset, .unset, .unset, .unset, .unset, .unset, .unset, .unset, .unset, .unset, .unset, .unset, .unset, .unset] [(.int (FF pb ml))]))
   obtain ⟨v6, e6⟩ : ∃ v : Int32, (FF pb ml) = v := ⟨_, rfl⟩
   rw [e6]
   refine A.if_ne (q := 28) (r := 60) d12_25 rfl (by decide) (fun h7 => ?_) (fun h7 => ?_)
   · exact J17_10 T _ (by simp only [e6, if_neg h7]) A
   · obtain ⟨v8, e8⟩ : ∃ v : Int32, j4 + Int32.ofInt 1 = v := ⟨_, rfl⟩
     refine A.iinc (q := 31) (l' := #[.val (.ref r0), .val (.ref r4), .val (.ref r5), .val (.int v8), .val (.int (1 : Int32)), .unset, .unset, .unset, .unset, .unset, .unset, .unset, .unset, .unset, .unset, .unset, .unset, .unset, .unset, .unset, .unset]) d12_28 rfl rfl e8 rfl ?_
     refine A.aloadN (q := 32) d12_31 rfl rfl rfl ?_
     have A := A.front (i := 2) (L' := ((r4, ob0 (.ref r5) (.ref r6) (.ref r7) (.long (0 : Int64)) (.int (1 : Int32))) :: (r0, ob1 (.ref r1) (.ref r2) (.int al) (.long (0 : Int64)) (.long hi) (.long lo) .null (.ref r3)) :: (r2, .inr (.byte, List.map Value.int ml)) :: (r1, .inr (.long, List.map Value.long (z4))) :: (r5, .inr (.int, [(.int pa), (.int pb)])) :: (r6, .inr (.long, [(.long (0 : Int64)), (.long (0 : Int64))])) :: (r7, .inr (.boolean, [(.int f1), (.int f2)])) :: (r3, .inr (.int, List.map Value.int sv)) :: RR)) rfl rfl
     refine A.callV (q := 35) (i := 0) (w1 := 74) (w2 := 75) (w3 := 39) (w4 := 78) (w5 := 77) (w6 := 76) (a := r4) (as := []) (st := []) (W := 0) d12_32 rfl rfl rfl rfl rfl rfl rfl rfl (rm13 l Z a0 hw n0 r4 r5 r6 r7 (0 : Int64) (1 : Int32) _) (by decide) ⟨_, _, pd_4, rfl⟩ rfl rfl rfl (by decide) (by decide) (by decide) (by decide) ?_
     rintro _ T _ ⟨rfl, rfl⟩ A
     show Go p e below _ (T.setTop (mkF m 35 #[.val (.ref r0), .val (.ref r4), .val (.ref r5), .val (.int v8), .val (.int (1 : Int32)), .unset, .unset, .unset, .unset, .unset, .unset, .unset, .unset, .unset, .unset, .unset, .unset, .unset, .unset, .unset, .unset] [(.ref r7)]))
     refine A.iload (q := 37) d12_35 rfl rfl ?_
     refine A.baloadZ (q := 38) (i := 6) (v := (.int f2)) d12_37 rfl rfl (by decide) rfl ?_
     refine A.if_ne (q := 41) (r := 60) d12_38 rfl (by decide) (fun h9 => ?_) (fun h9 => ?_)
     · have A := A.front (i := 7) rfl rfl
       have A := A.front (i := 7) rfl rfl
       have A := A.front (i := 7) rfl rfl
       have A := A.front (i := 7) rfl rfl
       have A := A.front (i := 7) rfl rfl
       have A := A.front (i := 5) rfl rfl
       have A := A.front (i := 7) rfl rfl
       have A := A.front (i := 7) (L' := ((r0, ob1 (.ref r1) (.ref r2) (.int al) (.long (0 : Int64)) (.long hi) (.long lo) .null (.ref r3)) :: (r2, .inr (.byte, List.map Value.int ml)) :: (r4, ob0 (.ref r5) (.ref r6) (.ref r7) (.long (0 : Int64)) (.int (1 : Int32))) :: (r1, .inr (.long, List.map Value.long (z4))) :: (r5, .inr (.int, [(.int pa), (.int pb)])) :: (r6, .inr (.long, [(.long (0 : Int64)), (.long (0 : Int64))])) :: (r7, .inr (.boolean, [(.int f1), (.int f2)])) :: (r3, .inr (.int, List.map Value.int sv)) :: RR)) rfl rfl
       exact J17_10 T _ (by first | (simp only [e6, e8, if_neg h9, if_pos h7]; done) | (subst e6 e8; simp only [if_neg h9, if_pos h7])) A
     · refine A.aloadN (q := 42) d12_41 rfl rfl rfl ?_
       refine A.aloadN (q := 43) d12_42 rfl rfl rfl ?_
       refine A.iload (q := 45) d12_43 rfl rfl ?_
       refine A.iaload (q := 46) (i := 4) (v := (.int pb)) d12_45 rfl rfl (by decide) rfl ?_
       have A := A.front (i := 3) rfl rfl
       have A := A.front (i := 2) (L' := ((r0, ob1 (.ref r1) (.ref r2) (.int al) (.long (0 : Int64)) (.long hi) (.long lo) .null (.ref r3)) :: (r1, .inr (.long, List.map Value.long (z4))) :: (r4, ob0 (.ref r5) (.ref r6) (.ref r7) (.long (0 : Int64)) (.int (1 : Int32))) :: (r2, .inr (.byte, List.map Value.int ml)) :: (r5, .inr (.int, [(.int pa), (.int pb)])) :: (r6, .inr (.long, [(.long (0 : Int64)), (.long (0 : Int64))])) :: (r7, .inr (.boolean, [(.int f1), (.int f2)])) :: (r3, .inr (.int, List.map Value.int sv)) :: RR)) rfl rfl
       refine A.callV (q := 49) (i := 0) (w1 := 79) (w2 := 80) (w3 := 2) (w4 := 83) (w5 := 82) (w6 := 81) (a := r0) (as := [(.int pb)]) (st := []) (W := 0) d12_46 rfl rfl rfl rfl rfl rfl rfl rfl (rmC l Z a0 hw n0 r0 pb r1 r2 al hi lo .null (.ref r3) (z4) _ nq.1 nq.2.2.1) (by decide) ⟨_, _, pd_5, rfl⟩ rfl rfl rfl (by decide) (by decide) (by decide) (by decide) ?_
       rintro _ T _ ⟨rfl, rfl⟩ A
       show Go p e below _ (T.setTop (mkF m 49 #[.val (.ref r0), .val (.ref r4), .val (.ref r5), .val (.int v8), .val (.int (1 : Int32)), .unset, .unset, .unset, .unset, .unset, .unset, .unset, .unset, .unset, .unset, .unset, .unset, .unset, .unset, .unset, .unset] [(.long (0 : Int64))]))
       refine A.aloadN (q := 50) d12_49 rfl rfl rfl ?_
       have A := A.front (i := 2) (L' := ((r4, ob0 (.ref r5) (.ref r6) (.ref r7) (.long (0 : Int64)) (.int (1 : Int32))) :: (r0, ob1 (.ref r1) (.ref r2) (.int al) (.long (0 : Int64)) (.long hi) (.long lo) .null (.ref r3)) :: (r1, .inr (.long, List.map Value.long (z4))) :: (r2, .inr (.byte, List.map Value.int ml)) :: (r5, .inr (.int, [(.int pa), (.int pb)])) :: (r6, .inr (.long, [(.long (0 : Int64)), (.long (0 : Int64))])) :: (r7, .inr (.boolean, [(.int f1), (.int f2)])) :: (r3, .inr (.int, List.map Value.int sv)) :: RR)) rfl rfl
       refine A.callV (q := 53) (i := 0) (w1 := 86) (w2 := 87) (w3 := 39) (w4 := 90) (w5 := 89) (w6 := 88) (a := r4) (as := []) (st := [(.long (0 : Int64))]) (W := 2) d12_50 rfl rfl rfl rfl rfl rfl rfl rfl (rm15 l Z a0 hw n0 r4 r5 r6 r7 (0 : Int64) (1 : Int32) _) (by decide) ⟨_, _, pd_6, rfl⟩ rfl rfl rfl (by decide) (by decide) (by decide) (by decide) ?_
       rintro _ T _ ⟨rfl, rfl⟩ A
       show Go p e below _ (T.setTop (mkF m 53 #[.val (.ref r0), .val (.ref r4), .val (.ref r5), .val (.int v8), .val (.int (1 : Int32)), .unset, .unset, .unset, .unset, .unset, .unset, .unset, .unset, .unset, .unset, .unset, .unset, .unset, .unset, .unset, .unset] [(.ref r6), (.long (0 : Int64))]))
       refine A.iload (q := 55) d12_53 rfl rfl ?_
       refine A.laload (q := 56) (i := 5) (v := (.long (0 : Int64))) d12_55 rfl rfl (by decide) rfl ?_
       refine A.callS (q := 59) (w1 := 91) (w2 := 92) (w3 := 93) (w4 := 94) (as := [(.long (0 : Int64)), (.long (0 : Int64))]) (st := []) (W := 0) d12_56 rfl rfl rfl rfl rfl (rm16_1 l Z a0 hw n0  _) (by decide) ⟨_, _, pd_7, rfl⟩ rfl rfl rfl (by decide) (by decide) (by decide) (by decide) ?_
       rintro _ T _ ⟨rfl, rfl⟩ A
       show Go p e below _ (T.setTop (mkF m 59 #[.val (.ref r0), .val (.ref r4), .val (.ref r5), .val (.int v8), .val (.int (1 : Int32)), .unset, .unset, .unset, .unset, .unset, .unset, .unset, .unset, .unset, .unset, .unset, .unset, .unset, .unset, .unset, .unset] [(.long (0 : Int64))]))
       refine A.pop2L (q := 60) d12_59 rfl ?_
       have A := A.front (i := 7) rfl rfl
       have A := A.front (i := 7) rfl rfl
       have A := A.front (i := 7) rfl rfl
       have A := A.front (i := 7) rfl rfl
       have A := A.front (i := 6) rfl rfl
       have A := A.front (i := 5) rfl rfl
       have A := A.front (i := 7) rfl rfl
       have A := A.front (i := 7) (L' := ((r0, ob1 (.ref r1) (.ref r2) (.int al) (.long (0 : Int64)) (.long hi) (.long lo) .null (.ref r3)) :: (r2, .inr (.byte, List.map Value.int ml)) :: (r4, ob0 (.ref r5) (.ref r6) (.ref r7) (.long (0 : Int64)) (.int (1 : Int32))) :: (r1, .inr (.long, List.map Value.long (z4))) :: (r5, .inr (.int, [(.int pa), (.int pb)])) :: (r6, .inr (.long, [(.long (0 : Int64)), (.long (0 : Int64))])) :: (r7, .inr (.boolean, [(.int f1), (.int f2)])) :: (r3, .inr (.int, List.map Value.int sv)) :: RR)) rfl rfl
       exact J17_10 T _ (by first | (simp only [e6, e8, if_pos h7, if_pos h9]; done) | (subst e6 e8; simp only [if_pos h7, if_pos h9])) A
  refine A.aloadN (q := 18) d12_17 rfl rfl rfl ?_
  refine A.aloadN (q := 19) d12_18 rfl rfl rfl ?_
  refine A.iload (q := 21) d12_19 rfl rfl ?_
  refine A.iaload (q := 22) (i := 4) (v := (.int pa)) d12_21 rfl rfl (by decide) rfl ?_
  have A := A.front (i := 3) rfl rfl
  have A := A.front (i := 2) (L' := ((r0, ob1 (.ref r1) (.ref r2) (.int al) (.long (0 : Int64)) (.long hi) (.long lo) .null (.ref r3)) :: (r2, .inr (.byte, List.map Value.int ml)) :: (r4, ob0 (.ref r5) (.ref r6) (.ref r7) (.long (0 : Int64)) (.int (1 : Int32))) :: (r1, .inr (.long, List.map Value.long (z4))) :: (r5, .inr (.int, [(.int pa), (.int pb)])) :: (r6, .inr (.long, [(.long (0 : Int64)), (.long (0 : Int64))])) :: (r7, .inr (.boolean, [(.int f1), (.int f2)])) :: (r3, .inr (.int, List.map Value.int sv)) :: RR)) rfl rfl
  refine A.callV (q := 25) (i := 0) (w1 := 73) (w2 := 18) (w3 := 2) (w4 := 21) (w5 := 20) (w6 := 19) (a := r0) (as := [(.int pa)]) (st := []) (W := 0) d12_22 rfl rfl rfl rfl rfl rfl rfl rfl (rmF l Z a0 hw n0 r0 pa r1 r2 al (0 : Int64) hi lo .null (.ref r3) ml _ np.1 (by rw [len_ml]; exact np.2.1)) (by decide) ⟨_, _, pd_2, rfl⟩ rfl rfl rfl (by decide) (by decide) (by decide) (by decide) ?_
  rintro _ T _ ⟨rfl, rfl⟩ A
  show Go p e below _ (T.setTop (mkF m 25 #[.val (.ref r0), .val (.ref r4), .val (.ref r5), .val (.int (0 : Int32)), .val (.int (0 : Int32)), .unset, .unset, .unset, .unset, .unset, .unset, .unset, .unset, .unset, .unset, .unset, .unset, .unset, .unset, .unset, .unset] [(.int (FF pa ml))]))
  obtain ⟨v1, e1⟩ : ∃ v : Int32, (FF pa ml) = v := ⟨_, rfl⟩
  rw [e1]
  refine A.if_ne (q := 28) (r := 60) d12_25 rfl (by decide) (fun h2 => ?_) (fun h2 => ?_)
  · exact J17_4 T _ (by simp only [e1, if_neg h2]) A
  · refine A.iinc (q := 31) (v := (1 : Int32)) (l' := #[.val (.ref r0), .val (.ref r4), .val (.ref r5), .val (.int (1 : Int32)), .val (.int (0 : Int32)), .unset, .unset, .unset, .unset, .unset, .unset, .unset, .unset, .unset, .unset, .unset, .unset, .unset, .unset, .unset, .unset]) d12_28 rfl rfl (by decide) rfl ?_
    refine A.aloadN (q := 32) d12_31 rfl rfl rfl ?_
    have A := A.front (i := 2) (L' := ((r4, ob0 (.ref r5) (.ref r6) (.ref r7) (.long (0 : Int64)) (.int (1 : Int32))) :: (r0, ob1 (.ref r1) (.ref r2) (.int al) (.long (0 : Int64)) (.long hi) (.long lo) .null (.ref r3)) :: (r2, .inr (.byte, List.map Value.int ml)) :: (r1, .inr (.long, List.map Value.long (z4))) :: (r5, .inr (.int, [(.int pa), (.int pb)])) :: (r6, .inr (.long, [(.long (0 : Int64)), (.long (0 : Int64))])) :: (r7, .inr (.boolean, [(.int f1), (.int f2)])) :: (r3, .inr (.int, List.map Value.int sv)) :: RR)) rfl rfl
    refine A.callV (q := 35) (i := 0) (w1 := 74) (w2 := 75) (w3 := 39) (w4 := 78) (w5 := 77) (w6 := 76) (a := r4) (as := []) (st := []) (W := 0) d12_32 rfl rfl rfl rfl rfl rfl rfl rfl (rm13 l Z a0 hw n0 r4 r5 r6 r7 (0 : Int64) (1 : Int32) _) (by decide) ⟨_, _, pd_4, rfl⟩ rfl rfl rfl (by decide) (by decide) (by decide) (by decide) ?_
    rintro _ T _ ⟨rfl, rfl⟩ A
    show Go p e below _ (T.setTop (mkF m 35 #[.val (.ref r0), .val (.ref r4), .val (.ref r5), .val (.int (1 : Int32)), .val (.int (0 : Int32)), .unset, .unset, .unset, .unset, .unset, .unset, .unset, .unset, .unset, .unset, .unset, .unset, .unset, .unset, .unset, .unset] [(.ref r7)]))
    refine A.iload (q := 37) d12_35 rfl rfl ?_
    refine A.baloadZ (q := 38) (i := 6) (v := (.int f1)) d12_37 rfl rfl (by decide) rfl ?_
    refine A.if_ne (q := 41) (r := 60) d12_38 rfl (by decide) (fun h3 => ?_) (fun h3 => ?_)
    · have A := A.front (i := 7) rfl rfl
      have A := A.front (i := 7) rfl rfl
      have A := A.front (i := 7) rfl rfl
      have A := A.front (i := 7) rfl rfl
      have A := A.front (i := 7) rfl rfl
      have A := A.front (i := 5) rfl rfl
      have A := A.front (i := 7) rfl rfl
      have A := A.front (i := 7) (L' := ((r0, ob1 (.ref r1) (.ref r2) (.int al) (.long (0 : Int64)) (.long hi) (.long lo) .null (.ref r3)) :: (r2, .inr (.byte, List.map Value.int ml)) :: (r4, ob0 (.ref r5) (.ref r6) (.ref r7) (.long (0 : Int64)) (.int (1 : Int32))) :: (r1, .inr (.long, List.map Value.long (z4))) :: (r5, .inr (.int, [(.int pa), (.int pb)])) :: (r6, .inr (.long, [(.long (0 : Int64)), (.long (0 : Int64))])) :: (r7, .inr (.boolean, [(.int f1), (.int f2)])) :: (r3, .inr (.int, List.map Value.int sv)) :: RR)) rfl rfl
      exact J17_4 T _ (by simp only [e1, if_neg h3, if_pos h2]) A
    · refine A.aloadN (q := 42) d12_41 rfl rfl rfl ?_
      refine A.aloadN (q := 43) d12_42 rfl rfl rfl ?_
      refine A.iload (q := 45) d12_43 rfl rfl ?_
      refine A.iaload (q := 46) (i := 4) (v := (.int pa)) d12_45 rfl rfl (by decide) rfl ?_
      have A := A.front (i := 3) rfl rfl
      have A := A.front (i := 2) (L' := ((r0, ob1 (.ref r1) (.ref r2) (.int al) (.long (0 : Int64)) (.long hi) (.long lo) .null (.ref r3)) :: (r1, .inr (.long, List.map Value.long (z4))) :: (r4, ob0 (.ref r5) (.ref r6) (.ref r7) (.long (0 : Int64)) (.int (1 : Int32))) :: (r2, .inr (.byte, List.map Value.int ml)) :: (r5, .inr (.int, [(.int pa), (.int pb)])) :: (r6, .inr (.long, [(.long (0 : Int64)), (.long (0 : Int64))])) :: (r7, .inr (.boolean, [(.int f1), (.int f2)])) :: (r3, .inr (.int, List.map Value.int sv)) :: RR)) rfl rfl
      refine A.callV (q := 49) (i := 0) (w1 := 79) (w2 := 80) (w3 := 2) (w4 := 83) (w5 := 82) (w6 := 81) (a := r0) (as := [(.int pa)]) (st := []) (W := 0) d12_46 rfl rfl rfl rfl rfl rfl rfl rfl (rmC l Z a0 hw n0 r0 pa r1 r2 al hi lo .null (.ref r3) (z4) _ np.1 np.2.2.1) (by decide) ⟨_, _, pd_5, rfl⟩ rfl rfl rfl (by decide) (by decide) (by decide) (by decide) ?_
      rintro _ T _ ⟨rfl, rfl⟩ A
      show Go p e below _ (T.setTop (mkF m 49 #[.val (.ref r0), .val (.ref r4), .val (.ref r5), .val (.int (1 : Int32)), .val (.int (0 : Int32)), .unset, .unset, .unset, .unset, .unset, .unset, .unset, .unset, .unset, .unset, .unset, .unset, .unset, .unset, .unset, .unset] [(.long (0 : Int64))]))
      refine A.aloadN (q := 50) d12_49 rfl rfl rfl ?_
      have A := A.front (i := 2) (L' := ((r4, ob0 (.ref r5) (.ref r6) (.ref r7) (.long (0 : Int64)) (.int (1 : Int32))) :: (r0, ob1 (.ref r1) (.ref r2) (.int al) (.long (0 : Int64)) (.long hi) (.long lo) .null (.ref r3)) :: (r1, .inr (.long, List.map Value.long (z4))) :: (r2, .inr (.byte, List.map Value.int ml)) :: (r5, .inr (.int, [(.int pa), (.int pb)])) :: (r6, .inr (.long, [(.long (0 : Int64)), (.long (0 : Int64))])) :: (r7, .inr (.boolean, [(.int f1), (.int f2)])) :: (r3, .inr (.int, List.map Value.int sv)) :: RR)) rfl rfl
      refine A.callV (q := 53) (i := 0) (w1 := 86) (w2 := 87) (w3 := 39) (w4 := 90) (w5 := 89) (w6 := 88) (a := r4) (as := []) (st := [(.long (0 : Int64))]) (W := 2) d12_50 rfl rfl rfl rfl rfl rfl rfl rfl (rm15 l Z a0 hw n0 r4 r5 r6 r7 (0 : Int64) (1 : Int32) _) (by decide) ⟨_, _, pd_6, rfl⟩ rfl rfl rfl (by decide) (by decide) (by decide) (by decide) ?_
      rintro _ T _ ⟨rfl, rfl⟩ A
      show Go p e below _ (T.setTop (mkF m 53 #[.val (.ref r0), .val (.ref r4), .val (.ref r5), .val (.int (1 : Int32)), .val (.int (0 : Int32)), .unset, .unset, .unset, .unset, .unset, .unset, .unset, .unset, .unset, .unset, .unset, .unset, .unset, .unset, .unset, .unset] [(.ref r6), (.long (0 : Int64))]))
      refine A.iload (q := 55) d12_53 rfl rfl ?_
      refine A.laload (q := 56) (i := 5) (v := (.long (0 : Int64))) d12_55 rfl rfl (by decide) rfl ?_
      refine A.callS (q := 59) (w1 := 91) (w2 := 92) (w3 := 93) (w4 := 94) (as := [(.long (0 : Int64)), (.long (0 : Int64))]) (st := []) (W := 0) d12_56 rfl rfl rfl rfl rfl (rm16_1 l Z a0 hw n0  _) (by decide) ⟨_, _, pd_7, rfl⟩ rfl rfl rfl (by decide) (by decide) (by decide) (by decide) ?_
      rintro _ T _ ⟨rfl, rfl⟩ A
      show Go p e below _ (T.setTop (mkF m 59 #[.val (.ref r0), .val (.ref r4), .val (.ref r5), .val (.int (1 : Int32)), .val (.int (0 : Int32)), .unset, .unset, .unset, .unset, .unset, .unset, .unset, .unset, .unset, .unset, .unset, .unset, .unset, .unset, .unset, .unset] [(.long (0 : Int64))]))
      refine A.pop2L (q := 60) d12_59 rfl ?_
      have A := A.front (i := 7) rfl rfl
      have A := A.front (i := 7) rfl rfl
      have A := A.front (i := 7) rfl rfl
      have A := A.front (i := 7) rfl rfl
      have A := A.front (i := 6) rfl rfl
      have A := A.front (i := 5) rfl rfl
      have A := A.front (i := 7) rfl rfl
      have A := A.front (i := 7) (L' := ((r0, ob1 (.ref r1) (.ref r2) (.int al) (.long (0 : Int64)) (.long hi) (.long lo) .null (.ref r3)) :: (r2, .inr (.byte, List.map Value.int ml)) :: (r4, ob0 (.ref r5) (.ref r6) (.ref r7) (.long (0 : Int64)) (.int (1 : Int32))) :: (r1, .inr (.long, List.map Value.long (z4))) :: (r5, .inr (.int, [(.int pa), (.int pb)])) :: (r6, .inr (.long, [(.long (0 : Int64)), (.long (0 : Int64))])) :: (r7, .inr (.boolean, [(.int f1), (.int f2)])) :: (r3, .inr (.int, List.map Value.int sv)) :: RR)) rfl rfl
      exact J17_4 T _ (by simp only [e1, if_pos h2, if_pos h3]) A
theorem own_f36 (sg : Fin 28) (pg : Fin 12) (f1 f2 : Int32) (hf1 : f1 = 0 ∨ f1 = 1) (hf2 : f2 = 0 ∨ f2 = 1) (hS : True) : (pA pg) < (4 : Int32) := by
  (revert pg; decide +kernel)
theorem own_g89 (sg : Fin 28) (pg : Fin 12) (f1 f2 : Int32) (hf1 : f1 = 0 ∨ f1 = 1) (hf2 : f2 = 0 ∨ f2 = 1) (hS : True) (fo : List Int32) (hfo : flO sg = fo) (pa : Int32) (hpa : pA pg = pa) (pb : Int32) (hpb : pB pg = pb) (al : Int32) (hal : cnt (flO sg) = al) : pa < (4 : Int32) := by
  subst hfo hpa hpb hal; exact own_f36 sg pg f1 f2 hf1 hf2 hS 
theorem own_f37 (sg : Fin 28) (pg : Fin 12) (f1 f2 : Int32) (hf1 : f1 = 0 ∨ f1 = 1) (hf2 : f2 = 0 ∨ f2 = 1) (hS : True) : (((flO sg).getD ((pA pg)).toNatClampNeg (0 : Int32)) &&& (2 : Int32)) = (0 : Int32) := by
  (revert pg; revert sg; decide +kernel)
theorem own_g90 (sg : Fin 28) (pg : Fin 12) (f1 f2 : Int32) (hf1 : f1 = 0 ∨ f1 = 1) (hf2 : f2 = 0 ∨ f2 = 1) (hS : True) (fo : List Int32) (hfo : flO sg = fo) (pa : Int32) (hpa : pA pg = pa) (pb : Int32) (hpb : pB pg = pb) (al : Int32) (hal : cnt (flO sg) = al) (v3 : Int32) (e3 : (fo.getD (pa).toNatClampNeg (0 : Int32)) &&& (2 : Int32) = v3) : v3 = (0 : Int32) := by
  subst hfo hpa hpb hal e3; exact own_f37 sg pg f1 f2 hf1 hf2 hS 
theorem own_f38 (sg : Fin 28) (pg : Fin 12) (f1 f2 : Int32) (hf1 : f1 = 0 ∨ f1 = 1) (hf2 : f2 = 0 ∨ f2 = 1) (hS : True) : (pB pg) < (4 : Int32) := by
  (revert pg; decide +kernel)
theorem own_g91 (sg : Fin 28) (pg : Fin 12) (f1 f2 : Int32) (hf1 : f1 = 0 ∨ f1 = 1) (hf2 : f2 = 0 ∨ f2 = 1) (hS : True) (fo : List Int32) (hfo : flO sg = fo) (pa : Int32) (hpa : pA pg = pa) (pb : Int32) (hpb : pB pg = pb) (al : Int32) (hal : cnt (flO sg) = al) : pb < (4 : Int32) := by
  subst hfo hpa hpb hal; exact own_f38 sg pg f1 f2 hf1 hf2 hS 
theorem own_f39 (sg : Fin 28) (pg : Fin 12) (f1 f2 : Int32) (hf1 : f1 = 0 ∨ f1 = 1) (hf2 : f2 = 0 ∨ f2 = 1) (hS : True) : ((((flO sg).set ((pA pg)).toNatClampNeg ((((flO sg).getD ((pA pg)).toNatClampNeg (0 : Int32)) ||| (2 : Int32)).toInt8.toInt32)).getD ((pB pg)).toNatClampNeg (0 : Int32)) &&& (2 : Int32)) = (0 : Int32) := by
  (revert pg; revert sg; decide +kernel)
theorem own_g92 (sg : Fin 28) (pg : Fin 12) (f1 f2 : Int32) (hf1 : f1 = 0 ∨ f1 = 1) (hf2 : f2 = 0 ∨ f2 = 1) (hS : True) (fo : List Int32) (hfo : flO sg = fo) (pa : Int32) (hpa : pA pg = pa) (pb : Int32) (hpb : pB pg = pb) (al : Int32) (hal : cnt (flO sg) = al) (v5 : Int32) (e5 : (fo.getD (pa).toNatClampNeg (0 : Int32)) ||| (2 : Int32) = v5) (v6 : Int32) (e6 : v5.toInt8.toInt32 = v6) (v9 : Int32) (e9 : ((fo.set (pa).toNatClampNeg v6).getD (pb).toNatClampNeg (0 : Int32)) &&& (2 : Int32) = v9) : v9 = (0 : Int32) := by
  subst hfo hpa hpb hal e5 e6 e9; exact own_f39 sg pg f1 f2 hf1 hf2 hS 
theorem own_f40 (sg : Fin 28) (pg : Fin 12) (f1 f2 : Int32) (hf1 : f1 = 0 ∨ f1 = 1) (hf2 : f2 = 0 ∨ f2 = 1) (hS : True) : (((flO sg).set ((pA pg)).toNatClampNeg ((((flO sg).getD ((pA pg)).toNatClampNeg (0 : Int32)) ||| (2 : Int32)).toInt8.toInt32)).set ((pB pg)).toNatClampNeg (((((flO sg).set ((pA pg)).toNatClampNeg ((((flO sg).getD ((pA pg)).toNatClampNeg (0 : Int32)) ||| (2 : Int32)).toInt8.toInt32)).getD ((pB pg)).toNatClampNeg (0 : Int32)) ||| (2 : Int32)).toInt8.toInt32)) = (mkL (flO sg) (pA pg) (pB pg)) := by
  (revert pg; revert sg; decide +kernel)
theorem own_g93 (sg : Fin 28) (pg : Fin 12) (f1 f2 : Int32) (hf1 : f1 = 0 ∨ f1 = 1) (hf2 : f2 = 0 ∨ f2 = 1) (hS : True) (fo : List Int32) (hfo : flO sg = fo) (pa : Int32) (hpa : pA pg = pa) (pb : Int32) (hpb : pB pg = pb) (al : Int32) (hal : cnt (flO sg) = al) (v5 : Int32) (e5 : (fo.getD (pa).toNatClampNeg (0 : Int32)) ||| (2 : Int32) = v5) (v6 : Int32) (e6 : v5.toInt8.toInt32 = v6) (v11 : Int32) (e11 : ((fo.set (pa).toNatClampNeg v6).getD (pb).toNatClampNeg (0 : Int32)) ||| (2 : Int32) = v11) (v12 : Int32) (e12 : v11.toInt8.toInt32 = v12) : ((fo.set (pa).toNatClampNeg v6).set (pb).toNatClampNeg v12) = (mkL fo pa pb) := by
  subst hfo hpa hpb hal e5 e6 e11 e12; exact own_f40 sg pg f1 f2 hf1 hf2 hS 
theorem pd_11 : parseMethodDescriptor "(Lcom/example/forebound/forebound/problem/Problem$Table;)V" = some ⟨[(.object "com/example/forebound/forebound/problem/Problem$Table")], none⟩ := by decide +kernel
theorem own_f41 (sg : Fin 28) (pg : Fin 12) (f1 f2 : Int32) (hf1 : f1 = 0 ∨ f1 = 1) (hf2 : f2 = 0 ∨ f2 = 1) (hS : True) : (((l2L (mkL (flO sg) (pA pg) (pB pg)) (pA pg) (pB pg) f1 f2).set ((pA pg)).toNatClampNeg ((((l2L (mkL (flO sg) (pA pg) (pB pg)) (pA pg) (pB pg) f1 f2).getD ((pA pg)).toNatClampNeg (0 : Int32)) &&& (-3 : Int32)).toInt8.toInt32)).set ((pB pg)).toNatClampNeg (((((l2L (mkL (flO sg) (pA pg) (pB pg)) (pA pg) (pB pg) f1 f2).set ((pA pg)).toNatClampNeg ((((l2L (mkL (flO sg) (pA pg) (pB pg)) (pA pg) (pB pg) f1 f2).getD ((pA pg)).toNatClampNeg (0 : Int32)) &&& (-3 : Int32)).toInt8.toInt32)).getD ((pB pg)).toNatClampNeg (0 : Int32)) &&& (-3 : Int32)).toInt8.toInt32)) = (umL (l2L (mkL (flO sg) (pA pg) (pB pg)) (pA pg) (pB pg) f1 f2) (pA pg) (pB pg)) := by
  rcases hf1 with rfl | rfl <;> rcases hf2 with rfl | rfl <;> (revert pg; revert sg; decide +kernel)
theorem own_g94 (sg : Fin 28) (pg : Fin 12) (f1 f2 : Int32) (hf1 : f1 = 0 ∨ f1 = 1) (hf2 : f2 = 0 ∨ f2 = 1) (hS : True) (fo : List Int32) (hfo : flO sg = fo) (pa : Int32) (hpa : pA pg = pa) (pb : Int32) (hpb : pB pg = pb) (al : Int32) (hal : cnt (flO sg) = al) (v15 : Int32) (e15 : ((l2L (mkL fo pa pb) pa pb f1 f2).getD (pa).toNatClampNeg (0 : Int32)) &&& (-3 : Int32) = v15) (v16 : Int32) (e16 : v15.toInt8.toInt32 = v16) (v17 : Int32) (e17 : (((l2L (mkL fo pa pb) pa pb f1 f2).set (pa).toNatClampNeg v16).getD (pb).toNatClampNeg (0 : Int32)) &&& (-3 : Int32) = v17) (v18 : Int32) (e18 : v17.toInt8.toInt32 = v18) : (((l2L (mkL fo pa pb) pa pb f1 f2).set (pa).toNatClampNeg v16).set (pb).toNatClampNeg v18) = (umL (l2L (mkL fo pa pb) pa pb f1 f2) pa pb) := by
  subst hfo hpa hpb hal e15 e16 e17 e18; exact own_f41 sg pg f1 f2 hf1 hf2 hS 
theorem own_g95 (sg : Fin 28) (pg : Fin 12) (f1 f2 : Int32) (hf1 : f1 = 0 ∨ f1 = 1) (hf2 : f2 = 0 ∨ f2 = 1) (hS : True) (fo : List Int32) (hfo : flO sg = fo) (pa : Int32) (hpa : pA pg = pa) (pb : Int32) (hpb : pB pg = pb) (al : Int32) (hal : cnt (flO sg) = al) : pa < (4 : Int32) := by
  subst hfo hpa hpb hal; exact own_f36 sg pg f1 f2 hf1 hf2 hS 
theorem own_g96 (sg : Fin 28) (pg : Fin 12) (f1 f2 : Int32) (hf1 : f1 = 0 ∨ f1 = 1) (hf2 : f2 = 0 ∨ f2 = 1) (hS : True) (fo : List Int32) (hfo : flO sg = fo) (pa : Int32) (hpa : pA pg = pa) (pb : Int32) (hpb : pB pg = pb) (al : Int32) (hal : cnt (flO sg) = al) (v3 : Int32) (e3 : (fo.getD (pa).toNatClampNeg (0 : Int32)) &&& (2 : Int32) = v3) : v3 = (0 : Int32) := by
  subst hfo hpa hpb hal e3; exact own_f37 sg pg f1 f2 hf1 hf2 hS 
theorem own_g97 (sg : Fin 28) (pg : Fin 12) (f1 f2 : Int32) (hf1 : f1 = 0 ∨ f1 = 1) (hf2 : f2 = 0 ∨ f2 = 1) (hS : True) (fo : List Int32) (hfo : flO sg = fo) (pa : Int32) (hpa : pA pg = pa) (pb : Int32) (hpb : pB pg = pb) (al : Int32) (hal : cnt (flO sg) = al) : pb < (4 : Int32) := by
  subst hfo hpa hpb hal; exact own_f38 sg pg f1 f2 hf1 hf2 hS 
theorem own_g98 (sg : Fin 28) (pg : Fin 12) (f1 f2 : Int32) (hf1 : f1 = 0 ∨ f1 = 1) (hf2 : f2 = 0 ∨ f2 = 1) (hS : True) (fo : List Int32) (hfo : flO sg = fo) (pa : Int32) (hpa : pA pg = pa) (pb : Int32) (hpb : pB pg = pb) (al : Int32) (hal : cnt (flO sg) = al) (v5 : Int32) (e5 : (fo.getD (pa).toNatClampNeg (0 : Int32)) ||| (2 : Int32) = v5) (v6 : Int32) (e6 : v5.toInt8.toInt32 = v6) (v9 : Int32) (e9 : ((fo.set (pa).toNatClampNeg v6).getD (pb).toNatClampNeg (0 : Int32)) &&& (2 : Int32) = v9) : v9 = (0 : Int32) := by
  subst hfo hpa hpb hal e5 e6 e9; exact own_f39 sg pg f1 f2 hf1 hf2 hS 
theorem own_g99 (sg : Fin 28) (pg : Fin 12) (f1 f2 : Int32) (hf1 : f1 = 0 ∨ f1 = 1) (hf2 : f2 = 0 ∨ f2 = 1) (hS : True) (fo : List Int32) (hfo : flO sg = fo) (pa : Int32) (hpa : pA pg = pa) (pb : Int32) (hpb : pB pg = pb) (al : Int32) (hal : cnt (flO sg) = al) (v5 : Int32) (e5 : (fo.getD (pa).toNatClampNeg (0 : Int32)) ||| (2 : Int32) = v5) (v6 : Int32) (e6 : v5.toInt8.toInt32 = v6) (v11 : Int32) (e11 : ((fo.set (pa).toNatClampNeg v6).getD (pb).toNatClampNeg (0 : Int32)) ||| (2 : Int32) = v11) (v12 : Int32) (e12 : v11.toInt8.toInt32 = v12) : ((fo.set (pa).toNatClampNeg v6).set (pb).toNatClampNeg v12) = (mkL fo pa pb) := by
  subst hfo hpa hpb hal e5 e6 e11 e12; exact own_f40 sg pg f1 f2 hf1 hf2 hS 
theorem own_g100 (sg : Fin 28) (pg : Fin 12) (f1 f2 : Int32) (hf1 : f1 = 0 ∨ f1 = 1) (hf2 : f2 = 0 ∨ f2 = 1) (hS : True) (fo : List Int32) (hfo : flO sg = fo) (pa : Int32) (hpa : pA pg = pa) (pb : Int32) (hpb : pB pg = pb) (al : Int32) (hal : cnt (flO sg) = al) (v15 : Int32) (e15 : ((l2L (mkL fo pa pb) pa pb f1 f2).getD (pa).toNatClampNeg (0 : Int32)) &&& (-3 : Int32) = v15) (v16 : Int32) (e16 : v15.toInt8.toInt32 = v16) (v17 : Int32) (e17 : (((l2L (mkL fo pa pb) pa pb f1 f2).set (pa).toNatClampNeg v16).getD (pb).toNatClampNeg (0 : Int32)) &&& (-3 : Int32) = v17) (v18 : Int32) (e18 : v17.toInt8.toInt32 = v18) : (((l2L (mkL fo pa pb) pa pb f1 f2).set (pa).toNatClampNeg v16).set (pb).toNatClampNeg v18) = (umL (l2L (mkL fo pa pb) pa pb f1 f2) pa pb) := by
  subst hfo hpa hpb hal e15 e16 e17 e18; exact own_f41 sg pg f1 f2 hf1 hf2 hS 
theorem d10_0 : decode prog_28_method_6_code 0 = .ok (.aload_n 1, 1) := by decide +kernel
theorem d10_1 : decode prog_28_method_6_code 1 = .ok (.invokevirtual 43, 3) := by decide +kernel
theorem d10_4 : decode prog_28_method_6_code 4 = .ok (.astore_n 2, 1) := by decide +kernel
theorem d10_5 : decode prog_28_method_6_code 5 = .ok (.iconst 0, 1) := by decide +kernel
theorem d10_6 : decode prog_28_method_6_code 6 = .ok (.istore_n 3, 1) := by decide +kernel
theorem d10_7 : decode prog_28_method_6_code 7 = .ok (.iload_n 3, 1) := by decide +kernel
theorem d10_8 : decode prog_28_method_6_code 8 = .ok (.aload_n 2, 1) := by decide +kernel
theorem d10_9 : decode prog_28_method_6_code 9 = .ok (.arraylength, 1) := by decide +kernel
theorem d10_10 : decode prog_28_method_6_code 10 = .ok (.if_icmp .ge 73, 3) := by decide +kernel
theorem d10_13 : decode prog_28_method_6_code 13 = .ok (.aload_n 2, 1) := by decide +kernel
theorem d10_14 : decode prog_28_method_6_code 14 = .ok (.iload_n 3, 1) := by decide +kernel
theorem d10_15 : decode prog_28_method_6_code 15 = .ok (.iaload, 1) := by decide +kernel
theorem d10_16 : decode prog_28_method_6_code 16 = .ok (.istore 4, 2) := by decide +kernel
theorem d10_18 : decode prog_28_method_6_code 18 = .ok (.iload 4, 2) := by decide +kernel
theorem d10_20 : decode prog_28_method_6_code 20 = .ok (.ifCond .lt 25, 3) := by decide +kernel
theorem d10_23 : decode prog_28_method_6_code 23 = .ok (.iload 4, 2) := by decide +kernel
theorem d10_25 : decode prog_28_method_6_code 25 = .ok (.aload_n 0, 1) := by decide +kernel
theorem d10_26 : decode prog_28_method_6_code 26 = .ok (.getfield 13, 3) := by decide +kernel
theorem d10_29 : decode prog_28_method_6_code 29 = .ok (.arraylength, 1) := by decide +kernel
theorem d10_30 : decode prog_28_method_6_code 30 = .ok (.if_icmp .ge 15, 3) := by decide +kernel
theorem d10_33 : decode prog_28_method_6_code 33 = .ok (.aload_n 0, 1) := by decide +kernel
theorem d10_34 : decode prog_28_method_6_code 34 = .ok (.getfield 13, 3) := by decide +kernel
theorem d10_37 : decode prog_28_method_6_code 37 = .ok (.iload 4, 2) := by decide +kernel
theorem d10_39 : decode prog_28_method_6_code 39 = .ok (.baload, 1) := by decide +kernel
theorem d10_40 : decode prog_28_method_6_code 40 = .ok (.iconst 2, 1) := by decide +kernel
theorem d10_41 : decode prog_28_method_6_code 41 = .ok (.iand, 1) := by decide +kernel
theorem d10_42 : decode prog_28_method_6_code 42 = .ok (.ifCond .eq 23, 3) := by decide +kernel
theorem d10_45 : decode prog_28_method_6_code 45 = .ok (.new 49, 3) := by decide +kernel
theorem d10_48 : decode prog_28_method_6_code 48 = .ok (.dup, 1) := by decide +kernel
theorem d10_49 : decode prog_28_method_6_code 49 = .ok (.aload_n 0, 1) := by decide +kernel
theorem d10_50 : decode prog_28_method_6_code 50 = .ok (.getfield 13, 3) := by decide +kernel
theorem d10_53 : decode prog_28_method_6_code 53 = .ok (.arraylength, 1) := by decide +kernel
theorem d10_54 : decode prog_28_method_6_code 54 = .ok (.iload 4, 2) := by decide +kernel
theorem d10_56 : decode prog_28_method_6_code 56 = .ok (.invokedynamic 51, 5) := by decide +kernel
theorem d10_61 : decode prog_28_method_6_code 61 = .ok (.invokespecial 55, 3) := by decide +kernel
theorem d10_64 : decode prog_28_method_6_code 64 = .ok (.athrow, 1) := by decide +kernel
theorem d10_65 : decode prog_28_method_6_code 65 = .ok (.aload_n 0, 1) := by decide +kernel
theorem d10_66 : decode prog_28_method_6_code 66 = .ok (.getfield 13, 3) := by decide +kernel
theorem d10_69 : decode prog_28_method_6_code 69 = .ok (.iload 4, 2) := by decide +kernel
theorem d10_71 : decode prog_28_method_6_code 71 = .ok (.dup2, 1) := by decide +kernel
theorem d10_72 : decode prog_28_method_6_code 72 = .ok (.baload, 1) := by decide +kernel
theorem d10_73 : decode prog_28_method_6_code 73 = .ok (.iconst 2, 1) := by decide +kernel
theorem d10_74 : decode prog_28_method_6_code 74 = .ok (.ior, 1) := by decide +kernel
theorem d10_75 : decode prog_28_method_6_code 75 = .ok (.i2b, 1) := by decide +kernel
theorem d10_76 : decode prog_28_method_6_code 76 = .ok (.bastore, 1) := by decide +kernel
theorem d10_77 : decode prog_28_method_6_code 77 = .ok (.iinc 3 1, 3) := by decide +kernel
theorem d10_80 : decode prog_28_method_6_code 80 = .ok (.goto (-73), 3) := by decide +kernel
theorem d10_83 : decode prog_28_method_6_code 83 = .ok (.aload_n 0, 1) := by decide +kernel
theorem d10_84 : decode prog_28_method_6_code 84 = .ok (.aload_n 1, 1) := by decide +kernel
theorem d10_85 : decode prog_28_method_6_code 85 = .ok (.invokevirtual 58, 3) := by decide +kernel
theorem d10_88 : decode prog_28_method_6_code 88 = .ok (.iconst 0, 1) := by decide +kernel
theorem d10_89 : decode prog_28_method_6_code 89 = .ok (.istore 4, 2) := by decide +kernel
theorem d10_91 : decode prog_28_method_6_code 91 = .ok (.iload 4, 2) := by decide +kernel
theorem d10_93 : decode prog_28_method_6_code 93 = .ok (.iload_n 3, 1) := by decide +kernel
theorem d10_94 : decode prog_28_method_6_code 94 = .ok (.if_icmp .ge 24, 3) := by decide +kernel
theorem d10_97 : decode prog_28_method_6_code 97 = .ok (.aload_n 0, 1) := by decide +kernel
theorem d10_98 : decode prog_28_method_6_code 98 = .ok (.getfield 13, 3) := by decide +kernel
theorem d10_101 : decode prog_28_method_6_code 101 = .ok (.aload_n 2, 1) := by decide +kernel
theorem d10_102 : decode prog_28_method_6_code 102 = .ok (.iload 4, 2) := by decide +kernel
theorem d10_104 : decode prog_28_method_6_code 104 = .ok (.iaload, 1) := by decide +kernel
theorem d10_105 : decode prog_28_method_6_code 105 = .ok (.dup2, 1) := by decide +kernel
theorem d10_106 : decode prog_28_method_6_code 106 = .ok (.baload, 1) := by decide +kernel
theorem d10_107 : decode prog_28_method_6_code 107 = .ok (.bipush (-3), 2) := by decide +kernel
theorem d10_109 : decode prog_28_method_6_code 109 = .ok (.iand, 1) := by decide +kernel
theorem d10_110 : decode prog_28_method_6_code 110 = .ok (.i2b, 1) := by decide +kernel
theorem d10_111 : decode prog_28_method_6_code 111 = .ok (.bastore, 1) := by decide +kernel
theorem d10_112 : decode prog_28_method_6_code 112 = .ok (.iinc 4 1, 3) := by decide +kernel
theorem d10_115 : decode prog_28_method_6_code 115 = .ok (.goto (-24), 3) := by decide +kernel
theorem d10_118 : decode prog_28_method_6_code 118 = .ok (.goto 38, 3) := by decide +kernel
theorem d10_121 : decode prog_28_method_6_code 121 = .ok (.astore 5, 2) := by decide +kernel
theorem d10_123 : decode prog_28_method_6_code 123 = .ok (.iconst 0, 1) := by decide +kernel
theorem d10_124 : decode prog_28_method_6_code 124 = .ok (.istore 6, 2) := by decide +kernel
theorem d10_126 : decode prog_28_method_6_code 126 = .ok (.iload 6, 2) := by decide +kernel
theorem d10_128 : decode prog_28_method_6_code 128 = .ok (.iload_n 3, 1) := by decide +kernel
theorem d10_129 : decode prog_28_method_6_code 129 = .ok (.if_icmp .ge 24, 3) := by decide +kernel
theorem d10_132 : decode prog_28_method_6_code 132 = .ok (.aload_n 0, 1) := by decide +kernel
theorem d10_133 : decode prog_28_method_6_code 133 = .ok (.getfield 13, 3) := by decide +kernel
theorem d10_136 : decode prog_28_method_6_code 136 = .ok (.aload_n 2, 1) := by decide +kernel
theorem d10_137 : decode prog_28_method_6_code 137 = .ok (.iload 6, 2) := by decide +kernel
theorem d10_139 : decode prog_28_method_6_code 139 = .ok (.iaload, 1) := by decide +kernel
theorem d10_140 : decode prog_28_method_6_code 140 = .ok (.dup2, 1) := by decide +kernel
theorem d10_141 : decode prog_28_method_6_code 141 = .ok (.baload, 1) := by decide +kernel
theorem d10_142 : decode prog_28_method_6_code 142 = .ok (.bipush (-3), 2) := by decide +kernel
theorem d10_144 : decode prog_28_method_6_code 144 = .ok (.iand, 1) := by decide +kernel
theorem d10_145 : decode prog_28_method_6_code 145 = .ok (.i2b, 1) := by decide +kernel
theorem d10_146 : decode prog_28_method_6_code 146 = .ok (.bastore, 1) := by decide +kernel
theorem d10_147 : decode prog_28_method_6_code 147 = .ok (.iinc 6 1, 3) := by decide +kernel
theorem d10_150 : decode prog_28_method_6_code 150 = .ok (.goto (-24), 3) := by decide +kernel
theorem d10_153 : decode prog_28_method_6_code 153 = .ok (.aload 5, 2) := by decide +kernel
theorem d10_155 : decode prog_28_method_6_code 155 = .ok (.athrow, 1) := by decide +kernel
theorem d10_156 : decode prog_28_method_6_code 156 = .ok (.return_, 1) := by decide +kernel
theorem pn_10 : plainFor (⟨"com/example/forebound/forebound/problem/Sum", "add", "(Lcom/example/forebound/forebound/problem/Problem$Table;)V"⟩ : MethodName) = true := plainFor_of_name (by first | (simp [plainName, overriddenIn]; done) | decide +kernel)
set_option maxRecDepth 65536 in
set_option maxHeartbeats 8000000 in
theorem rmD0 (l : Launch) (Z : State) (a0 : Array Value) (hw : ∀ d ∈ tables_1, d.before a0 Z = true) (n0 : Nat) (r0 : Addr) (r4 : Addr) (r1 : Addr) (r2 : Addr) (al : Int32) (hi : Int64) (lo : Int64) (ws : Value) (fo : List Int32) (r5 : Addr) (r6 : Addr) (r7 : Addr) (pa : Int32) (pb : Int32) (f1 : Int32) (f2 : Int32) (sg : Fin 28) (pg : Fin 12) (RR : Obs) (hfo : flO sg = fo) (hpa : pA pg = pa) (hpb : pB pg = pb) (hal : cnt (flO sg) = al) (hf1 : f1 = 0 ∨ f1 = 1) (hf2 : f2 = 0 ∨ f2 = 1) (hS : True) :
    TripleW l Z n0 (⟨"com/example/forebound/forebound/problem/Sum", "add", "(Lcom/example/forebound/forebound/problem/Problem$Table;)V"⟩ : MethodName) prog_28_method_6_code 7 none ({ frames := 3, cells := 0, slots := 0, locals := 58 } : Room) 0 0 [(.ref r0), (.ref r4)] ((r0, ob1 (.ref r1) (.ref r2) (.int al) (.long (0 : Int64)) (.long hi) (.long lo) .null ws) :: (r1, .inr (.long, List.map Value.long (z4))) :: (r2, .inr (.byte, List.map Value.int fo)) :: (r4, ob0 (.ref r5) (.ref r6) (.ref r7) (.long (0 : Int64)) (.int (0 : Int32))) :: (r5, .inr (.int, [(.int pa), (.int pb)])) :: (r6, .inr (.long, [(.long (0 : Int64)), (.long (0 : Int64))])) :: (r7, .inr (.boolean, [(.int f1), (.int f2)])) :: RR) (fun v L' => ∃ ex0 ex1 : Int64, v = none ∧ L' = ((r4, ob0 (.ref r5) (.ref r6) (.ref r7) (.long (0 : Int64)) (.int (0 : Int32))) :: (r5, .inr (.int, [(.int pa), (.int pb)])) :: (r6, .inr (.long, [(.long (0 : Int64)), (.long (0 : Int64))])) :: (r7, .inr (.boolean, [(.int f1), (.int f2)])) :: (r0, ob1 (.ref r1) (.ref r2) (.int (cnt (l2L (mkL fo pa pb) pa pb f1 f2))) (.long (0 : Int64)) (.long ex0) (.long ex1) .null ws) :: (r1, .inr (.long, List.map Value.long (z4))) :: (r2, .inr (.byte, List.map Value.int (umL (l2L (mkL fo pa pb) pa pb f1 f2) pa pb))) :: RR)) := by
  refine TripleW.of_body (tbl := tables_1) (a0 := a0) (Ls := #[.val (.ref r0), .val (.ref r4), .unset, .unset, .unset, .unset, .unset]) pn_10 hw rfl ?_
  intro p e s m below meth c T A
  have np : ¬ pa < 0 ∧ pa.toNatClampNeg < 4 ∧ z4[pa.toNatClampNeg]? = some 0 ∧ z4.set pa.toNatClampNeg 0 = z4 := by rw [← hpa]; exact ⟨(own_pp pg).1, (own_pp pg).2.2.1, (own_pp pg).2.2.2.2.1, (own_pp pg).2.2.2.2.2.2.1⟩
  have nq : ¬ pb < 0 ∧ pb.toNatClampNeg < 4 ∧ z4[pb.toNatClampNeg]? = some 0 ∧ z4.set pb.toNatClampNeg 0 = z4 := by rw [← hpb]; exact ⟨(own_pp pg).2.1, (own_pp pg).2.2.2.1, (own_pp pg).2.2.2.2.2.1, (own_pp pg).2.2.2.2.2.2.2⟩
  have len_fo : fo.length = 4 := by rw [← hfo]; exact own_flen sg
  refine A.aloadN (q := 1) d10_0 rfl rfl rfl ?_
  have A := A.front (i := 3) (L' := ((r4, ob0 (.ref r5) (.ref r6) (.ref r7) (.long (0 : Int64)) (.int (0 : Int32))) :: (r0, ob1 (.ref r1) (.ref r2) (.int al) (.long (0 : Int64)) (.long hi) (.long lo) .null ws) :: (r1, .inr (.long, List.map Value.long (z4))) :: (r2, .inr (.byte, List.map Value.int fo)) :: (r5, .inr (.int, [(.int pa), (.int pb)])) :: (r6, .inr (.long, [(.long (0 : Int64)), (.long (0 : Int64))])) :: (r7, .inr (.boolean, [(.int f1), (.int f2)])) :: RR)) rfl rfl
  refine A.callV (q := 4) (i := 0) (w1 := 64) (w2 := 65) (w3 := 39) (w4 := 68) (w5 := 67) (w6 := 66) (a := r4) (as := []) (st := []) (W := 0) d10_1 rfl rfl rfl rfl rfl rfl rfl rfl (rm11 l Z a0 hw n0 r4 r5 r6 r7 (0 : Int64) (0 : Int32) _) (by decide) ⟨_, _, pd_3, rfl⟩ rfl rfl rfl (by decide) (by decide) (by decide) (by decide) ?_
  rintro _ T _ ⟨rfl, rfl⟩ A
  show Go p e below _ (T.setTop (mkF m 4 #[.val (.ref r0), .val (.ref r4), .unset, .unset, .unset, .unset, .unset] [(.ref r5)]))
  refine A.astoreN (q := 5) (l' := #[.val (.ref r0), .val (.ref r4), .val (.ref r5), .unset, .unset, .unset, .unset]) d10_4 rfl rfl rfl ?_
  refine A.iconst (q := 6) (v := (0 : Int32)) d10_5 rfl (by decide) ?_
  refine A.istoreN (q := 7) (l' := #[.val (.ref r0), .val (.ref r4), .val (.ref r5), .val (.int (0 : Int32)), .unset, .unset, .unset]) d10_6 rfl rfl ?_
  refine A.iloadN (q := 8) d10_7 rfl rfl ?_
  refine A.aloadN (q := 9) d10_8 rfl rfl rfl ?_
  refine A.arraylength (q := 10) (i := 4) (v := (2 : Int32)) d10_9 rfl rfl (by show Nat.toInt32 2 = 2; decide) ?_
  refine A.icmpF (q := 13) d10_10 rfl (by decide) ?_
  refine A.aloadN (q := 14) d10_13 rfl rfl rfl ?_
  refine A.iloadN (q := 15) d10_14 rfl rfl ?_
  refine A.iaload (q := 16) (i := 4) (v := (.int pa)) d10_15 rfl rfl (by decide) rfl ?_
  refine A.istore (q := 18) (l' := #[.val (.ref r0), .val (.ref r4), .val (.ref r5), .val (.int (0 : Int32)), .val (.int pa), .unset, .unset]) d10_16 rfl rfl ?_
  refine A.iload (q := 20) d10_18 rfl rfl ?_
  refine A.if_lt (q := 23) (r := 45) d10_20 rfl (by decide) (fun h => (np.1 h).elim) (fun _ => ?_)
  refine A.iload (q := 25) d10_23 rfl rfl ?_
  refine A.aloadN (q := 26) d10_25 rfl rfl rfl ?_
  refine A.getF (q := 29) (w := 13) (i := 1) (j := 1) d10_26 rfl rfl rfl rfl ?_
  intro T A
  refine A.arraylengthM (q := 30) (i := 3) (v := (4 : Int32)) d10_29 rfl rfl (by rw [len_fo]; decide) ?_
  refine A.icmp_ge (q := 33) (r := 45) d10_30 rfl (by decide) (fun h => (h (own_g95 sg pg f1 f2 hf1 hf2 hS fo hfo pa hpa pb hpb al hal )).elim) (fun _ => ?_)
  refine A.aloadN (q := 34) d10_33 rfl rfl rfl ?_
  refine A.getF (q := 37) (w := 13) (i := 1) (j := 1) d10_34 rfl rfl rfl rfl ?_
  intro T A
  refine A.iload (q := 39) d10_37 rfl rfl ?_
  refine A.baloadBM (q := 40) (i := 3) (v := (fo.getD (pa).toNatClampNeg (0 : Int32))) d10_39 rfl rfl np.1 (own_gd (by rw [len_fo]; exact np.2.1)) ?_
  refine A.iconst (q := 41) (v := (2 : Int32)) d10_40 rfl (by decide) ?_
  obtain ⟨v3, e3⟩ : ∃ v : Int32, (fo.getD (pa).toNatClampNeg (0 : Int32)) &&& (2 : Int32) = v := ⟨_, rfl⟩
  refine A.iand (q := 42) d10_41 rfl e3 ?_
  refine A.if_eq (q := 45) (r := 65) d10_42 rfl (by decide) (fun _ => ?_) (fun h => (h (own_g96 sg pg f1 f2 hf1 hf2 hS fo hfo pa hpa pb hpb al hal v3 e3 )).elim)
  refine A.aloadN (q := 66) d10_65 rfl rfl rfl ?_
  refine A.getF (q := 69) (w := 13) (i := 1) (j := 1) d10_66 rfl rfl rfl rfl ?_
  intro T A
  refine A.iload (q := 71) d10_69 rfl rfl ?_
  refine A.dup2 (q := 72) d10_71 rfl rfl rfl ?_
  refine A.baloadBM (q := 73) (i := 3) (v := (fo.getD (pa).toNatClampNeg (0 : Int32))) d10_72 rfl rfl np.1 (own_gd (by rw [len_fo]; exact np.2.1)) ?_
  refine A.iconst (q := 74) (v := (2 : Int32)) d10_73 rfl (by decide) ?_
  obtain ⟨v5, e5⟩ : ∃ v : Int32, (fo.getD (pa).toNatClampNeg (0 : Int32)) ||| (2 : Int32) = v := ⟨_, rfl⟩
  refine A.ior (q := 75) d10_74 rfl e5 ?_
  obtain ⟨v6, e6⟩ : ∃ v : Int32, v5.toInt8.toInt32 = v := ⟨_, rfl⟩
  refine A.i2b (q := 76) d10_75 rfl e6 ?_
  refine A.bastoreBM (q := 77) (i := 3) (x' := v6) (L' := ((r4, ob0 (.ref r5) (.ref r6) (.ref r7) (.long (0 : Int64)) (.int (0 : Int32))) :: (r0, ob1 (.ref r1) (.ref r2) (.int al) (.long (0 : Int64)) (.long hi) (.long lo) .null ws) :: (r1, .inr (.long, List.map Value.long (z4))) :: (r2, .inr (.byte, List.map Value.int (fo.set (pa).toNatClampNeg v6))) :: (r5, .inr (.int, [(.int pa), (.int pb)])) :: (r6, .inr (.long, [(.long (0 : Int64)), (.long (0 : Int64))])) :: (r7, .inr (.boolean, [(.int f1), (.int f2)])) :: RR)) d10_76 rfl rfl np.1 (by rw [len_fo]; exact np.2.1) (by subst e3 e5 e6; exact own_nb _) rfl ?_
  intro T A
  refine A.iinc (q := 80) (v := (1 : Int32)) (l' := #[.val (.ref r0), .val (.ref r4), .val (.ref r5), .val (.int (1 : Int32)), .val (.int pa), .unset, .unset]) d10_77 rfl rfl (by decide) rfl ?_
  refine A.goto (r := 7) d10_80 (by decide) ?_
  refine A.iloadN (q := 8) d10_7 rfl rfl ?_
  refine A.aloadN (q := 9) d10_8 rfl rfl rfl ?_
  refine A.arraylength (q := 10) (i := 4) (v := (2 : Int32)) d10_9 rfl rfl (by show Nat.toInt32 2 = 2; decide) ?_
  refine A.icmpF (q := 13) d10_10 rfl (by decide) ?_
  refine A.aloadN (q := 14) d10_13 rfl rfl rfl ?_
  refine A.iloadN (q := 15) d10_14 rfl rfl ?_
  refine A.iaload (q := 16) (i := 4) (v := (.int pb)) d10_15 rfl rfl (by decide) rfl ?_
  refine A.istore (q := 18) (l' := #[.val (.ref r0), .val (.ref r4), .val (.ref r5), .val (.int (1 : Int32)), .val (.int pb), .unset, .unset]) d10_16 rfl rfl ?_
  refine A.iload (q := 20) d10_18 rfl rfl ?_
  refine A.if_lt (q := 23) (r := 45) d10_20 rfl (by decide) (fun h => (nq.1 h).elim) (fun _ => ?_)
  refine A.iload (q := 25) d10_23 rfl rfl ?_
  refine A.aloadN (q := 26) d10_25 rfl rfl rfl ?_
  refine A.getF (q := 29) (w := 13) (i := 1) (j := 1) d10_26 rfl rfl rfl rfl ?_
  intro T A
  refine A.arraylengthM (q := 30) (i := 3) (v := (4 : Int32)) d10_29 rfl rfl (by rw [(show (fo.set (pa).toNatClampNeg v6).length = 4 by simp only [List.length_set, own_u1len, own_fblen, own_mkLlen, own_l2Llen, own_uLlen, own_umlen, len_fo])]; decide) ?_
  refine A.icmp_ge (q := 33) (r := 45) d10_30 rfl (by decide) (fun h => (h (own_g97 sg pg f1 f2 hf1 hf2 hS fo hfo pa hpa pb hpb al hal )).elim) (fun _ => ?_)
  refine A.aloadN (q := 34) d10_33 rfl rfl rfl ?_
  refine A.getF (q := 37) (w := 13) (i := 1) (j := 1) d10_34 rfl rfl rfl rfl ?_
  intro T A
  refine A.iload (q := 39) d10_37 rfl rfl ?_
  refine A.baloadBM (q := 40) (i := 3) (v := ((fo.set (pa).toNatClampNeg v6).getD (pb).toNatClampNeg (0 : Int32))) d10_39 rfl rfl nq.1 (own_gd (by rw [(show (fo.set (pa).toNatClampNeg v6).length = 4 by simp only [List.length_set, own_u1len, own_fblen, own_mkLlen, own_l2Llen, own_uLlen, own_umlen, len_fo])]; exact nq.2.1)) ?_
  refine A.iconst (q := 41) (v := (2 : Int32)) d10_40 rfl (by decide) ?_
  obtain ⟨v9, e9⟩ : ∃ v : Int32, ((fo.set (pa).toNatClampNeg v6).getD (pb).toNatClampNeg (0 : Int32)) &&& (2 : Int32) = v := ⟨_, rfl⟩
  refine A.iand (q := 42) d10_41 rfl e9 ?_
  refine A.if_eq (q := 45) (r := 65) d10_42 rfl (by decide) (fun _ => ?_) (fun h => (h (own_g98 sg pg f1 f2 hf1 hf2 hS fo hfo pa hpa pb hpb al hal v5 e5 v6 e6 v9 e9 )).elim)
  refine A.aloadN (q := 66) d10_65 rfl rfl rfl ?_
  refine A.getF (q := 69) (w := 13) (i := 1) (j := 1) d10_66 rfl rfl rfl rfl ?_
  intro T A
  refine A.iload (q := 71) d10_69 rfl rfl ?_
  refine A.dup2 (q := 72) d10_71 rfl rfl rfl ?_
  refine A.baloadBM (q := 73) (i := 3) (v := ((fo.set (pa).toNatClampNeg v6).getD (pb).toNatClampNeg (0 : Int32))) d10_72 rfl rfl nq.1 (own_gd (by rw [(show (fo.set (pa).toNatClampNeg v6).length = 4 by simp only [List.length_set, own_u1len, own_fblen, own_mkLlen, own_l2Llen, own_uLlen, own_umlen, len_fo])]; exact nq.2.1)) ?_
  refine A.iconst (q := 74) (v := (2 : Int32)) d10_73 rfl (by decide) ?_
  obtain ⟨v11, e11⟩ : ∃ v : Int32, ((fo.set (pa).toNatClampNeg v6).getD (pb).toNatClampNeg (0 : Int32)) ||| (2 : Int32) = v := ⟨_, rfl⟩
  refine A.ior (q := 75) d10_74 rfl e11 ?_
  obtain ⟨v12, e12⟩ : ∃ v : Int32, v11.toInt8.toInt32 = v := ⟨_, rfl⟩
  refine A.i2b (q := 76) d10_75 rfl e12 ?_
  refine A.bastoreBM (q := 77) (i := 3) (x' := v12) (L' := ((r4, ob0 (.ref r5) (.ref r6) (.ref r7) (.long (0 : Int64)) (.int (0 : Int32))) :: (r0, ob1 (.ref r1) (.ref r2) (.int al) (.long (0 : Int64)) (.long hi) (.long lo) .null ws) :: (r1, .inr (.long, List.map Value.long (z4))) :: (r2, .inr (.byte, List.map Value.int ((fo.set (pa).toNatClampNeg v6).set (pb).toNatClampNeg v12))) :: (r5, .inr (.int, [(.int pa), (.int pb)])) :: (r6, .inr (.long, [(.long (0 : Int64)), (.long (0 : Int64))])) :: (r7, .inr (.boolean, [(.int f1), (.int f2)])) :: RR)) d10_76 rfl rfl nq.1 (by rw [(show (fo.set (pa).toNatClampNeg v6).length = 4 by simp only [List.length_set, own_u1len, own_fblen, own_mkLlen, own_l2Llen, own_uLlen, own_umlen, len_fo])]; exact nq.2.1) (by subst e3 e5 e6 e9 e11 e12; exact own_nb _) rfl ?_
  intro T A
  refine A.iinc (q := 80) (v := (2 : Int32)) (l' := #[.val (.ref r0), .val (.ref r4), .val (.ref r5), .val (.int (2 : Int32)), .val (.int pb), .unset, .unset]) d10_77 rfl rfl (by decide) rfl ?_
  refine A.goto (r := 7) d10_80 (by decide) ?_
  refine A.iloadN (q := 8) d10_7 rfl rfl ?_
  refine A.aloadN (q := 9) d10_8 rfl rfl rfl ?_
  refine A.arraylength (q := 10) (i := 4) (v := (2 : Int32)) d10_9 rfl rfl (by show Nat.toInt32 2 = 2; decide) ?_
  refine A.icmpT (r := 83) d10_10 (by decide) (by decide) ?_
  have q : ((fo.set (pa).toNatClampNeg v6).set (pb).toNatClampNeg v12) = (mkL fo pa pb) := (own_g99 sg pg f1 f2 hf1 hf2 hS fo hfo pa hpa pb hpb al hal v5 e5 v6 e6 v11 e11 v12 e12 )
  rw [q] at A
  clear q
  have A : Here p l e ({ frames := 3, cells := 0, slots := 0, locals := 58 } : Room) s m ([(.ref r0), (.ref r4)] : List Value).toArray below meth c Z a0 tables_1 (⟨"com/example/forebound/forebound/problem/Sum", "add", "(Lcom/example/forebound/forebound/problem/Problem$Table;)V"⟩ : MethodName).cls (⟨"com/example/forebound/forebound/problem/Sum", "add", "(Lcom/example/forebound/forebound/problem/Problem$Table;)V"⟩ : MethodName).name prog_28_method_6_code 7 none n0 T ((r4, ob0 (.ref r5) (.ref r6) (.ref r7) (.long (0 : Int64)) (.int (0 : Int32))) :: (r0, ob1 (.ref r1) (.ref r2) (.int al) (.long (0 : Int64)) (.long hi) (.long lo) .null ws) :: (r1, .inr (.long, List.map Value.long (z4))) :: (r2, .inr (.byte, List.map Value.int (mkL fo pa pb))) :: (r5, .inr (.int, [(.int pa), (.int pb)])) :: (r6, .inr (.long, [(.long (0 : Int64)), (.long (0 : Int64))])) :: (r7, .inr (.boolean, [(.int f1), (.int f2)])) :: RR) 0 0 := A
  refine A.aloadN (q := 84) d10_83 rfl rfl rfl ?_
  refine A.aloadN (q := 85) d10_84 rfl rfl rfl ?_
  have A := A.front (i := 6) rfl rfl
  have A := A.front (i := 6) rfl rfl
  have A := A.front (i := 6) rfl rfl
  have A := A.front (i := 3) rfl rfl
  have A := A.front (i := 6) rfl rfl
  have A := A.front (i := 6) rfl rfl
  have A := A.front (i := 6) (L' := ((r0, ob1 (.ref r1) (.ref r2) (.int al) (.long (0 : Int64)) (.long hi) (.long lo) .null ws) :: (r1, .inr (.long, List.map Value.long (z4))) :: (r2, .inr (.byte, List.map Value.int (mkL fo pa pb))) :: (r4, ob0 (.ref r5) (.ref r6) (.ref r7) (.long (0 : Int64)) (.int (0 : Int32))) :: (r5, .inr (.int, [(.int pa), (.int pb)])) :: (r6, .inr (.long, [(.long (0 : Int64)), (.long (0 : Int64))])) :: (r7, .inr (.boolean, [(.int f1), (.int f2)])) :: RR)) rfl rfl
  refine A.callP (q := 88) (i := 0) (w1 := 69) (w2 := 71) (w3 := 2) (w4 := 72) (w5 := 1) (w6 := 70) (a := r0) (as := [(.ref r4)]) (st := []) (W := 0) d10_85 rfl rfl rfl rfl rfl rfl rfl rfl (rmK0 l Z a0 hw n0 r0 r4 r1 r2 al hi lo ws (mkL fo pa pb) r5 r6 r7 pa pb f1 f2 sg pg _ (by rw [← hfo, ← hpa, ← hpb]; rfl) hpa hpb hal hf1 hf2 hS) (by decide) ⟨_, _, pd_11, rfl⟩ rfl rfl rfl (by decide) (by decide) (by decide) (by decide) ?_
  rintro _ T _ ⟨v13, v14, rfl, rfl⟩ A
  show Go p e below _ (T.setTop (mkF m 88 #[.val (.ref r0), .val (.ref r4), .val (.ref r5), .val (.int (2 : Int32)), .val (.int pb), .unset, .unset] []))
  refine A.iconst (q := 89) (v := (0 : Int32)) d10_88 rfl (by decide) ?_
  refine A.istore (q := 91) (l' := #[.val (.ref r0), .val (.ref r4), .val (.ref r5), .val (.int (2 : Int32)), .val (.int (0 : Int32)), .unset, .unset]) d10_89 rfl rfl ?_
  refine A.iload (q := 93) d10_91 rfl rfl ?_
  refine A.iloadN (q := 94) d10_93 rfl rfl ?_
  refine A.icmpF (q := 97) d10_94 rfl (by decide) ?_
  refine A.aloadN (q := 98) d10_97 rfl rfl rfl ?_
  refine A.getF (q := 101) (w := 13) (i := 4) (j := 1) d10_98 rfl rfl rfl rfl ?_
  intro T A
  refine A.aloadN (q := 102) d10_101 rfl rfl rfl ?_
  refine A.iload (q := 104) d10_102 rfl rfl ?_
  refine A.iaload (q := 105) (i := 1) (v := (.int pa)) d10_104 rfl rfl (by decide) rfl ?_
  refine A.dup2 (q := 106) d10_105 rfl rfl rfl ?_
  refine A.baloadBM (q := 107) (i := 6) (v := ((l2L (mkL fo pa pb) pa pb f1 f2).getD (pa).toNatClampNeg (0 : Int32))) d10_106 rfl rfl np.1 (own_gd (by rw [(show (l2L (mkL fo pa pb) pa pb f1 f2).length = 4 by simp only [List.length_set, own_u1len, own_fblen, own_mkLlen, own_l2Llen, own_uLlen, own_umlen, len_fo])]; exact np.2.1)) ?_
  refine A.bipush (q := 109) (v := (-3 : Int32)) d10_107 rfl (by decide) ?_
  obtain ⟨v15, e15⟩ : ∃ v : Int32, ((l2L (mkL fo pa pb) pa pb f1 f2).getD (pa).toNatClampNeg (0 : Int32)) &&& (-3 : Int32) = v := ⟨_, rfl⟩
  refine A.iand (q := 110) d10_109 rfl e15 ?_
  obtain ⟨v16, e16⟩ : ∃ v : Int32, v15.toInt8.toInt32 = v := ⟨_, rfl⟩
  refine A.i2b (q := 111) d10_110 rfl e16 ?_
  refine A.bastoreBM (q := 112) (i := 6) (x' := v16) (L' := ((r4, ob0 (.ref r5) (.ref r6) (.ref r7) (.long (0 : Int64)) (.int (0 : Int32))) :: (r5, .inr (.int, [(.int pa), (.int pb)])) :: (r6, .inr (.long, [(.long (0 : Int64)), (.long (0 : Int64))])) :: (r7, .inr (.boolean, [(.int f1), (.int f2)])) :: (r0, ob1 (.ref r1) (.ref r2) (.int (cnt (l2L (mkL fo pa pb) pa pb f1 f2))) (.long (0 : Int64)) (.long v13) (.long v14) .null ws) :: (r1, .inr (.long, List.map Value.long (z4))) :: (r2, .inr (.byte, List.map Value.int ((l2L (mkL fo pa pb) pa pb f1 f2).set (pa).toNatClampNeg v16))) :: RR)) d10_111 rfl rfl np.1 (by rw [(show (l2L (mkL fo pa pb) pa pb f1 f2).length = 4 by simp only [List.length_set, own_u1len, own_fblen, own_mkLlen, own_l2Llen, own_uLlen, own_umlen, len_fo])]; exact np.2.1) (by subst e3 e5 e6 e9 e11 e12 e15 e16; exact own_nb _) rfl ?_
  intro T A
  refine A.iinc (q := 115) (v := (1 : Int32)) (l' := #[.val (.ref r0), .val (.ref r4), .val (.ref r5), .val (.int (2 : Int32)), .val (.int (1 : Int32)), .unset, .unset]) d10_112 rfl rfl (by decide) rfl ?_
  refine A.goto (r := 91) d10_115 (by decide) ?_
  refine A.iload (q := 93) d10_91 rfl rfl ?_
  refine A.iloadN (q := 94) d10_93 rfl rfl ?_
  refine A.icmpF (q := 97) d10_94 rfl (by decide) ?_
  refine A.aloadN (q := 98) d10_97 rfl rfl rfl ?_
  refine A.getF (q := 101) (w := 13) (i := 4) (j := 1) d10_98 rfl rfl rfl rfl ?_
  intro T A
  refine A.aloadN (q := 102) d10_101 rfl rfl rfl ?_
  refine A.iload (q := 104) d10_102 rfl rfl ?_
  refine A.iaload (q := 105) (i := 1) (v := (.int pb)) d10_104 rfl rfl (by decide) rfl ?_
  refine A.dup2 (q := 106) d10_105 rfl rfl rfl ?_
  refine A.baloadBM (q := 107) (i := 6) (v := (((l2L (mkL fo pa pb) pa pb f1 f2).set (pa).toNatClampNeg v16).getD (pb).toNatClampNeg (0 : Int32))) d10_106 rfl rfl nq.1 (own_gd (by rw [(show ((l2L (mkL fo pa pb) pa pb f1 f2).set (pa).toNatClampNeg v16).length = 4 by simp only [List.length_set, own_u1len, own_fblen, own_mkLlen, own_l2Llen, own_uLlen, own_umlen, len_fo])]; exact nq.2.1)) ?_
  refine A.bipush (q := 109) (v := (-3 : Int32)) d10_107 rfl (by decide) ?_
  obtain ⟨v17, e17⟩ : ∃ v : Int32, (((l2L (mkL fo pa pb) pa pb f1 f2).set (pa).toNatClampNeg v16).getD (pb).toNatClampNeg (0 : Int32)) &&& (-3 : Int32) = v := ⟨_, rfl⟩
  refine A.iand (q := 110) d10_109 rfl e17 ?_
  obtain ⟨v18, e18⟩ : ∃ v : Int32, v17.toInt8.toInt32 = v := ⟨_, rfl⟩
  refine A.i2b (q := 111) d10_110 rfl e18 ?_
  refine A.bastoreBM (q := 112) (i := 6) (x' := v18) (L' := ((r4, ob0 (.ref r5) (.ref r6) (.ref r7) (.long (0 : Int64)) (.int (0 : Int32))) :: (r5, .inr (.int, [(.int pa), (.int pb)])) :: (r6, .inr (.long, [(.long (0 : Int64)), (.long (0 : Int64))])) :: (r7, .inr (.boolean, [(.int f1), (.int f2)])) :: (r0, ob1 (.ref r1) (.ref r2) (.int (cnt (l2L (mkL fo pa pb) pa pb f1 f2))) (.long (0 : Int64)) (.long v13) (.long v14) .null ws) :: (r1, .inr (.long, List.map Value.long (z4))) :: (r2, .inr (.byte, List.map Value.int (((l2L (mkL fo pa pb) pa pb f1 f2).set (pa).toNatClampNeg v16).set (pb).toNatClampNeg v18))) :: RR)) d10_111 rfl rfl nq.1 (by rw [(show ((l2L (mkL fo pa pb) pa pb f1 f2).set (pa).toNatClampNeg v16).length = 4 by simp only [List.length_set, own_u1len, own_fblen, own_mkLlen, own_l2Llen, own_uLlen, own_umlen, len_fo])]; exact nq.2.1) (by subst e3 e5 e6 e9 e11 e12 e15 e16 e17 e18; exact own_nb _) rfl ?_
  intro T A
  refine A.iinc (q := 115) (v := (2 : Int32)) (l' := #[.val (.ref r0), .val (.ref r4), .val (.ref r5), .val (.int (2 : Int32)), .val (.int (2 : Int32)), .unset, .unset]) d10_112 rfl rfl (by decide) rfl ?_
  refine A.goto (r := 91) d10_115 (by decide) ?_
  refine A.iload (q := 93) d10_91 rfl rfl ?_
  refine A.iloadN (q := 94) d10_93 rfl rfl ?_
  refine A.icmpT (r := 118) d10_94 (by decide) (by decide) ?_
  refine A.goto (r := 156) d10_118 (by decide) ?_
  have q : (((l2L (mkL fo pa pb) pa pb f1 f2).set (pa).toNatClampNeg v16).set (pb).toNatClampNeg v18) = (umL (l2L (mkL fo pa pb) pa pb f1 f2) pa pb) := (own_g100 sg pg f1 f2 hf1 hf2 hS fo hfo pa hpa pb hpb al hal v15 e15 v16 e16 v17 e17 v18 e18 )
  rw [q] at A
  clear q
  have A : Here p l e ({ frames := 3, cells := 0, slots := 0, locals := 58 } : Room) s m ([(.ref r0), (.ref r4)] : List Value).toArray below meth c Z a0 tables_1 (⟨"com/example/forebound/forebound/problem/Sum", "add", "(Lcom/example/forebound/forebound/problem/Problem$Table;)V"⟩ : MethodName).cls (⟨"com/example/forebound/forebound/problem/Sum", "add", "(Lcom/example/forebound/forebound/problem/Problem$Table;)V"⟩ : MethodName).name prog_28_method_6_code 7 none n0 T ((r4, ob0 (.ref r5) (.ref r6) (.ref r7) (.long (0 : Int64)) (.int (0 : Int32))) :: (r5, .inr (.int, [(.int pa), (.int pb)])) :: (r6, .inr (.long, [(.long (0 : Int64)), (.long (0 : Int64))])) :: (r7, .inr (.boolean, [(.int f1), (.int f2)])) :: (r0, ob1 (.ref r1) (.ref r2) (.int (cnt (l2L (mkL fo pa pb) pa pb f1 f2))) (.long (0 : Int64)) (.long v13) (.long v14) .null ws) :: (r1, .inr (.long, List.map Value.long (z4))) :: (r2, .inr (.byte, List.map Value.int (umL (l2L (mkL fo pa pb) pa pb f1 f2) pa pb))) :: RR) 0 0 := A
  have Aq := A
  subst e3 e5 e6 e9 e11 e12 e15 e16 e17 e18
  have A := Aq
  exact A.retV d10_156 (by decide) (by decide) ⟨_, _, rfl, rfl⟩
theorem own_g101 (sg : Fin 28) (pg : Fin 12) (f1 f2 : Int32) (hf1 : f1 = 0 ∨ f1 = 1) (hf2 : f2 = 0 ∨ f2 = 1) (hS : sg.val < 11) (fo : List Int32) (hfo : flO sg = fo) (pa : Int32) (hpa : pA pg = pa) (pb : Int32) (hpb : pB pg = pb) (al : Int32) (hal : cnt (flO sg) = al) : pa < (4 : Int32) := by
  subst hfo hpa hpb hal; exact own_f36 sg pg f1 f2 hf1 hf2 trivial 
theorem own_g102 (sg : Fin 28) (pg : Fin 12) (f1 f2 : Int32) (hf1 : f1 = 0 ∨ f1 = 1) (hf2 : f2 = 0 ∨ f2 = 1) (hS : sg.val < 11) (fo : List Int32) (hfo : flO sg = fo) (pa : Int32) (hpa : pA pg = pa) (pb : Int32) (hpb : pB pg = pb) (al : Int32) (hal : cnt (flO sg) = al) (v3 : Int32) (e3 : (fo.getD (pa).toNatClampNeg (0 : Int32)) &&& (2 : Int32) = v3) : v3 = (0 : Int32) := by
  subst hfo hpa hpb hal e3; exact own_f37 sg pg f1 f2 hf1 hf2 trivial 
theorem own_g103 (sg : Fin 28) (pg : Fin 12) (f1 f2 : Int32) (hf1 : f1 = 0 ∨ f1 = 1) (hf2 : f2 = 0 ∨ f2 = 1) (hS : sg.val < 11) (fo : List Int32) (hfo : flO sg = fo) (pa : Int32) (hpa : pA pg = pa) (pb : Int32) (hpb : pB pg = pb) (al : Int32) (hal : cnt (flO sg) = al) : pb < (4 : Int32) := by
  subst hfo hpa hpb hal; exact own_f38 sg pg f1 f2 hf1 hf2 trivial 
theorem own_g104 (sg : Fin 28) (pg : Fin 12) (f1 f2 : Int32) (hf1 : f1 = 0 ∨ f1 = 1) (hf2 : f2 = 0 ∨ f2 = 1) (hS : sg.val < 11) (fo : List Int32) (hfo : flO sg = fo) (pa : Int32) (hpa : pA pg = pa) (pb : Int32) (hpb : pB pg = pb) (al : Int32) (hal : cnt (flO sg) = al) (v5 : Int32) (e5 : (fo.getD (pa).toNatClampNeg (0 : Int32)) ||| (2 : Int32) = v5) (v6 : Int32) (e6 : v5.toInt8.toInt32 = v6) (v9 : Int32) (e9 : ((fo.set (pa).toNatClampNeg v6).getD (pb).toNatClampNeg (0 : Int32)) &&& (2 : Int32) = v9) : v9 = (0 : Int32) := by
  subst hfo hpa hpb hal e5 e6 e9; exact own_f39 sg pg f1 f2 hf1 hf2 trivial 
theorem own_g105 (sg : Fin 28) (pg : Fin 12) (f1 f2 : Int32) (hf1 : f1 = 0 ∨ f1 = 1) (hf2 : f2 = 0 ∨ f2 = 1) (hS : sg.val < 11) (fo : List Int32) (hfo : flO sg = fo) (pa : Int32) (hpa : pA pg = pa) (pb : Int32) (hpb : pB pg = pb) (al : Int32) (hal : cnt (flO sg) = al) (v5 : Int32) (e5 : (fo.getD (pa).toNatClampNeg (0 : Int32)) ||| (2 : Int32) = v5) (v6 : Int32) (e6 : v5.toInt8.toInt32 = v6) (v11 : Int32) (e11 : ((fo.set (pa).toNatClampNeg v6).getD (pb).toNatClampNeg (0 : Int32)) ||| (2 : Int32) = v11) (v12 : Int32) (e12 : v11.toInt8.toInt32 = v12) : ((fo.set (pa).toNatClampNeg v6).set (pb).toNatClampNeg v12) = (mkL fo pa pb) := by
  subst hfo hpa hpb hal e5 e6 e11 e12; exact own_f40 sg pg f1 f2 hf1 hf2 trivial 
theorem own_f42 (sg : Fin 28) (pg : Fin 12) (f1 f2 : Int32) (hf1 : f1 = 0 ∨ f1 = 1) (hf2 : f2 = 0 ∨ f2 = 1) (hS : sg.val < 11) : (((uL (l2L (mkL (flO sg) (pA pg) (pB pg)) (pA pg) (pB pg) f1 f2)).set ((pA pg)).toNatClampNeg ((((uL (l2L (mkL (flO sg) (pA pg) (pB pg)) (pA pg) (pB pg) f1 f2)).getD ((pA pg)).toNatClampNeg (0 : Int32)) &&& (-3 : Int32)).toInt8.toInt32)).set ((pB pg)).toNatClampNeg (((((uL (l2L (mkL (flO sg) (pA pg) (pB pg)) (pA pg) (pB pg) f1 f2)).set ((pA pg)).toNatClampNeg ((((uL (l2L (mkL (flO sg) (pA pg) (pB pg)) (pA pg) (pB pg) f1 f2)).getD ((pA pg)).toNatClampNeg (0 : Int32)) &&& (-3 : Int32)).toInt8.toInt32)).getD ((pB pg)).toNatClampNeg (0 : Int32)) &&& (-3 : Int32)).toInt8.toInt32)) = (umL (uL (l2L (mkL (flO sg) (pA pg) (pB pg)) (pA pg) (pB pg) f1 f2)) (pA pg) (pB pg)) := by
  rcases hf1 with rfl | rfl <;> rcases hf2 with rfl | rfl <;> (revert hS; revert pg; revert sg; decide +kernel)
theorem own_g106 (sg : Fin 28) (pg : Fin 12) (f1 f2 : Int32) (hf1 : f1 = 0 ∨ f1 = 1) (hf2 : f2 = 0 ∨ f2 = 1) (hS : sg.val < 11) (fo : List Int32) (hfo : flO sg = fo) (pa : Int32) (hpa : pA pg = pa) (pb : Int32) (hpb : pB pg = pb) (al : Int32) (hal : cnt (flO sg) = al) (v16 : Int32) (e16 : ((uL (l2L (mkL fo pa pb) pa pb f1 f2)).getD (pa).toNatClampNeg (0 : Int32)) &&& (-3 : Int32) = v16) (v17 : Int32) (e17 : v16.toInt8.toInt32 = v17) (v18 : Int32) (e18 : (((uL (l2L (mkL fo pa pb) pa pb f1 f2)).set (pa).toNatClampNeg v17).getD (pb).toNatClampNeg (0 : Int32)) &&& (-3 : Int32) = v18) (v19 : Int32) (e19 : v18.toInt8.toInt32 = v19) : (((uL (l2L (mkL fo pa pb) pa pb f1 f2)).set (pa).toNatClampNeg v17).set (pb).toNatClampNeg v19) = (umL (uL (l2L (mkL fo pa pb) pa pb f1 f2)) pa pb) := by
  subst hfo hpa hpb hal e16 e17 e18 e19; exact own_f42 sg pg f1 f2 hf1 hf2 hS 
theorem own_g107 (sg : Fin 28) (pg : Fin 12) (f1 f2 : Int32) (hf1 : f1 = 0 ∨ f1 = 1) (hf2 : f2 = 0 ∨ f2 = 1) (hS : sg.val < 11) (fo : List Int32) (hfo : flO sg = fo) (pa : Int32) (hpa : pA pg = pa) (pb : Int32) (hpb : pB pg = pb) (al : Int32) (hal : cnt (flO sg) = al) : pa < (4 : Int32) := by
  subst hfo hpa hpb hal; exact own_f36 sg pg f1 f2 hf1 hf2 trivial 
theorem own_g108 (sg : Fin 28) (pg : Fin 12) (f1 f2 : Int32) (hf1 : f1 = 0 ∨ f1 = 1) (hf2 : f2 = 0 ∨ f2 = 1) (hS : sg.val < 11) (fo : List Int32) (hfo : flO sg = fo) (pa : Int32) (hpa : pA pg = pa) (pb : Int32) (hpb : pB pg = pb) (al : Int32) (hal : cnt (flO sg) = al) (v3 : Int32) (e3 : (fo.getD (pa).toNatClampNeg (0 : Int32)) &&& (2 : Int32) = v3) : v3 = (0 : Int32) := by
  subst hfo hpa hpb hal e3; exact own_f37 sg pg f1 f2 hf1 hf2 trivial 
theorem own_g109 (sg : Fin 28) (pg : Fin 12) (f1 f2 : Int32) (hf1 : f1 = 0 ∨ f1 = 1) (hf2 : f2 = 0 ∨ f2 = 1) (hS : sg.val < 11) (fo : List Int32) (hfo : flO sg = fo) (pa : Int32) (hpa : pA pg = pa) (pb : Int32) (hpb : pB pg = pb) (al : Int32) (hal : cnt (flO sg) = al) : pb < (4 : Int32) := by
  subst hfo hpa hpb hal; exact own_f38 sg pg f1 f2 hf1 hf2 trivial 
theorem own_g110 (sg : Fin 28) (pg : Fin 12) (f1 f2 : Int32) (hf1 : f1 = 0 ∨ f1 = 1) (hf2 : f2 = 0 ∨ f2 = 1) (hS : sg.val < 11) (fo : List Int32) (hfo : flO sg = fo) (pa : Int32) (hpa : pA pg = pa) (pb : Int32) (hpb : pB pg = pb) (al : Int32) (hal : cnt (flO sg) = al) (v5 : Int32) (e5 : (fo.getD (pa).toNatClampNeg (0 : Int32)) ||| (2 : Int32) = v5) (v6 : Int32) (e6 : v5.toInt8.toInt32 = v6) (v9 : Int32) (e9 : ((fo.set (pa).toNatClampNeg v6).getD (pb).toNatClampNeg (0 : Int32)) &&& (2 : Int32) = v9) : v9 = (0 : Int32) := by
  subst hfo hpa hpb hal e5 e6 e9; exact own_f39 sg pg f1 f2 hf1 hf2 trivial 
theorem own_g111 (sg : Fin 28) (pg : Fin 12) (f1 f2 : Int32) (hf1 : f1 = 0 ∨ f1 = 1) (hf2 : f2 = 0 ∨ f2 = 1) (hS : sg.val < 11) (fo : List Int32) (hfo : flO sg = fo) (pa : Int32) (hpa : pA pg = pa) (pb : Int32) (hpb : pB pg = pb) (al : Int32) (hal : cnt (flO sg) = al) (v5 : Int32) (e5 : (fo.getD (pa).toNatClampNeg (0 : Int32)) ||| (2 : Int32) = v5) (v6 : Int32) (e6 : v5.toInt8.toInt32 = v6) (v11 : Int32) (e11 : ((fo.set (pa).toNatClampNeg v6).getD (pb).toNatClampNeg (0 : Int32)) ||| (2 : Int32) = v11) (v12 : Int32) (e12 : v11.toInt8.toInt32 = v12) : ((fo.set (pa).toNatClampNeg v6).set (pb).toNatClampNeg v12) = (mkL fo pa pb) := by
  subst hfo hpa hpb hal e5 e6 e11 e12; exact own_f40 sg pg f1 f2 hf1 hf2 trivial 
theorem own_g112 (sg : Fin 28) (pg : Fin 12) (f1 f2 : Int32) (hf1 : f1 = 0 ∨ f1 = 1) (hf2 : f2 = 0 ∨ f2 = 1) (hS : sg.val < 11) (fo : List Int32) (hfo : flO sg = fo) (pa : Int32) (hpa : pA pg = pa) (pb : Int32) (hpb : pB pg = pb) (al : Int32) (hal : cnt (flO sg) = al) (v16 : Int32) (e16 : ((uL (l2L (mkL fo pa pb) pa pb f1 f2)).getD (pa).toNatClampNeg (0 : Int32)) &&& (-3 : Int32) = v16) (v17 : Int32) (e17 : v16.toInt8.toInt32 = v17) (v18 : Int32) (e18 : (((uL (l2L (mkL fo pa pb) pa pb f1 f2)).set (pa).toNatClampNeg v17).getD (pb).toNatClampNeg (0 : Int32)) &&& (-3 : Int32) = v18) (v19 : Int32) (e19 : v18.toInt8.toInt32 = v19) : (((uL (l2L (mkL fo pa pb) pa pb f1 f2)).set (pa).toNatClampNeg v17).set (pb).toNatClampNeg v19) = (umL (uL (l2L (mkL fo pa pb) pa pb f1 f2)) pa pb) := by
  subst hfo hpa hpb hal e16 e17 e18 e19; exact own_f42 sg pg f1 f2 hf1 hf2 hS 
set_option maxRecDepth 65536 in
set_option maxHeartbeats 8000000 in
theorem rmDN1 (l : Launch) (Z : State) (a0 : Array Value) (hw : ∀ d ∈ tables_1, d.before a0 Z = true) (n0 : Nat) (r0 : Addr) (r4 : Addr) (r1 : Addr) (r2 : Addr) (al : Int32) (hi : Int64) (lo : Int64) (fo : List Int32) (r5 : Addr) (r6 : Addr) (r7 : Addr) (pa : Int32) (pb : Int32) (f1 : Int32) (f2 : Int32) (sg : Fin 28) (pg : Fin 12) (RR : Obs) (hfo : flO sg = fo) (hpa : pA pg = pa) (hpb : pB pg = pb) (hal : cnt (flO sg) = al) (hf1 : f1 = 0 ∨ f1 = 1) (hf2 : f2 = 0 ∨ f2 = 1) (hS : sg.val < 11) :
    TripleW l Z n0 (⟨"com/example/forebound/forebound/problem/Sum", "add", "(Lcom/example/forebound/forebound/problem/Problem$Table;)V"⟩ : MethodName) prog_28_method_6_code 7 none ({ frames := 3, cells := 1, slots := 2, locals := 63 } : Room) 1 2 [(.ref r0), (.ref r4)] ((r0, ob1 (.ref r1) (.ref r2) (.int al) (.long (0 : Int64)) (.long hi) (.long lo) .null .null) :: (r1, .inr (.long, List.map Value.long (z4))) :: (r2, .inr (.byte, List.map Value.int fo)) :: (r4, ob0 (.ref r5) (.ref r6) (.ref r7) (.long (0 : Int64)) (.int (1 : Int32))) :: (r5, .inr (.int, [(.int pa), (.int pb)])) :: (r6, .inr (.long, [(.long (0 : Int64)), (.long (0 : Int64))])) :: (r7, .inr (.boolean, [(.int f1), (.int f2)])) :: RR) (fun v L' => ∃ b13 : Addr, ∃ ex0 ex1 : Int64, v = none ∧ L' = ((r4, ob0 (.ref r5) (.ref r6) (.ref r7) (.long (0 : Int64)) (.int (1 : Int32))) :: (r5, .inr (.int, [(.int pa), (.int pb)])) :: (r6, .inr (.long, [(.long (0 : Int64)), (.long (0 : Int64))])) :: (r7, .inr (.boolean, [(.int f1), (.int f2)])) :: (r0, ob1 (.ref r1) (.ref r2) (.int (cnt (uL (l2L (mkL fo pa pb) pa pb f1 f2)))) (.long (0 : Int64)) (.long ex0) (.long ex1) .null (.ref b13)) :: (r2, .inr (.byte, List.map Value.int (umL (uL (l2L (mkL fo pa pb) pa pb f1 f2)) pa pb))) :: (b13, .inr (.int, List.map Value.int (svL (uL (l2L (mkL fo pa pb) pa pb f1 f2)) pa pb))) :: (r1, .inr (.long, List.map Value.long (z4))) :: RR)) := by
  refine TripleW.of_body (tbl := tables_1) (a0 := a0) (Ls := #[.val (.ref r0), .val (.ref r4), .unset, .unset, .unset, .unset, .unset]) pn_10 hw rfl ?_
  intro p e s m below meth c T A
  have np : ¬ pa < 0 ∧ pa.toNatClampNeg < 4 ∧ z4[pa.toNatClampNeg]? = some 0 ∧ z4.set pa.toNatClampNeg 0 = z4 := by rw [← hpa]; exact ⟨(own_pp pg).1, (own_pp pg).2.2.1, (own_pp pg).2.2.2.2.1, (own_pp pg).2.2.2.2.2.2.1⟩
  have nq : ¬ pb < 0 ∧ pb.toNatClampNeg < 4 ∧ z4[pb.toNatClampNeg]? = some 0 ∧ z4.set pb.toNatClampNeg 0 = z4 := by rw [← hpb]; exact ⟨(own_pp pg).2.1, (own_pp pg).2.2.2.1, (own_pp pg).2.2.2.2.2.1, (own_pp pg).2.2.2.2.2.2.2⟩
  have len_fo : fo.length = 4 := by rw [← hfo]; exact own_flen sg
  refine A.aloadN (q := 1) d10_0 rfl rfl rfl ?_
  have A := A.front (i := 3) (L' := ((r4, ob0 (.ref r5) (.ref r6) (.ref r7) (.long (0 : Int64)) (.int (1 : Int32))) :: (r0, ob1 (.ref r1) (.ref r2) (.int al) (.long (0 : Int64)) (.long hi) (.long lo) .null .null) :: (r1, .inr (.long, List.map Value.long (z4))) :: (r2, .inr (.byte, List.map Value.int fo)) :: (r5, .inr (.int, [(.int pa), (.int pb)])) :: (r6, .inr (.long, [(.long (0 : Int64)), (.long (0 : Int64))])) :: (r7, .inr (.boolean, [(.int f1), (.int f2)])) :: RR)) rfl rfl
  refine A.callV (q := 4) (i := 0) (w1 := 64) (w2 := 65) (w3 := 39) (w4 := 68) (w5 := 67) (w6 := 66) (a := r4) (as := []) (st := []) (W := 0) d10_1 rfl rfl rfl rfl rfl rfl rfl rfl (rm11 l Z a0 hw n0 r4 r5 r6 r7 (0 : Int64) (1 : Int32) _) (by decide) ⟨_, _, pd_3, rfl⟩ rfl rfl rfl (by decide) (by decide) (by decide) (by decide) ?_
  rintro _ T _ ⟨rfl, rfl⟩ A
  show Go p e below _ (T.setTop (mkF m 4 #[.val (.ref r0), .val (.ref r4), .unset, .unset, .unset, .unset, .unset] [(.ref r5)]))
  refine A.astoreN (q := 5) (l' := #[.val (.ref r0), .val (.ref r4), .val (.ref r5), .unset, .unset, .unset, .unset]) d10_4 rfl rfl rfl ?_
  refine A.iconst (q := 6) (v := (0 : Int32)) d10_5 rfl (by decide) ?_
  refine A.istoreN (q := 7) (l' := #[.val (.ref r0), .val (.ref r4), .val (.ref r5), .val (.int (0 : Int32)), .unset, .unset, .unset]) d10_6 rfl rfl ?_
  refine A.iloadN (q := 8) d10_7 rfl rfl ?_
  refine A.aloadN (q := 9) d10_8 rfl rfl rfl ?_
  refine A.arraylength (q := 10) (i := 4) (v := (2 : Int32)) d10_9 rfl rfl (by show Nat.toInt32 2 = 2; decide) ?_
  refine A.icmpF (q := 13) d10_10 rfl (by decide) ?_
  refine A.aloadN (q := 14) d10_13 rfl rfl rfl ?_
  refine A.iloadN (q := 15) d10_14 rfl rfl ?_
  refine A.iaload (q := 16) (i := 4) (v := (.int pa)) d10_15 rfl rfl (by decide) rfl ?_
  refine A.istore (q := 18) (l' := #[.val (.ref r0), .val (.ref r4), .val (.ref r5), .val (.int (0 : Int32)), .val (.int pa), .unset, .unset]) d10_16 rfl rfl ?_
  refine A.iload (q := 20) d10_18 rfl rfl ?_
  refine A.if_lt (q := 23) (r := 45) d10_20 rfl (by decide) (fun h => (np.1 h).elim) (fun _ => ?_)
  refine A.iload (q := 25) d10_23 rfl rfl ?_
  refine A.aloadN (q := 26) d10_25 rfl rfl rfl ?_
  refine A.getF (q := 29) (w := 13) (i := 1) (j := 1) d10_26 rfl rfl rfl rfl ?_
  intro T A
  refine A.arraylengthM (q := 30) (i := 3) (v := (4 : Int32)) d10_29 rfl rfl (by rw [len_fo]; decide) ?_
  refine A.icmp_ge (q := 33) (r := 45) d10_30 rfl (by decide) (fun h => (h (own_g107 sg pg f1 f2 hf1 hf2 hS fo hfo pa hpa pb hpb al hal )).elim) (fun _ => ?_)
  refine A.aloadN (q := 34) d10_33 rfl rfl rfl ?_
  refine A.getF (q := 37) (w := 13) (i := 1) (j := 1) d10_34 rfl rfl rfl rfl ?_
  intro T A
  refine A.iload (q := 39) d10_37 rfl rfl ?_
  refine A.baloadBM (q := 40) (i := 3) (v := (fo.getD (pa).toNatClampNeg (0 : Int32))) d10_39 rfl rfl np.1 (own_gd (by rw [len_fo]; exact np.2.1)) ?_
  refine A.iconst (q := 41) (v := (2 : Int32)) d10_40 rfl (by decide) ?_
  obtain ⟨v3, e3⟩ : ∃ v : Int32, (fo.getD (pa).toNatClampNeg (0 : Int32)) &&& (2 : Int32) = v := ⟨_, rfl⟩
  refine A.iand (q := 42) d10_41 rfl e3 ?_
  refine A.if_eq (q := 45) (r := 65) d10_42 rfl (by decide) (fun _ => ?_) (fun h => (h (own_g108 sg pg f1 f2 hf1 hf2 hS fo hfo pa hpa pb hpb al hal v3 e3 )).elim)
  refine A.aloadN (q := 66) d10_65 rfl rfl rfl ?_
  refine A.getF (q := 69) (w := 13) (i := 1) (j := 1) d10_66 rfl rfl rfl rfl ?_
  intro T A
  refine A.iload (q := 71) d10_69 rfl rfl ?_
  refine A.dup2 (q := 72) d10_71 rfl rfl rfl ?_
  refine A.baloadBM (q := 73) (i := 3) (v := (fo.getD (pa).toNatClampNeg (0 : Int32))) d10_72 rfl rfl np.1 (own_gd (by rw [len_fo]; exact np.2.1)) ?_
  refine A.iconst (q := 74) (v := (2 : Int32)) d10_73 rfl (by decide) ?_
  obtain ⟨v5, e5⟩ : ∃ v : Int32, (fo.getD (pa).toNatClampNeg (0 : Int32)) ||| (2 : Int32) = v := ⟨_, rfl⟩
  refine A.ior (q := 75) d10_74 rfl e5 ?_
  obtain ⟨v6, e6⟩ : ∃ v : Int32, v5.toInt8.toInt32 = v := ⟨_, rfl⟩
  refine A.i2b (q := 76) d10_75 rfl e6 ?_
  refine A.bastoreBM (q := 77) (i := 3) (x' := v6) (L' := ((r4, ob0 (.ref r5) (.ref r6) (.ref r7) (.long (0 : Int64)) (.int (1 : Int32))) :: (r0, ob1 (.ref r1) (.ref r2) (.int al) (.long (0 : Int64)) (.long hi) (.long lo) .null .null) :: (r1, .inr (.long, List.map Value.long (z4))) :: (r2, .inr (.byte, List.map Value.int (fo.set (pa).toNatClampNeg v6))) :: (r5, .inr (.int, [(.int pa), (.int pb)])) :: (r6, .inr (.long, [(.long (0 : Int64)), (.long (0 : Int64))])) :: (r7, .inr (.boolean, [(.int f1), (.int f2)])) :: RR)) d10_76 rfl rfl np.1 (by rw [len_fo]; exact np.2.1) (by subst e3 e5 e6; exact own_nb _) rfl ?_
  intro T A
  refine A.iinc (q := 80) (v := (1 : Int32)) (l' := #[.val (.ref r0), .val (.ref r4), .val (.ref r5), .val (.int (1 : Int32)), .val (.int pa), .unset, .unset]) d10_77 rfl rfl (by decide) rfl ?_
  refine A.goto (r := 7) d10_80 (by decide) ?_
  refine A.iloadN (q := 8) d10_7 rfl rfl ?_
  refine A.aloadN (q := 9) d10_8 rfl rfl rfl ?_
  refine A.arraylength (q := 10) (i := 4) (v := (2 : Int32)) d10_9 rfl rfl (by show Nat.toInt32 2 = 2; decide) ?_
  refine A.icmpF (q := 13) d10_10 rfl (by decide) ?_
  refine A.aloadN (q := 14) d10_13 rfl rfl rfl ?_
  refine A.iloadN (q := 15) d10_14 rfl rfl ?_
  refine A.iaload (q := 16) (i := 4) (v := (.int pb)) d10_15 rfl rfl (by decide) rfl ?_
  refine A.istore (q := 18) (l' := #[.val (.ref r0), .val (.ref r4), .val (.ref r5), .val (.int (1 : Int32)), .val (.int pb), .unset, .unset]) d10_16 rfl rfl ?_
  refine A.iload (q := 20) d10_18 rfl rfl ?_
  refine A.if_lt (q := 23) (r := 45) d10_20 rfl (by decide) (fun h => (nq.1 h).elim) (fun _ => ?_)
  refine A.iload (q := 25) d10_23 rfl rfl ?_
  refine A.aloadN (q := 26) d10_25 rfl rfl rfl ?_
  refine A.getF (q := 29) (w := 13) (i := 1) (j := 1) d10_26 rfl rfl rfl rfl ?_
  intro T A
  refine A.arraylengthM (q := 30) (i := 3) (v := (4 : Int32)) d10_29 rfl rfl (by rw [(show (fo.set (pa).toNatClampNeg v6).length = 4 by simp only [List.length_set, own_u1len, own_fblen, own_mkLlen, own_l2Llen, own_uLlen, own_umlen, len_fo])]; decide) ?_
  refine A.icmp_ge (q := 33) (r := 45) d10_30 rfl (by decide) (fun h => (h (own_g109 sg pg f1 f2 hf1 hf2 hS fo hfo pa hpa pb hpb al hal )).elim) (fun _ => ?_)
  refine A.aloadN (q := 34) d10_33 rfl rfl rfl ?_
  refine A.getF (q := 37) (w := 13) (i := 1) (j := 1) d10_34 rfl rfl rfl rfl ?_
  intro T A
  refine A.iload (q := 39) d10_37 rfl rfl ?_
  refine A.baloadBM (q := 40) (i := 3) (v := ((fo.set (pa).toNatClampNeg v6).getD (pb).toNatClampNeg (0 : Int32))) d10_39 rfl rfl nq.1 (own_gd (by rw [(show (fo.set (pa).toNatClampNeg v6).length = 4 by simp only [List.length_set, own_u1len, own_fblen, own_mkLlen, own_l2Llen, own_uLlen, own_umlen, len_fo])]; exact nq.2.1)) ?_
  refine A.iconst (q := 41) (v := (2 : Int32)) d10_40 rfl (by decide) ?_
  obtain ⟨v9, e9⟩ : ∃ v : Int32, ((fo.set (pa).toNatClampNeg v6).getD (pb).toNatClampNeg (0 : Int32)) &&& (2 : Int32) = v := ⟨_, rfl⟩
  refine A.iand (q := 42) d10_41 rfl e9 ?_
  refine A.if_eq (q := 45) (r := 65) d10_42 rfl (by decide) (fun _ => ?_) (fun h => (h (own_g110 sg pg f1 f2 hf1 hf2 hS fo hfo pa hpa pb hpb al hal v5 e5 v6 e6 v9 e9 )).elim)
  refine A.aloadN (q := 66) d10_65 rfl rfl rfl ?_
  refine A.getF (q := 69) (w := 13) (i := 1) (j := 1) d10_66 rfl rfl rfl rfl ?_
  intro T A
  refine A.iload (q := 71) d10_69 rfl rfl ?_
  refine A.dup2 (q := 72) d10_71 rfl rfl rfl ?_
  refine A.baloadBM (q := 73) (i := 3) (v := ((fo.set (pa).toNatClampNeg v6).getD (pb).toNatClampNeg (0 : Int32))) d10_72 rfl rfl nq.1 (own_gd (by rw [(show (fo.set (pa).toNatClampNeg v6).length = 4 by simp only [List.length_set, own_u1len, own_fblen, own_mkLlen, own_l2Llen, own_uLlen, own_umlen, len_fo])]; exact nq.2.1)) ?_
  refine A.iconst (q := 74) (v := (2 : Int32)) d10_73 rfl (by decide) ?_
  obtain ⟨v11, e11⟩ : ∃ v : Int32, ((fo.set (pa).toNatClampNeg v6).getD (pb).toNatClampNeg (0 : Int32)) ||| (2 : Int32) = v := ⟨_, rfl⟩
  refine A.ior (q := 75) d10_74 rfl e11 ?_
  obtain ⟨v12, e12⟩ : ∃ v : Int32, v11.toInt8.toInt32 = v := ⟨_, rfl⟩
  refine A.i2b (q := 76) d10_75 rfl e12 ?_
  refine A.bastoreBM (q := 77) (i := 3) (x' := v12) (L' := ((r4, ob0 (.ref r5) (.ref r6) (.ref r7) (.long (0 : Int64)) (.int (1 : Int32))) :: (r0, ob1 (.ref r1) (.ref r2) (.int al) (.long (0 : Int64)) (.long hi) (.long lo) .null .null) :: (r1, .inr (.long, List.map Value.long (z4))) :: (r2, .inr (.byte, List.map Value.int ((fo.set (pa).toNatClampNeg v6).set (pb).toNatClampNeg v12))) :: (r5, .inr (.int, [(.int pa), (.int pb)])) :: (r6, .inr (.long, [(.long (0 : Int64)), (.long (0 : Int64))])) :: (r7, .inr (.boolean, [(.int f1), (.int f2)])) :: RR)) d10_76 rfl rfl nq.1 (by rw [(show (fo.set (pa).toNatClampNeg v6).length = 4 by simp only [List.length_set, own_u1len, own_fblen, own_mkLlen, own_l2Llen, own_uLlen, own_umlen, len_fo])]; exact nq.2.1) (by subst e3 e5 e6 e9 e11 e12; exact own_nb _) rfl ?_
  intro T A
  refine A.iinc (q := 80) (v := (2 : Int32)) (l' := #[.val (.ref r0), .val (.ref r4), .val (.ref r5), .val (.int (2 : Int32)), .val (.int pb), .unset, .unset]) d10_77 rfl rfl (by decide) rfl ?_
  refine A.goto (r := 7) d10_80 (by decide) ?_
  refine A.iloadN (q := 8) d10_7 rfl rfl ?_
  refine A.aloadN (q := 9) d10_8 rfl rfl rfl ?_
  refine A.arraylength (q := 10) (i := 4) (v := (2 : Int32)) d10_9 rfl rfl (by show Nat.toInt32 2 = 2; decide) ?_
  refine A.icmpT (r := 83) d10_10 (by decide) (by decide) ?_
  have q : ((fo.set (pa).toNatClampNeg v6).set (pb).toNatClampNeg v12) = (mkL fo pa pb) := (own_g111 sg pg f1 f2 hf1 hf2 hS fo hfo pa hpa pb hpb al hal v5 e5 v6 e6 v11 e11 v12 e12 )
  rw [q] at A
  clear q
  have A : Here p l e ({ frames := 3, cells := 1, slots := 2, locals := 63 } : Room) s m ([(.ref r0), (.ref r4)] : List Value).toArray below meth c Z a0 tables_1 (⟨"com/example/forebound/forebound/problem/Sum", "add", "(Lcom/example/forebound/forebound/problem/Problem$Table;)V"⟩ : MethodName).cls (⟨"com/example/forebound/forebound/problem/Sum", "add", "(Lcom/example/forebound/forebound/problem/Problem$Table;)V"⟩ : MethodName).name prog_28_method_6_code 7 none n0 T ((r4, ob0 (.ref r5) (.ref r6) (.ref r7) (.long (0 : Int64)) (.int (1 : Int32))) :: (r0, ob1 (.ref r1) (.ref r2) (.int al) (.long (0 : Int64)) (.long hi) (.long lo) .null .null) :: (r1, .inr (.long, List.map Value.long (z4))) :: (r2, .inr (.byte, List.map Value.int (mkL fo pa pb))) :: (r5, .inr (.int, [(.int pa), (.int pb)])) :: (r6, .inr (.long, [(.long (0 : Int64)), (.long (0 : Int64))])) :: (r7, .inr (.boolean, [(.int f1), (.int f2)])) :: RR) 0 0 := A
  refine A.aloadN (q := 84) d10_83 rfl rfl rfl ?_
  refine A.aloadN (q := 85) d10_84 rfl rfl rfl ?_
  have A := A.front (i := 6) rfl rfl
  have A := A.front (i := 6) rfl rfl
  have A := A.front (i := 6) rfl rfl
  have A := A.front (i := 3) rfl rfl
  have A := A.front (i := 6) rfl rfl
  have A := A.front (i := 6) rfl rfl
  have A := A.front (i := 6) (L' := ((r0, ob1 (.ref r1) (.ref r2) (.int al) (.long (0 : Int64)) (.long hi) (.long lo) .null .null) :: (r1, .inr (.long, List.map Value.long (z4))) :: (r2, .inr (.byte, List.map Value.int (mkL fo pa pb))) :: (r4, ob0 (.ref r5) (.ref r6) (.ref r7) (.long (0 : Int64)) (.int (1 : Int32))) :: (r5, .inr (.int, [(.int pa), (.int pb)])) :: (r6, .inr (.long, [(.long (0 : Int64)), (.long (0 : Int64))])) :: (r7, .inr (.boolean, [(.int f1), (.int f2)])) :: RR)) rfl rfl
  refine A.callP (q := 88) (i := 0) (w1 := 69) (w2 := 71) (w3 := 2) (w4 := 72) (w5 := 1) (w6 := 70) (a := r0) (as := [(.ref r4)]) (st := []) (W := 0) d10_85 rfl rfl rfl rfl rfl rfl rfl rfl (rmKN1 l Z a0 hw n0 r0 r4 r1 r2 al hi lo (mkL fo pa pb) r5 r6 r7 pa pb f1 f2 sg pg _ (by rw [← hfo, ← hpa, ← hpb]; rfl) hpa hpb hal hf1 hf2 hS) (by decide) ⟨_, _, pd_11, rfl⟩ rfl rfl rfl (by decide) (by decide) (by decide) (by decide) ?_
  rintro _ T _ ⟨b13, v14, v15, rfl, rfl⟩ A
  show Go p e below _ (T.setTop (mkF m 88 #[.val (.ref r0), .val (.ref r4), .val (.ref r5), .val (.int (2 : Int32)), .val (.int pb), .unset, .unset] []))
  refine A.iconst (q := 89) (v := (0 : Int32)) d10_88 rfl (by decide) ?_
  refine A.istore (q := 91) (l' := #[.val (.ref r0), .val (.ref r4), .val (.ref r5), .val (.int (2 : Int32)), .val (.int (0 : Int32)), .unset, .unset]) d10_89 rfl rfl ?_
  refine A.iload (q := 93) d10_91 rfl rfl ?_
  refine A.iloadN (q := 94) d10_93 rfl rfl ?_
  refine A.icmpF (q := 97) d10_94 rfl (by decide) ?_
  refine A.aloadN (q := 98) d10_97 rfl rfl rfl ?_
  refine A.getF (q := 101) (w := 13) (i := 4) (j := 1) d10_98 rfl rfl rfl rfl ?_
  intro T A
  refine A.aloadN (q := 102) d10_101 rfl rfl rfl ?_
  refine A.iload (q := 104) d10_102 rfl rfl ?_
  refine A.iaload (q := 105) (i := 1) (v := (.int pa)) d10_104 rfl rfl (by decide) rfl ?_
  refine A.dup2 (q := 106) d10_105 rfl rfl rfl ?_
  refine A.baloadBM (q := 107) (i := 5) (v := ((uL (l2L (mkL fo pa pb) pa pb f1 f2)).getD (pa).toNatClampNeg (0 : Int32))) d10_106 rfl rfl np.1 (own_gd (by rw [(show (uL (l2L (mkL fo pa pb) pa pb f1 f2)).length = 4 by simp only [List.length_set, own_u1len, own_fblen, own_mkLlen, own_l2Llen, own_uLlen, own_umlen, len_fo])]; exact np.2.1)) ?_
  refine A.bipush (q := 109) (v := (-3 : Int32)) d10_107 rfl (by decide) ?_
  obtain ⟨v16, e16⟩ : ∃ v : Int32, ((uL (l2L (mkL fo pa pb) pa pb f1 f2)).getD (pa).toNatClampNeg (0 : Int32)) &&& (-3 : Int32) = v := ⟨_, rfl⟩
  refine A.iand (q := 110) d10_109 rfl e16 ?_
  obtain ⟨v17, e17⟩ : ∃ v : Int32, v16.toInt8.toInt32 = v := ⟨_, rfl⟩
  refine A.i2b (q := 111) d10_110 rfl e17 ?_
  refine A.bastoreBM (q := 112) (i := 5) (x' := v17) (L' := ((r4, ob0 (.ref r5) (.ref r6) (.ref r7) (.long (0 : Int64)) (.int (1 : Int32))) :: (r5, .inr (.int, [(.int pa), (.int pb)])) :: (r6, .inr (.long, [(.long (0 : Int64)), (.long (0 : Int64))])) :: (r7, .inr (.boolean, [(.int f1), (.int f2)])) :: (r0, ob1 (.ref r1) (.ref r2) (.int (cnt (uL (l2L (mkL fo pa pb) pa pb f1 f2)))) (.long (0 : Int64)) (.long v14) (.long v15) .null (.ref b13)) :: (r2, .inr (.byte, List.map Value.int ((uL (l2L (mkL fo pa pb) pa pb f1 f2)).set (pa).toNatClampNeg v17))) :: (b13, .inr (.int, List.map Value.int (svL (uL (l2L (mkL fo pa pb) pa pb f1 f2)) pa pb))) :: (r1, .inr (.long, List.map Value.long (z4))) :: RR)) d10_111 rfl rfl np.1 (by rw [(show (uL (l2L (mkL fo pa pb) pa pb f1 f2)).length = 4 by simp only [List.length_set, own_u1len, own_fblen, own_mkLlen, own_l2Llen, own_uLlen, own_umlen, len_fo])]; exact np.2.1) (by subst e3 e5 e6 e9 e11 e12 e16 e17; exact own_nb _) rfl ?_
  intro T A
  refine A.iinc (q := 115) (v := (1 : Int32)) (l' := #[.val (.ref r0), .val (.ref r4), .val (.ref r5), .val (.int (2 : Int32)), .val (.int (1 : Int32)), .unset, .unset]) d10_112 rfl rfl (by decide) rfl ?_
  refine A.goto (r := 91) d10_115 (by decide) ?_
  refine A.iload (q := 93) d10_91 rfl rfl ?_
  refine A.iloadN (q := 94) d10_93 rfl rfl ?_
  refine A.icmpF (q := 97) d10_94 rfl (by decide) ?_
  refine A.aloadN (q := 98) d10_97 rfl rfl rfl ?_
  refine A.getF (q := 101) (w := 13) (i := 4) (j := 1) d10_98 rfl rfl rfl rfl ?_
  intro T A
  refine A.aloadN (q := 102) d10_101 rfl rfl rfl ?_
  refine A.iload (q := 104) d10_102 rfl rfl ?_
  refine A.iaload (q := 105) (i := 1) (v := (.int pb)) d10_104 rfl rfl (by decide) rfl ?_
  refine A.dup2 (q := 106) d10_105 rfl rfl rfl ?_
  refine A.baloadBM (q := 107) (i := 5) (v := (((uL (l2L (mkL fo pa pb) pa pb f1 f2)).set (pa).toNatClampNeg v17).getD (pb).toNatClampNeg (0 : Int32))) d10_106 rfl rfl nq.1 (own_gd (by rw [(show ((uL (l2L (mkL fo pa pb) pa pb f1 f2)).set (pa).toNatClampNeg v17).length = 4 by simp only [List.length_set, own_u1len, own_fblen, own_mkLlen, own_l2Llen, own_uLlen, own_umlen, len_fo])]; exact nq.2.1)) ?_
  refine A.bipush (q := 109) (v := (-3 : Int32)) d10_107 rfl (by decide) ?_
  obtain ⟨v18, e18⟩ : ∃ v : Int32, (((uL (l2L (mkL fo pa pb) pa pb f1 f2)).set (pa).toNatClampNeg v17).getD (pb).toNatClampNeg (0 : Int32)) &&& (-3 : Int32) = v := ⟨_, rfl⟩
  refine A.iand (q := 110) d10_109 rfl e18 ?_
  obtain ⟨v19, e19⟩ : ∃ v : Int32, v18.toInt8.toInt32 = v := ⟨_, rfl⟩
  refine A.i2b (q := 111) d10_110 rfl e19 ?_
  refine A.bastoreBM (q := 112) (i := 5) (x' := v19) (L' := ((r4, ob0 (.ref r5) (.ref r6) (.ref r7) (.long (0 : Int64)) (.int (1 : Int32))) :: (r5, .inr (.int, [(.int pa), (.int pb)])) :: (r6, .inr (.long, [(.long (0 : Int64)), (.long (0 : Int64))])) :: (r7, .inr (.boolean, [(.int f1), (.int f2)])) :: (r0, ob1 (.ref r1) (.ref r2) (.int (cnt (uL (l2L (mkL fo pa pb) pa pb f1 f2)))) (.long (0 : Int64)) (.long v14) (.long v15) .null (.ref b13)) :: (r2, .inr (.byte, List.map Value.int (((uL (l2L (mkL fo pa pb) pa pb f1 f2)).set (pa).toNatClampNeg v17).set (pb).toNatClampNeg v19))) :: (b13, .inr (.int, List.map Value.int (svL (uL (l2L (mkL fo pa pb) pa pb f1 f2)) pa pb))) :: (r1, .inr (.long, List.map Value.long (z4))) :: RR)) d10_111 rfl rfl nq.1 (by rw [(show ((uL (l2L (mkL fo pa pb) pa pb f1 f2)).set (pa).toNatClampNeg v17).length = 4 by simp only [List.length_set, own_u1len, own_fblen, own_mkLlen, own_l2Llen, own_uLlen, own_umlen, len_fo])]; exact nq.2.1) (by subst e3 e5 e6 e9 e11 e12 e16 e17 e18 e19; exact own_nb _) rfl ?_
  intro T A
  refine A.iinc (q := 115) (v := (2 : Int32)) (l' := #[.val (.ref r0), .val (.ref r4), .val (.ref r5), .val (.int (2 : Int32)), .val (.int (2 : Int32)), .unset, .unset]) d10_112 rfl rfl (by decide) rfl ?_
  refine A.goto (r := 91) d10_115 (by decide) ?_
  refine A.iload (q := 93) d10_91 rfl rfl ?_
  refine A.iloadN (q := 94) d10_93 rfl rfl ?_
  refine A.icmpT (r := 118) d10_94 (by decide) (by decide) ?_
  refine A.goto (r := 156) d10_118 (by decide) ?_
  have q : (((uL (l2L (mkL fo pa pb) pa pb f1 f2)).set (pa).toNatClampNeg v17).set (pb).toNatClampNeg v19) = (umL (uL (l2L (mkL fo pa pb) pa pb f1 f2)) pa pb) := (own_g112 sg pg f1 f2 hf1 hf2 hS fo hfo pa hpa pb hpb al hal v16 e16 v17 e17 v18 e18 v19 e19 )
  rw [q] at A
  clear q
  have A : Here p l e ({ frames := 3, cells := 1, slots := 2, locals := 63 } : Room) s m ([(.ref r0), (.ref r4)] : List Value).toArray below meth c Z a0 tables_1 (⟨"com/example/forebound/forebound/problem/Sum", "add", "(Lcom/example/forebound/forebound/problem/Problem$Table;)V"⟩ : MethodName).cls (⟨"com/example/forebound/forebound/problem/Sum", "add", "(Lcom/example/forebound/forebound/problem/Problem$Table;)V"⟩ : MethodName).name prog_28_method_6_code 7 none n0 T ((r4, ob0 (.ref r5) (.ref r6) (.ref r7) (.long (0 : Int64)) (.int (1 : Int32))) :: (r5, .inr (.int, [(.int pa), (.int pb)])) :: (r6, .inr (.long, [(.long (0 : Int64)), (.long (0 : Int64))])) :: (r7, .inr (.boolean, [(.int f1), (.int f2)])) :: (r0, ob1 (.ref r1) (.ref r2) (.int (cnt (uL (l2L (mkL fo pa pb) pa pb f1 f2)))) (.long (0 : Int64)) (.long v14) (.long v15) .null (.ref b13)) :: (r2, .inr (.byte, List.map Value.int (umL (uL (l2L (mkL fo pa pb) pa pb f1 f2)) pa pb))) :: (b13, .inr (.int, List.map Value.int (svL (uL (l2L (mkL fo pa pb) pa pb f1 f2)) pa pb))) :: (r1, .inr (.long, List.map Value.long (z4))) :: RR) 1 2 := A
  have Aq := A
  subst e3 e5 e6 e9 e11 e12 e16 e17 e18 e19
  have A := Aq
  exact A.retV d10_156 (by decide) (by decide) ⟨b13, _, _, rfl, rfl⟩
theorem own_g113 (sg : Fin 28) (pg : Fin 12) (f1 f2 : Int32) (hf1 : f1 = 0 ∨ f1 = 1) (hf2 : f2 = 0 ∨ f2 = 1) (hS : 11 ≤ sg.val) (fo : List Int32) (hfo : flO sg = fo) (pa : Int32) (hpa : pA pg = pa) (pb : Int32) (hpb : pB pg = pb) (al : Int32) (hal : cnt (flO sg) = al) (sv : List Int32) (hsv : svO sg = sv) : pa < (4 : Int32) := by
  subst hfo hpa hpb hal hsv; exact own_f36 sg pg f1 f2 hf1 hf2 trivial 
theorem own_g114 (sg : Fin 28) (pg : Fin 12) (f1 f2 : Int32) (hf1 : f1 = 0 ∨ f1 = 1) (hf2 : f2 = 0 ∨ f2 = 1) (hS : 11 ≤ sg.val) (fo : List Int32) (hfo : flO sg = fo) (pa : Int32) (hpa : pA pg = pa) (pb : Int32) (hpb : pB pg = pb) (al : Int32) (hal : cnt (flO sg) = al) (sv : List Int32) (hsv : svO sg = sv) (v3 : Int32) (e3 : (fo.getD (pa).toNatClampNeg (0 : Int32)) &&& (2 : Int32) = v3) : v3 = (0 : Int32) := by
  subst hfo hpa hpb hal hsv e3; exact own_f37 sg pg f1 f2 hf1 hf2 trivial 
theorem own_g115 (sg : Fin 28) (pg : Fin 12) (f1 f2 : Int32) (hf1 : f1 = 0 ∨ f1 = 1) (hf2 : f2 = 0 ∨ f2 = 1) (hS : 11 ≤ sg.val) (fo : List Int32) (hfo : flO sg = fo) (pa : Int32) (hpa : pA pg = pa) (pb : Int32) (hpb : pB pg = pb) (al : Int32) (hal : cnt (flO sg) = al) (sv : List Int32) (hsv : svO sg = sv) : pb < (4 : Int32) := by
  subst hfo hpa hpb hal hsv; exact own_f38 sg pg f1 f2 hf1 hf2 trivial 
theorem own_g116 (sg : Fin 28) (pg : Fin 12) (f1 f2 : Int32) (hf1 : f1 = 0 ∨ f1 = 1) (hf2 : f2 = 0 ∨ f2 = 1) (hS : 11 ≤ sg.val) (fo : List Int32) (hfo : flO sg = fo) (pa : Int32) (hpa : pA pg = pa) (pb : Int32) (hpb : pB pg = pb) (al : Int32) (hal : cnt (flO sg) = al) (sv : List Int32) (hsv : svO sg = sv) (v5 : Int32) (e5 : (fo.getD (pa).toNatClampNeg (0 : Int32)) ||| (2 : Int32) = v5) (v6 : Int32) (e6 : v5.toInt8.toInt32 = v6) (v9 : Int32) (e9 : ((fo.set (pa).toNatClampNeg v6).getD (pb).toNatClampNeg (0 : Int32)) &&& (2 : Int32) = v9) : v9 = (0 : Int32) := by
  subst hfo hpa hpb hal hsv e5 e6 e9; exact own_f39 sg pg f1 f2 hf1 hf2 trivial 
theorem own_g117 (sg : Fin 28) (pg : Fin 12) (f1 f2 : Int32) (hf1 : f1 = 0 ∨ f1 = 1) (hf2 : f2 = 0 ∨ f2 = 1) (hS : 11 ≤ sg.val) (fo : List Int32) (hfo : flO sg = fo) (pa : Int32) (hpa : pA pg = pa) (pb : Int32) (hpb : pB pg = pb) (al : Int32) (hal : cnt (flO sg) = al) (sv : List Int32) (hsv : svO sg = sv) (v5 : Int32) (e5 : (fo.getD (pa).toNatClampNeg (0 : Int32)) ||| (2 : Int32) = v5) (v6 : Int32) (e6 : v5.toInt8.toInt32 = v6) (v11 : Int32) (e11 : ((fo.set (pa).toNatClampNeg v6).getD (pb).toNatClampNeg (0 : Int32)) ||| (2 : Int32) = v11) (v12 : Int32) (e12 : v11.toInt8.toInt32 = v12) : ((fo.set (pa).toNatClampNeg v6).set (pb).toNatClampNeg v12) = (mkL fo pa pb) := by
  subst hfo hpa hpb hal hsv e5 e6 e11 e12; exact own_f40 sg pg f1 f2 hf1 hf2 trivial 
theorem own_f43 (sg : Fin 28) (pg : Fin 12) (f1 f2 : Int32) (hf1 : f1 = 0 ∨ f1 = 1) (hf2 : f2 = 0 ∨ f2 = 1) (hS : 11 ≤ sg.val) : (((uL (l2L (mkL (flO sg) (pA pg) (pB pg)) (pA pg) (pB pg) f1 f2)).set ((pA pg)).toNatClampNeg ((((uL (l2L (mkL (flO sg) (pA pg) (pB pg)) (pA pg) (pB pg) f1 f2)).getD ((pA pg)).toNatClampNeg (0 : Int32)) &&& (-3 : Int32)).toInt8.toInt32)).set ((pB pg)).toNatClampNeg (((((uL (l2L (mkL (flO sg) (pA pg) (pB pg)) (pA pg) (pB pg) f1 f2)).set ((pA pg)).toNatClampNeg ((((uL (l2L (mkL (flO sg) (pA pg) (pB pg)) (pA pg) (pB pg) f1 f2)).getD ((pA pg)).toNatClampNeg (0 : Int32)) &&& (-3 : Int32)).toInt8.toInt32)).getD ((pB pg)).toNatClampNeg (0 : Int32)) &&& (-3 : Int32)).toInt8.toInt32)) = (umL (uL (l2L (mkL (flO sg) (pA pg) (pB pg)) (pA pg) (pB pg) f1 f2)) (pA pg) (pB pg)) := by
  rcases hf1 with rfl | rfl <;> rcases hf2 with rfl | rfl <;> (revert hS; revert pg; revert sg; decide +kernel)
theorem own_g118 (sg : Fin 28) (pg : Fin 12) (f1 f2 : Int32) (hf1 : f1 = 0 ∨ f1 = 1) (hf2 : f2 = 0 ∨ f2 = 1) (hS : 11 ≤ sg.val) (fo : List Int32) (hfo : flO sg = fo) (pa : Int32) (hpa : pA pg = pa) (pb : Int32) (hpb : pB pg = pb) (al : Int32) (hal : cnt (flO sg) = al) (sv : List Int32) (hsv : svO sg = sv) (v16 : Int32) (e16 : ((uL (l2L (mkL fo pa pb) pa pb f1 f2)).getD (pa).toNatClampNeg (0 : Int32)) &&& (-3 : Int32) = v16) (v17 : Int32) (e17 : v16.toInt8.toInt32 = v17) (v18 : Int32) (e18 : (((uL (l2L (mkL fo pa pb) pa pb f1 f2)).set (pa).toNatClampNeg v17).getD (pb).toNatClampNeg (0 : Int32)) &&& (-3 : Int32) = v18) (v19 : Int32) (e19 : v18.toInt8.toInt32 = v19) : (((uL (l2L (mkL fo pa pb) pa pb f1 f2)).set (pa).toNatClampNeg v17).set (pb).toNatClampNeg v19) = (umL (uL (l2L (mkL fo pa pb) pa pb f1 f2)) pa pb) := by
  subst hfo hpa hpb hal hsv e16 e17 e18 e19; exact own_f43 sg pg f1 f2 hf1 hf2 hS 
theorem own_g119 (sg : Fin 28) (pg : Fin 12) (f1 f2 : Int32) (hf1 : f1 = 0 ∨ f1 = 1) (hf2 : f2 = 0 ∨ f2 = 1) (hS : 11 ≤ sg.val) (fo : List Int32) (hfo : flO sg = fo) (pa : Int32) (hpa : pA pg = pa) (pb : Int32) (hpb : pB pg = pb) (al : Int32) (hal : cnt (flO sg) = al) (sv : List Int32) (hsv : svO sg = sv) : pa < (4 : Int32) := by
  subst hfo hpa hpb hal hsv; exact own_f36 sg pg f1 f2 hf1 hf2 trivial 
theorem own_g120 (sg : Fin 28) (pg : Fin 12) (f1 f2 : Int32) (hf1 : f1 = 0 ∨ f1 = 1) (hf2 : f2 = 0 ∨ f2 = 1) (hS : 11 ≤ sg.val) (fo : List Int32) (hfo : flO sg = fo) (pa : Int32) (hpa : pA pg = pa) (pb : Int32) (hpb : pB pg = pb) (al : Int32) (hal : cnt (flO sg) = al) (sv : List Int32) (hsv : svO sg = sv) (v3 : Int32) (e3 : (fo.getD (pa).toNatClampNeg (0 : Int32)) &&& (2 : Int32) = v3) : v3 = (0 : Int32) := by
  subst hfo hpa hpb hal hsv e3; exact own_f37 sg pg f1 f2 hf1 hf2 trivial 
theorem own_g121 (sg : Fin 28) (pg : Fin 12) (f1 f2 : Int32) (hf1 : f1 = 0 ∨ f1 = 1) (hf2 : f2 = 0 ∨ f2 = 1) (hS : 11 ≤ sg.val) (fo : List Int32) (hfo : flO sg = fo) (pa : Int32) (hpa : pA pg = pa) (pb : Int32) (hpb : pB pg = pb) (al : Int32) (hal : cnt (flO sg) = al) (sv : List Int32) (hsv : svO sg = sv) : pb < (4 : Int32) := by
  subst hfo hpa hpb hal hsv; exact own_f38 sg pg f1 f2 hf1 hf2 trivial 
theorem own_g122 (sg : Fin 28) (pg : Fin 12) (f1 f2 : Int32) (hf1 : f1 = 0 ∨ f1 = 1) (hf2 : f2 = 0 ∨ f2 = 1) (hS : 11 ≤ sg.val) (fo : List Int32) (hfo : flO sg = fo) (pa : Int32) (hpa : pA pg = pa) (pb : Int32) (hpb : pB pg = pb) (al : Int32) (hal : cnt (flO sg) = al) (sv : List Int32) (hsv : svO sg = sv) (v5 : Int32) (e5 : (fo.getD (pa).toNatClampNeg (0 : Int32)) ||| (2 : Int32) = v5) (v6 : Int32) (e6 : v5.toInt8.toInt32 = v6) (v9 : Int32) (e9 : ((fo.set (pa).toNatClampNeg v6).getD (pb).toNatClampNeg (0 : Int32)) &&& (2 : Int32) = v9) : v9 = (0 : Int32) := by
  subst hfo hpa hpb hal hsv e5 e6 e9; exact own_f39 sg pg f1 f2 hf1 hf2 trivial 
theorem own_g123 (sg : Fin 28) (pg : Fin 12) (f1 f2 : Int32) (hf1 : f1 = 0 ∨ f1 = 1) (hf2 : f2 = 0 ∨ f2 = 1) (hS : 11 ≤ sg.val) (fo : List Int32) (hfo : flO sg = fo) (pa : Int32) (hpa : pA pg = pa) (pb : Int32) (hpb : pB pg = pb) (al : Int32) (hal : cnt (flO sg) = al) (sv : List Int32) (hsv : svO sg = sv) (v5 : Int32) (e5 : (fo.getD (pa).toNatClampNeg (0 : Int32)) ||| (2 : Int32) = v5) (v6 : Int32) (e6 : v5.toInt8.toInt32 = v6) (v11 : Int32) (e11 : ((fo.set (pa).toNatClampNeg v6).getD (pb).toNatClampNeg (0 : Int32)) ||| (2 : Int32) = v11) (v12 : Int32) (e12 : v11.toInt8.toInt32 = v12) : ((fo.set (pa).toNatClampNeg v6).set (pb).toNatClampNeg v12) = (mkL fo pa pb) := by
  subst hfo hpa hpb hal hsv e5 e6 e11 e12; exact own_f40 sg pg f1 f2 hf1 hf2 trivial 
theorem own_g124 (sg : Fin 28) (pg : Fin 12) (f1 f2 : Int32) (hf1 : f1 = 0 ∨ f1 = 1) (hf2 : f2 = 0 ∨ f2 = 1) (hS : 11 ≤ sg.val) (fo : List Int32) (hfo : flO sg = fo) (pa : Int32) (hpa : pA pg = pa) (pb : Int32) (hpb : pB pg = pb) (al : Int32) (hal : cnt (flO sg) = al) (sv : List Int32) (hsv : svO sg = sv) (v16 : Int32) (e16 : ((uL (l2L (mkL fo pa pb) pa pb f1 f2)).getD (pa).toNatClampNeg (0 : Int32)) &&& (-3 : Int32) = v16) (v17 : Int32) (e17 : v16.toInt8.toInt32 = v17) (v18 : Int32) (e18 : (((uL (l2L (mkL fo pa pb) pa pb f1 f2)).set (pa).toNatClampNeg v17).getD (pb).toNatClampNeg (0 : Int32)) &&& (-3 : Int32) = v18) (v19 : Int32) (e19 : v18.toInt8.toInt32 = v19) : (((uL (l2L (mkL fo pa pb) pa pb f1 f2)).set (pa).toNatClampNeg v17).set (pb).toNatClampNeg v19) = (umL (uL (l2L (mkL fo pa pb) pa pb f1 f2)) pa pb) := by
  subst hfo hpa hpb hal hsv e16 e17 e18 e19; exact own_f43 sg pg f1 f2 hf1 hf2 hS 
set_option maxRecDepth 65536 in
set_option maxHeartbeats 8000000 in
theorem rmDA1 (l : Launch) (Z : State) (a0 : Array Value) (hw : ∀ d ∈ tables_1, d.before a0 Z = true) (n0 : Nat) (r0 : Addr) (r4 : Addr) (r1 : Addr) (r2 : Addr) (al : Int32) (hi : Int64) (lo : Int64) (r3 : Addr) (fo : List Int32) (r5 : Addr) (r6 : Addr) (r7 : Addr) (pa : Int32) (pb : Int32) (f1 : Int32) (f2 : Int32) (sv : List Int32) (sg : Fin 28) (pg : Fin 12) (RR : Obs) (hfo : flO sg = fo) (hpa : pA pg = pa) (hpb : pB pg = pb) (hal : cnt (flO sg) = al) (hsv : svO sg = sv) (hf1 : f1 = 0 ∨ f1 = 1) (hf2 : f2 = 0 ∨ f2 = 1) (hS : 11 ≤ sg.val) :
    TripleW l Z n0 (⟨"com/example/forebound/forebound/problem/Sum", "add", "(Lcom/example/forebound/forebound/problem/Problem$Table;)V"⟩ : MethodName) prog_28_method_6_code 7 none ({ frames := 4, cells := 1, slots := 2, locals := 76 } : Room) 1 2 [(.ref r0), (.ref r4)] ((r0, ob1 (.ref r1) (.ref r2) (.int al) (.long (0 : Int64)) (.long hi) (.long lo) .null (.ref r3)) :: (r1, .inr (.long, List.map Value.long (z4))) :: (r2, .inr (.byte, List.map Value.int fo)) :: (r4, ob0 (.ref r5) (.ref r6) (.ref r7) (.long (0 : Int64)) (.int (1 : Int32))) :: (r5, .inr (.int, [(.int pa), (.int pb)])) :: (r6, .inr (.long, [(.long (0 : Int64)), (.long (0 : Int64))])) :: (r7, .inr (.boolean, [(.int f1), (.int f2)])) :: (r3, .inr (.int, List.map Value.int sv)) :: RR) (fun v L' => ∃ b13 : Addr, ∃ ex0 ex1 : Int64, v = none ∧ L' = ((r4, ob0 (.ref r5) (.ref r6) (.ref r7) (.long (0 : Int64)) (.int (1 : Int32))) :: (r5, .inr (.int, [(.int pa), (.int pb)])) :: (r6, .inr (.long, [(.long (0 : Int64)), (.long (0 : Int64))])) :: (r7, .inr (.boolean, [(.int f1), (.int f2)])) :: (r0, ob1 (.ref r1) (.ref r2) (.int (cnt (uL (l2L (mkL fo pa pb) pa pb f1 f2)))) (.long (0 : Int64)) (.long ex0) (.long ex1) .null (.ref b13)) :: (r2, .inr (.byte, List.map Value.int (umL (uL (l2L (mkL fo pa pb) pa pb f1 f2)) pa pb))) :: (b13, .inr (.int, List.map Value.int (svL (uL (l2L (mkL fo pa pb) pa pb f1 f2)) pa pb))) :: (r3, .inr (.int, List.map Value.int sv)) :: (r1, .inr (.long, List.map Value.long (z4))) :: RR)) := by
  refine TripleW.of_body (tbl := tables_1) (a0 := a0) (Ls := #[.val (.ref r0), .val (.ref r4), .unset, .unset, .unset, .unset, .unset]) pn_10 hw rfl ?_
  intro p e s m below meth c T A
  have np : ¬ pa < 0 ∧ pa.toNatClampNeg < 4 ∧ z4[pa.toNatClampNeg]? = some 0 ∧ z4.set pa.toNatClampNeg 0 = z4 := by rw [← hpa]; exact ⟨(own_pp pg).1, (own_pp pg).2.2.1, (own_pp pg).2.2.2.2.1, (own_pp pg).2.2.2.2.2.2.1⟩
  have nq : ¬ pb < 0 ∧ pb.toNatClampNeg < 4 ∧ z4[pb.toNatClampNeg]? = some 0 ∧ z4.set pb.toNatClampNeg 0 = z4 := by rw [← hpb]; exact ⟨(own_pp pg).2.1, (own_pp pg).2.2.2.1, (own_pp pg).2.2.2.2.2.1, (own_pp pg).2.2.2.2.2.2.2⟩
  have len_fo : fo.length = 4 := by rw [← hfo]; exact own_flen sg
  refine A.aloadN (q := 1) d10_0 rfl rfl rfl ?_
  have A := A.front (i := 3) (L' := ((r4, ob0 (.ref r5) (.ref r6) (.ref r7) (.long (0 : Int64)) (.int (1 : Int32))) :: (r0, ob1 (.ref r1) (.ref r2) (.int al) (.long (0 : Int64)) (.long hi) (.long lo) .null (.ref r3)) :: (r1, .inr (.long, List.map Value.long (z4))) :: (r2, .inr (.byte, List.map Value.int fo)) :: (r5, .inr (.int, [(.int pa), (.int pb)])) :: (r6, .inr (.long, [(.long (0 : Int64)), (.long (0 : Int64))])) :: (r7, .inr (.boolean, [(.int f1), (.int f2)])) :: (r3, .inr (.int, List.map Value.int sv)) :: RR)) rfl rfl
  refine A.callV (q := 4) (i := 0) (w1 := 64) (w2 := 65) (w3 := 39) (w4 := 68) (w5 := 67) (w6 := 66) (a := r4) (as := []) (st := []) (W := 0) d10_1 rfl rfl rfl rfl rfl rfl rfl rfl (rm11 l Z a0 hw n0 r4 r5 r6 r7 (0 : Int64) (1 : Int32) _) (by decide) ⟨_, _, pd_3, rfl⟩ rfl rfl rfl (by decide) (by decide) (by decide) (by decide) ?_
  rintro _ T _ ⟨rfl, rfl⟩ A
  show Go p e below _ (T.setTop (mkF m 4 #[.val (.ref r0), .val (.ref r4), .unset, .unset, .unset, .unset, .unset] [(.ref r5)]))
  refine A.astoreN (q := 5) (l' := #[.val (.ref r0), .val (.ref r4), .val (.ref r5), .unset, .unset, .unset, .unset]) d10_4 rfl rfl rfl ?_
  refine A.iconst (q := 6) (v := (0 : Int32)) d10_5 rfl (by decide) ?_
  refine A.istoreN (q := 7) (l' := #[.val (.ref r0), .val (.ref r4), .val (.ref r5), .val (.int (0 : Int32)), .unset, .unset, .unset]) d10_6 rfl rfl ?_
  refine A.iloadN (q := 8) d10_7 rfl rfl ?_
  refine A.aloadN (q := 9) d10_8 rfl rfl rfl ?_
  refine A.arraylength (q := 10) (i := 4) (v := (2 : Int32)) d10_9 rfl rfl (by show Nat.toInt32 2 = 2; decide) ?_
  refine A.icmpF (q := 13) d10_10 rfl (by decide) ?_
  refine A.aloadN (q := 14) d10_13 rfl rfl rfl ?_
  refine A.iloadN (q := 15) d10_14 rfl rfl ?_
  refine A.iaload (q := 16) (i := 4) (v := (.int pa)) d10_15 rfl rfl (by decide) rfl ?_
  refine A.istore (q := 18) (l' := #[.val (.ref r0), .val (.ref r4), .val (.ref r5), .val (.int (0 : Int32)), .val (.int pa), .unset, .unset]) d10_16 rfl rfl ?_
  refine A.iload (q := 20) d10_18 rfl rfl ?_
  refine A.if_lt (q := 23) (r := 45) d10_20 rfl (by decide) (fun h => (np.1 h).elim) (fun _ => ?_)
  refine A.iload (q := 25) d10_23 rfl rfl ?_
  refine A.aloadN (q := 26) d10_25 rfl rfl rfl ?_
  refine A.getF (q := 29) (w := 13) (i := 1) (j := 1) d10_26 rfl rfl rfl rfl ?_
  intro T A
  refine A.arraylengthM (q := 30) (i := 3) (v := (4 : Int32)) d10_29 rfl rfl (by rw [len_fo]; decide) ?_
  refine A.icmp_ge (q := 33) (r := 45) d10_30 rfl (by decide) (fun h => (h (own_g119 sg pg f1 f2 hf1 hf2 hS fo hfo pa hpa pb hpb al hal sv hsv )).elim) (fun _ => ?_)
  refine A.aloadN (q := 34) d10_33 rfl rfl rfl ?_
  refine A.getF (q := 37) (w := 13) (i := 1) (j := 1) d10_34 rfl rfl rfl rfl ?_
  intro T A
  refine A.iload (q := 39) d10_37 rfl rfl ?_
  refine A.baloadBM (q := 40) (i := 3) (v := (fo.getD (pa).toNatClampNeg (0 : Int32))) d10_39 rfl rfl np.1 (own_gd (by rw [len_fo]; exact np.2.1)) ?_
  refine A.iconst (q := 41) (v := (2 : Int32)) d10_40 rfl (by decide) ?_
  obtain ⟨v3, e3⟩ : ∃ v : Int32, (fo.getD (pa).toNatClampNeg (0 : Int32)) &&& (2 : Int32) = v := ⟨_, rfl⟩
  refine A.iand (q := 42) d10_41 rfl e3 ?_
  refine A.if_eq (q := 45) (r := 65) d10_42 rfl (by decide) (fun _ => ?_) (fun h => (h (own_g120 sg pg f1 f2 hf1 hf2 hS fo hfo pa hpa pb hpb al hal sv hsv v3 e3 )).elim)
  refine A.aloadN (q := 66) d10_65 rfl rfl rfl ?_
  refine A.getF (q := 69) (w := 13) (i := 1) (j := 1) d10_66 rfl rfl rfl rfl ?_
  intro T A
  refine A.iload (q := 71) d10_69 rfl rfl ?_
  refine A.dup2 (q := 72) d10_71 rfl rfl rfl ?_
  refine A.baloadBM (q := 73) (i := 3) (v := (fo.getD (pa).toNatClampNeg (0 : Int32))) d10_72 rfl rfl np.1 (own_gd (by rw [len_fo]; exact np.2.1)) ?_
  refine A.iconst (q := 74) (v := (2 : Int32)) d10_73 rfl (by decide) ?_
  obtain ⟨v5, e5⟩ : ∃ v : Int32, (fo.getD (pa).toNatClampNeg (0 : Int32)) ||| (2 : Int32) = v := ⟨_, rfl⟩
  refine A.ior (q := 75) d10_74 rfl e5 ?_
  obtain ⟨v6, e6⟩ : ∃ v : Int32, v5.toInt8.toInt32 = v := ⟨_, rfl⟩
  refine A.i2b (q := 76) d10_75 rfl e6 ?_
  refine A.bastoreBM (q := 77) (i := 3) (x' := v6) (L' := ((r4, ob0 (.ref r5) (.ref r6) (.ref r7) (.long (0 : Int64)) (.int (1 : Int32))) :: (r0, ob1 (.ref r1) (.ref r2) (.int al) (.long (0 : Int64)) (.long hi) (.long lo) .null (.ref r3)) :: (r1, .inr (.long, List.map Value.long (z4))) :: (r2, .inr (.byte, List.map Value.int (fo.set (pa).toNatClampNeg v6))) :: (r5, .inr (.int, [(.int pa), (.int pb)])) :: (r6, .inr (.long, [(.long (0 : Int64)), (.long (0 : Int64))])) :: (r7, .inr (.boolean, [(.int f1), (.int f2)])) :: (r3, .inr (.int, List.map Value.int sv)) :: RR)) d10_76 rfl rfl np.1 (by rw [len_fo]; exact np.2.1) (by subst e3 e5 e6; exact own_nb _) rfl ?_
  intro T A
  refine A.iinc (q := 80) (v := (1 : Int32)) (l' := #[.val (.ref r0), .val (.ref r4), .val (.ref r5), .val (.int (1 : Int32)), .val (.int pa), .unset, .unset]) d10_77 rfl rfl (by decide) rfl ?_
  refine A.goto (r := 7) d10_80 (by decide) ?_
  refine A.iloadN (q := 8) d10_7 rfl rfl ?_
  refine A.aloadN (q := 9) d10_8 rfl rfl rfl ?_
  refine A.arraylength (q := 10) (i := 4) (v := (2 : Int32)) d10_9 rfl rfl (by show Nat.toInt32 2 = 2; decide) ?_
  refine A.icmpF (q := 13) d10_10 rfl (by decide) ?_
  refine A.aloadN (q := 14) d10_13 rfl rfl rfl ?_
  refine A.iloadN (q := 15) d10_14 rfl rfl ?_
  refine A.iaload (q := 16) (i := 4) (v := (.int pb)) d10_15 rfl rfl (by decide) rfl ?_
  refine A.istore (q := 18) (l' := #[.val (.ref r0), .val (.ref r4), .val (.ref r5), .val (.int (1 : Int32)), .val (.int pb), .unset, .unset]) d10_16 rfl rfl ?_
  refine A.iload (q := 20) d10_18 rfl rfl ?_
  refine A.if_lt (q := 23) (r := 45) d10_20 rfl (by decide) (fun h => (nq.1 h).elim) (fun _ => ?_)
  refine A.iload (q := 25) d10_23 rfl rfl ?_
  refine A.aloadN (q := 26) d10_25 rfl rfl rfl ?_
  refine A.getF (q := 29) (w := 13) (i := 1) (j := 1) d10_26 rfl rfl rfl rfl ?_
  intro T A
  refine A.arraylengthM (q := 30) (i := 3) (v := (4 : Int32)) d10_29 rfl rfl (by rw [(show (fo.set (pa).toNatClampNeg v6).length = 4 by simp only [List.length_set, own_u1len, own_fblen, own_mkLlen, own_l2Llen, own_uLlen, own_umlen, len_fo])]; decide) ?_
  refine A.icmp_ge (q := 33) (r := 45) d10_30 rfl (by decide) (fun h => (h (own_g121 sg pg f1 f2 hf1 hf2 hS fo hfo pa hpa pb hpb al hal sv hsv )).elim) (fun _ => ?_)
  refine A.aloadN (q := 34) d10_33 rfl rfl rfl ?_
  refine A.getF (q := 37) (w := 13) (i := 1) (j := 1) d10_34 rfl rfl rfl rfl ?_
  intro T A
  refine A.iload (q := 39) d10_37 rfl rfl ?_
  refine A.baloadBM (q := 40) (i := 3) (v := ((fo.set (pa).toNatClampNeg v6).getD (pb).toNatClampNeg (0 : Int32))) d10_39 rfl rfl nq.1 (own_gd (by rw [(show (fo.set (pa).toNatClampNeg v6).length = 4 by simp only [List.length_set, own_u1len, own_fblen, own_mkLlen, own_l2Llen, own_uLlen, own_umlen, len_fo])]; exact nq.2.1)) ?_
  refine A.iconst (q := 41) (v := (2 : Int32)) d10_40 rfl (by decide) ?_
  obtain ⟨v9, e9⟩ : ∃ v : Int32, ((fo.set (pa).toNatClampNeg v6).getD (pb).toNatClampNeg (0 : Int32)) &&& (2 : Int32) = v := ⟨_, rfl⟩
  refine A.iand (q := 42) d10_41 rfl e9 ?_
  refine A.if_eq (q := 45) (r := 65) d10_42 rfl (by decide) (fun _ => ?_) (fun h => (h (own_g122 sg pg f1 f2 hf1 hf2 hS fo hfo pa hpa pb hpb al hal sv hsv v5 e5 v6 e6 v9 e9 )).elim)
  refine A.aloadN (q := 66) d10_65 rfl rfl rfl ?_
  refine A.getF (q := 69) (w := 13) (i := 1) (j := 1) d10_66 rfl rfl rfl rfl ?_
  intro T A
  refine A.iload (q := 71) d10_69 rfl rfl ?_
  refine A.dup2 (q := 72) d10_71 rfl rfl rfl ?_
  refine A.baloadBM (q := 73) (i := 3) (v := ((fo.set (pa).toNatClampNeg v6).getD (pb).toNatClampNeg (0 : Int32))) d10_72 rfl rfl nq.1 (own_gd (by rw [(show (fo.set (pa).toNatClampNeg v6).length = 4 by simp only [List.length_set, own_u1len, own_fblen, own_mkLlen, own_l2Llen, own_uLlen, own_umlen, len_fo])]; exact nq.2.1)) ?_
  refine A.iconst (q := 74) (v := (2 : Int32)) d10_73 rfl (by decide) ?_
  obtain ⟨v11, e11⟩ : ∃ v : Int32, ((fo.set (pa).toNatClampNeg v6).getD (pb).toNatClampNeg (0 : Int32)) ||| (2 : Int32) = v := ⟨_, rfl⟩
  refine A.ior (q := 75) d10_74 rfl e11 ?_
  obtain ⟨v12, e12⟩ : ∃ v : Int32, v11.toInt8.toInt32 = v := ⟨_, rfl⟩
  refine A.i2b (q := 76) d10_75 rfl e12 ?_
  refine A.bastoreBM (q := 77) (i := 3) (x' := v12) (L' := ((r4, ob0 (.ref r5) (.ref r6) (.ref r7) (.long (0 : Int64)) (.int (1 : Int32))) :: (r0, ob1 (.ref r1) (.ref r2) (.int al) (.long (0 : Int64)) (.long hi) (.long lo) .null (.ref r3)) :: (r1, .inr (.long, List.map Value.long (z4))) :: (r2, .inr (.byte, List.map Value.int ((fo.set (pa).toNatClampNeg v6).set (pb).toNatClampNeg v12))) :: (r5, .inr (.int, [(.int pa), (.int pb)])) :: (r6, .inr (.long, [(.long (0 : Int64)), (.long (0 : Int64))])) :: (r7, .inr (.boolean, [(.int f1), (.int f2)])) :: (r3, .inr (.int, List.map Value.int sv)) :: RR)) d10_76 rfl rfl nq.1 (by rw [(show (fo.set (pa).toNatClampNeg v6).length = 4 by simp only [List.length_set, own_u1len, own_fblen, own_mkLlen, own_l2Llen, own_uLlen, own_umlen, len_fo])]; exact nq.2.1) (by subst e3 e5 e6 e9 e11 e12; exact own_nb _) rfl ?_
  intro T A
  refine A.iinc (q := 80) (v := (2 : Int32)) (l' := #[.val (.ref r0), .val (.ref r4), .val (.ref r5), .val (.int (2 : Int32)), .val (.int pb), .unset, .unset]) d10_77 rfl rfl (by decide) rfl ?_
  refine A.goto (r := 7) d10_80 (by decide) ?_
  refine A.iloadN (q := 8) d10_7 rfl rfl ?_
  refine A.aloadN (q := 9) d10_8 rfl rfl rfl ?_
  refine A.arraylength (q := 10) (i := 4) (v := (2 : Int32)) d10_9 rfl rfl (by show Nat.toInt32 2 = 2; decide) ?_
  refine A.icmpT (r := 83) d10_10 (by decide) (by decide) ?_
  have q : ((fo.set (pa).toNatClampNeg v6).set (pb).toNatClampNeg v12) = (mkL fo pa pb) := (own_g123 sg pg f1 f2 hf1 hf2 hS fo hfo pa hpa pb hpb al hal sv hsv v5 e5 v6 e6 v11 e11 v12 e12 )
  rw [q] at A
  clear q
  have A : Here p l e ({ frames := 4, cells := 1, slots := 2, locals := 76 } : Room) s m ([(.ref r0), (.ref r4)] : List Value).toArray below meth c Z a0 tables_1 (⟨"com/example/forebound/forebound/problem/Sum", "add", "(Lcom/example/forebound/forebound/problem/Problem$Table;)V"⟩ : MethodName).cls (⟨"com/example/forebound/forebound/problem/Sum", "add", "(Lcom/example/forebound/forebound/problem/Problem$Table;)V"⟩ : MethodName).name prog_28_method_6_code 7 none n0 T ((r4, ob0 (.ref r5) (.ref r6) (.ref r7) (.long (0 : Int64)) (.int (1 : Int32))) :: (r0, ob1 (.ref r1) (.ref r2) (.int al) (.long (0 : Int64)) (.long hi) (.long lo) .null (.ref r3)) :: (r1, .inr (.long, List.map Value.long (z4))) :: (r2, .inr (.byte, List.map Value.int (mkL fo pa pb))) :: (r5, .inr (.int, [(.int pa), (.int pb)])) :: (r6, .inr (.long, [(.long (0 : Int64)), (.long (0 : Int64))])) :: (r7, .inr (.boolean, [(.int f1), (.int f2)])) :: (r3, .inr (.int, List.map Value.int sv)) :: RR) 0 0 := A
  refine A.aloadN (q := 84) d10_83 rfl rfl rfl ?_
  refine A.aloadN (q := 85) d10_84 rfl rfl rfl ?_
  have A := A.front (i := 7) rfl rfl
  have A := A.front (i := 7) rfl rfl
  have A := A.front (i := 7) rfl rfl
  have A := A.front (i := 7) rfl rfl
  have A := A.front (i := 4) rfl rfl
  have A := A.front (i := 7) rfl rfl
  have A := A.front (i := 7) rfl rfl
  have A := A.front (i := 7) (L' := ((r0, ob1 (.ref r1) (.ref r2) (.int al) (.long (0 : Int64)) (.long hi) (.long lo) .null (.ref r3)) :: (r1, .inr (.long, List.map Value.long (z4))) :: (r2, .inr (.byte, List.map Value.int (mkL fo pa pb))) :: (r4, ob0 (.ref r5) (.ref r6) (.ref r7) (.long (0 : Int64)) (.int (1 : Int32))) :: (r5, .inr (.int, [(.int pa), (.int pb)])) :: (r6, .inr (.long, [(.long (0 : Int64)), (.long (0 : Int64))])) :: (r7, .inr (.boolean, [(.int f1), (.int f2)])) :: (r3, .inr (.int, List.map Value.int sv)) :: RR)) rfl rfl
  refine A.callP (q := 88) (i := 0) (w1 := 69) (w2 := 71) (w3 := 2) (w4 := 72) (w5 := 1) (w6 := 70) (a := r0) (as := [(.ref r4)]) (st := []) (W := 0) d10_85 rfl rfl rfl rfl rfl rfl rfl rfl (rmKA1 l Z a0 hw n0 r0 r4 r1 r2 al hi lo r3 (mkL fo pa pb) r5 r6 r7 pa pb f1 f2 sv sg pg _ (by rw [← hfo, ← hpa, ← hpb]; rfl) hpa hpb hal hsv hf1 hf2 hS) (by decide) ⟨_, _, pd_11, rfl⟩ rfl rfl rfl (by decide) (by decide) (by decide) (by decide) ?_
  rintro _ T _ ⟨b13, v14, v15, rfl, rfl⟩ A
  show Go p e below _ (T.setTop (mkF m 88 #[.val (.ref r0), .val (.ref r4), .val (.ref r5), .val (.int (2 : Int32)), .val (.int pb), .unset, .unset] []))
  refine A.iconst (q := 89) (v := (0 : Int32)) d10_88 rfl (by decide) ?_
  refine A.istore (q := 91) (l' := #[.val (.ref r0), .val (.ref r4), .val (.ref r5), .val (.int (2 : Int32)), .val (.int (0 : Int32)), .unset, .unset]) d10_89 rfl rfl ?_
  refine A.iload (q := 93) d10_91 rfl rfl ?_
  refine A.iloadN (q := 94) d10_93 rfl rfl ?_
  refine A.icmpF (q := 97) d10_94 rfl (by decide) ?_
  refine A.aloadN (q := 98) d10_97 rfl rfl rfl ?_
  refine A.getF (q := 101) (w := 13) (i := 4) (j := 1) d10_98 rfl rfl rfl rfl ?_
  intro T A
  refine A.aloadN (q := 102) d10_101 rfl rfl rfl ?_
  refine A.iload (q := 104) d10_102 rfl rfl ?_
  refine A.iaload (q := 105) (i := 1) (v := (.int pa)) d10_104 rfl rfl (by decide) rfl ?_
  refine A.dup2 (q := 106) d10_105 rfl rfl rfl ?_
  refine A.baloadBM (q := 107) (i := 5) (v := ((uL (l2L (mkL fo pa pb) pa pb f1 f2)).getD (pa).toNatClampNeg (0 : Int32))) d10_106 rfl rfl np.1 (own_gd (by rw [(show (uL (l2L (mkL fo pa pb) pa pb f1 f2)).length = 4 by simp only [List.length_set, own_u1len, own_fblen, own_mkLlen, own_l2Llen, own_uLlen, own_umlen, len_fo])]; exact np.2.1)) ?_
  refine A.bipush (q := 109) (v := (-3 : Int32)) d10_107 rfl (by decide) ?_
  obtain ⟨v16, e16⟩ : ∃ v : Int32, ((uL (l2L (mkL fo pa pb) pa pb f1 f2)).getD (pa).toNatClampNeg (0 : Int32)) &&& (-3 : Int32) = v := ⟨_, rfl⟩
  refine A.iand (q := 110) d10_109 rfl e16 ?_
  obtain ⟨v17, e17⟩ : ∃ v : Int32, v16.toInt8.toInt32 = v := ⟨_, rfl⟩
  refine A.i2b (q := 111) d10_110 rfl e17 ?_
  refine A.bastoreBM (q := 112) (i := 5) (x' := v17) (L' := ((r4, ob0 (.ref r5) (.ref r6) (.ref r7) (.long (0 : Int64)) (.int (1 : Int32))) :: (r5, .inr (.int, [(.int pa), (.int pb)])) :: (r6, .inr (.long, [(.long (0 : Int64)), (.long (0 : Int64))])) :: (r7, .inr (.boolean, [(.int f1), (.int f2)])) :: (r0, ob1 (.ref r1) (.ref r2) (.int (cnt (uL (l2L (mkL fo pa pb) pa pb f1 f2)))) (.long (0 : Int64)) (.long v14) (.long v15) .null (.ref b13)) :: (r2, .inr (.byte, List.map Value.int ((uL (l2L (mkL fo pa pb) pa pb f1 f2)).set (pa).toNatClampNeg v17))) :: (b13, .inr (.int, List.map Value.int (svL (uL (l2L (mkL fo pa pb) pa pb f1 f2)) pa pb))) :: (r3, .inr (.int, List.map Value.int sv)) :: (r1, .inr (.long, List.map Value.long (z4))) :: RR)) d10_111 rfl rfl np.1 (by rw [(show (uL (l2L (mkL fo pa pb) pa pb f1 f2)).length = 4 by simp only [List.length_set, own_u1len, own_fblen, own_mkLlen, own_l2Llen, own_uLlen, own_umlen, len_fo])]; exact np.2.1) (by subst e3 e5 e6 e9 e11 e12 e16 e17; exact own_nb _) rfl ?_
  intro T A
  refine A.iinc (q := 115) (v := (1 : Int32)) (l' := #[.val (.ref r0), .val (.ref r4), .val (.ref r5), .val (.int (2 : Int32)), .val (.int (1 : Int32)), .unset, .unset]) d10_112 rfl rfl (by decide) rfl ?_
  refine A.goto (r := 91) d10_115 (by decide) ?_
  refine A.iload (q := 93) d10_91 rfl rfl ?_
  refine A.iloadN (q := 94) d10_93 rfl rfl ?_
  refine A.icmpF (q := 97) d10_94 rfl (by decide) ?_
  refine A.aloadN (q := 98) d10_97 rfl rfl rfl ?_
  refine A.getF (q := 101) (w := 13) (i := 4) (j := 1) d10_98 rfl rfl rfl rfl ?_
  intro T A
  refine A.aloadN (q := 102) d10_101 rfl rfl rfl ?_
  refine A.iload (q := 104) d10_102 rfl rfl ?_
  refine A.iaload (q := 105) (i := 1) (v := (.int pb)) d10_104 rfl rfl (by decide) rfl ?_
  refine A.dup2 (q := 106) d10_105 rfl rfl rfl ?_
  refine A.baloadBM (q := 107) (i := 5) (v := (((uL (l2L (mkL fo pa pb) pa pb f1 f2)).set (pa).toNatClampNeg v17).getD (pb).toNatClampNeg (0 : Int32))) d10_106 rfl rfl nq.1 (own_gd (by rw [(show ((uL (l2L (mkL fo pa pb) pa pb f1 f2)).set (pa).toNatClampNeg v17).length = 4 by simp only [List.length_set, own_u1len, own_fblen, own_mkLlen, own_l2Llen, own_uLlen, own_umlen, len_fo])]; exact nq.2.1)) ?_
  refine A.bipush (q := 109) (v := (-3 : Int32)) d10_107 rfl (by decide) ?_
  obtain ⟨v18, e18⟩ : ∃ v : Int32, (((uL (l2L (mkL fo pa pb) pa pb f1 f2)).set (pa).toNatClampNeg v17).getD (pb).toNatClampNeg (0 : Int32)) &&& (-3 : Int32) = v := ⟨_, rfl⟩
  refine A.iand (q := 110) d10_109 rfl e18 ?_
  obtain ⟨v19, e19⟩ : ∃ v : Int32, v18.toInt8.toInt32 = v := ⟨_, rfl⟩
  refine A.i2b (q := 111) d10_110 rfl e19 ?_
  refine A.bastoreBM (q := 112) (i := 5) (x' := v19) (L' := ((r4, ob0 (.ref r5) (.ref r6) (.ref r7) (.long (0 : Int64)) (.int (1 : Int32))) :: (r5, .inr (.int, [(.int pa), (.int pb)])) :: (r6, .inr (.long, [(.long (0 : Int64)), (.long (0 : Int64))])) :: (r7, .inr (.boolean, [(.int f1), (.int f2)])) :: (r0, ob1 (.ref r1) (.ref r2) (.int (cnt (uL (l2L (mkL fo pa pb) pa pb f1 f2)))) (.long (0 : Int64)) (.long v14) (.long v15) .null (.ref b13)) :: (r2, .inr (.byte, List.map Value.int (((uL (l2L (mkL fo pa pb) pa pb f1 f2)).set (pa).toNatClampNeg v17).set (pb).toNatClampNeg v19))) :: (b13, .inr (.int, List.map Value.int (svL (uL (l2L (mkL fo pa pb) pa pb f1 f2)) pa pb))) :: (r3, .inr (.int, List.map Value.int sv)) :: (r1, .inr (.long, List.map Value.long (z4))) :: RR)) d10_111 rfl rfl nq.1 (by rw [(show ((uL (l2L (mkL fo pa pb) pa pb f1 f2)).set (pa).toNatClampNeg v17).length = 4 by simp only [List.length_set, own_u1len, own_fblen, own_mkLlen, own_l2Llen, own_uLlen, own_umlen, len_fo])]; exact nq.2.1) (by subst e3 e5 e6 e9 e11 e12 e16 e17 e18 e19; exact own_nb _) rfl ?_
  intro T A
  refine A.iinc (q := 115) (v := (2 : Int32)) (l' := #[.val (.ref r0), .val (.ref r4), .val (.ref r5), .val (.int (2 : Int32)), .val (.int (2 : Int32)), .unset, .unset]) d10_112 rfl rfl (by decide) rfl ?_
  refine A.goto (r := 91) d10_115 (by decide) ?_
  refine A.iload (q := 93) d10_91 rfl rfl ?_
  refine A.iloadN (q := 94) d10_93 rfl rfl ?_
  refine A.icmpT (r := 118) d10_94 (by decide) (by decide) ?_
  refine A.goto (r := 156) d10_118 (by decide) ?_
  have q : (((uL (l2L (mkL fo pa pb) pa pb f1 f2)).set (pa).toNatClampNeg v17).set (pb).toNatClampNeg v19) = (umL (uL (l2L (mkL fo pa pb) pa pb f1 f2)) pa pb) := (own_g124 sg pg f1 f2 hf1 hf2 hS fo hfo pa hpa pb hpb al hal sv hsv v16 e16 v17 e17 v18 e18 v19 e19 )
  rw [q] at A
  clear q
  have A : Here p l e ({ frames := 4, cells := 1, slots := 2, locals := 76 } : Room) s m ([(.ref r0), (.ref r4)] : List Value).toArray below meth c Z a0 tables_1 (⟨"com/example/forebound/forebound/problem/Sum", "add", "(Lcom/example/forebound/forebound/problem/Problem$Table;)V"⟩ : MethodName).cls (⟨"com/example/forebound/forebound/problem/Sum", "add", "(Lcom/example/forebound/forebound/problem/Problem$Table;)V"⟩ : MethodName).name prog_28_method_6_code 7 none n0 T ((r4, ob0 (.ref r5) (.ref r6) (.ref r7) (.long (0 : Int64)) (.int (1 : Int32))) :: (r5, .inr (.int, [(.int pa), (.int pb)])) :: (r6, .inr (.long, [(.long (0 : Int64)), (.long (0 : Int64))])) :: (r7, .inr (.boolean, [(.int f1), (.int f2)])) :: (r0, ob1 (.ref r1) (.ref r2) (.int (cnt (uL (l2L (mkL fo pa pb) pa pb f1 f2)))) (.long (0 : Int64)) (.long v14) (.long v15) .null (.ref b13)) :: (r2, .inr (.byte, List.map Value.int (umL (uL (l2L (mkL fo pa pb) pa pb f1 f2)) pa pb))) :: (b13, .inr (.int, List.map Value.int (svL (uL (l2L (mkL fo pa pb) pa pb f1 f2)) pa pb))) :: (r3, .inr (.int, List.map Value.int sv)) :: (r1, .inr (.long, List.map Value.long (z4))) :: RR) 1 2 := A
  have Aq := A
  subst e3 e5 e6 e9 e11 e12 e16 e17 e18 e19
  have A := Aq
  exact A.retV d10_156 (by decide) (by decide) ⟨b13, _, _, rfl, rfl⟩
theorem own_rO0 {s : Fin 28} {g : Fin 12} {fo : List Int32} {pa pb : Int32} (f1 f2 : Int32) (hfo : flO s = fo) (hpa : pA g = pa) (hpb : pB g = pb) : rO s g f1 f2 0 = umL (l2L (mkL fo pa pb) pa pb f1 f2) pa pb := by
  subst hfo hpa hpb; unfold rO; rw [if_pos rfl]; rfl
theorem own_rO1 {s : Fin 28} {g : Fin 12} {fo : List Int32} {pa pb : Int32} (f1 f2 : Int32) (hfo : flO s = fo) (hpa : pA g = pa) (hpb : pB g = pb) : rO s g f1 f2 1 = umL (uL (l2L (mkL fo pa pb) pa pb f1 f2)) pa pb := by
  subst hfo hpa hpb; unfold rO; rw [if_neg (by decide)]; rfl
theorem own_rlen {s : Fin 28} {g : Fin 12} {f1 f2 d : Int32} {l : List Int32} (h : rO s g f1 f2 d = l) : l.length = 4 := by
  subst h; unfold rO umL; rw [own_umlen, own_umlen]; split
  · exact own_l2len s g f1 f2
  · exact own_ulen s g f1 f2
theorem own_rlt {l : List Int32} (h : l.length = 4) (k : Int32) (hk : k.toNatClampNeg < 4) : k.toNatClampNeg < l.length := by rw [h]; exact hk
theorem own_a3 {x v : Int32} (h : x &&& (3 : Int32) = v) : ¬ v < 0 ∧ v.toNatClampNeg < 4 := by
  rcases own_and3 x with q | q | q | q <;> (rw [q] at h; subst h; decide)
theorem own_bef {x v w : Int32} (h : x &&& (3 : Int32) = v) (h2 : FF v [(0 : Int32), (0 : Int32), (0 : Int32), (0 : Int32)] = w) : w = 0 := by
  subst h2
  rcases own_and3 x with q | q | q | q <;> (rw [q] at h; subst h; decide)
theorem own_FLz (t k : Int32) : nar .boolean (FL t k) = FL t k := by unfold FL; split <;> decide
theorem own_FL01 (t k : Int32) : FL t k = 0 ∨ FL t k = 1 := by unfold FL; split <;> simp
theorem own_P4 : ∀ a b : Fin 4, ∃ g : Fin 12, pA g = Int32.ofNat a.val ∧ pB g = (Int32.ofNat a.val + (1 : Int32) + Int32.ofNat b.val % (3 : Int32)) &&& (3 : Int32) := by decide +kernel
theorem own_i4 {v : Int32} (h : v = 0 ∨ v = 1 ∨ v = 2 ∨ v = 3) : ∃ a : Fin 4, v = Int32.ofNat a.val := by
  rcases h with rfl | rfl | rfl | rfl
  · exact ⟨0, by decide⟩
  · exact ⟨1, by decide⟩
  · exact ⟨2, by decide⟩
  · exact ⟨3, by decide⟩
def byO (g : Fin 12) (f1 f2 d e : Int32) : Int32 := if e = pA g then f1 else if e = pB g then f2 else d
theorem own_l0 : flO (0 : Fin 28) = [(0 : Int32), (0 : Int32), (0 : Int32), (0 : Int32)] := by decide +kernel
theorem own_c0 : cnt (flO (0 : Fin 28)) = (4 : Int32) := by decide +kernel
theorem own_s00 : ∃ (fo : List Int32) (al : Int32), flO (0 : Fin 28) = fo ∧ cnt (flO (0 : Fin 28)) = al ∧ fo = [(0 : Int32), (0 : Int32), (0 : Int32), (0 : Int32)] ∧ al = (4 : Int32) := ⟨_, _, rfl, rfl, own_l0, own_c0⟩
theorem own_S0 : ((0 : Fin 28)).val < 11 := by decide
theorem own_nx0 : ∀ g : Fin 12, ∀ a b : Fin 2, ∃ s : Fin 28, s.val < 11 ∧ rO 0 g (Int32.ofNat a.val) (Int32.ofNat b.val) 0 = flO s ∧ cnt (l2O 0 g (Int32.ofNat a.val) (Int32.ofNat b.val)) = cnt (flO s) := by decide +kernel
theorem own_nx1 : ∀ g : Fin 12, ∀ a b : Fin 2, ∃ s : Fin 28, 11 ≤ s.val ∧ rO 0 g (Int32.ofNat a.val) (Int32.ofNat b.val) 1 = flO s ∧ cnt (uO 0 g (Int32.ofNat a.val) (Int32.ofNat b.val)) = cnt (flO s) ∧ svR 0 g (Int32.ofNat a.val) (Int32.ofNat b.val) = svO s := by decide +kernel
theorem own_i2 {v : Int32} (h : v = 0 ∨ v = 1) : ∃ a : Fin 2, v = Int32.ofNat a.val := by
  rcases h with rfl | rfl
  · exact ⟨0, by decide⟩
  · exact ⟨1, by decide⟩
theorem own_s1 (g : Fin 12) {f1 f2 d : Int32} (h1 : f1 = 0 ∨ f1 = 1) (h2 : f2 = 0 ∨ f2 = 1) (hd : d = 0 ∨ d = 1) : (rO 0 g f1 f2 d).getD 0 0 = byO g f1 f2 d 0 ∧ (rO 0 g f1 f2 d).getD 1 0 = byO g f1 f2 d 1 ∧ (rO 0 g f1 f2 d).getD 2 0 = byO g f1 f2 d 2 ∧ (rO 0 g f1 f2 d).getD 3 0 = byO g f1 f2 d 3 := by
  rcases h1 with rfl | rfl <;> rcases h2 with rfl | rfl <;> rcases hd with rfl | rfl <;> (revert g; decide +kernel)
theorem own_s2 (s : Fin 28) (g : Fin 12) {f1 f2 d : Int32} (h1 : f1 = 0 ∨ f1 = 1) (h2 : f2 = 0 ∨ f2 = 1) (hd : d = 0 ∨ d = 1) : FF 0 (rO s g f1 f2 d) = (if (flO s).getD 0 0 = 0 then byO g f1 f2 d 0 else 1) ∧ FF 1 (rO s g f1 f2 d) = (if (flO s).getD 1 0 = 0 then byO g f1 f2 d 1 else 1) ∧ FF 2 (rO s g f1 f2 d) = (if (flO s).getD 2 0 = 0 then byO g f1 f2 d 2 else 1) ∧ FF 3 (rO s g f1 f2 d) = (if (flO s).getD 3 0 = 0 then byO g f1 f2 d 3 else 1) := by
  rcases h1 with rfl | rfl <;> rcases h2 with rfl | rfl <;> rcases hd with rfl | rfl <;> (revert g; revert s; decide +kernel)
theorem pd_12 : parseMethodDescriptor "(II)Z" = some ⟨[.int, .int], some .boolean⟩ := by decide +kernel
theorem lay_1 (Z : State) (a0 : Array Value) (hw : ∀ d ∈ tables_1, d.before a0 Z = true) : Lays Z a0 "com/example/forebound/forebound/problem/Problem$Table" [("com/example/forebound/forebound/problem/Problem$Table", "positions", "[I"), ("com/example/forebound/forebound/problem/Problem$Table", "costs", "[J"), ("com/example/forebound/forebound/problem/Problem$Table", "forbidden", "[Z"), ("com/example/forebound/forebound/problem/Problem$Table", "defaultCost", "J"), ("com/example/forebound/forebound/problem/Problem$Table", "defaultForbidden", "Z")] := by
  refine ⟨fun q hq => ?_, by decide⟩
  simp only [List.mem_cons, List.not_mem_nil, or_false] at hq
  rcases hq with rfl | rfl | rfl | rfl | rfl
  · exact ⟨Or.inr (hw _ (List.mem_of_getElem? (i := 50) rfl)), (.array .int), by decide⟩
  · exact ⟨Or.inr (hw _ (List.mem_of_getElem? (i := 52) rfl)), (.array .long), by decide⟩
  · exact ⟨Or.inr (hw _ (List.mem_of_getElem? (i := 54) rfl)), (.array .boolean), by decide⟩
  · exact ⟨Or.inr (hw _ (List.mem_of_getElem? (i := 56) rfl)), .long, by decide⟩
  · exact ⟨Or.inr (hw _ (List.mem_of_getElem? (i := 58) rfl)), .boolean, by decide⟩
theorem pd_13 : parseMethodDescriptor "()V" = some ⟨[], none⟩ := by decide +kernel
theorem d8_0 : decode prog_27_method_1_code 0 = .ok (.aload_n 0, 1) := by decide +kernel
theorem d8_1 : decode prog_27_method_1_code 1 = .ok (.invokespecial 1, 3) := by decide +kernel
theorem d8_4 : decode prog_27_method_1_code 4 = .ok (.aload_n 2, 1) := by decide +kernel
theorem d8_5 : decode prog_27_method_1_code 5 = .ok (.arraylength, 1) := by decide +kernel
theorem d8_6 : decode prog_27_method_1_code 6 = .ok (.aload_n 1, 1) := by decide +kernel
theorem d8_7 : decode prog_27_method_1_code 7 = .ok (.arraylength, 1) := by decide +kernel
theorem d8_8 : decode prog_27_method_1_code 8 = .ok (.if_icmp .ne 10, 3) := by decide +kernel
theorem d8_11 : decode prog_27_method_1_code 11 = .ok (.aload_n 3, 1) := by decide +kernel
theorem d8_12 : decode prog_27_method_1_code 12 = .ok (.arraylength, 1) := by decide +kernel
theorem d8_13 : decode prog_27_method_1_code 13 = .ok (.aload_n 1, 1) := by decide +kernel
theorem d8_14 : decode prog_27_method_1_code 14 = .ok (.arraylength, 1) := by decide +kernel
theorem d8_15 : decode prog_27_method_1_code 15 = .ok (.if_icmp .eq 22, 3) := by decide +kernel
theorem d8_18 : decode prog_27_method_1_code 18 = .ok (.new 7, 3) := by decide +kernel
theorem d8_21 : decode prog_27_method_1_code 21 = .ok (.dup, 1) := by decide +kernel
theorem d8_22 : decode prog_27_method_1_code 22 = .ok (.aload_n 1, 1) := by decide +kernel
theorem d8_23 : decode prog_27_method_1_code 23 = .ok (.arraylength, 1) := by decide +kernel
theorem d8_24 : decode prog_27_method_1_code 24 = .ok (.aload_n 2, 1) := by decide +kernel
theorem d8_25 : decode prog_27_method_1_code 25 = .ok (.arraylength, 1) := by decide +kernel
theorem d8_26 : decode prog_27_method_1_code 26 = .ok (.aload_n 3, 1) := by decide +kernel
theorem d8_27 : decode prog_27_method_1_code 27 = .ok (.arraylength, 1) := by decide +kernel
theorem d8_28 : decode prog_27_method_1_code 28 = .ok (.invokedynamic 9, 5) := by decide +kernel
theorem d8_33 : decode prog_27_method_1_code 33 = .ok (.invokespecial 13, 3) := by decide +kernel
theorem d8_36 : decode prog_27_method_1_code 36 = .ok (.athrow, 1) := by decide +kernel
theorem d8_37 : decode prog_27_method_1_code 37 = .ok (.aload_n 0, 1) := by decide +kernel
theorem d8_38 : decode prog_27_method_1_code 38 = .ok (.aload_n 1, 1) := by decide +kernel
theorem d8_39 : decode prog_27_method_1_code 39 = .ok (.putfield 16, 3) := by decide +kernel
theorem d8_42 : decode prog_27_method_1_code 42 = .ok (.aload_n 0, 1) := by decide +kernel
theorem d8_43 : decode prog_27_method_1_code 43 = .ok (.aload_n 2, 1) := by decide +kernel
theorem d8_44 : decode prog_27_method_1_code 44 = .ok (.putfield 22, 3) := by decide +kernel
theorem d8_47 : decode prog_27_method_1_code 47 = .ok (.aload_n 0, 1) := by decide +kernel
theorem d8_48 : decode prog_27_method_1_code 48 = .ok (.aload_n 3, 1) := by decide +kernel
theorem d8_49 : decode prog_27_method_1_code 49 = .ok (.putfield 26, 3) := by decide +kernel
theorem d8_52 : decode prog_27_method_1_code 52 = .ok (.aload_n 0, 1) := by decide +kernel
theorem d8_53 : decode prog_27_method_1_code 53 = .ok (.lload 4, 2) := by decide +kernel
theorem d8_55 : decode prog_27_method_1_code 55 = .ok (.putfield 30, 3) := by decide +kernel
theorem d8_58 : decode prog_27_method_1_code 58 = .ok (.aload_n 0, 1) := by decide +kernel
theorem d8_59 : decode prog_27_method_1_code 59 = .ok (.iload 6, 2) := by decide +kernel
theorem d8_61 : decode prog_27_method_1_code 61 = .ok (.putfield 34, 3) := by decide +kernel
theorem d8_64 : decode prog_27_method_1_code 64 = .ok (.return_, 1) := by decide +kernel
theorem pn_8 : plainFor (⟨"com/example/forebound/forebound/problem/Problem$Table", "<init>", "([I[J[ZJZ)V"⟩ : MethodName) = true := plainFor_of_name (by first | (simp [plainName, overriddenIn]; done) | decide +kernel)
set_option maxRecDepth 65536 in
set_option maxHeartbeats 8000000 in
theorem rm8_1 (l : Launch) (Z : State) (a0 : Array Value) (hw : ∀ d ∈ tables_1, d.before a0 Z = true) (n0 : Nat) (r0 : Addr) (r1 : Addr) (r2 : Addr) (r3 : Addr) (p4 : Int32) (p5 : Int32) (p6 : Int32) (p7 : Int32) (p8 : Int32) (RR : Obs) :
    Triple l Z n0 (⟨"com/example/forebound/forebound/problem/Problem$Table", "<init>", "([I[J[ZJZ)V"⟩ : MethodName) prog_27_method_1_code 7 none ({ frames := 2, cells := 0, slots := 0, locals := 24 } : Room) 0 0 [(.ref r0), (.ref r1), (.ref r2), (.ref r3), (.long (0 : Int64)), (.int p4)] ((r0, ob0 .null .null .null (.long (0 : Int64)) (.int (0 : Int32))) :: (r1, .inr (.int, [(.int p5), (.int p6)])) :: (r2, .inr (.long, [(.long (0 : Int64)), (.long (0 : Int64))])) :: (r3, .inr (.boolean, [(.int p7), (.int p8)])) :: RR) (fun v L' => v = none ∧ L' = ((r0, ob0 (.ref r1) (.ref r2) (.ref r3) (.long (0 : Int64)) (.int (nar .boolean p4))) :: (r1, .inr (.int, [(.int p5), (.int p6)])) :: (r2, .inr (.long, [(.long (0 : Int64)), (.long (0 : Int64))])) :: (r3, .inr (.boolean, [(.int p7), (.int p8)])) :: RR)) := by
  refine Triple.of_body (tbl := tables_1) (a0 := a0) (Ls := #[.val (.ref r0), .val (.ref r1), .val (.ref r2), .val (.ref r3), .val (.long (0 : Int64)), .second, .val (.int p4)]) pn_8 hw rfl ?_
  intro p e s m below meth c T A
  refine A.aloadN (q := 1) d8_0 rfl rfl rfl ?_
  refine A.callI (q := 4) (w1 := 43) (w2 := 44) (w3 := 46) (w4 := 47) (a := r0) (as := []) (st := []) (W := 0) d8_1 rfl rfl rfl rfl rfl rfl (rm9 l Z a0 hw n0 r0 _) (by decide) ⟨_, _, pd_13, rfl⟩ rfl rfl rfl (by decide) (by decide) (by decide) (by decide) ?_
  rintro _ T _ ⟨rfl, rfl⟩ A
  show Go p e below _ (T.setTop (mkF m 4 #[.val (.ref r0), .val (.ref r1), .val (.ref r2), .val (.ref r3), .val (.long (0 : Int64)), .second, .val (.int p4)] []))
  refine A.aloadN (q := 5) d8_4 rfl rfl rfl ?_
  refine A.arraylength (q := 6) (i := 2) (v := (2 : Int32)) d8_5 rfl rfl (by show Nat.toInt32 2 = 2; decide) ?_
  refine A.aloadN (q := 7) d8_6 rfl rfl rfl ?_
  refine A.arraylength (q := 8) (i := 1) (v := (2 : Int32)) d8_7 rfl rfl (by show Nat.toInt32 2 = 2; decide) ?_
  refine A.icmpF (q := 11) d8_8 rfl (by decide) ?_
  refine A.aloadN (q := 12) d8_11 rfl rfl rfl ?_
  refine A.arraylength (q := 13) (i := 3) (v := (2 : Int32)) d8_12 rfl rfl (by show Nat.toInt32 2 = 2; decide) ?_
  refine A.aloadN (q := 14) d8_13 rfl rfl rfl ?_
  refine A.arraylength (q := 15) (i := 1) (v := (2 : Int32)) d8_14 rfl rfl (by show Nat.toInt32 2 = 2; decide) ?_
  refine A.icmpT (r := 37) d8_15 (by decide) (by decide) ?_
  refine A.aloadN (q := 38) d8_37 rfl rfl rfl ?_
  refine A.aloadN (q := 39) d8_38 rfl rfl rfl ?_
  refine A.putF (q := 42) (w := 49) (w2 := 50) (w3 := 38) (i := 0) (j := 0) (ty := (.array .int)) (v' := (.ref r1)) (L' := ((r0, ob0 (.ref r1) .null .null (.long (0 : Int64)) (.int (0 : Int32))) :: (r1, .inr (.int, [(.int p5), (.int p6)])) :: (r2, .inr (.long, [(.long (0 : Int64)), (.long (0 : Int64))])) :: (r3, .inr (.boolean, [(.int p7), (.int p8)])) :: RR)) d8_39 rfl rfl rfl rfl (lay_1 Z a0 hw) (Or.inr ⟨rfl, rfl, rfl⟩) rfl (by decide) rfl rfl rfl ?_
  intro T A
  refine A.aloadN (q := 43) d8_42 rfl rfl rfl ?_
  refine A.aloadN (q := 44) d8_43 rfl rfl rfl ?_
  refine A.putF (q := 47) (w := 51) (w2 := 52) (w3 := 38) (i := 0) (j := 1) (ty := (.array .long)) (v' := (.ref r2)) (L' := ((r0, ob0 (.ref r1) (.ref r2) .null (.long (0 : Int64)) (.int (0 : Int32))) :: (r1, .inr (.int, [(.int p5), (.int p6)])) :: (r2, .inr (.long, [(.long (0 : Int64)), (.long (0 : Int64))])) :: (r3, .inr (.boolean, [(.int p7), (.int p8)])) :: RR)) d8_44 rfl rfl rfl rfl (lay_1 Z a0 hw) (Or.inr ⟨rfl, rfl, rfl⟩) rfl (by decide) rfl rfl rfl ?_
  intro T A
  refine A.aloadN (q := 48) d8_47 rfl rfl rfl ?_
  refine A.aloadN (q := 49) d8_48 rfl rfl rfl ?_
  refine A.putF (q := 52) (w := 53) (w2 := 54) (w3 := 38) (i := 0) (j := 2) (ty := (.array .boolean)) (v' := (.ref r3)) (L' := ((r0, ob0 (.ref r1) (.ref r2) (.ref r3) (.long (0 : Int64)) (.int (0 : Int32))) :: (r1, .inr (.int, [(.int p5), (.int p6)])) :: (r2, .inr (.long, [(.long (0 : Int64)), (.long (0 : Int64))])) :: (r3, .inr (.boolean, [(.int p7), (.int p8)])) :: RR)) d8_49 rfl rfl rfl rfl (lay_1 Z a0 hw) (Or.inr ⟨rfl, rfl, rfl⟩) rfl (by decide) rfl rfl rfl ?_
  intro T A
  refine A.aloadN (q := 53) d8_52 rfl rfl rfl ?_
  refine A.lload (q := 55) d8_53 rfl rfl ?_
  refine A.putF (q := 58) (w := 55) (w2 := 56) (w3 := 38) (i := 0) (j := 3) (ty := .long) (v' := (.long (0 : Int64))) (L' := ((r0, ob0 (.ref r1) (.ref r2) (.ref r3) (.long (0 : Int64)) (.int (0 : Int32))) :: (r1, .inr (.int, [(.int p5), (.int p6)])) :: (r2, .inr (.long, [(.long (0 : Int64)), (.long (0 : Int64))])) :: (r3, .inr (.boolean, [(.int p7), (.int p8)])) :: RR)) d8_55 rfl rfl rfl rfl (lay_1 Z a0 hw) (Or.inr ⟨rfl, rfl, rfl⟩) rfl (by decide) rfl rfl rfl ?_
  intro T A
  refine A.aloadN (q := 59) d8_58 rfl rfl rfl ?_
  refine A.iload (q := 61) d8_59 rfl rfl ?_
  refine A.putF (q := 64) (w := 57) (w2 := 58) (w3 := 38) (i := 0) (j := 4) (ty := .boolean) (v' := (.int (nar .boolean p4))) (L' := ((r0, ob0 (.ref r1) (.ref r2) (.ref r3) (.long (0 : Int64)) (.int (nar .boolean p4))) :: (r1, .inr (.int, [(.int p5), (.int p6)])) :: (r2, .inr (.long, [(.long (0 : Int64)), (.long (0 : Int64))])) :: (r3, .inr (.boolean, [(.int p7), (.int p8)])) :: RR)) d8_61 rfl rfl rfl rfl (lay_1 Z a0 hw) (Or.inr ⟨rfl, rfl, rfl⟩) rfl (by decide) rfl (fits_nar_bool _) rfl ?_
  intro T A
  exact A.retV d8_64 (by decide) (by decide) ⟨rfl, rfl⟩
theorem pd_14 : parseMethodDescriptor "([I[J[ZJZ)V" = some ⟨[(.array .int), (.array .long), (.array .boolean), .long, .boolean], none⟩ := by decide +kernel
theorem d4_0 : decode method_6_code 0 = .ok (.iconst 2, 1) := by decide +kernel
theorem d4_1 : decode method_6_code 1 = .ok (.newarray .int, 2) := by decide +kernel
theorem d4_3 : decode method_6_code 3 = .ok (.dup, 1) := by decide +kernel
theorem d4_4 : decode method_6_code 4 = .ok (.iconst 0, 1) := by decide +kernel
theorem d4_5 : decode method_6_code 5 = .ok (.iload_n 0, 1) := by decide +kernel
theorem d4_6 : decode method_6_code 6 = .ok (.invokestatic 30, 3) := by decide +kernel
theorem d4_9 : decode method_6_code 9 = .ok (.iastore, 1) := by decide +kernel
theorem d4_10 : decode method_6_code 10 = .ok (.dup, 1) := by decide +kernel
theorem d4_11 : decode method_6_code 11 = .ok (.iconst 1, 1) := by decide +kernel
theorem d4_12 : decode method_6_code 12 = .ok (.iload_n 0, 1) := by decide +kernel
theorem d4_13 : decode method_6_code 13 = .ok (.invokestatic 34, 3) := by decide +kernel
theorem d4_16 : decode method_6_code 16 = .ok (.iastore, 1) := by decide +kernel
theorem d4_17 : decode method_6_code 17 = .ok (.astore_n 1, 1) := by decide +kernel
theorem d4_18 : decode method_6_code 18 = .ok (.iconst 2, 1) := by decide +kernel
theorem d4_19 : decode method_6_code 19 = .ok (.newarray .long, 2) := by decide +kernel
theorem d4_21 : decode method_6_code 21 = .ok (.dup, 1) := by decide +kernel
theorem d4_22 : decode method_6_code 22 = .ok (.iconst 0, 1) := by decide +kernel
theorem d4_23 : decode method_6_code 23 = .ok (.lconst 0, 1) := by decide +kernel
theorem d4_24 : decode method_6_code 24 = .ok (.lastore, 1) := by decide +kernel
theorem d4_25 : decode method_6_code 25 = .ok (.dup, 1) := by decide +kernel
theorem d4_26 : decode method_6_code 26 = .ok (.iconst 1, 1) := by decide +kernel
theorem d4_27 : decode method_6_code 27 = .ok (.lconst 0, 1) := by decide +kernel
theorem d4_28 : decode method_6_code 28 = .ok (.lastore, 1) := by decide +kernel
theorem d4_29 : decode method_6_code 29 = .ok (.astore_n 2, 1) := by decide +kernel
theorem d4_30 : decode method_6_code 30 = .ok (.iconst 2, 1) := by decide +kernel
theorem d4_31 : decode method_6_code 31 = .ok (.newarray .boolean, 2) := by decide +kernel
theorem d4_33 : decode method_6_code 33 = .ok (.dup, 1) := by decide +kernel
theorem d4_34 : decode method_6_code 34 = .ok (.iconst 0, 1) := by decide +kernel
theorem d4_35 : decode method_6_code 35 = .ok (.iload_n 0, 1) := by decide +kernel
theorem d4_36 : decode method_6_code 36 = .ok (.iconst 4, 1) := by decide +kernel
theorem d4_37 : decode method_6_code 37 = .ok (.invokestatic 37, 3) := by decide +kernel
theorem d4_40 : decode method_6_code 40 = .ok (.bastore, 1) := by decide +kernel
theorem d4_41 : decode method_6_code 41 = .ok (.dup, 1) := by decide +kernel
theorem d4_42 : decode method_6_code 42 = .ok (.iconst 1, 1) := by decide +kernel
theorem d4_43 : decode method_6_code 43 = .ok (.iload_n 0, 1) := by decide +kernel
theorem d4_44 : decode method_6_code 44 = .ok (.iconst 5, 1) := by decide +kernel
theorem d4_45 : decode method_6_code 45 = .ok (.invokestatic 37, 3) := by decide +kernel
theorem d4_48 : decode method_6_code 48 = .ok (.bastore, 1) := by decide +kernel
theorem d4_49 : decode method_6_code 49 = .ok (.astore_n 3, 1) := by decide +kernel
theorem d4_50 : decode method_6_code 50 = .ok (.new 40, 3) := by decide +kernel
theorem d4_53 : decode method_6_code 53 = .ok (.dup, 1) := by decide +kernel
theorem d4_54 : decode method_6_code 54 = .ok (.aload_n 1, 1) := by decide +kernel
theorem d4_55 : decode method_6_code 55 = .ok (.aload_n 2, 1) := by decide +kernel
theorem d4_56 : decode method_6_code 56 = .ok (.aload_n 3, 1) := by decide +kernel
theorem d4_57 : decode method_6_code 57 = .ok (.lconst 0, 1) := by decide +kernel
theorem d4_58 : decode method_6_code 58 = .ok (.iload_n 0, 1) := by decide +kernel
theorem d4_59 : decode method_6_code 59 = .ok (.bipush 6, 2) := by decide +kernel
theorem d4_61 : decode method_6_code 61 = .ok (.invokestatic 37, 3) := by decide +kernel
theorem d4_64 : decode method_6_code 64 = .ok (.invokespecial 42, 3) := by decide +kernel
theorem d4_67 : decode method_6_code 67 = .ok (.areturn, 1) := by decide +kernel
theorem pn_4 : plainFor (⟨"com/example/forebound/forebound/problem/SumForbiddenPinLaw", "table", "(I)Lcom/example/forebound/forebound/problem/Problem$Table;"⟩ : MethodName) = true := plainFor_of_name (by first | (simp [plainName, overriddenIn]; done) | decide +kernel)
set_option maxRecDepth 65536 in
set_option maxHeartbeats 8000000 in
theorem rmT (l : Launch) (Z : State) (a0 : Array Value) (hw : ∀ d ∈ tables_1, d.before a0 Z = true) (n0 : Nat) (t : Int32) (RR : Obs) :
    Triple l Z n0 (⟨"com/example/forebound/forebound/problem/SumForbiddenPinLaw", "table", "(I)Lcom/example/forebound/forebound/problem/Problem$Table;"⟩ : MethodName) method_6_code 4 (some (.object "com/example/forebound/forebound/problem/Problem$Table")) ({ frames := 3, cells := 4, slots := 11, locals := 43 } : Room) 4 11 [(.int t)] (RR) (fun v L' => ∃ b8 b1 b4 b5 : Addr, v = some (.ref b8) ∧ L' = ((b8, ob0 (.ref b1) (.ref b4) (.ref b5) (.long (0 : Int64)) (.int (nar .boolean ((FL t (6 : Int32)))))) :: (b1, .inr (.int, [(.int ((t &&& (3 : Int32)))), (.int ((((((t &&& (3 : Int32))) + (1 : Int32)) + ((((t.toUInt32 >>> ((2 : Int32) &&& 31).toUInt32).toInt32) &&& (3 : Int32)) % (3 : Int32))) &&& (3 : Int32))))])) :: (b4, .inr (.long, [(.long (0 : Int64)), (.long (0 : Int64))])) :: (b5, .inr (.boolean, [(.int ((FL t (4 : Int32)))), (.int ((FL t (5 : Int32))))])) :: RR)) := by
  refine Triple.of_body (tbl := tables_1) (a0 := a0) (Ls := #[.val (.int t), .unset, .unset, .unset]) pn_4 hw rfl ?_
  intro p e s m below meth c T A
  refine A.iconst (q := 1) (v := (2 : Int32)) d4_0 rfl (by decide) ?_
  refine A.newA (q := 3) (w := 26) (cap := 2) (ty := .int) (vs := [(.int (0 : Int32)), (.int (0 : Int32))]) d4_1 rfl rfl rfl (by decide) (by decide) (by decide) rfl (by decide) (by decide) ?_
  intro T b1 A
  refine A.dup (q := 4) d4_3 rfl rfl ?_
  refine A.iconst (q := 5) (v := (0 : Int32)) d4_4 rfl (by decide) ?_
  refine A.iloadN (q := 6) d4_5 rfl rfl ?_
  refine A.callS (q := 9) (w1 := 27) (w2 := 28) (w3 := 24) (w4 := 29) (as := [(.int t)]) (st := [(.int (0 : Int32)), (.ref b1), (.ref b1)]) (W := 3) d4_6 rfl rfl rfl rfl rfl (rmA l Z a0 hw n0 t _) (by decide) ⟨_, _, pd_0, rfl⟩ rfl rfl rfl (by decide) (by decide) (by decide) (by decide) ?_
  rintro _ T _ ⟨rfl, rfl⟩ A
  show Go p e below _ (T.setTop (mkF m 9 #[.val (.int t), .unset, .unset, .unset] [(.int (t &&& (3 : Int32))), (.int (0 : Int32)), (.ref b1), (.ref b1)]))
  obtain ⟨v2, e2⟩ : ∃ v : Int32, (t &&& (3 : Int32)) = v := ⟨_, rfl⟩
  rw [e2]
  refine A.iastore (q := 10) (i := 0) (x' := v2) (L' := ((b1, .inr (.int, [(.int v2), (.int (0 : Int32))])) :: RR)) d4_9 rfl rfl (by decide) (by show Int32.toNatClampNeg (0 : Int32) < 2; decide) rfl rfl ?_
  intro T A
  refine A.dup (q := 11) d4_10 rfl rfl ?_
  refine A.iconst (q := 12) (v := (1 : Int32)) d4_11 rfl (by decide) ?_
  refine A.iloadN (q := 13) d4_12 rfl rfl ?_
  refine A.callS (q := 16) (w1 := 30) (w2 := 31) (w3 := 24) (w4 := 32) (as := [(.int t)]) (st := [(.int (1 : Int32)), (.ref b1), (.ref b1)]) (W := 3) d4_13 rfl rfl rfl rfl rfl (rmB l Z a0 hw n0 t _) (by decide) ⟨_, _, pd_0, rfl⟩ rfl rfl rfl (by decide) (by decide) (by decide) (by decide) ?_
  rintro _ T _ ⟨rfl, rfl⟩ A
  show Go p e below _ (T.setTop (mkF m 16 #[.val (.int t), .unset, .unset, .unset] [(.int (((((t &&& (3 : Int32))) + (1 : Int32)) + ((((t.toUInt32 >>> ((2 : Int32) &&& 31).toUInt32).toInt32) &&& (3 : Int32)) % (3 : Int32))) &&& (3 : Int32))), (.int (1 : Int32)), (.ref b1), (.ref b1)]))
  obtain ⟨v3, e3⟩ : ∃ v : Int32, (((((t &&& (3 : Int32))) + (1 : Int32)) + ((((t.toUInt32 >>> ((2 : Int32) &&& 31).toUInt32).toInt32) &&& (3 : Int32)) % (3 : Int32))) &&& (3 : Int32)) = v := ⟨_, rfl⟩
  rw [e3]
  refine A.iastore (q := 17) (i := 0) (x' := v3) (L' := ((b1, .inr (.int, [(.int v2), (.int v3)])) :: RR)) d4_16 rfl rfl (by decide) (by show Int32.toNatClampNeg (1 : Int32) < 2; decide) rfl rfl ?_
  intro T A
  refine A.astoreN (q := 18) (l' := #[.val (.int t), .val (.ref b1), .unset, .unset]) d4_17 rfl rfl rfl ?_
  refine A.iconst (q := 19) (v := (2 : Int32)) d4_18 rfl (by decide) ?_
  refine A.newA (q := 21) (w := 9) (cap := 2) (ty := .long) (vs := [(.long (0 : Int64)), (.long (0 : Int64))]) d4_19 rfl rfl rfl (by decide) (by decide) (by decide) rfl (by decide) (by decide) ?_
  intro T b4 A
  refine A.dup (q := 22) d4_21 rfl rfl ?_
  refine A.iconst (q := 23) (v := (0 : Int32)) d4_22 rfl (by decide) ?_
  refine A.lconst (q := 24) (v := (0 : Int64)) d4_23 rfl (by decide) ?_
  refine A.lastore (q := 25) (i := 0) (x' := (0 : Int64)) (L' := ((b4, .inr (.long, [(.long (0 : Int64)), (.long (0 : Int64))])) :: (b1, .inr (.int, [(.int v2), (.int v3)])) :: RR)) d4_24 rfl rfl (by decide) (by show Int32.toNatClampNeg (0 : Int32) < 2; decide) rfl rfl ?_
  intro T A
  refine A.dup (q := 26) d4_25 rfl rfl ?_
  refine A.iconst (q := 27) (v := (1 : Int32)) d4_26 rfl (by decide) ?_
  refine A.lconst (q := 28) (v := (0 : Int64)) d4_27 rfl (by decide) ?_
  refine A.lastore (q := 29) (i := 0) (x' := (0 : Int64)) (L' := ((b4, .inr (.long, [(.long (0 : Int64)), (.long (0 : Int64))])) :: (b1, .inr (.int, [(.int v2), (.int v3)])) :: RR)) d4_28 rfl rfl (by decide) (by show Int32.toNatClampNeg (1 : Int32) < 2; decide) rfl rfl ?_
  intro T A
  refine A.astoreN (q := 30) (l' := #[.val (.int t), .val (.ref b1), .val (.ref b4), .unset]) d4_29 rfl rfl rfl ?_
  refine A.iconst (q := 31) (v := (2 : Int32)) d4_30 rfl (by decide) ?_
  refine A.newA (q := 33) (w := 33) (cap := 2) (ty := .boolean) (vs := [(.int (0 : Int32)), (.int (0 : Int32))]) d4_31 rfl rfl rfl (by decide) (by decide) (by decide) rfl (by decide) (by decide) ?_
  intro T b5 A
  refine A.dup (q := 34) d4_33 rfl rfl ?_
  refine A.iconst (q := 35) (v := (0 : Int32)) d4_34 rfl (by decide) ?_
  refine A.iloadN (q := 36) d4_35 rfl rfl ?_
  refine A.iconst (q := 37) (v := (4 : Int32)) d4_36 rfl (by decide) ?_
  refine A.callS (q := 40) (w1 := 34) (w2 := 35) (w3 := 24) (w4 := 36) (as := [(.int t), (.int (4 : Int32))]) (st := [(.int (0 : Int32)), (.ref b5), (.ref b5)]) (W := 3) d4_37 rfl rfl rfl rfl rfl (rmL l Z a0 hw n0 t (4 : Int32) _) (by decide) ⟨_, _, pd_12, rfl⟩ rfl rfl rfl (by decide) (by decide) (by decide) (by decide) ?_
  rintro _ T _ ⟨rfl, rfl⟩ A
  show Go p e below _ (T.setTop (mkF m 40 #[.val (.int t), .val (.ref b1), .val (.ref b4), .unset] [(.int (FL t (4 : Int32))), (.int (0 : Int32)), (.ref b5), (.ref b5)]))
  obtain ⟨v6, e6⟩ : ∃ v : Int32, (FL t (4 : Int32)) = v := ⟨_, rfl⟩
  rw [e6]
  refine A.bastoreZ (q := 41) (i := 0) (x' := v6) (L' := ((b5, .inr (.boolean, [(.int v6), (.int (0 : Int32))])) :: (b4, .inr (.long, [(.long (0 : Int64)), (.long (0 : Int64))])) :: (b1, .inr (.int, [(.int v2), (.int v3)])) :: RR)) d4_40 rfl rfl (by decide) (by show Int32.toNatClampNeg (0 : Int32) < 2; decide) (by subst e2 e3 e6; exact own_FLz _ _) rfl ?_
  intro T A
  refine A.dup (q := 42) d4_41 rfl rfl ?_
  refine A.iconst (q := 43) (v := (1 : Int32)) d4_42 rfl (by decide) ?_
  refine A.iloadN (q := 44) d4_43 rfl rfl ?_
  refine A.iconst (q := 45) (v := (5 : Int32)) d4_44 rfl (by decide) ?_
  refine A.callS (q := 48) (w1 := 34) (w2 := 35) (w3 := 24) (w4 := 36) (as := [(.int t), (.int (5 : Int32))]) (st := [(.int (1 : Int32)), (.ref b5), (.ref b5)]) (W := 3) d4_45 rfl rfl rfl rfl rfl (rmL l Z a0 hw n0 t (5 : Int32) _) (by decide) ⟨_, _, pd_12, rfl⟩ rfl rfl rfl (by decide) (by decide) (by decide) (by decide) ?_
  rintro _ T _ ⟨rfl, rfl⟩ A
  show Go p e below _ (T.setTop (mkF m 48 #[.val (.int t), .val (.ref b1), .val (.ref b4), .unset] [(.int (FL t (5 : Int32))), (.int (1 : Int32)), (.ref b5), (.ref b5)]))
  obtain ⟨v7, e7⟩ : ∃ v : Int32, (FL t (5 : Int32)) = v := ⟨_, rfl⟩
  rw [e7]
  refine A.bastoreZ (q := 49) (i := 0) (x' := v7) (L' := ((b5, .inr (.boolean, [(.int v6), (.int v7)])) :: (b4, .inr (.long, [(.long (0 : Int64)), (.long (0 : Int64))])) :: (b1, .inr (.int, [(.int v2), (.int v3)])) :: RR)) d4_48 rfl rfl (by decide) (by show Int32.toNatClampNeg (1 : Int32) < 2; decide) (by subst e2 e3 e6 e7; exact own_FLz _ _) rfl ?_
  intro T A
  refine A.astoreN (q := 50) (l' := #[.val (.int t), .val (.ref b1), .val (.ref b4), .val (.ref b5)]) d4_49 rfl rfl rfl ?_
  refine A.newO (q := 53) (w1 := 37) (w2 := 38) (w3 := 39) (n := 5) (fs := [(("com/example/forebound/forebound/problem/Problem$Table", "positions", "[I"), .null), (("com/example/forebound/forebound/problem/Problem$Table", "costs", "[J"), .null), (("com/example/forebound/forebound/problem/Problem$Table", "forbidden", "[Z"), .null), (("com/example/forebound/forebound/problem/Problem$Table", "defaultCost", "J"), (.long (0 : Int64))), (("com/example/forebound/forebound/problem/Problem$Table", "defaultForbidden", "Z"), (.int (0 : Int32)))]) d4_50 rfl rfl rfl rfl (lay_1 Z a0 hw) (by decide) (by decide) (by decide) ?_
  intro T b8 A
  refine A.dup (q := 54) d4_53 rfl rfl ?_
  refine A.aloadN (q := 55) d4_54 rfl rfl rfl ?_
  refine A.aloadN (q := 56) d4_55 rfl rfl rfl ?_
  refine A.aloadN (q := 57) d4_56 rfl rfl rfl ?_
  refine A.lconst (q := 58) (v := (0 : Int64)) d4_57 rfl (by decide) ?_
  refine A.iloadN (q := 59) d4_58 rfl rfl ?_
  refine A.bipush (q := 61) (v := (6 : Int32)) d4_59 rfl (by decide) ?_
  refine A.callS (q := 64) (w1 := 34) (w2 := 35) (w3 := 24) (w4 := 36) (as := [(.int t), (.int (6 : Int32))]) (st := [(.long (0 : Int64)), (.ref b5), (.ref b4), (.ref b1), (.ref b8), (.ref b8)]) (W := 7) d4_61 rfl rfl rfl rfl rfl (rmL l Z a0 hw n0 t (6 : Int32) _) (by decide) ⟨_, _, pd_12, rfl⟩ rfl rfl rfl (by decide) (by decide) (by decide) (by decide) ?_
  rintro _ T _ ⟨rfl, rfl⟩ A
  show Go p e below _ (T.setTop (mkF m 64 #[.val (.int t), .val (.ref b1), .val (.ref b4), .val (.ref b5)] [(.int (FL t (6 : Int32))), (.long (0 : Int64)), (.ref b5), (.ref b4), (.ref b1), (.ref b8), (.ref b8)]))
  obtain ⟨v9, e9⟩ : ∃ v : Int32, (FL t (6 : Int32)) = v := ⟨_, rfl⟩
  rw [e9]
  have A := A.front (i := 1) rfl rfl
  have A := A.front (i := 2) rfl rfl
  have A := A.front (i := 3) rfl rfl
  have A := A.front (i := 3) (L' := ((b8, ob0 .null .null .null (.long (0 : Int64)) (.int (0 : Int32))) :: (b1, .inr (.int, [(.int v2), (.int v3)])) :: (b4, .inr (.long, [(.long (0 : Int64)), (.long (0 : Int64))])) :: (b5, .inr (.boolean, [(.int v6), (.int v7)])) :: RR)) rfl rfl
  refine A.callI (q := 67) (w1 := 40) (w2 := 41) (w3 := 39) (w4 := 42) (a := b8) (as := [(.ref b1), (.ref b4), (.ref b5), (.long (0 : Int64)), (.int v9)]) (st := [(.ref b8)]) (W := 1) d4_64 rfl rfl rfl rfl rfl rfl (rm8_1 l Z a0 hw n0 b8 b1 b4 b5 v9 v2 v3 v6 v7 _) (by decide) ⟨_, _, pd_14, rfl⟩ rfl rfl rfl (by decide) (by decide) (by decide) (by decide) ?_
  rintro _ T _ ⟨rfl, rfl⟩ A
  show Go p e below _ (T.setTop (mkF m 67 #[.val (.int t), .val (.ref b1), .val (.ref b4), .val (.ref b5)] [(.ref b8)]))
  have Aq := A
  subst e2 e3 e6 e7 e9
  have A := Aq
  exact A.retA d4_67 rfl rfl rfl (by decide) (by decide) ⟨b8, b1, b4, b5, rfl, rfl⟩
def FY (t : Int32) (k : Int32) : Int32 := (if k = ((t &&& (3 : Int32))) then (nar .boolean ((FL t (4 : Int32)))) else (if k = ((((((t &&& (3 : Int32))) + (1 : Int32)) + ((((t.toUInt32 >>> ((2 : Int32) &&& 31).toUInt32).toInt32) &&& (3 : Int32)) % (3 : Int32))) &&& (3 : Int32))) then (nar .boolean ((FL t (5 : Int32)))) else (nar .boolean ((FL t (6 : Int32))))))
theorem d22_0 : decode method_7_code 0 = .ok (.iload_n 1, 1) := by decide +kernel
theorem d22_1 : decode method_7_code 1 = .ok (.iload_n 0, 1) := by decide +kernel
theorem d22_2 : decode method_7_code 2 = .ok (.invokestatic 30, 3) := by decide +kernel
theorem d22_5 : decode method_7_code 5 = .ok (.if_icmp .ne 9, 3) := by decide +kernel
theorem d22_8 : decode method_7_code 8 = .ok (.iload_n 0, 1) := by decide +kernel
theorem d22_9 : decode method_7_code 9 = .ok (.iconst 4, 1) := by decide +kernel
theorem d22_10 : decode method_7_code 10 = .ok (.invokestatic 37, 3) := by decide +kernel
theorem d22_13 : decode method_7_code 13 = .ok (.ireturn, 1) := by decide +kernel
theorem d22_14 : decode method_7_code 14 = .ok (.iload_n 1, 1) := by decide +kernel
theorem d22_15 : decode method_7_code 15 = .ok (.iload_n 0, 1) := by decide +kernel
theorem d22_16 : decode method_7_code 16 = .ok (.invokestatic 34, 3) := by decide +kernel
theorem d22_19 : decode method_7_code 19 = .ok (.if_icmp .ne 9, 3) := by decide +kernel
theorem d22_22 : decode method_7_code 22 = .ok (.iload_n 0, 1) := by decide +kernel
theorem d22_23 : decode method_7_code 23 = .ok (.iconst 5, 1) := by decide +kernel
theorem d22_24 : decode method_7_code 24 = .ok (.invokestatic 37, 3) := by decide +kernel
theorem d22_27 : decode method_7_code 27 = .ok (.ireturn, 1) := by decide +kernel
theorem d22_28 : decode method_7_code 28 = .ok (.iload_n 0, 1) := by decide +kernel
theorem d22_29 : decode method_7_code 29 = .ok (.bipush 6, 2) := by decide +kernel
theorem d22_31 : decode method_7_code 31 = .ok (.invokestatic 37, 3) := by decide +kernel
theorem d22_34 : decode method_7_code 34 = .ok (.ireturn, 1) := by decide +kernel
theorem pn_22 : plainFor (⟨"com/example/forebound/forebound/problem/SumForbiddenPinLaw", "by", "(II)Z"⟩ : MethodName) = true := plainFor_of_name (by first | (simp [plainName, overriddenIn]; done) | decide +kernel)
set_option maxRecDepth 65536 in
set_option maxHeartbeats 8000000 in
theorem rmY (l : Launch) (Z : State) (a0 : Array Value) (hw : ∀ d ∈ tables_1, d.before a0 Z = true) (n0 : Nat) (t : Int32) (k : Int32) (RR : Obs) :
    Triple l Z n0 (⟨"com/example/forebound/forebound/problem/SumForbiddenPinLaw", "by", "(II)Z"⟩ : MethodName) method_7_code 2 (some .boolean) ({ frames := 2, cells := 0, slots := 0, locals := 25 } : Room) 0 0 [(.int t), (.int k)] (RR) (fun v L' => v = some (.int (FY t k)) ∧ L' = (RR)) := by
  refine Triple.of_body (tbl := tables_1) (a0 := a0) (Ls := #[.val (.int t), .val (.int k)]) pn_22 hw rfl ?_
  intro p e s m below meth c T A
  refine A.iloadN (q := 1) d22_0 rfl rfl ?_
  refine A.iloadN (q := 2) d22_1 rfl rfl ?_
  refine A.callS (q := 5) (w1 := 27) (w2 := 28) (w3 := 24) (w4 := 29) (as := [(.int t)]) (st := [(.int k)]) (W := 1) d22_2 rfl rfl rfl rfl rfl (rmA l Z a0 hw n0 t _) (by decide) ⟨_, _, pd_0, rfl⟩ rfl rfl rfl (by decide) (by decide) (by decide) (by decide) ?_
  rintro _ T _ ⟨rfl, rfl⟩ A
  show Go p e below _ (T.setTop (mkF m 5 #[.val (.int t), .val (.int k)] [(.int (t &&& (3 : Int32))), (.int k)]))
  obtain ⟨v1, e1⟩ : ∃ v : Int32, (t &&& (3 : Int32)) = v := ⟨_, rfl⟩
  rw [e1]
  refine A.icmp_ne (q := 8) (r := 14) d22_5 rfl (by decide) (fun h2 => ?_) (fun h2 => ?_)
  · refine A.iloadN (q := 15) d22_14 rfl rfl ?_
    refine A.iloadN (q := 16) d22_15 rfl rfl ?_
    refine A.callS (q := 19) (w1 := 30) (w2 := 31) (w3 := 24) (w4 := 32) (as := [(.int t)]) (st := [(.int k)]) (W := 1) d22_16 rfl rfl rfl rfl rfl (rmB l Z a0 hw n0 t _) (by decide) ⟨_, _, pd_0, rfl⟩ rfl rfl rfl (by decide) (by decide) (by decide) (by decide) ?_
    rintro _ T _ ⟨rfl, rfl⟩ A
    show Go p e below _ (T.setTop (mkF m 19 #[.val (.int t), .val (.int k)] [(.int (((((t &&& (3 : Int32))) + (1 : Int32)) + ((((t.toUInt32 >>> ((2 : Int32) &&& 31).toUInt32).toInt32) &&& (3 : Int32)) % (3 : Int32))) &&& (3 : Int32))), (.int k)]))
    obtain ⟨v3, e3⟩ : ∃ v : Int32, (((((t &&& (3 : Int32))) + (1 : Int32)) + ((((t.toUInt32 >>> ((2 : Int32) &&& 31).toUInt32).toInt32) &&& (3 : Int32)) % (3 : Int32))) &&& (3 : Int32)) = v := ⟨_, rfl⟩
    rw [e3]
    refine A.icmp_ne (q := 22) (r := 28) d22_19 rfl (by decide) (fun h4 => ?_) (fun h4 => ?_)
    · refine A.iloadN (q := 29) d22_28 rfl rfl ?_
      refine A.bipush (q := 31) (v := (6 : Int32)) d22_29 rfl (by decide) ?_
      refine A.callS (q := 34) (w1 := 34) (w2 := 35) (w3 := 24) (w4 := 36) (as := [(.int t), (.int (6 : Int32))]) (st := []) (W := 0) d22_31 rfl rfl rfl rfl rfl (rmL l Z a0 hw n0 t (6 : Int32) _) (by decide) ⟨_, _, pd_12, rfl⟩ rfl rfl rfl (by decide) (by decide) (by decide) (by decide) ?_
      rintro _ T _ ⟨rfl, rfl⟩ A
      show Go p e below _ (T.setTop (mkF m 34 #[.val (.int t), .val (.int k)] [(.int (FL t (6 : Int32)))]))
      obtain ⟨v5, e5⟩ : ∃ v : Int32, (FL t (6 : Int32)) = v := ⟨_, rfl⟩
      rw [e5]
      have Aq := A
      subst e1 e3 e5
      have A := Aq
      exact A.retZ (v := (FY t k)) d22_34 (by simp only [FY, if_neg h2, if_neg h4] <;> (first | rfl | assumption)) (by decide) (by decide) ⟨rfl, by first | rfl | (simp only [if_neg h2, if_neg h4])⟩
    · refine A.iloadN (q := 23) d22_22 rfl rfl ?_
      refine A.iconst (q := 24) (v := (5 : Int32)) d22_23 rfl (by decide) ?_
      refine A.callS (q := 27) (w1 := 34) (w2 := 35) (w3 := 24) (w4 := 36) (as := [(.int t), (.int (5 : Int32))]) (st := []) (W := 0) d22_24 rfl rfl rfl rfl rfl (rmL l Z a0 hw n0 t (5 : Int32) _) (by decide) ⟨_, _, pd_12, rfl⟩ rfl rfl rfl (by decide) (by decide) (by decide) (by decide) ?_
      rintro _ T _ ⟨rfl, rfl⟩ A
      show Go p e below _ (T.setTop (mkF m 27 #[.val (.int t), .val (.int k)] [(.int (FL t (5 : Int32)))]))
      obtain ⟨v6, e6⟩ : ∃ v : Int32, (FL t (5 : Int32)) = v := ⟨_, rfl⟩
      rw [e6]
      have Aq := A
      subst e1 e3 e6
      have A := Aq
      exact A.retZ (v := (FY t k)) d22_27 (by simp only [FY, if_neg h2, if_pos h4] <;> (first | rfl | assumption)) (by decide) (by decide) ⟨rfl, by first | rfl | (simp only [if_neg h2, if_pos h4])⟩
  · refine A.iloadN (q := 9) d22_8 rfl rfl ?_
    refine A.iconst (q := 10) (v := (4 : Int32)) d22_9 rfl (by decide) ?_
    refine A.callS (q := 13) (w1 := 34) (w2 := 35) (w3 := 24) (w4 := 36) (as := [(.int t), (.int (4 : Int32))]) (st := []) (W := 0) d22_10 rfl rfl rfl rfl rfl (rmL l Z a0 hw n0 t (4 : Int32) _) (by decide) ⟨_, _, pd_12, rfl⟩ rfl rfl rfl (by decide) (by decide) (by decide) (by decide) ?_
    rintro _ T _ ⟨rfl, rfl⟩ A
    show Go p e below _ (T.setTop (mkF m 13 #[.val (.int t), .val (.int k)] [(.int (FL t (4 : Int32)))]))
    obtain ⟨v7, e7⟩ : ∃ v : Int32, (FL t (4 : Int32)) = v := ⟨_, rfl⟩
    rw [e7]
    have Aq := A
    subst e1 e7
    have A := Aq
    exact A.retZ (v := (FY t k)) d22_13 (by simp only [FY, if_pos h2] <;> (first | rfl | assumption)) (by decide) (by decide) ⟨rfl, by first | rfl | (simp only [if_pos h2])⟩
theorem own_tab (t : Int32) : ∃ (g : Fin 12) (pa pb f1 f2 d : Int32), ((((t &&& (3 : Int32))) + (1 : Int32)) + ((((t.toUInt32 >>> ((2 : Int32) &&& 31).toUInt32).toInt32) &&& (3 : Int32)) % (3 : Int32))) &&& (3 : Int32) = pb ∧ t &&& (3 : Int32) = pa ∧ FL t (4 : Int32) = f1 ∧ FL t (5 : Int32) = f2 ∧ nar .boolean (FL t (6 : Int32)) = d ∧ pA g = pa ∧ pB g = pb ∧ (f1 = 0 ∨ f1 = 1) ∧ (f2 = 0 ∨ f2 = 1) ∧ (d = 0 ∨ d = 1) ∧ (∀ e, FY t e = byO g f1 f2 d e) := by
  obtain ⟨a, ha⟩ := own_i4 (own_and3 t)
  obtain ⟨b, hb⟩ := own_i4 (own_and3 ((t.toUInt32 >>> ((2 : Int32) &&& 31).toUInt32).toInt32))
  obtain ⟨g, h1, h2⟩ := own_P4 a b
  have HA : t &&& (3 : Int32) = pA g := by rw [ha, h1]
  have HB : ((((t &&& (3 : Int32))) + (1 : Int32)) + ((((t.toUInt32 >>> ((2 : Int32) &&& 31).toUInt32).toInt32) &&& (3 : Int32)) % (3 : Int32))) &&& (3 : Int32) = pB g := by rw [ha, hb, h2]
  refine ⟨g, _, _, _, _, _, rfl, rfl, rfl, rfl, rfl, HA.symm, HB.symm, own_FL01 _ _, own_FL01 _ _, by rw [own_FLz]; exact own_FL01 _ _, fun e => ?_⟩
  unfold FY byO
  rw [own_FLz, own_FLz, own_FLz, HB, HA]
theorem own_nxa {g : Fin 12} {f1 f2 pa pb : Int32} {fo : List Int32} (hfo : flO (0 : Fin 28) = fo) (hpa : pA g = pa) (hpb : pB g = pb) (h1 : f1 = 0 ∨ f1 = 1) (h2 : f2 = 0 ∨ f2 = 1) : ∃ (s : Fin 28) (fo' : List Int32) (al' : Int32), s.val < 11 ∧ flO s = fo' ∧ cnt (flO s) = al' ∧ rO 0 g f1 f2 0 = flO s ∧ umL (l2L (mkL fo pa pb) pa pb f1 f2) pa pb = fo' ∧ cnt (l2L (mkL fo pa pb) pa pb f1 f2) = al' := by
  have q := own_rO0 f1 f2 hfo hpa hpb
  have r : l2O 0 g f1 f2 = l2L (mkL fo pa pb) pa pb f1 f2 := by rw [← hfo, ← hpa, ← hpb]; rfl
  obtain ⟨a, ha⟩ := own_i2 h1
  obtain ⟨b, hb⟩ := own_i2 h2
  obtain ⟨s, hs, hr, hc⟩ := own_nx0 g a b
  rw [← ha, ← hb] at hr hc
  exact ⟨s, _, _, hs, rfl, rfl, hr, by rw [← q, hr], by rw [← r, hc]⟩
theorem own_nxb {g : Fin 12} {f1 f2 pa pb : Int32} {fo : List Int32} (hfo : flO (0 : Fin 28) = fo) (hpa : pA g = pa) (hpb : pB g = pb) (h1 : f1 = 0 ∨ f1 = 1) (h2 : f2 = 0 ∨ f2 = 1) : ∃ (s : Fin 28) (fo' : List Int32) (al' : Int32) (sv' : List Int32), 11 ≤ s.val ∧ flO s = fo' ∧ cnt (flO s) = al' ∧ svO s = sv' ∧ rO 0 g f1 f2 1 = flO s ∧ umL (uL (l2L (mkL fo pa pb) pa pb f1 f2)) pa pb = fo' ∧ cnt (uL (l2L (mkL fo pa pb) pa pb f1 f2)) = al' ∧ svL (uL (l2L (mkL fo pa pb) pa pb f1 f2)) pa pb = sv' := by
  have q := own_rO1 f1 f2 hfo hpa hpb
  have r : uO 0 g f1 f2 = uL (l2L (mkL fo pa pb) pa pb f1 f2) := by rw [← hfo, ← hpa, ← hpb]; rfl
  have r2 : svR 0 g f1 f2 = svL (uL (l2L (mkL fo pa pb) pa pb f1 f2)) pa pb := by rw [← hfo, ← hpa, ← hpb]; rfl
  obtain ⟨a, ha⟩ := own_i2 h1
  obtain ⟨b, hb⟩ := own_i2 h2
  obtain ⟨s, hs, hr, hc, hv⟩ := own_nx1 g a b
  rw [← ha, ← hb] at hr hc hv
  exact ⟨s, _, _, _, hs, rfl, rfl, rfl, hr, by rw [← q, hr], by rw [← r, hc], by rw [← r2, hv]⟩
theorem own_by01 (g : Fin 12) {f1 f2 d : Int32} (h1 : f1 = 0 ∨ f1 = 1) (h2 : f2 = 0 ∨ f2 = 1) (hd : d = 0 ∨ d = 1) (e : Int32) : byO g f1 f2 d e = 0 ∨ byO g f1 f2 d e = 1 := by
  unfold byO; split
  · exact h1
  · split
    · exact h2
    · exact hd
theorem own_e0 {t1 t2 : Int32} {sg : Fin 28} {pg1 pg2 : Fin 12} {f1 f2 g1 g2 d1 d2 : Int32} {lf : List Int32} (hr : rO 0 pg1 f1 f2 d1 = flO sg) (hl : rO sg pg2 g1 g2 d2 = lf) (hf1 : f1 = 0 ∨ f1 = 1) (hf2 : f2 = 0 ∨ f2 = 1) (hd1 : d1 = 0 ∨ d1 = 1) (hg1 : g1 = 0 ∨ g1 = 1) (hg2 : g2 = 0 ∨ g2 = 1) (hd2 : d2 = 0 ∨ d2 = 1) (hy1 : ∀ e, FY t1 e = byO pg1 f1 f2 d1 e) (hy2 : ∀ e, FY t2 e = byO pg2 g1 g2 d2 e) :
    FF (0 : Int32) lf = (if FY t1 (0 : Int32) = (0 : Int32) then (if FY t2 (0 : Int32) = (0 : Int32) then (0 : Int32) else (1 : Int32)) else (1 : Int32)) := by
  rw [← hl, (own_s2 sg pg2 hg1 hg2 hd2).1, ← hr, (own_s1 pg1 hf1 hf2 hd1).1, hy1, hy2]
  rcases own_by01 pg1 hf1 hf2 hd1 (0 : Int32) with q | q <;> rcases own_by01 pg2 hg1 hg2 hd2 (0 : Int32) with r | r <;> rw [q, r] <;> decide
theorem own_e1 {t1 t2 : Int32} {sg : Fin 28} {pg1 pg2 : Fin 12} {f1 f2 g1 g2 d1 d2 : Int32} {lf : List Int32} (hr : rO 0 pg1 f1 f2 d1 = flO sg) (hl : rO sg pg2 g1 g2 d2 = lf) (hf1 : f1 = 0 ∨ f1 = 1) (hf2 : f2 = 0 ∨ f2 = 1) (hd1 : d1 = 0 ∨ d1 = 1) (hg1 : g1 = 0 ∨ g1 = 1) (hg2 : g2 = 0 ∨ g2 = 1) (hd2 : d2 = 0 ∨ d2 = 1) (hy1 : ∀ e, FY t1 e = byO pg1 f1 f2 d1 e) (hy2 : ∀ e, FY t2 e = byO pg2 g1 g2 d2 e) :
    FF (1 : Int32) lf = (if FY t1 (1 : Int32) = (0 : Int32) then (if FY t2 (1 : Int32) = (0 : Int32) then (0 : Int32) else (1 : Int32)) else (1 : Int32)) := by
  rw [← hl, (own_s2 sg pg2 hg1 hg2 hd2).2.1, ← hr, (own_s1 pg1 hf1 hf2 hd1).2.1, hy1, hy2]
  rcases own_by01 pg1 hf1 hf2 hd1 (1 : Int32) with q | q <;> rcases own_by01 pg2 hg1 hg2 hd2 (1 : Int32) with r | r <;> rw [q, r] <;> decide
theorem own_e2 {t1 t2 : Int32} {sg : Fin 28} {pg1 pg2 : Fin 12} {f1 f2 g1 g2 d1 d2 : Int32} {lf : List Int32} (hr : rO 0 pg1 f1 f2 d1 = flO sg) (hl : rO sg pg2 g1 g2 d2 = lf) (hf1 : f1 = 0 ∨ f1 = 1) (hf2 : f2 = 0 ∨ f2 = 1) (hd1 : d1 = 0 ∨ d1 = 1) (hg1 : g1 = 0 ∨ g1 = 1) (hg2 : g2 = 0 ∨ g2 = 1) (hd2 : d2 = 0 ∨ d2 = 1) (hy1 : ∀ e, FY t1 e = byO pg1 f1 f2 d1 e) (hy2 : ∀ e, FY t2 e = byO pg2 g1 g2 d2 e) :
    FF (2 : Int32) lf = (if FY t1 (2 : Int32) = (0 : Int32) then (if FY t2 (2 : Int32) = (0 : Int32) then (0 : Int32) else (1 : Int32)) else (1 : Int32)) := by
  rw [← hl, (own_s2 sg pg2 hg1 hg2 hd2).2.2.1, ← hr, (own_s1 pg1 hf1 hf2 hd1).2.2.1, hy1, hy2]
  rcases own_by01 pg1 hf1 hf2 hd1 (2 : Int32) with q | q <;> rcases own_by01 pg2 hg1 hg2 hd2 (2 : Int32) with r | r <;> rw [q, r] <;> decide
theorem own_e3 {t1 t2 : Int32} {sg : Fin 28} {pg1 pg2 : Fin 12} {f1 f2 g1 g2 d1 d2 : Int32} {lf : List Int32} (hr : rO 0 pg1 f1 f2 d1 = flO sg) (hl : rO sg pg2 g1 g2 d2 = lf) (hf1 : f1 = 0 ∨ f1 = 1) (hf2 : f2 = 0 ∨ f2 = 1) (hd1 : d1 = 0 ∨ d1 = 1) (hg1 : g1 = 0 ∨ g1 = 1) (hg2 : g2 = 0 ∨ g2 = 1) (hd2 : d2 = 0 ∨ d2 = 1) (hy1 : ∀ e, FY t1 e = byO pg1 f1 f2 d1 e) (hy2 : ∀ e, FY t2 e = byO pg2 g1 g2 d2 e) :
    FF (3 : Int32) lf = (if FY t1 (3 : Int32) = (0 : Int32) then (if FY t2 (3 : Int32) = (0 : Int32) then (0 : Int32) else (1 : Int32)) else (1 : Int32)) := by
  rw [← hl, (own_s2 sg pg2 hg1 hg2 hd2).2.2.2, ← hr, (own_s1 pg1 hf1 hf2 hd1).2.2.2, hy1, hy2]
  rcases own_by01 pg1 hf1 hf2 hd1 (3 : Int32) with q | q <;> rcases own_by01 pg2 hg1 hg2 hd2 (3 : Int32) with r | r <;> rw [q, r] <;> decide
theorem d1_0 : decode prog_28_method_1_code 0 = .ok (.aload_n 0, 1) := by decide +kernel
theorem d1_1 : decode prog_28_method_1_code 1 = .ok (.invokespecial 1, 3) := by decide +kernel
theorem d1_4 : decode prog_28_method_1_code 4 = .ok (.aload_n 0, 1) := by decide +kernel
theorem d1_5 : decode prog_28_method_1_code 5 = .ok (.iload_n 1, 1) := by decide +kernel
theorem d1_6 : decode prog_28_method_1_code 6 = .ok (.newarray .long, 2) := by decide +kernel
theorem d1_8 : decode prog_28_method_1_code 8 = .ok (.putfield 7, 3) := by decide +kernel
theorem d1_11 : decode prog_28_method_1_code 11 = .ok (.aload_n 0, 1) := by decide +kernel
theorem d1_12 : decode prog_28_method_1_code 12 = .ok (.iload_n 1, 1) := by decide +kernel
theorem d1_13 : decode prog_28_method_1_code 13 = .ok (.newarray .byte, 2) := by decide +kernel
theorem d1_15 : decode prog_28_method_1_code 15 = .ok (.putfield 13, 3) := by decide +kernel
theorem d1_18 : decode prog_28_method_1_code 18 = .ok (.aload_n 0, 1) := by decide +kernel
theorem d1_19 : decode prog_28_method_1_code 19 = .ok (.iload_n 1, 1) := by decide +kernel
theorem d1_20 : decode prog_28_method_1_code 20 = .ok (.putfield 17, 3) := by decide +kernel
theorem d1_23 : decode prog_28_method_1_code 23 = .ok (.return_, 1) := by decide +kernel
theorem pn_1 : plainFor (⟨"com/example/forebound/forebound/problem/Sum", "<init>", "(I)V"⟩ : MethodName) = true := plainFor_of_name (by first | (simp [plainName, overriddenIn]; done) | decide +kernel)
set_option maxRecDepth 65536 in
set_option maxHeartbeats 8000000 in
theorem rm1_1 (l : Launch) (Z : State) (a0 : Array Value) (hw : ∀ d ∈ tables_1, d.before a0 Z = true) (n0 : Nat) (r0 : Addr) (RR : Obs) :
    Triple l Z n0 (⟨"com/example/forebound/forebound/problem/Sum", "<init>", "(I)V"⟩ : MethodName) prog_28_method_1_code 2 none ({ frames := 1, cells := 2, slots := 8, locals := 12 } : Room) 2 8 [(.ref r0), (.int (4 : Int32))] ((r0, ob1 .null .null (.int (0 : Int32)) (.long (0 : Int64)) (.long (0 : Int64)) (.long (0 : Int64)) .null .null) :: RR) (fun v L' => ∃ b2 b1 : Addr, v = none ∧ L' = ((b2, .inr (.byte, [(.int (0 : Int32)), (.int (0 : Int32)), (.int (0 : Int32)), (.int (0 : Int32))])) :: (b1, .inr (.long, [(.long (0 : Int64)), (.long (0 : Int64)), (.long (0 : Int64)), (.long (0 : Int64))])) :: (r0, ob1 (.ref b1) (.ref b2) (.int (4 : Int32)) (.long (0 : Int64)) (.long (0 : Int64)) (.long (0 : Int64)) .null .null) :: RR)) := by
  refine Triple.of_body (tbl := tables_1) (a0 := a0) (Ls := #[.val (.ref r0), .val (.int (4 : Int32))]) pn_1 hw rfl ?_
  intro p e s m below meth c T A
  refine A.aloadN (q := 1) d1_0 rfl rfl rfl ?_
  refine A.initObj (q := 4) (w1 := 6) (w2 := 7) (w3 := 8) (W := 0) d1_1 rfl rfl rfl rfl rfl rfl (by decide) (by decide) ?_
  intro T A
  refine A.aloadN (q := 5) d1_4 rfl rfl rfl ?_
  refine A.iloadN (q := 6) d1_5 rfl rfl ?_
  refine A.newA (q := 8) (w := 9) (cap := 4) (ty := .long) (vs := [(.long (0 : Int64)), (.long (0 : Int64)), (.long (0 : Int64)), (.long (0 : Int64))]) d1_6 rfl rfl rfl (by decide) (by decide) (by decide) rfl (by decide) (by decide) ?_
  intro T b1 A
  refine A.putF (q := 11) (w := 10) (w2 := 11) (w3 := 1) (i := 1) (j := 0) (ty := (.array .long)) (v' := (.ref b1)) (L' := ((b1, .inr (.long, [(.long (0 : Int64)), (.long (0 : Int64)), (.long (0 : Int64)), (.long (0 : Int64))])) :: (r0, ob1 (.ref b1) .null (.int (0 : Int32)) (.long (0 : Int64)) (.long (0 : Int64)) (.long (0 : Int64)) .null .null) :: RR)) d1_8 rfl rfl rfl rfl (lay_0 Z a0 hw) (Or.inr ⟨rfl, rfl, rfl⟩) rfl (by decide) rfl rfl rfl ?_
  intro T A
  refine A.aloadN (q := 12) d1_11 rfl rfl rfl ?_
  refine A.iloadN (q := 13) d1_12 rfl rfl ?_
  refine A.newA (q := 15) (w := 12) (cap := 4) (ty := .byte) (vs := [(.int (0 : Int32)), (.int (0 : Int32)), (.int (0 : Int32)), (.int (0 : Int32))]) d1_13 rfl rfl rfl (by decide) (by decide) (by decide) rfl (by decide) (by decide) ?_
  intro T b2 A
  refine A.putF (q := 18) (w := 13) (w2 := 14) (w3 := 1) (i := 2) (j := 1) (ty := (.array .byte)) (v' := (.ref b2)) (L' := ((b2, .inr (.byte, [(.int (0 : Int32)), (.int (0 : Int32)), (.int (0 : Int32)), (.int (0 : Int32))])) :: (b1, .inr (.long, [(.long (0 : Int64)), (.long (0 : Int64)), (.long (0 : Int64)), (.long (0 : Int64))])) :: (r0, ob1 (.ref b1) (.ref b2) (.int (0 : Int32)) (.long (0 : Int64)) (.long (0 : Int64)) (.long (0 : Int64)) .null .null) :: RR)) d1_15 rfl rfl rfl rfl (lay_0 Z a0 hw) (Or.inr ⟨rfl, rfl, rfl⟩) rfl (by decide) rfl rfl rfl ?_
  intro T A
  refine A.aloadN (q := 19) d1_18 rfl rfl rfl ?_
  refine A.iloadN (q := 20) d1_19 rfl rfl ?_
  refine A.putF (q := 23) (w := 15) (w2 := 16) (w3 := 1) (i := 2) (j := 2) (ty := .int) (v' := (.int (4 : Int32))) (L' := ((b2, .inr (.byte, [(.int (0 : Int32)), (.int (0 : Int32)), (.int (0 : Int32)), (.int (0 : Int32))])) :: (b1, .inr (.long, [(.long (0 : Int64)), (.long (0 : Int64)), (.long (0 : Int64)), (.long (0 : Int64))])) :: (r0, ob1 (.ref b1) (.ref b2) (.int (4 : Int32)) (.long (0 : Int64)) (.long (0 : Int64)) (.long (0 : Int64)) .null .null) :: RR)) d1_20 rfl rfl rfl rfl (lay_0 Z a0 hw) (Or.inl rfl) rfl (by decide) rfl rfl rfl ?_
  intro T A
  exact A.retV d1_23 (by decide) (by decide) ⟨b2, b1, rfl, rfl⟩
theorem pd_15 : parseMethodDescriptor "(I)Lcom/example/forebound/forebound/problem/Problem$Table;" = some ⟨[.int], some (.object "com/example/forebound/forebound/problem/Problem$Table")⟩ := by decide +kernel
theorem pn_0 : plainFor (⟨"com/example/forebound/forebound/problem/SumForbiddenPinLaw", "law", "(III)Z"⟩ : MethodName) = true := plainFor_of_name (by first | (simp [plainName, overriddenIn]; done) | decide +kernel)
set_option maxRecDepth 65536 in
set_option maxHeartbeats 8000000 in
theorem rm0 (l : Launch) (Z : State) (a0 : Array Value) (hw : ∀ d ∈ tables_1, d.before a0 Z = true) (n0 : Nat) (t1 t2 qq : Int32) :
    Triple l Z n0 x code 5 (some .boolean) room_1 40 192 [(.int t1), (.int t2), (.int qq)] [] (fun v _ => v = some (.int 1)) := by
  refine Triple.of_body (tbl := tables_1) (a0 := a0) (Ls := #[.val (.int t1), .val (.int t2), .val (.int qq), .unset, .unset]) pn_0 hw rfl ?_
  intro p e s m below meth c T A
  refine A.newO (q := 3) (w1 := 0) (w2 := 1) (w3 := 2) (n := 8) (fs := [(("com/example/forebound/forebound/problem/Sum", "offsets", "[J"), .null), (("com/example/forebound/forebound/problem/Sum", "flags", "[B"), .null), (("com/example/forebound/forebound/problem/Sum", "allowed", "I"), (.int (0 : Int32))), (("com/example/forebound/forebound/problem/Sum", "shift", "J"), (.long (0 : Int64))), (("com/example/forebound/forebound/problem/Sum", "highest", "J"), (.long (0 : Int64))), (("com/example/forebound/forebound/problem/Sum", "lowest", "J"), (.long (0 : Int64))), (("com/example/forebound/forebound/problem/Sum", "extremes", "Lcom/example/forebound/forebound/problem/Sum$Extremes;"), .null), (("com/example/forebound/forebound/problem/Sum", "survivors", "[I"), .null)]) at_0 rfl rfl rfl rfl (lay_0 Z a0 hw) (by decide) (by decide) (by decide) ?_
  intro T b1 A
  refine A.dup (q := 4) at_3 rfl rfl ?_
  refine A.iconst (q := 5) (v := (4 : Int32)) at_4 rfl (by decide) ?_
  refine A.callI (q := 8) (w1 := 3) (w2 := 4) (w3 := 2) (w4 := 5) (a := b1) (as := [(.int (4 : Int32))]) (st := [(.ref b1)]) (W := 1) at_5 rfl rfl rfl rfl rfl rfl (rm1_1 l Z a0 hw n0 b1 _) (by decide) ⟨_, _, pd_1, rfl⟩ rfl rfl rfl (by decide) (by decide) (by decide) (by decide) ?_
  rintro _ T _ ⟨b2, b3, rfl, rfl⟩ A
  show Go p e below _ (T.setTop (mkF m 8 #[.val (.int t1), .val (.int t2), .val (.int qq), .unset, .unset] [(.ref b1)]))
  refine A.astoreN (q := 9) (l' := #[.val (.int t1), .val (.int t2), .val (.int qq), .val (.ref b1), .unset]) at_8 rfl rfl rfl ?_
  refine A.aloadN (q := 10) at_9 rfl rfl rfl ?_
  refine A.iloadN (q := 11) at_10 rfl rfl ?_
  refine A.iconst (q := 12) (v := (3 : Int32)) at_11 rfl (by decide) ?_
  obtain ⟨v4, e4⟩ : ∃ v : Int32, qq &&& (3 : Int32) = v := ⟨_, rfl⟩
  refine A.iand (q := 13) at_12 rfl e4 ?_
  have A := A.front (i := 2) (L' := [(b1, ob1 (.ref b3) (.ref b2) (.int (4 : Int32)) (.long (0 : Int64)) (.long (0 : Int64)) (.long (0 : Int64)) .null .null), (b2, .inr (.byte, [(.int (0 : Int32)), (.int (0 : Int32)), (.int (0 : Int32)), (.int (0 : Int32))])), (b3, .inr (.long, [(.long (0 : Int64)), (.long (0 : Int64)), (.long (0 : Int64)), (.long (0 : Int64))]))]) rfl rfl
  refine A.callV (q := 16) (i := 0) (w1 := 17) (w2 := 18) (w3 := 2) (w4 := 21) (w5 := 20) (w6 := 19) (a := b1) (as := [(.int v4)]) (st := []) (W := 0) at_13 rfl rfl rfl rfl rfl rfl rfl rfl (rmF l Z a0 hw n0 b1 v4 b3 b2 (4 : Int32) (0 : Int64) (0 : Int64) (0 : Int64) .null .null [(0 : Int32), (0 : Int32), (0 : Int32), (0 : Int32)] _ (own_a3 e4).1 (own_a3 e4).2) (by decide) ⟨_, _, pd_2, rfl⟩ rfl rfl rfl (by decide) (by decide) (by decide) (by decide) ?_
  rintro _ T _ ⟨rfl, rfl⟩ A
  show Go p e below _ (T.setTop (mkF m 16 #[.val (.int t1), .val (.int t2), .val (.int qq), .val (.ref b1), .unset] [(.int (FF v4 [(0 : Int32), (0 : Int32), (0 : Int32), (0 : Int32)]))]))
  obtain ⟨v5, e5⟩ : ∃ v : Int32, (FF v4 [(0 : Int32), (0 : Int32), (0 : Int32), (0 : Int32)]) = v := ⟨_, rfl⟩
  rw [e5]
  refine A.istore (q := 18) (l' := #[.val (.int t1), .val (.int t2), .val (.int qq), .val (.ref b1), .val (.int v5)]) at_16 rfl rfl ?_
  refine A.aloadN (q := 19) at_18 rfl rfl rfl ?_
  refine A.iloadN (q := 20) at_19 rfl rfl ?_
  refine A.callS (q := 23) (w1 := 22) (w2 := 23) (w3 := 24) (w4 := 25) (as := [(.int t1)]) (st := [(.ref b1)]) (W := 1) at_20 rfl rfl rfl rfl rfl (rmT l Z a0 hw n0 t1 _) (by decide) ⟨_, _, pd_15, rfl⟩ rfl rfl rfl (by decide) (by decide) (by decide) (by decide) ?_
  rintro _ T _ ⟨b6, b7, b8, b9, rfl, rfl⟩ A
  show Go p e below _ (T.setTop (mkF m 23 #[.val (.int t1), .val (.int t2), .val (.int qq), .val (.ref b1), .val (.int v5)] [(.ref b6), (.ref b1)]))
  obtain ⟨pg1, pa1, pb1, f1, f2, d1, hq1, hp1, ha1, hb1, hc1, hA1, hB1, hu1, hv1, hd1, hy1⟩ := own_tab t1
  rw [hq1, hp1, ha1, hb1, hc1] at A
  obtain ⟨fo0, al0, hfo0, hal0, hm0, hc0⟩ := own_s00
  have A : Here p l e room_1 s m ([(.int t1), (.int t2), (.int qq)] : List Value).toArray below meth c Z a0 tables_1 x.cls x.name code 5 (some .boolean) n0 T [(b6, ob0 (.ref b7) (.ref b8) (.ref b9) (.long (0 : Int64)) (.int d1)), (b7, .inr (.int, [(.int pa1), (.int pb1)])), (b8, .inr (.long, [(.long (0 : Int64)), (.long (0 : Int64))])), (b9, .inr (.boolean, [(.int f1), (.int f2)])), (b1, ob1 (.ref b3) (.ref b2) (.int al0) (.long (0 : Int64)) (.long (0 : Int64)) (.long (0 : Int64)) .null .null), (b2, .inr (.byte, List.map Value.int fo0)), (b3, .inr (.long, List.map Value.long (z4)))] 7 27 := by rw [hm0, hc0]; exact A
  rcases hd1 with rfl | rfl
  · have A := A.front (i := 3) rfl rfl
    have A := A.front (i := 3) rfl rfl
    have A := A.front (i := 3) rfl rfl
    have A := A.front (i := 3) rfl rfl
    have A := A.front (i := 5) rfl rfl
    have A := A.front (i := 6) rfl rfl
    have A := A.front (i := 6) (L' := [(b1, ob1 (.ref b3) (.ref b2) (.int al0) (.long (0 : Int64)) (.long (0 : Int64)) (.long (0 : Int64)) .null .null), (b3, .inr (.long, List.map Value.long (z4))), (b2, .inr (.byte, List.map Value.int fo0)), (b6, ob0 (.ref b7) (.ref b8) (.ref b9) (.long (0 : Int64)) (.int (0 : Int32))), (b7, .inr (.int, [(.int pa1), (.int pb1)])), (b8, .inr (.long, [(.long (0 : Int64)), (.long (0 : Int64))])), (b9, .inr (.boolean, [(.int f1), (.int f2)]))]) rfl rfl
    refine A.callVW (q := 26) (i := 0) (w1 := 59) (w2 := 60) (w3 := 2) (w4 := 63) (w5 := 62) (w6 := 61) (a := b1) (as := [(.ref b6)]) (st := []) (W := 0) at_23 rfl rfl rfl rfl rfl rfl rfl rfl (rmD0 l Z a0 hw n0 b1 b6 b3 b2 al0 (0 : Int64) (0 : Int64) .null fo0 b7 b8 b9 pa1 pb1 f1 f2 (0 : Fin 28) pg1 _ hfo0 hA1 hB1 hal0 hu1 hv1 trivial) (by decide) ⟨_, _, pd_11, rfl⟩ rfl rfl rfl (by decide) (by decide) (by decide) (by decide) ?_
    rintro _ T _ ⟨v10, v11, rfl, rfl⟩ A
    show Go p e below _ (T.setTop (mkF m 26 #[.val (.int t1), .val (.int t2), .val (.int qq), .val (.ref b1), .val (.int v5)] []))
    obtain ⟨sg, fo1, al1, hS, hfo1, hal1, hr, hm1, hcn⟩ := own_nxa hfo0 hA1 hB1 hu1 hv1
    rw [hm1, hcn] at A
    have A : Here p l e room_1 s m ([(.int t1), (.int t2), (.int qq)] : List Value).toArray below meth c Z a0 tables_1 x.cls x.name code 5 (some .boolean) n0 T [(b6, ob0 (.ref b7) (.ref b8) (.ref b9) (.long (0 : Int64)) (.int (0 : Int32))), (b7, .inr (.int, [(.int pa1), (.int pb1)])), (b8, .inr (.long, [(.long (0 : Int64)), (.long (0 : Int64))])), (b9, .inr (.boolean, [(.int f1), (.int f2)])), (b1, ob1 (.ref b3) (.ref b2) (.int al1) (.long (0 : Int64)) (.long v10) (.long v11) .null .null), (b3, .inr (.long, List.map Value.long (z4))), (b2, .inr (.byte, List.map Value.int fo1))] 7 27 := A
    refine A.aloadN (q := 27) at_26 rfl rfl rfl ?_
    refine A.iloadN (q := 28) at_27 rfl rfl ?_
    refine A.callS (q := 31) (w1 := 22) (w2 := 23) (w3 := 24) (w4 := 25) (as := [(.int t2)]) (st := [(.ref b1)]) (W := 1) at_28 rfl rfl rfl rfl rfl (rmT l Z a0 hw n0 t2 _) (by decide) ⟨_, _, pd_15, rfl⟩ rfl rfl rfl (by decide) (by decide) (by decide) (by decide) ?_
    rintro _ T _ ⟨b12, b13, b14, b15, rfl, rfl⟩ A
    show Go p e below _ (T.setTop (mkF m 31 #[.val (.int t1), .val (.int t2), .val (.int qq), .val (.ref b1), .val (.int v5)] [(.ref b12), (.ref b1)]))
    obtain ⟨pg2, pa2, pb2, g1, g2, d2, hq2, hp2, ha2, hb2, hc2, hA2, hB2, hu2, hv2, hd2, hy2⟩ := own_tab t2
    rw [hq2, hp2, ha2, hb2, hc2] at A
    have A : Here p l e room_1 s m ([(.int t1), (.int t2), (.int qq)] : List Value).toArray below meth c Z a0 tables_1 x.cls x.name code 5 (some .boolean) n0 T [(b12, ob0 (.ref b13) (.ref b14) (.ref b15) (.long (0 : Int64)) (.int d2)), (b13, .inr (.int, [(.int pa2), (.int pb2)])), (b14, .inr (.long, [(.long (0 : Int64)), (.long (0 : Int64))])), (b15, .inr (.boolean, [(.int g1), (.int g2)])), (b6, ob0 (.ref b7) (.ref b8) (.ref b9) (.long (0 : Int64)) (.int (0 : Int32))), (b7, .inr (.int, [(.int pa1), (.int pb1)])), (b8, .inr (.long, [(.long (0 : Int64)), (.long (0 : Int64))])), (b9, .inr (.boolean, [(.int f1), (.int f2)])), (b1, ob1 (.ref b3) (.ref b2) (.int al1) (.long (0 : Int64)) (.long v10) (.long v11) .null .null), (b3, .inr (.long, List.map Value.long (z4))), (b2, .inr (.byte, List.map Value.int fo1))] 11 38 := A
    rcases hd2 with rfl | rfl
    · have A := A.front (i := 3) rfl rfl
      have A := A.front (i := 3) rfl rfl
      have A := A.front (i := 3) rfl rfl
      have A := A.front (i := 3) rfl rfl
      have A := A.front (i := 10) rfl rfl
      have A := A.front (i := 10) rfl rfl
      have A := A.front (i := 10) (L' := [(b1, ob1 (.ref b3) (.ref b2) (.int al1) (.long (0 : Int64)) (.long v10) (.long v11) .null .null), (b3, .inr (.long, List.map Value.long (z4))), (b2, .inr (.byte, List.map Value.int fo1)), (b12, ob0 (.ref b13) (.ref b14) (.ref b15) (.long (0 : Int64)) (.int (0 : Int32))), (b13, .inr (.int, [(.int pa2), (.int pb2)])), (b14, .inr (.long, [(.long (0 : Int64)), (.long (0 : Int64))])), (b15, .inr (.boolean, [(.int g1), (.int g2)])), (b6, ob0 (.ref b7) (.ref b8) (.ref b9) (.long (0 : Int64)) (.int (0 : Int32))), (b7, .inr (.int, [(.int pa1), (.int pb1)])), (b8, .inr (.long, [(.long (0 : Int64)), (.long (0 : Int64))])), (b9, .inr (.boolean, [(.int f1), (.int f2)]))]) rfl rfl
      refine A.callVW (q := 34) (i := 0) (w1 := 59) (w2 := 60) (w3 := 2) (w4 := 63) (w5 := 62) (w6 := 61) (a := b1) (as := [(.ref b12)]) (st := []) (W := 0) at_31 rfl rfl rfl rfl rfl rfl rfl rfl (rmD0 l Z a0 hw n0 b1 b12 b3 b2 al1 v10 v11 .null fo1 b13 b14 b15 pa2 pb2 g1 g2 sg pg2 _ hfo1 hA2 hB2 hal1 hu2 hv2 trivial) (by decide) ⟨_, _, pd_11, rfl⟩ rfl rfl rfl (by decide) (by decide) (by decide) (by decide) ?_
      rintro _ T _ ⟨v16, v17, rfl, rfl⟩ A
      show Go p e below _ (T.setTop (mkF m 34 #[.val (.int t1), .val (.int t2), .val (.int qq), .val (.ref b1), .val (.int v5)] []))
      obtain ⟨lf, hlf⟩ : ∃ z : List Int32, (umL (l2L (mkL fo1 pa2 pb2) pa2 pb2 g1 g2) pa2 pb2) = z := ⟨_, rfl⟩
      rw [hlf] at A
      have hl := (own_rO0 g1 g2 hfo1 hA2 hB2).trans hlf
      have hll := own_rlen hl
      have A : Here p l e room_1 s m ([(.int t1), (.int t2), (.int qq)] : List Value).toArray below meth c Z a0 tables_1 x.cls x.name code 5 (some .boolean) n0 T [(b12, ob0 (.ref b13) (.ref b14) (.ref b15) (.long (0 : Int64)) (.int (0 : Int32))), (b13, .inr (.int, [(.int pa2), (.int pb2)])), (b14, .inr (.long, [(.long (0 : Int64)), (.long (0 : Int64))])), (b15, .inr (.boolean, [(.int g1), (.int g2)])), (b1, ob1 (.ref b3) (.ref b2) (.int (cnt (l2L (mkL fo1 pa2 pb2) pa2 pb2 g1 g2))) (.long (0 : Int64)) (.long v16) (.long v17) .null .null), (b3, .inr (.long, List.map Value.long (z4))), (b2, .inr (.byte, List.map Value.int lf)), (b6, ob0 (.ref b7) (.ref b8) (.ref b9) (.long (0 : Int64)) (.int (0 : Int32))), (b7, .inr (.int, [(.int pa1), (.int pb1)])), (b8, .inr (.long, [(.long (0 : Int64)), (.long (0 : Int64))])), (b9, .inr (.boolean, [(.int f1), (.int f2)]))] 11 38 := A
      refine A.iload (q := 36) at_34 rfl rfl ?_
      refine A.if_ne (q := 39) (r := 159) at_36 rfl (by decide) (fun h => (h (own_bef e4 e5)).elim) (fun _ => ?_)
      refine A.aloadN (q := 40) at_39 rfl rfl rfl ?_
      refine A.iconst (q := 41) (v := (0 : Int32)) at_40 rfl (by decide) ?_
      have A := A.front (i := 6) rfl rfl
      have A := A.front (i := 5) (L' := [(b1, ob1 (.ref b3) (.ref b2) (.int (cnt (l2L (mkL fo1 pa2 pb2) pa2 pb2 g1 g2))) (.long (0 : Int64)) (.long v16) (.long v17) .null .null), (b2, .inr (.byte, List.map Value.int lf)), (b12, ob0 (.ref b13) (.ref b14) (.ref b15) (.long (0 : Int64)) (.int (0 : Int32))), (b13, .inr (.int, [(.int pa2), (.int pb2)])), (b14, .inr (.long, [(.long (0 : Int64)), (.long (0 : Int64))])), (b15, .inr (.boolean, [(.int g1), (.int g2)])), (b3, .inr (.long, List.map Value.long (z4))), (b6, ob0 (.ref b7) (.ref b8) (.ref b9) (.long (0 : Int64)) (.int (0 : Int32))), (b7, .inr (.int, [(.int pa1), (.int pb1)])), (b8, .inr (.long, [(.long (0 : Int64)), (.long (0 : Int64))])), (b9, .inr (.boolean, [(.int f1), (.int f2)]))]) rfl rfl
      refine A.callV (q := 44) (i := 0) (w1 := 17) (w2 := 18) (w3 := 2) (w4 := 21) (w5 := 20) (w6 := 19) (a := b1) (as := [(.int (0 : Int32))]) (st := []) (W := 0) at_41 rfl rfl rfl rfl rfl rfl rfl rfl (rmF l Z a0 hw n0 b1 (0 : Int32) b3 b2 (cnt (l2L (mkL fo1 pa2 pb2) pa2 pb2 g1 g2)) (0 : Int64) v16 v17 .null .null lf _ (by decide) (own_rlt hll _ (by decide))) (by decide) ⟨_, _, pd_2, rfl⟩ rfl rfl rfl (by decide) (by decide) (by decide) (by decide) ?_
      rintro _ T _ ⟨rfl, rfl⟩ A
      show Go p e below _ (T.setTop (mkF m 44 #[.val (.int t1), .val (.int t2), .val (.int qq), .val (.ref b1), .val (.int v5)] [(.int (FF (0 : Int32) lf))]))
      obtain ⟨v19, e19⟩ : ∃ v : Int32, (FF (0 : Int32) lf) = v := ⟨_, rfl⟩
      rw [e19]
      have J44_24 : ∀ (T : State) (j24 : Int32), j24 = (if ((FY t1 (0 : Int32))) = (0 : Int32) then (if ((FY t2 (0 : Int32))) = (0 : Int32) then (0 : Int32) else (1 : Int32)) else (1 : Int32)) → Here p l e room_1 s m ([(.int t1), (.int t2), (.int qq)] : List Value).toArray below meth c Z a0 tables_1 x.cls x.name code 5 (some .boolean) n0 T [(b1, ob1 (.ref b3) (.ref b2) (.int (cnt (l2L (mkL fo1 pa2 pb2) pa2 pb2 g1 g2))) (.long (0 : Int64)) (.long v16) (.long v17) .null .null), (b2, .inr (.byte, List.map Value.int lf)), (b12, ob0 (.ref b13) (.ref b14) (.ref b15) (.long (0 : Int64)) (.int (0 : Int32))), (b13, .inr (.int, [(.int pa2), (.int pb2)])), (b14, .inr (.long, [(.long (0 : Int64)), (.long (0 : Int64))])), (b15, .inr (.boolean, [(.int g1), (.int g2)])), (b3, .inr (.long, List.map Value.long (z4))), (b6, ob0 (.ref b7) (.ref b8) (.ref b9) (.long (0 : Int64)) (.int (0 : Int32))), (b7, .inr (.int, [(.int pa1), (.int pb1)])), (b8, .inr (.long, [(.long (0 : Int64)), (.long (0 : Int64))])), (b9, .inr (.boolean, [(.int f1), (.int f2)]))] 11 38 → Go p e below (EndS below s n0 Z 40 192 (fun v _ => v = some (.int 1))) (T.setTop (mkF m 65 #[.val (.int t1), .val (.int t2), .val (.int qq), .val (.ref b1), .val (.int v5)] [(.int j24), (.int v19)])) := by
       intro T j24 ej24 A
       have z_j24 : nar .boolean j24 = j24 := by rw [ej24]; (repeat' split) <;> first | decide | assumption
       refine A.icmpF (q := 68) at_65 rfl (teq (by rw [← e19, ej24]; exact own_e0 hr hl hu1 hv1 (Or.inl rfl) hu2 hv2 (Or.inl rfl) hy1 hy2 : v19 = j24)).2 ?_
       refine A.aloadN (q := 69) at_68 rfl rfl rfl ?_
       refine A.iconst (q := 70) (v := (1 : Int32)) at_69 rfl (by decide) ?_
       refine A.callV (q := 73) (i := 0) (w1 := 17) (w2 := 18) (w3 := 2) (w4 := 21) (w5 := 20) (w6 := 19) (a := b1) (as := [(.int (1 : Int32))]) (st := []) (W := 0) at_70 rfl rfl rfl rfl rfl rfl rfl rfl (rmF l Z a0 hw n0 b1 (1 : Int32) b3 b2 (cnt (l2L (mkL fo1 pa2 pb2) pa2 pb2 g1 g2)) (0 : Int64) v16 v17 .null .null lf _ (by decide) (own_rlt hll _ (by decide))) (by decide) ⟨_, _, pd_2, rfl⟩ rfl rfl rfl (by decide) (by decide) (by decide) (by decide) ?_
       rintro _ T _ ⟨rfl, rfl⟩ A
       show Go p e below _ (T.setTop (mkF m 73 #[.val (.int t1), .val (.int t2), .val (.int qq), .val (.ref b1), .val (.int v5)] [(.int (FF (1 : Int32) lf))]))
       obtain ⟨v26, e26⟩ : ∃ v : Int32, (FF (1 : Int32) lf) = v := ⟨_, rfl⟩
       rw [e26]
       have J73_31 : ∀ (T : State) (j31 : Int32), j31 = (if ((FY t1 (1 : Int32))) = (0 : Int32) then (if ((FY t2 (1 : Int32))) = (0 : Int32) then (0 : Int32) else (1 : Int32)) else (1 : Int32)) → Here p l e room_1 s m ([(.int t1), (.int t2), (.int qq)] : List Value).toArray below meth c Z a0 tables_1 x.cls x.name code 5 (some .boolean) n0 T [(b1, ob1 (.ref b3) (.ref b2) (.int (cnt (l2L (mkL fo1 pa2 pb2) pa2 pb2 g1 g2))) (.long (0 : Int64)) (.long v16) (.long v17) .null .null), (b2, .inr (.byte, List.map Value.int lf)), (b12, ob0 (.ref b13) (.ref b14) (.ref b15) (.long (0 : Int64)) (.int (0 : Int32))), (b13, .inr (.int, [(.int pa2), (.int pb2)])), (b14, .inr (.long, [(.long (0 : Int64)), (.long (0 : Int64))])), (b15, .inr (.boolean, [(.int g1), (.int g2)])), (b3, .inr (.long, List.map Value.long (z4))), (b6, ob0 (.ref b7) (.ref b8) (.ref b9) (.long (0 : Int64)) (.int (0 : Int32))), (b7, .inr (.int, [(.int pa1), (.int pb1)])), (b8, .inr (.long, [(.long (0 : Int64)), (.long (0 : Int64))])), (b9, .inr (.boolean, [(.int f1), (.int f2)]))] 11 38 → Go p e below (EndS below s n0 Z 40 192 (fun v _ => v = some (.int 1))) (T.setTop (mkF m 94 #[.val (.int t1), .val (.int t2), .val (.int qq), .val (.ref b1), .val (.int v5)] [(.int j31), (.int v26)])) := by
        intro T j31 ej31 A
        have z_j31 : nar .boolean j31 = j31 := by rw [ej31]; (repeat' split) <;> first | decide | assumption
        refine A.icmpF (q := 97) at_94 rfl (teq (by rw [← e26, ej31]; exact own_e1 hr hl hu1 hv1 (Or.inl rfl) hu2 hv2 (Or.inl rfl) hy1 hy2 : v26 = j31)).2 ?_
        refine A.aloadN (q := 98) at_97 rfl rfl rfl ?_
        refine A.iconst (q := 99) (v := (2 : Int32)) at_98 rfl (by decide) ?_
        refine A.callV (q := 102) (i := 0) (w1 := 17) (w2 := 18) (w3 := 2) (w4 := 21) (w5 := 20) (w6 := 19) (a := b1) (as := [(.int (2 : Int32))]) (st := []) (W := 0) at_99 rfl rfl rfl rfl rfl rfl rfl rfl (rmF l Z a0 hw n0 b1 (2 : Int32) b3 b2 (cnt (l2L (mkL fo1 pa2 pb2) pa2 pb2 g1 g2)) (0 : Int64) v16 v17 .null .null lf _ (by decide) (own_rlt hll _ (by decide))) (by decide) ⟨_, _, pd_2, rfl⟩ rfl rfl rfl (by decide) (by decide) (by decide) (by decide) ?_
        rintro _ T _ ⟨rfl, rfl⟩ A
        show Go p e below _ (T.setTop (mkF m 102 #[.val (.int t1), .val (.int t2), .val (.int qq), .val (.ref b1), .val (.int v5)] [(.int (FF (2 : Int32) lf))]))
        obtain ⟨v33, e33⟩ : ∃ v : Int32, (FF (2 : Int32) lf) = v := ⟨_, rfl⟩
        rw [e33]
        have J102_38 : ∀ (T : State) (j38 : Int32), j38 = (if ((FY t1 (2 : Int32))) = (0 : Int32) then (if ((FY t2 (2 : Int32))) = (0 : Int32) then (0 : Int32) else (1 : Int32)) else (1 : Int32)) → Here p l e room_1 s m ([(.int t1), (.int t2), (.int qq)] : List Value).toArray below meth c Z a0 tables_1 x.cls x.name code 5 (some .boolean) n0 T [(b1, ob1 (.ref b3) (.ref b2) (.int (cnt (l2L (mkL fo1 pa2 pb2) pa2 pb2 g1 g2))) (.long (0 : Int64)) (.long v16) (.long v17) .null .null), (b2, .inr (.byte, List.map Value.int lf)), (b12, ob0 (.ref b13) (.ref b14) (.ref b15) (.long (0 : Int64)) (.int (0 : Int32))), (b13, .inr (.int, [(.int pa2), (.int pb2)])), (b14, .inr (.long, [(.long (0 : Int64)), (.long (0 : Int64))])), (b15, .inr (.boolean, [(.int g1), (.int g2)])), (b3, .inr (.long, List.map Value.long (z4))), (b6, ob0 (.ref b7) (.ref b8) (.ref b9) (.long (0 : Int64)) (.int (0 : Int32))), (b7, .inr (.int, [(.int pa1), (.int pb1)])), (b8, .inr (.long, [(.long (0 : Int64)), (.long (0 : Int64))])), (b9, .inr (.boolean, [(.int f1), (.int f2)]))] 11 38 → Go p e below (EndS below s n0 Z 40 192 (fun v _ => v = some (.int 1))) (T.setTop (mkF m 123 #[.val (.int t1), .val (.int t2), .val (.int qq), .val (.ref b1), .val (.int v5)] [(.int j38), (.int v33)])) := by
         intro T j38 ej38 A
         have z_j38 : nar .boolean j38 = j38 := by rw [ej38]; (repeat' split) <;> first | decide | assumption
         refine A.icmpF (q := 126) at_123 rfl (teq (by rw [← e33, ej38]; exact own_e2 hr hl hu1 hv1 (Or.inl rfl) hu2 hv2 (Or.inl rfl) hy1 hy2 : v33 = j38)).2 ?_
         refine A.aloadN (q := 127) at_126 rfl rfl rfl ?_
         refine A.iconst (q := 128) (v := (3 : Int32)) at_127 rfl (by decide) ?_
         refine A.callV (q := 131) (i := 0) (w1 := 17) (w2 := 18) (w3 := 2) (w4 := 21) (w5 := 20) (w6 := 19) (a := b1) (as := [(.int (3 : Int32))]) (st := []) (W := 0) at_128 rfl rfl rfl rfl rfl rfl rfl rfl (rmF l Z a0 hw n0 b1 (3 : Int32) b3 b2 (cnt (l2L (mkL fo1 pa2 pb2) pa2 pb2 g1 g2)) (0 : Int64) v16 v17 .null .null lf _ (by decide) (own_rlt hll _ (by decide))) (by decide) ⟨_, _, pd_2, rfl⟩ rfl rfl rfl (by decide) (by decide) (by decide) (by decide) ?_
         rintro _ T _ ⟨rfl, rfl⟩ A
         show Go p e below _ (T.setTop (mkF m 131 #[.val (.int t1), .val (.int t2), .val (.int qq), .val (.ref b1), .val (.int v5)] [(.int (FF (3 : Int32) lf))]))
         obtain ⟨v40, e40⟩ : ∃ v : Int32, (FF (3 : Int32) lf) = v := ⟨_, rfl⟩
         rw [e40]
         have J131_45 : ∀ (T : State) (j45 : Int32), j45 = (if ((FY t1 (3 : Int32))) = (0 : Int32) then (if ((FY t2 (3 : Int32))) = (0 : Int32) then (0 : Int32) else (1 : Int32)) else (1 : Int32)) → Here p l e room_1 s m ([(.int t1), (.int t2), (.int qq)] : List Value).toArray below meth c Z a0 tables_1 x.cls x.name code 5 (some .boolean) n0 T [(b1, ob1 (.ref b3) (.ref b2) (.int (cnt (l2L (mkL fo1 pa2 pb2) pa2 pb2 g1 g2))) (.long (0 : Int64)) (.long v16) (.long v17) .null .null), (b2, .inr (.byte, List.map Value.int lf)), (b12, ob0 (.ref b13) (.ref b14) (.ref b15) (.long (0 : Int64)) (.int (0 : Int32))), (b13, .inr (.int, [(.int pa2), (.int pb2)])), (b14, .inr (.long, [(.long (0 : Int64)), (.long (0 : Int64))])), (b15, .inr (.boolean, [(.int g1), (.int g2)])), (b3, .inr (.long, List.map Value.long (z4))), (b6, ob0 (.ref b7) (.ref b8) (.ref b9) (.long (0 : Int64)) (.int (0 : Int32))), (b7, .inr (.int, [(.int pa1), (.int pb1)])), (b8, .inr (.long, [(.long (0 : Int64)), (.long (0 : Int64))])), (b9, .inr (.boolean, [(.int f1), (.int f2)]))] 11 38 → Go p e below (EndS below s n0 Z 40 192 (fun v _ => v = some (.int 1))) (T.setTop (mkF m 152 #[.val (.int t1), .val (.int t2), .val (.int qq), .val (.ref b1), .val (.int v5)] [(.int j45), (.int v40)])) := by
          intro T j45 ej45 A
          have z_j45 : nar .boolean j45 = j45 := by rw [ej45]; (repeat' split) <;> first | decide | assumption
          refine A.icmpF (q := 155) at_152 rfl (teq (by rw [← e40, ej45]; exact own_e3 hr hl hu1 hv1 (Or.inl rfl) hu2 hv2 (Or.inl rfl) hy1 hy2 : v40 = j45)).2 ?_
          refine A.iconst (q := 156) (v := (1 : Int32)) at_155 rfl (by decide) ?_
          refine A.goto (r := 160) at_156 (by decide) ?_
          exact A.retZ (v := 1) at_160 (by decide) (by decide) (by decide) rfl
         refine A.iloadN (q := 132) at_131 rfl rfl ?_
         refine A.iconst (q := 133) (v := (3 : Int32)) at_132 rfl (by decide) ?_
         refine A.callS (q := 136) (w1 := 123) (w2 := 124) (w3 := 24) (w4 := 125) (as := [(.int t1), (.int (3 : Int32))]) (st := [(.int v40)]) (W := 1) at_133 rfl rfl rfl rfl rfl (rmY l Z a0 hw n0 t1 (3 : Int32) _) (by decide) ⟨_, _, pd_12, rfl⟩ rfl rfl rfl (by decide) (by decide) (by decide) (by decide) ?_
         rintro _ T _ ⟨rfl, rfl⟩ A
         show Go p e below _ (T.setTop (mkF m 136 #[.val (.int t1), .val (.int t2), .val (.int qq), .val (.ref b1), .val (.int v5)] [(.int (FY t1 (3 : Int32))), (.int v40)]))
         obtain ⟨v41, e41⟩ : ∃ v : Int32, (FY t1 (3 : Int32)) = v := ⟨_, rfl⟩
         rw [e41]
         refine A.if_ne (q := 139) (r := 147) at_136 rfl (by decide) (fun h42 => ?_) (fun h42 => ?_)
         · refine A.iconst (q := 148) (v := (1 : Int32)) at_147 rfl (by decide) ?_
           refine A.goto (r := 152) at_148 (by decide) ?_
           exact J131_45 T _ (by simp only [e41, if_neg h42]) A
         · refine A.iloadN (q := 140) at_139 rfl rfl ?_
           refine A.iconst (q := 141) (v := (3 : Int32)) at_140 rfl (by decide) ?_
           refine A.callS (q := 144) (w1 := 123) (w2 := 124) (w3 := 24) (w4 := 125) (as := [(.int t2), (.int (3 : Int32))]) (st := [(.int v40)]) (W := 1) at_141 rfl rfl rfl rfl rfl (rmY l Z a0 hw n0 t2 (3 : Int32) _) (by decide) ⟨_, _, pd_12, rfl⟩ rfl rfl rfl (by decide) (by decide) (by decide) (by decide) ?_
           rintro _ T _ ⟨rfl, rfl⟩ A
           show Go p e below _ (T.setTop (mkF m 144 #[.val (.int t1), .val (.int t2), .val (.int qq), .val (.ref b1), .val (.int v5)] [(.int (FY t2 (3 : Int32))), (.int v40)]))
           obtain ⟨v43, e43⟩ : ∃ v : Int32, (FY t2 (3 : Int32)) = v := ⟨_, rfl⟩
           rw [e43]
           refine A.if_eq (q := 147) (r := 151) at_144 rfl (by decide) (fun h44 => ?_) (fun h44 => ?_)
           · refine A.iconst (q := 152) (v := (0 : Int32)) at_151 rfl (by decide) ?_
             exact J131_45 T _ (by first | (simp only [e41, e43, if_pos h42, if_pos h44]; done) | (subst e41 e43; simp only [if_pos h42, if_pos h44])) A
           · refine A.iconst (q := 148) (v := (1 : Int32)) at_147 rfl (by decide) ?_
             refine A.goto (r := 152) at_148 (by decide) ?_
             exact J131_45 T _ (by first | (simp only [e41, e43, if_neg h44, if_pos h42]; done) | (subst e41 e43; simp only [if_neg h44, if_pos h42])) A
        refine A.iloadN (q := 103) at_102 rfl rfl ?_
        refine A.iconst (q := 104) (v := (2 : Int32)) at_103 rfl (by decide) ?_
        refine A.callS (q := 107) (w1 := 123) (w2 := 124) (w3 := 24) (w4 := 125) (as := [(.int t1), (.int (2 : Int32))]) (st := [(.int v33)]) (W := 1) at_104 rfl rfl rfl rfl rfl (rmY l Z a0 hw n0 t1 (2 : Int32) _) (by decide) ⟨_, _, pd_12, rfl⟩ rfl rfl rfl (by decide) (by decide) (by decide) (by decide) ?_
        rintro _ T _ ⟨rfl, rfl⟩ A
        show Go p e below _ (T.setTop (mkF m 107 #[.val (.int t1), .val (.int t2), .val (.int qq), .val (.ref b1), .val (.int v5)] [(.int (FY t1 (2 : Int32))), (.int v33)]))
        obtain ⟨v34, e34⟩ : ∃ v : Int32, (FY t1 (2 : Int32)) = v := ⟨_, rfl⟩
        rw [e34]
        refine A.if_ne (q := 110) (r := 118) at_107 rfl (by decide) (fun h35 => ?_) (fun h35 => ?_)
        · refine A.iconst (q := 119) (v := (1 : Int32)) at_118 rfl (by decide) ?_
          refine A.goto (r := 123) at_119 (by decide) ?_
          exact J102_38 T _ (by simp only [e34, if_neg h35]) A
        · refine A.iloadN (q := 111) at_110 rfl rfl ?_
          refine A.iconst (q := 112) (v := (2 : Int32)) at_111 rfl (by decide) ?_
          refine A.callS (q := 115) (w1 := 123) (w2 := 124) (w3 := 24) (w4 := 125) (as := [(.int t2), (.int (2 : Int32))]) (st := [(.int v33)]) (W := 1) at_112 rfl rfl rfl rfl rfl (rmY l Z a0 hw n0 t2 (2 : Int32) _) (by decide) ⟨_, _, pd_12, rfl⟩ rfl rfl rfl (by decide) (by decide) (by decide) (by decide) ?_
          rintro _ T _ ⟨rfl, rfl⟩ A
          show Go p e below _ (T.setTop (mkF m 115 #[.val (.int t1), .val (.int t2), .val (.int qq), .val (.ref b1), .val (.int v5)] [(.int (FY t2 (2 : Int32))), (.int v33)]))
          obtain ⟨v36, e36⟩ : ∃ v : Int32, (FY t2 (2 : Int32)) = v := ⟨_, rfl⟩
          rw [e36]
          refine A.if_eq (q := 118) (r := 122) at_115 rfl (by decide) (fun h37 => ?_) (fun h37 => ?_)
          · refine A.iconst (q := 123) (v := (0 : Int32)) at_122 rfl (by decide) ?_
            exact J102_38 T _ (by first | (simp only [e34, e36, if_pos h35, if_pos h37]; done) | (subst e34 e36; simp only [if_pos h35, if_pos h37])) A
          · refine A.iconst (q := 119) (v := (1 : Int32)) at_118 rfl (by decide) ?_
            refine A.goto (r := 123) at_119 (by decide) ?_
            exact J102_38 T _ (by first | (simp only [e34, e36, if_neg h37, if_pos h35]; done) | (subst e34 e36; simp only [if_neg h37, if_pos h35])) A
       refine A.iloadN (q := 74) at_73 rfl rfl ?_
       refine A.iconst (q := 75) (v := (1 : Int32)) at_74 rfl (by decide) ?_
       refine A.callS (q := 78) (w1 := 123) (w2 := 124) (w3 := 24) (w4 := 125) (as := [(.int t1), (.int (1 : Int32))]) (st := [(.int v26)]) (W := 1) at_75 rfl rfl rfl rfl rfl (rmY l Z a0 hw n0 t1 (1 : Int32) _) (by decide) ⟨_, _, pd_12, rfl⟩ rfl rfl rfl (by decide) (by decide) (by decide) (by decide) ?_
       rintro _ T _ ⟨rfl, rfl⟩ A
       show Go p e below _ (T.setTop (mkF m 78 #[.val (.int t1), .val (.int t2), .val (.int qq), .val (.ref b1), .val (.int v5)] [(.int (FY t1 (1 : Int32))), (.int v26)]))
       obtain ⟨v27, e27⟩ : ∃ v : Int32, (FY t1 (1 : Int32)) = v := ⟨_, rfl⟩
       rw [e27]
       refine A.if_ne (q := 81) (r := 89) at_78 rfl (by decide) (fun h28 => ?_) (fun h28 => ?_)
       · refine A.iconst (q := 90) (v := (1 : Int32)) at_89 rfl (by decide) ?_
         refine A.goto (r := 94) at_90 (by decide) ?_
         exact J73_31 T _ (by simp only [e27, if_neg h28]) A
       · refine A.iloadN (q := 82) at_81 rfl rfl ?_
         refine A.iconst (q := 83) (v := (1 : Int32)) at_82 rfl (by decide) ?_
         refine A.callS (q := 86) (w1 := 123) (w2 := 124) (w3 := 24) (w4 := 125) (as := [(.int t2), (.int (1 : Int32))]) (st := [(.int v26)]) (W := 1) at_83 rfl rfl rfl rfl rfl (rmY l Z a0 hw n0 t2 (1 : Int32) _) (by decide) ⟨_, _, pd_12, rfl⟩ rfl rfl rfl (by decide) (by decide) (by decide) (by decide) ?_
         rintro _ T _ ⟨rfl, rfl⟩ A
         show Go p e below _ (T.setTop (mkF m 86 #[.val (.int t1), .val (.int t2), .val (.int qq), .val (.ref b1), .val (.int v5)] [(.int (FY t2 (1 : Int32))), (.int v26)]))
         obtain ⟨v29, e29⟩ : ∃ v : Int32, (FY t2 (1 : Int32)) = v := ⟨_, rfl⟩
         rw [e29]
         refine A.if_eq (q := 89) (r := 93) at_86 rfl (by decide) (fun h30 => ?_) (fun h30 => ?_)
         · refine A.iconst (q := 94) (v := (0 : Int32)) at_93 rfl (by decide) ?_
           exact J73_31 T _ (by first | (simp only [e27, e29, if_pos h28, if_pos h30]; done) | (subst e27 e29; simp only [if_pos h28, if_pos h30])) A
         · refine A.iconst (q := 90) (v := (1 : Int32)) at_89 rfl (by decide) ?_
           refine A.goto (r := 94) at_90 (by decide) ?_
           exact J73_31 T _ (by first | (simp only [e27, e29, if_neg h30, if_pos h28]; done) | (subst e27 e29; simp only [if_neg h30, if_pos h28])) A
      refine A.iloadN (q := 45) at_44 rfl rfl ?_
      refine A.iconst (q := 46) (v := (0 : Int32)) at_45 rfl (by decide) ?_
      refine A.callS (q := 49) (w1 := 123) (w2 := 124) (w3 := 24) (w4 := 125) (as := [(.int t1), (.int (0 : Int32))]) (st := [(.int v19)]) (W := 1) at_46 rfl rfl rfl rfl rfl (rmY l Z a0 hw n0 t1 (0 : Int32) _) (by decide) ⟨_, _, pd_12, rfl⟩ rfl rfl rfl (by decide) (by decide) (by decide) (by decide) ?_
      rintro _ T _ ⟨rfl, rfl⟩ A
      show Go p e below _ (T.setTop (mkF m 49 #[.val (.int t1), .val (.int t2), .val (.int qq), .val (.ref b1), .val (.int v5)] [(.int (FY t1 (0 : Int32))), (.int v19)]))
      obtain ⟨v20, e20⟩ : ∃ v : Int32, (FY t1 (0 : Int32)) = v := ⟨_, rfl⟩
      rw [e20]
      refine A.if_ne (q := 52) (r := 60) at_49 rfl (by decide) (fun h21 => ?_) (fun h21 => ?_)
      · refine A.iconst (q := 61) (v := (1 : Int32)) at_60 rfl (by decide) ?_
        refine A.goto (r := 65) at_61 (by decide) ?_
        exact J44_24 T _ (by simp only [e20, if_neg h21]) A
      · refine A.iloadN (q := 53) at_52 rfl rfl ?_
        refine A.iconst (q := 54) (v := (0 : Int32)) at_53 rfl (by decide) ?_
        refine A.callS (q := 57) (w1 := 123) (w2 := 124) (w3 := 24) (w4 := 125) (as := [(.int t2), (.int (0 : Int32))]) (st := [(.int v19)]) (W := 1) at_54 rfl rfl rfl rfl rfl (rmY l Z a0 hw n0 t2 (0 : Int32) _) (by decide) ⟨_, _, pd_12, rfl⟩ rfl rfl rfl (by decide) (by decide) (by decide) (by decide) ?_
        rintro _ T _ ⟨rfl, rfl⟩ A
        show Go p e below _ (T.setTop (mkF m 57 #[.val (.int t1), .val (.int t2), .val (.int qq), .val (.ref b1), .val (.int v5)] [(.int (FY t2 (0 : Int32))), (.int v19)]))
        obtain ⟨v22, e22⟩ : ∃ v : Int32, (FY t2 (0 : Int32)) = v := ⟨_, rfl⟩
        rw [e22]
        refine A.if_eq (q := 60) (r := 64) at_57 rfl (by decide) (fun h23 => ?_) (fun h23 => ?_)
        · refine A.iconst (q := 65) (v := (0 : Int32)) at_64 rfl (by decide) ?_
          exact J44_24 T _ (by first | (simp only [e20, e22, if_pos h21, if_pos h23]; done) | (subst e20 e22; simp only [if_pos h21, if_pos h23])) A
        · refine A.iconst (q := 61) (v := (1 : Int32)) at_60 rfl (by decide) ?_
          refine A.goto (r := 65) at_61 (by decide) ?_
          exact J44_24 T _ (by first | (simp only [e20, e22, if_neg h23, if_pos h21]; done) | (subst e20 e22; simp only [if_neg h23, if_pos h21])) A
    · have A := A.front (i := 3) rfl rfl
      have A := A.front (i := 3) rfl rfl
      have A := A.front (i := 3) rfl rfl
      have A := A.front (i := 3) rfl rfl
      have A := A.front (i := 10) rfl rfl
      have A := A.front (i := 10) rfl rfl
      have A := A.front (i := 10) (L' := [(b1, ob1 (.ref b3) (.ref b2) (.int al1) (.long (0 : Int64)) (.long v10) (.long v11) .null .null), (b3, .inr (.long, List.map Value.long (z4))), (b2, .inr (.byte, List.map Value.int fo1)), (b12, ob0 (.ref b13) (.ref b14) (.ref b15) (.long (0 : Int64)) (.int (1 : Int32))), (b13, .inr (.int, [(.int pa2), (.int pb2)])), (b14, .inr (.long, [(.long (0 : Int64)), (.long (0 : Int64))])), (b15, .inr (.boolean, [(.int g1), (.int g2)])), (b6, ob0 (.ref b7) (.ref b8) (.ref b9) (.long (0 : Int64)) (.int (0 : Int32))), (b7, .inr (.int, [(.int pa1), (.int pb1)])), (b8, .inr (.long, [(.long (0 : Int64)), (.long (0 : Int64))])), (b9, .inr (.boolean, [(.int f1), (.int f2)]))]) rfl rfl
      refine A.callVW (q := 34) (i := 0) (w1 := 59) (w2 := 60) (w3 := 2) (w4 := 63) (w5 := 62) (w6 := 61) (a := b1) (as := [(.ref b12)]) (st := []) (W := 0) at_31 rfl rfl rfl rfl rfl rfl rfl rfl (rmDN1 l Z a0 hw n0 b1 b12 b3 b2 al1 v10 v11 fo1 b13 b14 b15 pa2 pb2 g1 g2 sg pg2 _ hfo1 hA2 hB2 hal1 hu2 hv2 hS) (by decide) ⟨_, _, pd_11, rfl⟩ rfl rfl rfl (by decide) (by decide) (by decide) (by decide) ?_
      rintro _ T _ ⟨b47, v48, v49, rfl, rfl⟩ A
      show Go p e below _ (T.setTop (mkF m 34 #[.val (.int t1), .val (.int t2), .val (.int qq), .val (.ref b1), .val (.int v5)] []))
      obtain ⟨lf, hlf⟩ : ∃ z : List Int32, (umL (uL (l2L (mkL fo1 pa2 pb2) pa2 pb2 g1 g2)) pa2 pb2) = z := ⟨_, rfl⟩
      rw [hlf] at A
      have hl := (own_rO1 g1 g2 hfo1 hA2 hB2).trans hlf
      have hll := own_rlen hl
      have A : Here p l e room_1 s m ([(.int t1), (.int t2), (.int qq)] : List Value).toArray below meth c Z a0 tables_1 x.cls x.name code 5 (some .boolean) n0 T [(b12, ob0 (.ref b13) (.ref b14) (.ref b15) (.long (0 : Int64)) (.int (1 : Int32))), (b13, .inr (.int, [(.int pa2), (.int pb2)])), (b14, .inr (.long, [(.long (0 : Int64)), (.long (0 : Int64))])), (b15, .inr (.boolean, [(.int g1), (.int g2)])), (b1, ob1 (.ref b3) (.ref b2) (.int (cnt (uL (l2L (mkL fo1 pa2 pb2) pa2 pb2 g1 g2)))) (.long (0 : Int64)) (.long v48) (.long v49) .null (.ref b47)), (b2, .inr (.byte, List.map Value.int lf)), (b47, .inr (.int, List.map Value.int (svL (uL (l2L (mkL fo1 pa2 pb2) pa2 pb2 g1 g2)) pa2 pb2))), (b3, .inr (.long, List.map Value.long (z4))), (b6, ob0 (.ref b7) (.ref b8) (.ref b9) (.long (0 : Int64)) (.int (0 : Int32))), (b7, .inr (.int, [(.int pa1), (.int pb1)])), (b8, .inr (.long, [(.long (0 : Int64)), (.long (0 : Int64))])), (b9, .inr (.boolean, [(.int f1), (.int f2)]))] 12 40 := A
      refine A.iload (q := 36) at_34 rfl rfl ?_
      refine A.if_ne (q := 39) (r := 159) at_36 rfl (by decide) (fun h => (h (own_bef e4 e5)).elim) (fun _ => ?_)
      refine A.aloadN (q := 40) at_39 rfl rfl rfl ?_
      refine A.iconst (q := 41) (v := (0 : Int32)) at_40 rfl (by decide) ?_
      have A := A.front (i := 5) rfl rfl
      have A := A.front (i := 5) (L' := [(b1, ob1 (.ref b3) (.ref b2) (.int (cnt (uL (l2L (mkL fo1 pa2 pb2) pa2 pb2 g1 g2)))) (.long (0 : Int64)) (.long v48) (.long v49) .null (.ref b47)), (b2, .inr (.byte, List.map Value.int lf)), (b12, ob0 (.ref b13) (.ref b14) (.ref b15) (.long (0 : Int64)) (.int (1 : Int32))), (b13, .inr (.int, [(.int pa2), (.int pb2)])), (b14, .inr (.long, [(.long (0 : Int64)), (.long (0 : Int64))])), (b15, .inr (.boolean, [(.int g1), (.int g2)])), (b47, .inr (.int, List.map Value.int (svL (uL (l2L (mkL fo1 pa2 pb2) pa2 pb2 g1 g2)) pa2 pb2))), (b3, .inr (.long, List.map Value.long (z4))), (b6, ob0 (.ref b7) (.ref b8) (.ref b9) (.long (0 : Int64)) (.int (0 : Int32))), (b7, .inr (.int, [(.int pa1), (.int pb1)])), (b8, .inr (.long, [(.long (0 : Int64)), (.long (0 : Int64))])), (b9, .inr (.boolean, [(.int f1), (.int f2)]))]) rfl rfl
      refine A.callV (q := 44) (i := 0) (w1 := 17) (w2 := 18) (w3 := 2) (w4 := 21) (w5 := 20) (w6 := 19) (a := b1) (as := [(.int (0 : Int32))]) (st := []) (W := 0) at_41 rfl rfl rfl rfl rfl rfl rfl rfl (rmF l Z a0 hw n0 b1 (0 : Int32) b3 b2 (cnt (uL (l2L (mkL fo1 pa2 pb2) pa2 pb2 g1 g2))) (0 : Int64) v48 v49 .null (.ref b47) lf _ (by decide) (own_rlt hll _ (by decide))) (by decide) ⟨_, _, pd_2, rfl⟩ rfl rfl rfl (by decide) (by decide) (by decide) (by decide) ?_
      rintro _ T _ ⟨rfl, rfl⟩ A
      show Go p e below _ (T.setTop (mkF m 44 #[.val (.int t1), .val (.int t2), .val (.int qq), .val (.ref b1), .val (.int v5)] [(.int (FF (0 : Int32) lf))]))
      obtain ⟨v51, e51⟩ : ∃ v : Int32, (FF (0 : Int32) lf) = v := ⟨_, rfl⟩
      rw [e51]
      have J44_56 : ∀ (T : State) (j56 : Int32), j56 = (if ((FY t1 (0 : Int32))) = (0 : Int32) then (if ((FY t2 (0 : Int32))) = (0 : Int32) then (0 : Int32) else (1 : Int32)) else (1 : Int32)) → Here p l e room_1 s m ([(.int t1), (.int t2), (.int qq)] : List Value).toArray below meth c Z a0 tables_1 x.cls x.name code 5 (some .boolean) n0 T [(b1, ob1 (.ref b3) (.ref b2) (.int (cnt (uL (l2L (mkL fo1 pa2 pb2) pa2 pb2 g1 g2)))) (.long (0 : Int64)) (.long v48) (.long v49) .null (.ref b47)), (b2, .inr (.byte, List.map Value.int lf)), (b12, ob0 (.ref b13) (.ref b14) (.ref b15) (.long (0 : Int64)) (.int (1 : Int32))), (b13, .inr (.int, [(.int pa2), (.int pb2)])), (b14, .inr (.long, [(.long (0 : Int64)), (.long (0 : Int64))])), (b15, .inr (.boolean, [(.int g1), (.int g2)])), (b47, .inr (.int, List.map Value.int (svL (uL (l2L (mkL fo1 pa2 pb2) pa2 pb2 g1 g2)) pa2 pb2))), (b3, .inr (.long, List.map Value.long (z4))), (b6, ob0 (.ref b7) (.ref b8) (.ref b9) (.long (0 : Int64)) (.int (0 : Int32))), (b7, .inr (.int, [(.int pa1), (.int pb1)])), (b8, .inr (.long, [(.long (0 : Int64)), (.long (0 : Int64))])), (b9, .inr (.boolean, [(.int f1), (.int f2)]))] 12 40 → Go p e below (EndS below s n0 Z 40 192 (fun v _ => v = some (.int 1))) (T.setTop (mkF m 65 #[.val (.int t1), .val (.int t2), .val (.int qq), .val (.ref b1), .val (.int v5)] [(.int j56), (.int v51)])) := by
       intro T j56 ej56 A
       have z_j56 : nar .boolean j56 = j56 := by rw [ej56]; (repeat' split) <;> first | decide | assumption
       refine A.icmpF (q := 68) at_65 rfl (teq (by rw [← e51, ej56]; exact own_e0 hr hl hu1 hv1 (Or.inl rfl) hu2 hv2 (Or.inr rfl) hy1 hy2 : v51 = j56)).2 ?_
       refine A.aloadN (q := 69) at_68 rfl rfl rfl ?_
       refine A.iconst (q := 70) (v := (1 : Int32)) at_69 rfl (by decide) ?_
       refine A.callV (q := 73) (i := 0) (w1 := 17) (w2 := 18) (w3 := 2) (w4 := 21) (w5 := 20) (w6 := 19) (a := b1) (as := [(.int (1 : Int32))]) (st := []) (W := 0) at_70 rfl rfl rfl rfl rfl rfl rfl rfl (rmF l Z a0 hw n0 b1 (1 : Int32) b3 b2 (cnt (uL (l2L (mkL fo1 pa2 pb2) pa2 pb2 g1 g2))) (0 : Int64) v48 v49 .null (.ref b47) lf _ (by decide) (own_rlt hll _ (by decide))) (by decide) ⟨_, _, pd_2, rfl⟩ rfl rfl rfl (by decide) (by decide) (by decide) (by decide) ?_
       rintro _ T _ ⟨rfl, rfl⟩ A
       show Go p e below _ (T.setTop (mkF m 73 #[.val (.int t1), .val (.int t2), .val (.int qq), .val (.ref b1), .val (.int v5)] [(.int (FF (1 : Int32) lf))]))
       obtain ⟨v58, e58⟩ : ∃ v : Int32, (FF (1 : Int32) lf) = v := ⟨_, rfl⟩
       rw [e58]
       have J73_63 : ∀ (T : State) (j63 : Int32), j63 = (if ((FY t1 (1 : Int32))) = (0 : Int32) then (if ((FY t2 (1 : Int32))) = (0 : Int32) then (0 : Int32) else (1 : Int32)) else (1 : Int32)) → Here p l e room_1 s m ([(.int t1), (.int t2), (.int qq)] : List Value).toArray below meth c Z a0 tables_1 x.cls x.name code 5 (some .boolean) n0 T [(b1, ob1 (.ref b3) (.ref b2) (.int (cnt (uL (l2L (mkL fo1 pa2 pb2) pa2 pb2 g1 g2)))) (.long (0 : Int64)) (.long v48) (.long v49) .null (.ref b47)), (b2, .inr (.byte, List.map Value.int lf)), (b12, ob0 (.ref b13) (.ref b14) (.ref b15) (.long (0 : Int64)) (.int (1 : Int32))), (b13, .inr (.int, [(.int pa2), (.int pb2)])), (b14, .inr (.long, [(.long (0 : Int64)), (.long (0 : Int64))])), (b15, .inr (.boolean, [(.int g1), (.int g2)])), (b47, .inr (.int, List.map Value.int (svL (uL (l2L (mkL fo1 pa2 pb2) pa2 pb2 g1 g2)) pa2 pb2))), (b3, .inr (.long, List.map Value.long (z4))), (b6, ob0 (.ref b7) (.ref b8) (.ref b9) (.long (0 : Int64)) (.int (0 : Int32))), (b7, .inr (.int, [(.int pa1), (.int pb1)])), (b8, .inr (.long, [(.long (0 : Int64)), (.long (0 : Int64))])), (b9, .inr (.boolean, [(.int f1), (.int f2)]))] 12 40 → Go p e below (EndS below s n0 Z 40 192 (fun v _ => v = some (.int 1))) (T.setTop (mkF m 94 #[.val (.int t1), .val (.int t2), .val (.int qq), .val (.ref b1), .val (.int v5)] [(.int j63), (.int v58)])) := by
        intro T j63 ej63 A
        have z_j63 : nar .boolean j63 = j63 := by rw [ej63]; (repeat' split) <;> first | decide | assumption
        refine A.icmpF (q := 97) at_94 rfl (teq (by rw [← e58, ej63]; exact own_e1 hr hl hu1 hv1 (Or.inl rfl) hu2 hv2 (Or.inr rfl) hy1 hy2 : v58 = j63)).2 ?_
        refine A.aloadN (q := 98) at_97 rfl rfl rfl ?_
        refine A.iconst (q := 99) (v := (2 : Int32)) at_98 rfl (by decide) ?_
        refine A.callV (q := 102) (i := 0) (w1 := 17) (w2 := 18) (w3 := 2) (w4 := 21) (w5 := 20) (w6 := 19) (a := b1) (as := [(.int (2 : Int32))]) (st := []) (W := 0) at_99 rfl rfl rfl rfl rfl rfl rfl rfl (rmF l Z a0 hw n0 b1 (2 : Int32) b3 b2 (cnt (uL (l2L (mkL fo1 pa2 pb2) pa2 pb2 g1 g2))) (0 : Int64) v48 v49 .null (.ref b47) lf _ (by decide) (own_rlt hll _ (by decide))) (by decide) ⟨_, _, pd_2, rfl⟩ rfl rfl rfl (by decide) (by decide) (by decide) (by decide) ?_
        rintro _ T _ ⟨rfl, rfl⟩ A
        show Go p e below _ (T.setTop (mkF m 102 #[.val (.int t1), .val (.int t2), .val (.int qq), .val (.ref b1), .val (.int v5)] [(.int (FF (2 : Int32) lf))]))
        obtain ⟨v65, e65⟩ : ∃ v : Int32, (FF (2 : Int32) lf) = v := ⟨_, rfl⟩
        rw [e65]
        have J102_70 : ∀ (T : State) (j70 : Int32), j70 = (if ((FY t1 (2 : Int32))) = (0 : Int32) then (if ((FY t2 (2 : Int32))) = (0 : Int32) then (0 : Int32) else (1 : Int32)) else (1 : Int32)) → Here p l e room_1 s m ([(.int t1), (.int t2), (.int qq)] : List Value).toArray below meth c Z a0 tables_1 x.cls x.name code 5 (some .boolean) n0 T [(b1, ob1 (.ref b3) (.ref b2) (.int (cnt (uL (l2L (mkL fo1 pa2 pb2) pa2 pb2 g1 g2)))) (.long (0 : Int64)) (.long v48) (.long v49) .null (.ref b47)), (b2, .inr (.byte, List.map Value.int lf)), (b12, ob0 (.ref b13) (.ref b14) (.ref b15) (.long (0 : Int64)) (.int (1 : Int32))), (b13, .inr (.int, [(.int pa2), (.int pb2)])), (b14, .inr (.long, [(.long (0 : Int64)), (.long (0 : Int64))])), (b15, .inr (.boolean, [(.int g1), (.int g2)])), (b47, .inr (.int, List.map Value.int (svL (uL (l2L (mkL fo1 pa2 pb2) pa2 pb2 g1 g2)) pa2 pb2))), (b3, .inr (.long, List.map Value.long (z4))), (b6, ob0 (.ref b7) (.ref b8) (.ref b9) (.long (0 : Int64)) (.int (0 : Int32))), (b7, .inr (.int, [(.int pa1), (.int pb1)])), (b8, .inr (.long, [(.long (0 : Int64)), (.long (0 : Int64))])), (b9, .inr (.boolean, [(.int f1), (.int f2)]))] 12 40 → Go p e below (EndS below s n0 Z 40 192 (fun v _ => v = some (.int 1))) (T.setTop (mkF m 123 #[.val (.int t1), .val (.int t2), .val (.int qq), .val (.ref b1), .val (.int v5)] [(.int j70), (.int v65)])) := by
         intro T j70 ej70 A
         have z_j70 : nar .boolean j70 = j70 := by rw [ej70]; (repeat' split) <;> first | decide | assumption
         refine A.icmpF (q := 126) at_123 rfl (teq (by rw [← e65, ej70]; exact own_e2 hr hl hu1 hv1 (Or.inl rfl) hu2 hv2 (Or.inr rfl) hy1 hy2 : v65 = j70)).2 ?_
         refine A.aloadN (q := 127) at_126 rfl rfl rfl ?_
         refine A.iconst (q := 128) (v := (3 : Int32)) at_127 rfl (by decide) ?_
         refine A.callV (q := 131) (i := 0) (w1 := 17) (w2 := 18) (w3 := 2) (w4 := 21) (w5 := 20) (w6 := 19) (a := b1) (as := [(.int (3 : Int32))]) (st := []) (W := 0) at_128 rfl rfl rfl rfl rfl rfl rfl rfl (rmF l Z a0 hw n0 b1 (3 : Int32) b3 b2 (cnt (uL (l2L (mkL fo1 pa2 pb2) pa2 pb2 g1 g2))) (0 : Int64) v48 v49 .null (.ref b47) lf _ (by decide) (own_rlt hll _ (by decide))) (by decide) ⟨_, _, pd_2, rfl⟩ rfl rfl rfl (by decide) (by decide) (by decide) (by decide) ?_
         rintro _ T _ ⟨rfl, rfl⟩ A
         show Go p e below _ (T.setTop (mkF m 131 #[.val (.int t1), .val (.int t2), .val (.int qq), .val (.ref b1), .val (.int v5)] [(.int (FF (3 : Int32) lf))]))
         obtain ⟨v72, e72⟩ : ∃ v : Int32, (FF (3 : Int32) lf) = v := ⟨_, rfl⟩
         rw [e72]
         have J131_77 : ∀ (T : State) (j77 : Int32), j77 = (if ((FY t1 (3 : Int32))) = (0 : Int32) then (if ((FY t2 (3 : Int32))) = (0 : Int32) then (0 : Int32) else (1 : Int32)) else (1 : Int32)) → Here p l e room_1 s m ([(.int t1), (.int t2), (.int qq)] : List Value).toArray below meth c Z a0 tables_1 x.cls x.name code 5 (some .boolean) n0 T [(b1, ob1 (.ref b3) (.ref b2) (.int (cnt (uL (l2L (mkL fo1 pa2 pb2) pa2 pb2 g1 g2)))) (.long (0 : Int64)) (.long v48) (.long v49) .null (.ref b47)), (b2, .inr (.byte, List.map Value.int lf)), (b12, ob0 (.ref b13) (.ref b14) (.ref b15) (.long (0 : Int64)) (.int (1 : Int32))), (b13, .inr (.int, [(.int pa2), (.int pb2)])), (b14, .inr (.long, [(.long (0 : Int64)), (.long (0 : Int64))])), (b15, .inr (.boolean, [(.int g1), (.int g2)])), (b47, .inr (.int, List.map Value.int (svL (uL (l2L (mkL fo1 pa2 pb2) pa2 pb2 g1 g2)) pa2 pb2))), (b3, .inr (.long, List.map Value.long (z4))), (b6, ob0 (.ref b7) (.ref b8) (.ref b9) (.long (0 : Int64)) (.int (0 : Int32))), (b7, .inr (.int, [(.int pa1), (.int pb1)])), (b8, .inr (.long, [(.long (0 : Int64)), (.long (0 : Int64))])), (b9, .inr (.boolean, [(.int f1), (.int f2)]))] 12 40 → Go p e below (EndS below s n0 Z 40 192 (fun v _ => v = some (.int 1))) (T.setTop (mkF m 152 #[.val (.int t1), .val (.int t2), .val (.int qq), .val (.ref b1), .val (.int v5)] [(.int j77), (.int v72)])) := by
          intro T j77 ej77 A
          have z_j77 : nar .boolean j77 = j77 := by rw [ej77]; (repeat' split) <;> first | decide | assumption
          refine A.icmpF (q := 155) at_152 rfl (teq (by rw [← e72, ej77]; exact own_e3 hr hl hu1 hv1 (Or.inl rfl) hu2 hv2 (Or.inr rfl) hy1 hy2 : v72 = j77)).2 ?_
          refine A.iconst (q := 156) (v := (1 : Int32)) at_155 rfl (by decide) ?_
          refine A.goto (r := 160) at_156 (by decide) ?_
          exact A.retZ (v := 1) at_160 (by decide) (by decide) (by decide) rfl
         refine A.iloadN (q := 132) at_131 rfl rfl ?_
         refine A.iconst (q := 133) (v := (3 : Int32)) at_132 rfl (by decide) ?_
         refine A.callS (q := 136) (w1 := 123) (w2 := 124) (w3 := 24) (w4 := 125) (as := [(.int t1), (.int (3 : Int32))]) (st := [(.int v72)]) (W := 1) at_133 rfl rfl rfl rfl rfl (rmY l Z a0 hw n0 t1 (3 : Int32) _) (by decide) ⟨_, _, pd_12, rfl⟩ rfl rfl rfl (by decide) (by decide) (by decide) (by decide) ?_
         rintro _ T _ ⟨rfl, rfl⟩ A
         show Go p e below _ (T.setTop (mkF m 136 #[.val (.int t1), .val (.int t2), .val (.int qq), .val (.ref b1), .val (.int v5)] [(.int (FY t1 (3 : Int32))), (.int v72)]))
         obtain ⟨v73, e73⟩ : ∃ v : Int32, (FY t1 (3 : Int32)) = v := ⟨_, rfl⟩
         rw [e73]
         refine A.if_ne (q := 139) (r := 147) at_136 rfl (by decide) (fun h74 => ?_) (fun h74 => ?_)
         · refine A.iconst (q := 148) (v := (1 : Int32)) at_147 rfl (by decide) ?_
           refine A.goto (r := 152) at_148 (by decide) ?_
           exact J131_77 T _ (by simp only [e73, if_neg h74]) A
         · refine A.iloadN (q := 140) at_139 rfl rfl ?_
           refine A.iconst (q := 141) (v := (3 : Int32)) at_140 rfl (by decide) ?_
           refine A.callS (q := 144) (w1 := 123) (w2 := 124) (w3 := 24) (w4 := 125) (as := [(.int t2), (.int (3 : Int32))]) (st := [(.int v72)]) (W := 1) at_141 rfl rfl rfl rfl rfl (rmY l Z a0 hw n0 t2 (3 : Int32) _) (by decide) ⟨_, _, pd_12, rfl⟩ rfl rfl rfl (by decide) (by decide) (by decide) (by decide) ?_
           rintro _ T _ ⟨rfl, rfl⟩ A
           show Go p e below _ (T.setTop (mkF m 144 #[.val (.int t1), .val (.int t2), .val (.int qq), .val (.ref b1), .val (.int v5)] [(.int (FY t2 (3 : Int32))), (.int v72)]))
           obtain ⟨v75, e75⟩ : ∃ v : Int32, (FY t2 (3 : Int32)) = v := ⟨_, rfl⟩
           rw [e75]
           refine A.if_eq (q := 147) (r := 151) at_144 rfl (by decide) (fun h76 => ?_) (fun h76 => ?_)
           · refine A.iconst (q := 152) (v := (0 : Int32)) at_151 rfl (by decide) ?_
             exact J131_77 T _ (by first | (simp only [e73, e75, if_pos h74, if_pos h76]; done) | (subst e73 e75; simp only [if_pos h74, if_pos h76])) A
           · refine A.iconst (q := 148) (v := (1 : Int32)) at_147 rfl (by decide) ?_
             refine A.goto (r := 152) at_148 (by decide) ?_
             exact J131_77 T _ (by first | (simp only [e73, e75, if_neg h76, if_pos h74]; done) | (subst e73 e75; simp only [if_neg h76, if_pos h74])) A
        refine A.iloadN (q := 103) at_102 rfl rfl ?_
        refine A.iconst (q := 104) (v := (2 : Int32)) at_103 rfl (by decide) ?_
        refine A.callS (q := 107) (w1 := 123) (w2 := 124) (w3 := 24) (w4 := 125) (as := [(.int t1), (.int (2 : Int32))]) (st := [(.int v65)]) (W := 1) at_104 rfl rfl rfl rfl rfl (rmY l Z a0 hw n0 t1 (2 : Int32) _) (by decide) ⟨_, _, pd_12, rfl⟩ rfl rfl rfl (by decide) (by decide) (by decide) (by decide) ?_
        rintro _ T _ ⟨rfl, rfl⟩ A
        show Go p e below _ (T.setTop (mkF m 107 #[.val (.int t1), .val (.int t2), .val (.int qq), .val (.ref b1), .val (.int v5)] [(.int (FY t1 (2 : Int32))), (.int v65)]))
        obtain ⟨v66, e66⟩ : ∃ v : Int32, (FY t1 (2 : Int32)) = v := ⟨_, rfl⟩
        rw [e66]
        refine A.if_ne (q := 110) (r := 118) at_107 rfl (by decide) (fun h67 => ?_) (fun h67 => ?_)
        · refine A.iconst (q := 119) (v := (1 : Int32)) at_118 rfl (by decide) ?_
          refine A.goto (r := 123) at_119 (by decide) ?_
          exact J102_70 T _ (by simp only [e66, if_neg h67]) A
        · refine A.iloadN (q := 111) at_110 rfl rfl ?_
          refine A.iconst (q := 112) (v := (2 : Int32)) at_111 rfl (by decide) ?_
          refine A.callS (q := 115) (w1 := 123) (w2 := 124) (w3 := 24) (w4 := 125) (as := [(.int t2), (.int (2 : Int32))]) (st := [(.int v65)]) (W := 1) at_112 rfl rfl rfl rfl rfl (rmY l Z a0 hw n0 t2 (2 : Int32) _) (by decide) ⟨_, _, pd_12, rfl⟩ rfl rfl rfl (by decide) (by decide) (by decide) (by decide) ?_
          rintro _ T _ ⟨rfl, rfl⟩ A
          show Go p e below _ (T.setTop (mkF m 115 #[.val (.int t1), .val (.int t2), .val (.int qq), .val (.ref b1), .val (.int v5)] [(.int (FY t2 (2 : Int32))), (.int v65)]))
          obtain ⟨v68, e68⟩ : ∃ v : Int32, (FY t2 (2 : Int32)) = v := ⟨_, rfl⟩
          rw [e68]
          refine A.if_eq (q := 118) (r := 122) at_115 rfl (by decide) (fun h69 => ?_) (fun h69 => ?_)
          · refine A.iconst (q := 123) (v := (0 : Int32)) at_122 rfl (by decide) ?_
            exact J102_70 T _ (by first | (simp only [e66, e68, if_pos h67, if_pos h69]; done) | (subst e66 e68; simp only [if_pos h67, if_pos h69])) A
          · refine A.iconst (q := 119) (v := (1 : Int32)) at_118 rfl (by decide) ?_
            refine A.goto (r := 123) at_119 (by decide) ?_
            exact J102_70 T _ (by first | (simp only [e66, e68, if_neg h69, if_pos h67]; done) | (subst e66 e68; simp only [if_neg h69, if_pos h67])) A
       refine A.iloadN (q := 74) at_73 rfl rfl ?_
       refine A.iconst (q := 75) (v := (1 : Int32)) at_74 rfl (by decide) ?_
       refine A.callS (q := 78) (w1 := 123) (w2 := 124) (w3 := 24) (w4 := 125) (as := [(.int t1), (.int (1 : Int32))]) (st := [(.int v58)]) (W := 1) at_75 rfl rfl rfl rfl rfl (rmY l Z a0 hw n0 t1 (1 : Int32) _) (by decide) ⟨_, _, pd_12, rfl⟩ rfl rfl rfl (by decide) (by decide) (by decide) (by decide) ?_
       rintro _ T _ ⟨rfl, rfl⟩ A
       show Go p e below _ (T.setTop (mkF m 78 #[.val (.int t1), .val (.int t2), .val (.int qq), .val (.ref b1), .val (.int v5)] [(.int (FY t1 (1 : Int32))), (.int v58)]))
       obtain ⟨v59, e59⟩ : ∃ v : Int32, (FY t1 (1 : Int32)) = v := ⟨_, rfl⟩
       rw [e59]
       refine A.if_ne (q := 81) (r := 89) at_78 rfl (by decide) (fun h60 => ?_) (fun h60 => ?_)
       · refine A.iconst (q := 90) (v := (1 : Int32)) at_89 rfl (by decide) ?_
         refine A.goto (r := 94) at_90 (by decide) ?_
         exact J73_63 T _ (by simp only [e59, if_neg h60]) A
       · refine A.iloadN (q := 82) at_81 rfl rfl ?_
         refine A.iconst (q := 83) (v := (1 : Int32)) at_82 rfl (by decide) ?_
         refine A.callS (q := 86) (w1 := 123) (w2 := 124) (w3 := 24) (w4 := 125) (as := [(.int t2), (.int (1 : Int32))]) (st := [(.int v58)]) (W := 1) at_83 rfl rfl rfl rfl rfl (rmY l Z a0 hw n0 t2 (1 : Int32) _) (by decide) ⟨_, _, pd_12, rfl⟩ rfl rfl rfl (by decide) (by decide) (by decide) (by decide) ?_
         rintro _ T _ ⟨rfl, rfl⟩ A
         show Go p e below _ (T.setTop (mkF m 86 #[.val (.int t1), .val (.int t2), .val (.int qq), .val (.ref b1), .val (.int v5)] [(.int (FY t2 (1 : Int32))), (.int v58)]))
         obtain ⟨v61, e61⟩ : ∃ v : Int32, (FY t2 (1 : Int32)) = v := ⟨_, rfl⟩
         rw [e61]
         refine A.if_eq (q := 89) (r := 93) at_86 rfl (by decide) (fun h62 => ?_) (fun h62 => ?_)
         · refine A.iconst (q := 94) (v := (0 : Int32)) at_93 rfl (by decide) ?_
           exact J73_63 T _ (by first | (simp only [e59, e61, if_pos h60, if_pos h62]; done) | (subst e59 e61; simp only [if_pos h60, if_pos h62])) A
         · refine A.iconst (q := 90) (v := (1 : Int32)) at_89 rfl (by decide) ?_
           refine A.goto (r := 94) at_90 (by decide) ?_
           exact J73_63 T _ (by first | (simp only [e59, e61, if_neg h62, if_pos h60]; done) | (subst e59 e61; simp only [if_neg h62, if_pos h60])) A
      refine A.iloadN (q := 45) at_44 rfl rfl ?_
      refine A.iconst (q := 46) (v := (0 : Int32)) at_45 rfl (by decide) ?_
      refine A.callS (q := 49) (w1 := 123) (w2 := 124) (w3 := 24) (w4 := 125) (as := [(.int t1), (.int (0 : Int32))]) (st := [(.int v51)]) (W := 1) at_46 rfl rfl rfl rfl rfl (rmY l Z a0 hw n0 t1 (0 : Int32) _) (by decide) ⟨_, _, pd_12, rfl⟩ rfl rfl rfl (by decide) (by decide) (by decide) (by decide) ?_
      rintro _ T _ ⟨rfl, rfl⟩ A
      show Go p e below _ (T.setTop (mkF m 49 #[.val (.int t1), .val (.int t2), .val (.int qq), .val (.ref b1), .val (.int v5)] [(.int (FY t1 (0 : Int32))), (.int v51)]))
      obtain ⟨v52, e52⟩ : ∃ v : Int32, (FY t1 (0 : Int32)) = v := ⟨_, rfl⟩
      rw [e52]
      refine A.if_ne (q := 52) (r := 60) at_49 rfl (by decide) (fun h53 => ?_) (fun h53 => ?_)
      · refine A.iconst (q := 61) (v := (1 : Int32)) at_60 rfl (by decide) ?_
        refine A.goto (r := 65) at_61 (by decide) ?_
        exact J44_56 T _ (by simp only [e52, if_neg h53]) A
      · refine A.iloadN (q := 53) at_52 rfl rfl ?_
        refine A.iconst (q := 54) (v := (0 : Int32)) at_53 rfl (by decide) ?_
        refine A.callS (q := 57) (w1 := 123) (w2 := 124) (w3 := 24) (w4 := 125) (as := [(.int t2), (.int (0 : Int32))]) (st := [(.int v51)]) (W := 1) at_54 rfl rfl rfl rfl rfl (rmY l Z a0 hw n0 t2 (0 : Int32) _) (by decide) ⟨_, _, pd_12, rfl⟩ rfl rfl rfl (by decide) (by decide) (by decide) (by decide) ?_
        rintro _ T _ ⟨rfl, rfl⟩ A
        show Go p e below _ (T.setTop (mkF m 57 #[.val (.int t1), .val (.int t2), .val (.int qq), .val (.ref b1), .val (.int v5)] [(.int (FY t2 (0 : Int32))), (.int v51)]))
        obtain ⟨v54, e54⟩ : ∃ v : Int32, (FY t2 (0 : Int32)) = v := ⟨_, rfl⟩
        rw [e54]
        refine A.if_eq (q := 60) (r := 64) at_57 rfl (by decide) (fun h55 => ?_) (fun h55 => ?_)
        · refine A.iconst (q := 65) (v := (0 : Int32)) at_64 rfl (by decide) ?_
          exact J44_56 T _ (by first | (simp only [e52, e54, if_pos h53, if_pos h55]; done) | (subst e52 e54; simp only [if_pos h53, if_pos h55])) A
        · refine A.iconst (q := 61) (v := (1 : Int32)) at_60 rfl (by decide) ?_
          refine A.goto (r := 65) at_61 (by decide) ?_
          exact J44_56 T _ (by first | (simp only [e52, e54, if_neg h55, if_pos h53]; done) | (subst e52 e54; simp only [if_neg h55, if_pos h53])) A
  · have A := A.front (i := 3) rfl rfl
    have A := A.front (i := 3) rfl rfl
    have A := A.front (i := 3) rfl rfl
    have A := A.front (i := 3) rfl rfl
    have A := A.front (i := 5) rfl rfl
    have A := A.front (i := 6) rfl rfl
    have A := A.front (i := 6) (L' := [(b1, ob1 (.ref b3) (.ref b2) (.int al0) (.long (0 : Int64)) (.long (0 : Int64)) (.long (0 : Int64)) .null .null), (b3, .inr (.long, List.map Value.long (z4))), (b2, .inr (.byte, List.map Value.int fo0)), (b6, ob0 (.ref b7) (.ref b8) (.ref b9) (.long (0 : Int64)) (.int (1 : Int32))), (b7, .inr (.int, [(.int pa1), (.int pb1)])), (b8, .inr (.long, [(.long (0 : Int64)), (.long (0 : Int64))])), (b9, .inr (.boolean, [(.int f1), (.int f2)]))]) rfl rfl
    refine A.callVW (q := 26) (i := 0) (w1 := 59) (w2 := 60) (w3 := 2) (w4 := 63) (w5 := 62) (w6 := 61) (a := b1) (as := [(.ref b6)]) (st := []) (W := 0) at_23 rfl rfl rfl rfl rfl rfl rfl rfl (rmDN1 l Z a0 hw n0 b1 b6 b3 b2 al0 (0 : Int64) (0 : Int64) fo0 b7 b8 b9 pa1 pb1 f1 f2 (0 : Fin 28) pg1 _ hfo0 hA1 hB1 hal0 hu1 hv1 own_S0) (by decide) ⟨_, _, pd_11, rfl⟩ rfl rfl rfl (by decide) (by decide) (by decide) (by decide) ?_
    rintro _ T _ ⟨b79, v80, v81, rfl, rfl⟩ A
    show Go p e below _ (T.setTop (mkF m 26 #[.val (.int t1), .val (.int t2), .val (.int qq), .val (.ref b1), .val (.int v5)] []))
    obtain ⟨sg, fo1, al1, sv1, hS, hfo1, hal1, hsv1, hr, hm1, hcn, hsn⟩ := own_nxb hfo0 hA1 hB1 hu1 hv1
    rw [hm1, hcn, hsn] at A
    have A : Here p l e room_1 s m ([(.int t1), (.int t2), (.int qq)] : List Value).toArray below meth c Z a0 tables_1 x.cls x.name code 5 (some .boolean) n0 T [(b6, ob0 (.ref b7) (.ref b8) (.ref b9) (.long (0 : Int64)) (.int (1 : Int32))), (b7, .inr (.int, [(.int pa1), (.int pb1)])), (b8, .inr (.long, [(.long (0 : Int64)), (.long (0 : Int64))])), (b9, .inr (.boolean, [(.int f1), (.int f2)])), (b1, ob1 (.ref b3) (.ref b2) (.int al1) (.long (0 : Int64)) (.long v80) (.long v81) .null (.ref b79)), (b2, .inr (.byte, List.map Value.int fo1)), (b79, .inr (.int, List.map Value.int sv1)), (b3, .inr (.long, List.map Value.long (z4)))] 8 29 := A
    refine A.aloadN (q := 27) at_26 rfl rfl rfl ?_
    refine A.iloadN (q := 28) at_27 rfl rfl ?_
    refine A.callS (q := 31) (w1 := 22) (w2 := 23) (w3 := 24) (w4 := 25) (as := [(.int t2)]) (st := [(.ref b1)]) (W := 1) at_28 rfl rfl rfl rfl rfl (rmT l Z a0 hw n0 t2 _) (by decide) ⟨_, _, pd_15, rfl⟩ rfl rfl rfl (by decide) (by decide) (by decide) (by decide) ?_
    rintro _ T _ ⟨b82, b83, b84, b85, rfl, rfl⟩ A
    show Go p e below _ (T.setTop (mkF m 31 #[.val (.int t1), .val (.int t2), .val (.int qq), .val (.ref b1), .val (.int v5)] [(.ref b82), (.ref b1)]))
    obtain ⟨pg2, pa2, pb2, g1, g2, d2, hq2, hp2, ha2, hb2, hc2, hA2, hB2, hu2, hv2, hd2, hy2⟩ := own_tab t2
    rw [hq2, hp2, ha2, hb2, hc2] at A
    have A : Here p l e room_1 s m ([(.int t1), (.int t2), (.int qq)] : List Value).toArray below meth c Z a0 tables_1 x.cls x.name code 5 (some .boolean) n0 T [(b82, ob0 (.ref b83) (.ref b84) (.ref b85) (.long (0 : Int64)) (.int d2)), (b83, .inr (.int, [(.int pa2), (.int pb2)])), (b84, .inr (.long, [(.long (0 : Int64)), (.long (0 : Int64))])), (b85, .inr (.boolean, [(.int g1), (.int g2)])), (b6, ob0 (.ref b7) (.ref b8) (.ref b9) (.long (0 : Int64)) (.int (1 : Int32))), (b7, .inr (.int, [(.int pa1), (.int pb1)])), (b8, .inr (.long, [(.long (0 : Int64)), (.long (0 : Int64))])), (b9, .inr (.boolean, [(.int f1), (.int f2)])), (b1, ob1 (.ref b3) (.ref b2) (.int al1) (.long (0 : Int64)) (.long v80) (.long v81) .null (.ref b79)), (b2, .inr (.byte, List.map Value.int fo1)), (b79, .inr (.int, List.map Value.int sv1)), (b3, .inr (.long, List.map Value.long (z4)))] 12 40 := A
    rcases hd2 with rfl | rfl
    · have A := A.front (i := 3) rfl rfl
      have A := A.front (i := 3) rfl rfl
      have A := A.front (i := 3) rfl rfl
      have A := A.front (i := 3) rfl rfl
      have A := A.front (i := 9) rfl rfl
      have A := A.front (i := 11) rfl rfl
      have A := A.front (i := 10) (L' := [(b1, ob1 (.ref b3) (.ref b2) (.int al1) (.long (0 : Int64)) (.long v80) (.long v81) .null (.ref b79)), (b3, .inr (.long, List.map Value.long (z4))), (b2, .inr (.byte, List.map Value.int fo1)), (b82, ob0 (.ref b83) (.ref b84) (.ref b85) (.long (0 : Int64)) (.int (0 : Int32))), (b83, .inr (.int, [(.int pa2), (.int pb2)])), (b84, .inr (.long, [(.long (0 : Int64)), (.long (0 : Int64))])), (b85, .inr (.boolean, [(.int g1), (.int g2)])), (b6, ob0 (.ref b7) (.ref b8) (.ref b9) (.long (0 : Int64)) (.int (1 : Int32))), (b7, .inr (.int, [(.int pa1), (.int pb1)])), (b8, .inr (.long, [(.long (0 : Int64)), (.long (0 : Int64))])), (b9, .inr (.boolean, [(.int f1), (.int f2)])), (b79, .inr (.int, List.map Value.int sv1))]) rfl rfl
      refine A.callVW (q := 34) (i := 0) (w1 := 59) (w2 := 60) (w3 := 2) (w4 := 63) (w5 := 62) (w6 := 61) (a := b1) (as := [(.ref b82)]) (st := []) (W := 0) at_31 rfl rfl rfl rfl rfl rfl rfl rfl (rmD0 l Z a0 hw n0 b1 b82 b3 b2 al1 v80 v81 (.ref b79) fo1 b83 b84 b85 pa2 pb2 g1 g2 sg pg2 _ hfo1 hA2 hB2 hal1 hu2 hv2 trivial) (by decide) ⟨_, _, pd_11, rfl⟩ rfl rfl rfl (by decide) (by decide) (by decide) (by decide) ?_
      rintro _ T _ ⟨v86, v87, rfl, rfl⟩ A
      show Go p e below _ (T.setTop (mkF m 34 #[.val (.int t1), .val (.int t2), .val (.int qq), .val (.ref b1), .val (.int v5)] []))
      obtain ⟨lf, hlf⟩ : ∃ z : List Int32, (umL (l2L (mkL fo1 pa2 pb2) pa2 pb2 g1 g2) pa2 pb2) = z := ⟨_, rfl⟩
      rw [hlf] at A
      have hl := (own_rO0 g1 g2 hfo1 hA2 hB2).trans hlf
      have hll := own_rlen hl
      have A : Here p l e room_1 s m ([(.int t1), (.int t2), (.int qq)] : List Value).toArray below meth c Z a0 tables_1 x.cls x.name code 5 (some .boolean) n0 T [(b82, ob0 (.ref b83) (.ref b84) (.ref b85) (.long (0 : Int64)) (.int (0 : Int32))), (b83, .inr (.int, [(.int pa2), (.int pb2)])), (b84, .inr (.long, [(.long (0 : Int64)), (.long (0 : Int64))])), (b85, .inr (.boolean, [(.int g1), (.int g2)])), (b1, ob1 (.ref b3) (.ref b2) (.int (cnt (l2L (mkL fo1 pa2 pb2) pa2 pb2 g1 g2))) (.long (0 : Int64)) (.long v86) (.long v87) .null (.ref b79)), (b3, .inr (.long, List.map Value.long (z4))), (b2, .inr (.byte, List.map Value.int lf)), (b6, ob0 (.ref b7) (.ref b8) (.ref b9) (.long (0 : Int64)) (.int (1 : Int32))), (b7, .inr (.int, [(.int pa1), (.int pb1)])), (b8, .inr (.long, [(.long (0 : Int64)), (.long (0 : Int64))])), (b9, .inr (.boolean, [(.int f1), (.int f2)])), (b79, .inr (.int, List.map Value.int sv1))] 12 40 := A
      refine A.iload (q := 36) at_34 rfl rfl ?_
      refine A.if_ne (q := 39) (r := 159) at_36 rfl (by decide) (fun h => (h (own_bef e4 e5)).elim) (fun _ => ?_)
      refine A.aloadN (q := 40) at_39 rfl rfl rfl ?_
      refine A.iconst (q := 41) (v := (0 : Int32)) at_40 rfl (by decide) ?_
      have A := A.front (i := 6) rfl rfl
      have A := A.front (i := 5) (L' := [(b1, ob1 (.ref b3) (.ref b2) (.int (cnt (l2L (mkL fo1 pa2 pb2) pa2 pb2 g1 g2))) (.long (0 : Int64)) (.long v86) (.long v87) .null (.ref b79)), (b2, .inr (.byte, List.map Value.int lf)), (b82, ob0 (.ref b83) (.ref b84) (.ref b85) (.long (0 : Int64)) (.int (0 : Int32))), (b83, .inr (.int, [(.int pa2), (.int pb2)])), (b84, .inr (.long, [(.long (0 : Int64)), (.long (0 : Int64))])), (b85, .inr (.boolean, [(.int g1), (.int g2)])), (b3, .inr (.long, List.map Value.long (z4))), (b6, ob0 (.ref b7) (.ref b8) (.ref b9) (.long (0 : Int64)) (.int (1 : Int32))), (b7, .inr (.int, [(.int pa1), (.int pb1)])), (b8, .inr (.long, [(.long (0 : Int64)), (.long (0 : Int64))])), (b9, .inr (.boolean, [(.int f1), (.int f2)])), (b79, .inr (.int, List.map Value.int sv1))]) rfl rfl
      refine A.callV (q := 44) (i := 0) (w1 := 17) (w2 := 18) (w3 := 2) (w4 := 21) (w5 := 20) (w6 := 19) (a := b1) (as := [(.int (0 : Int32))]) (st := []) (W := 0) at_41 rfl rfl rfl rfl rfl rfl rfl rfl (rmF l Z a0 hw n0 b1 (0 : Int32) b3 b2 (cnt (l2L (mkL fo1 pa2 pb2) pa2 pb2 g1 g2)) (0 : Int64) v86 v87 .null (.ref b79) lf _ (by decide) (own_rlt hll _ (by decide))) (by decide) ⟨_, _, pd_2, rfl⟩ rfl rfl rfl (by decide) (by decide) (by decide) (by decide) ?_
      rintro _ T _ ⟨rfl, rfl⟩ A
      show Go p e below _ (T.setTop (mkF m 44 #[.val (.int t1), .val (.int t2), .val (.int qq), .val (.ref b1), .val (.int v5)] [(.int (FF (0 : Int32) lf))]))
      obtain ⟨v89, e89⟩ : ∃ v : Int32, (FF (0 : Int32) lf) = v := ⟨_, rfl⟩
      rw [e89]
      have J44_94 : ∀ (T : State) (j94 : Int32), j94 = (if ((FY t1 (0 : Int32))) = (0 : Int32) then (if ((FY t2 (0 : Int32))) = (0 : Int32) then (0 : Int32) else (1 : Int32)) else (1 : Int32)) → Here p l e room_1 s m ([(.int t1), (.int t2), (.int qq)] : List Value).toArray below meth c Z a0 tables_1 x.cls x.name code 5 (some .boolean) n0 T [(b1, ob1 (.ref b3) (.ref b2) (.int (cnt (l2L (mkL fo1 pa2 pb2) pa2 pb2 g1 g2))) (.long (0 : Int64)) (.long v86) (.long v87) .null (.ref b79)), (b2, .inr (.byte, List.map Value.int lf)), (b82, ob0 (.ref b83) (.ref b84) (.ref b85) (.long (0 : Int64)) (.int (0 : Int32))), (b83, .inr (.int, [(.int pa2), (.int pb2)])), (b84, .inr (.long, [(.long (0 : Int64)), (.long (0 : Int64))])), (b85, .inr (.boolean, [(.int g1), (.int g2)])), (b3, .inr (.long, List.map Value.long (z4))), (b6, ob0 (.ref b7) (.ref b8) (.ref b9) (.long (0 : Int64)) (.int (1 : Int32))), (b7, .inr (.int, [(.int pa1), (.int pb1)])), (b8, .inr (.long, [(.long (0 : Int64)), (.long (0 : Int64))])), (b9, .inr (.boolean, [(.int f1), (.int f2)])), (b79, .inr (.int, List.map Value.int sv1))] 12 40 → Go p e below (EndS below s n0 Z 40 192 (fun v _ => v = some (.int 1))) (T.setTop (mkF m 65 #[.val (.int t1), .val (.int t2), .val (.int qq), .val (.ref b1), .val (.int v5)] [(.int j94), (.int v89)])) := by
       intro T j94 ej94 A
       have z_j94 : nar .boolean j94 = j94 := by rw [ej94]; (repeat' split) <;> first | decide | assumption
       refine A.icmpF (q := 68) at_65 rfl (teq (by rw [← e89, ej94]; exact own_e0 hr hl hu1 hv1 (Or.inr rfl) hu2 hv2 (Or.inl rfl) hy1 hy2 : v89 = j94)).2 ?_
       refine A.aloadN (q := 69) at_68 rfl rfl rfl ?_
       refine A.iconst (q := 70) (v := (1 : Int32)) at_69 rfl (by decide) ?_
       refine A.callV (q := 73) (i := 0) (w1 := 17) (w2 := 18) (w3 := 2) (w4 := 21) (w5 := 20) (w6 := 19) (a := b1) (as := [(.int (1 : Int32))]) (st := []) (W := 0) at_70 rfl rfl rfl rfl rfl rfl rfl rfl (rmF l Z a0 hw n0 b1 (1 : Int32) b3 b2 (cnt (l2L (mkL fo1 pa2 pb2) pa2 pb2 g1 g2)) (0 : Int64) v86 v87 .null (.ref b79) lf _ (by decide) (own_rlt hll _ (by decide))) (by decide) ⟨_, _, pd_2, rfl⟩ rfl rfl rfl (by decide) (by decide) (by decide) (by decide) ?_
       rintro _ T _ ⟨rfl, rfl⟩ A
       show Go p e below _ (T.setTop (mkF m 73 #[.val (.int t1), .val (.int t2), .val (.int qq), .val (.ref b1), .val (.int v5)] [(.int (FF (1 : Int32) lf))]))
       obtain ⟨v96, e96⟩ : ∃ v : Int32, (FF (1 : Int32) lf) = v := ⟨_, rfl⟩
       rw [e96]
       have J73_101 : ∀ (T : State) (j101 : Int32), j101 = (if ((FY t1 (1 : Int32))) = (0 : Int32) then (if ((FY t2 (1 : Int32))) = (0 : Int32) then (0 : Int32) else (1 : Int32)) else (1 : Int32)) → Here p l e room_1 s m ([(.int t1), (.int t2), (.int qq)] : List Value).toArray below meth c Z a0 tables_1 x.cls x.name code 5 (some .boolean) n0 T [(b1, ob1 (.ref b3) (.ref b2) (.int (cnt (l2L (mkL fo1 pa2 pb2) pa2 pb2 g1 g2))) (.long (0 : Int64)) (.long v86) (.long v87) .null (.ref b79)), (b2, .inr (.byte, List.map Value.int lf)), (b82, ob0 (.ref b83) (.ref b84) (.ref b85) (.long (0 : Int64)) (.int (0 : Int32))), (b83, .inr (.int, [(.int pa2), (.int pb2)])), (b84, .inr (.long, [(.long (0 : Int64)), (.long (0 : Int64))])), (b85, .inr (.boolean, [(.int g1), (.int g2)])), (b3, .inr (.long, List.map Value.long (z4))), (b6, ob0 (.ref b7) (.ref b8) (.ref b9) (.long (0 : Int64)) (.int (1 : Int32))), (b7, .inr (.int, [(.int pa1), (.int pb1)])), (b8, .inr (.long, [(.long (0 : Int64)), (.long (0 : Int64))])), (b9, .inr (.boolean, [(.int f1), (.int f2)])), (b79, .inr (.int, List.map Value.int sv1))] 12 40 → Go p e below (EndS below s n0 Z 40 192 (fun v _ => v = some (.int 1))) (T.setTop (mkF m 94 #[.val (.int t1), .val (.int t2), .val (.int qq), .val (.ref b1), .val (.int v5)] [(.int j101), (.int v96)])) := by
        intro T j101 ej101 A
        have z_j101 : nar .boolean j101 = j101 := by rw [ej101]; (repeat' split) <;> first | decide | assumption
        refine A.icmpF (q := 97) at_94 rfl (teq (by rw [← e96, ej101]; exact own_e1 hr hl hu1 hv1 (Or.inr rfl) hu2 hv2 (Or.inl rfl) hy1 hy2 : v96 = j101)).2 ?_
        refine A.aloadN (q := 98) at_97 rfl rfl rfl ?_
        refine A.iconst (q := 99) (v := (2 : Int32)) at_98 rfl (by decide) ?_
        refine A.callV (q := 102) (i := 0) (w1 := 17) (w2 := 18) (w3 := 2) (w4 := 21) (w5 := 20) (w6 := 19) (a := b1) (as := [(.int (2 : Int32))]) (st := []) (W := 0) at_99 rfl rfl rfl rfl rfl rfl rfl rfl (rmF l Z a0 hw n0 b1 (2 : Int32) b3 b2 (cnt (l2L (mkL fo1 pa2 pb2) pa2 pb2 g1 g2)) (0 : Int64) v86 v87 .null (.ref b79) lf _ (by decide) (own_rlt hll _ (by decide))) (by decide) ⟨_, _, pd_2, rfl⟩ rfl rfl rfl (by decide) (by decide) (by decide) (by decide) ?_
        rintro _ T _ ⟨rfl, rfl⟩ A
        show Go p e below _ (T.setTop (mkF m 102 #[.val (.int t1), .val (.int t2), .val (.int qq), .val (.ref b1), .val (.int v5)] [(.int (FF (2 : Int32) lf))]))
        obtain ⟨v103, e103⟩ : ∃ v : Int32, (FF (2 : Int32) lf) = v := ⟨_, rfl⟩
        rw [e103]
        have J102_108 : ∀ (T : State) (j108 : Int32), j108 = (if ((FY t1 (2 : Int32))) = (0 : Int32) then (if ((FY t2 (2 : Int32))) = (0 : Int32) then (0 : Int32) else (1 : Int32)) else (1 : Int32)) → Here p l e room_1 s m ([(.int t1), (.int t2), (.int qq)] : List Value).toArray below meth c Z a0 tables_1 x.cls x.name code 5 (some .boolean) n0 T [(b1, ob1 (.ref b3) (.ref b2) (.int (cnt (l2L (mkL fo1 pa2 pb2) pa2 pb2 g1 g2))) (.long (0 : Int64)) (.long v86) (.long v87) .null (.ref b79)), (b2, .inr (.byte, List.map Value.int lf)), (b82, ob0 (.ref b83) (.ref b84) (.ref b85) (.long (0 : Int64)) (.int (0 : Int32))), (b83, .inr (.int, [(.int pa2), (.int pb2)])), (b84, .inr (.long, [(.long (0 : Int64)), (.long (0 : Int64))])), (b85, .inr (.boolean, [(.int g1), (.int g2)])), (b3, .inr (.long, List.map Value.long (z4))), (b6, ob0 (.ref b7) (.ref b8) (.ref b9) (.long (0 : Int64)) (.int (1 : Int32))), (b7, .inr (.int, [(.int pa1), (.int pb1)])), (b8, .inr (.long, [(.long (0 : Int64)), (.long (0 : Int64))])), (b9, .inr (.boolean, [(.int f1), (.int f2)])), (b79, .inr (.int, List.map Value.int sv1))] 12 40 → Go p e below (EndS below s n0 Z 40 192 (fun v _ => v = some (.int 1))) (T.setTop (mkF m 123 #[.val (.int t1), .val (.int t2), .val (.int qq), .val (.ref b1), .val (.int v5)] [(.int j108), (.int v103)])) := by
         intro T j108 ej108 A
         have z_j108 : nar .boolean j108 = j108 := by rw [ej108]; (repeat' split) <;> first | decide | assumption
         refine A.icmpF (q := 126) at_123 rfl (teq (by rw [← e103, ej108]; exact own_e2 hr hl hu1 hv1 (Or.inr rfl) hu2 hv2 (Or.inl rfl) hy1 hy2 : v103 = j108)).2 ?_
         refine A.aloadN (q := 127) at_126 rfl rfl rfl ?_
         refine A.iconst (q := 128) (v := (3 : Int32)) at_127 rfl (by decide) ?_
         refine A.callV (q := 131) (i := 0) (w1 := 17) (w2 := 18) (w3 := 2) (w4 := 21) (w5 := 20) (w6 := 19) (a := b1) (as := [(.int (3 : Int32))]) (st := []) (W := 0) at_128 rfl rfl rfl rfl rfl rfl rfl rfl (rmF l Z a0 hw n0 b1 (3 : Int32) b3 b2 (cnt (l2L (mkL fo1 pa2 pb2) pa2 pb2 g1 g2)) (0 : Int64) v86 v87 .null (.ref b79) lf _ (by decide) (own_rlt hll _ (by decide))) (by decide) ⟨_, _, pd_2, rfl⟩ rfl rfl rfl (by decide) (by decide) (by decide) (by decide) ?_
         rintro _ T _ ⟨rfl, rfl⟩ A
         show Go p e below _ (T.setTop (mkF m 131 #[.val (.int t1), .val (.int t2), .val (.int qq), .val (.ref b1), .val (.int v5)] [(.int (FF (3 : Int32) lf))]))
         obtain ⟨v110, e110⟩ : ∃ v : Int32, (FF (3 : Int32) lf) = v := ⟨_, rfl⟩
         rw [e110]
         have J131_115 : ∀ (T : State) (j115 : Int32), j115 = (if ((FY t1 (3 : Int32))) = (0 : Int32) then (if ((FY t2 (3 : Int32))) = (0 : Int32) then (0 : Int32) else (1 : Int32)) else (1 : Int32)) → Here p l e room_1 s m ([(.int t1), (.int t2), (.int qq)] : List Value).toArray below meth c Z a0 tables_1 x.cls x.name code 5 (some .boolean) n0 T [(b1, ob1 (.ref b3) (.ref b2) (.int (cnt (l2L (mkL fo1 pa2 pb2) pa2 pb2 g1 g2))) (.long (0 : Int64)) (.long v86) (.long v87) .null (.ref b79)), (b2, .inr (.byte, List.map Value.int lf)), (b82, ob0 (.ref b83) (.ref b84) (.ref b85) (.long (0 : Int64)) (.int (0 : Int32))), (b83, .inr (.int, [(.int pa2), (.int pb2)])), (b84, .inr (.long, [(.long (0 : Int64)), (.long (0 : Int64))])), (b85, .inr (.boolean, [(.int g1), (.int g2)])), (b3, .inr (.long, List.map Value.long (z4))), (b6, ob0 (.ref b7) (.ref b8) (.ref b9) (.long (0 : Int64)) (.int (1 : Int32))), (b7, .inr (.int, [(.int pa1), (.int pb1)])), (b8, .inr (.long, [(.long (0 : Int64)), (.long (0 : Int64))])), (b9, .inr (.boolean, [(.int f1), (.int f2)])), (b79, .inr (.int, List.map Value.int sv1))] 12 40 → Go p e below (EndS below s n0 Z 40 192 (fun v _ => v = some (.int 1))) (T.setTop (mkF m 152 #[.val (.int t1), .val (.int t2), .val (.int qq), .val (.ref b1), .val (.int v5)] [(.int j115), (.int v110)])) := by
          intro T j115 ej115 A
          have z_j115 : nar .boolean j115 = j115 := by rw [ej115]; (repeat' split) <;> first | decide | assumption
          refine A.icmpF (q := 155) at_152 rfl (teq (by rw [← e110, ej115]; exact own_e3 hr hl hu1 hv1 (Or.inr rfl) hu2 hv2 (Or.inl rfl) hy1 hy2 : v110 = j115)).2 ?_
          refine A.iconst (q := 156) (v := (1 : Int32)) at_155 rfl (by decide) ?_
          refine A.goto (r := 160) at_156 (by decide) ?_
          exact A.retZ (v := 1) at_160 (by decide) (by decide) (by decide) rfl
         refine A.iloadN (q := 132) at_131 rfl rfl ?_
         refine A.iconst (q := 133) (v := (3 : Int32)) at_132 rfl (by decide) ?_
         refine A.callS (q := 136) (w1 := 123) (w2 := 124) (w3 := 24) (w4 := 125) (as := [(.int t1), (.int (3 : Int32))]) (st := [(.int v110)]) (W := 1) at_133 rfl rfl rfl rfl rfl (rmY l Z a0 hw n0 t1 (3 : Int32) _) (by decide) ⟨_, _, pd_12, rfl⟩ rfl rfl rfl (by decide) (by decide) (by decide) (by decide) ?_
         rintro _ T _ ⟨rfl, rfl⟩ A
         show Go p e below _ (T.setTop (mkF m 136 #[.val (.int t1), .val (.int t2), .val (.int qq), .val (.ref b1), .val (.int v5)] [(.int (FY t1 (3 : Int32))), (.int v110)]))
         obtain ⟨v111, e111⟩ : ∃ v : Int32, (FY t1 (3 : Int32)) = v := ⟨_, rfl⟩
         rw [e111]
         refine A.if_ne (q := 139) (r := 147) at_136 rfl (by decide) (fun h112 => ?_) (fun h112 => ?_)
         · refine A.iconst (q := 148) (v := (1 : Int32)) at_147 rfl (by decide) ?_
           refine A.goto (r := 152) at_148 (by decide) ?_
           exact J131_115 T _ (by simp only [e111, if_neg h112]) A
         · refine A.iloadN (q := 140) at_139 rfl rfl ?_
           refine A.iconst (q := 141) (v := (3 : Int32)) at_140 rfl (by decide) ?_
           refine A.callS (q := 144) (w1 := 123) (w2 := 124) (w3 := 24) (w4 := 125) (as := [(.int t2), (.int (3 : Int32))]) (st := [(.int v110)]) (W := 1) at_141 rfl rfl rfl rfl rfl (rmY l Z a0 hw n0 t2 (3 : Int32) _) (by decide) ⟨_, _, pd_12, rfl⟩ rfl rfl rfl (by decide) (by decide) (by decide) (by decide) ?_
           rintro _ T _ ⟨rfl, rfl⟩ A
           show Go p e below _ (T.setTop (mkF m 144 #[.val (.int t1), .val (.int t2), .val (.int qq), .val (.ref b1), .val (.int v5)] [(.int (FY t2 (3 : Int32))), (.int v110)]))
           obtain ⟨v113, e113⟩ : ∃ v : Int32, (FY t2 (3 : Int32)) = v := ⟨_, rfl⟩
           rw [e113]
           refine A.if_eq (q := 147) (r := 151) at_144 rfl (by decide) (fun h114 => ?_) (fun h114 => ?_)
           · refine A.iconst (q := 152) (v := (0 : Int32)) at_151 rfl (by decide) ?_
             exact J131_115 T _ (by first | (simp only [e111, e113, if_pos h112, if_pos h114]; done) | (subst e111 e113; simp only [if_pos h112, if_pos h114])) A
           · refine A.iconst (q := 148) (v := (1 : Int32)) at_147 rfl (by decide) ?_
             refine A.goto (r := 152) at_148 (by decide) ?_
             exact J131_115 T _ (by first | (simp only [e111, e113, if_neg h114, if_pos h112]; done) | (subst e111 e113; simp only [if_neg h114, if_pos h112])) A
        refine A.iloadN (q := 103) at_102 rfl rfl ?_
        refine A.iconst (q := 104) (v := (2 : Int32)) at_103 rfl (by decide) ?_
        refine A.callS (q := 107) (w1 := 123) (w2 := 124) (w3 := 24) (w4 := 125) (as := [(.int t1), (.int (2 : Int32))]) (st := [(.int v103)]) (W := 1) at_104 rfl rfl rfl rfl rfl (rmY l Z a0 hw n0 t1 (2 : Int32) _) (by decide) ⟨_, _, pd_12, rfl⟩ rfl rfl rfl (by decide) (by decide) (by decide) (by decide) ?_
        rintro _ T _ ⟨rfl, rfl⟩ A
        show Go p e below _ (T.setTop (mkF m 107 #[.val (.int t1), .val (.int t2), .val (.int qq), .val (.ref b1), .val (.int v5)] [(.int (FY t1 (2 : Int32))), (.int v103)]))
        obtain ⟨v104, e104⟩ : ∃ v : Int32, (FY t1 (2 : Int32)) = v := ⟨_, rfl⟩
        rw [e104]
        refine A.if_ne (q := 110) (r := 118) at_107 rfl (by decide) (fun h105 => ?_) (fun h105 => ?_)
        · refine A.iconst (q := 119) (v := (1 : Int32)) at_118 rfl (by decide) ?_
          refine A.goto (r := 123) at_119 (by decide) ?_
          exact J102_108 T _ (by simp only [e104, if_neg h105]) A
        · refine A.iloadN (q := 111) at_110 rfl rfl ?_
          refine A.iconst (q := 112) (v := (2 : Int32)) at_111 rfl (by decide) ?_
          refine A.callS (q := 115) (w1 := 123) (w2 := 124) (w3 := 24) (w4 := 125) (as := [(.int t2), (.int (2 : Int32))]) (st := [(.int v103)]) (W := 1) at_112 rfl rfl rfl rfl rfl (rmY l Z a0 hw n0 t2 (2 : Int32) _) (by decide) ⟨_, _, pd_12, rfl⟩ rfl rfl rfl (by decide) (by decide) (by decide) (by decide) ?_
          rintro _ T _ ⟨rfl, rfl⟩ A
          show Go p e below _ (T.setTop (mkF m 115 #[.val (.int t1), .val (.int t2), .val (.int qq), .val (.ref b1), .val (.int v5)] [(.int (FY t2 (2 : Int32))), (.int v103)]))
          obtain ⟨v106, e106⟩ : ∃ v : Int32, (FY t2 (2 : Int32)) = v := ⟨_, rfl⟩
          rw [e106]
          refine A.if_eq (q := 118) (r := 122) at_115 rfl (by decide) (fun h107 => ?_) (fun h107 => ?_)
          · refine A.iconst (q := 123) (v := (0 : Int32)) at_122 rfl (by decide) ?_
            exact J102_108 T _ (by first | (simp only [e104, e106, if_pos h105, if_pos h107]; done) | (subst e104 e106; simp only [if_pos h105, if_pos h107])) A
          · refine A.iconst (q := 119) (v := (1 : Int32)) at_118 rfl (by decide) ?_
            refine A.goto (r := 123) at_119 (by decide) ?_
            exact J102_108 T _ (by first | (simp only [e104, e106, if_neg h107, if_pos h105]; done) | (subst e104 e106; simp only [if_neg h107, if_pos h105])) A
       refine A.iloadN (q := 74) at_73 rfl rfl ?_
       refine A.iconst (q := 75) (v := (1 : Int32)) at_74 rfl (by decide) ?_
       refine A.callS (q := 78) (w1 := 123) (w2 := 124) (w3 := 24) (w4 := 125) (as := [(.int t1), (.int (1 : Int32))]) (st := [(.int v96)]) (W := 1) at_75 rfl rfl rfl rfl rfl (rmY l Z a0 hw n0 t1 (1 : Int32) _) (by decide) ⟨_, _, pd_12, rfl⟩ rfl rfl rfl (by decide) (by decide) (by decide) (by decide) ?_
       rintro _ T _ ⟨rfl, rfl⟩ A
       show Go p e below _ (T.setTop (mkF m 78 #[.val (.int t1), .val (.int t2), .val (.int qq), .val (.ref b1), .val (.int v5)] [(.int (FY t1 (1 : Int32))), (.int v96)]))
       obtain ⟨v97, e97⟩ : ∃ v : Int32, (FY t1 (1 : Int32)) = v := ⟨_, rfl⟩
       rw [e97]
       refine A.if_ne (q := 81) (r := 89) at_78 rfl (by decide) (fun h98 => ?_) (fun h98 => ?_)
       · refine A.iconst (q := 90) (v := (1 : Int32)) at_89 rfl (by decide) ?_
         refine A.goto (r := 94) at_90 (by decide) ?_
         exact J73_101 T _ (by simp only [e97, if_neg h98]) A
       · refine A.iloadN (q := 82) at_81 rfl rfl ?_
         refine A.iconst (q := 83) (v := (1 : Int32)) at_82 rfl (by decide) ?_
         refine A.callS (q := 86) (w1 := 123) (w2 := 124) (w3 := 24) (w4 := 125) (as := [(.int t2), (.int (1 : Int32))]) (st := [(.int v96)]) (W := 1) at_83 rfl rfl rfl rfl rfl (rmY l Z a0 hw n0 t2 (1 : Int32) _) (by decide) ⟨_, _, pd_12, rfl⟩ rfl rfl rfl (by decide) (by decide) (by decide) (by decide) ?_
         rintro _ T _ ⟨rfl, rfl⟩ A
         show Go p e below _ (T.setTop (mkF m 86 #[.val (.int t1), .val (.int t2), .val (.int qq), .val (.ref b1), .val (.int v5)] [(.int (FY t2 (1 : Int32))), (.int v96)]))
         obtain ⟨v99, e99⟩ : ∃ v : Int32, (FY t2 (1 : Int32)) = v := ⟨_, rfl⟩
         rw [e99]
         refine A.if_eq (q := 89) (r := 93) at_86 rfl (by decide) (fun h100 => ?_) (fun h100 => ?_)
         · refine A.iconst (q := 94) (v := (0 : Int32)) at_93 rfl (by decide) ?_
           exact J73_101 T _ (by first | (simp only [e97, e99, if_pos h100, if_pos h98]; done) | (subst e97 e99; simp only [if_pos h100, if_pos h98])) A
         · refine A.iconst (q := 90) (v := (1 : Int32)) at_89 rfl (by decide) ?_
           refine A.goto (r := 94) at_90 (by decide) ?_
           exact J73_101 T _ (by first | (simp only [e97, e99, if_neg h100, if_pos h98]; done) | (subst e97 e99; simp only [if_neg h100, if_pos h98])) A
      refine A.iloadN (q := 45) at_44 rfl rfl ?_
      refine A.iconst (q := 46) (v := (0 : Int32)) at_45 rfl (by decide) ?_
      refine A.callS (q := 49) (w1 := 123) (w2 := 124) (w3 := 24) (w4 := 125) (as := [(.int t1), (.int (0 : Int32))]) (st := [(.int v89)]) (W := 1) at_46 rfl rfl rfl rfl rfl (rmY l Z a0 hw n0 t1 (0 : Int32) _) (by decide) ⟨_, _, pd_12, rfl⟩ rfl rfl rfl (by decide) (by decide) (by decide) (by decide) ?_
      rintro _ T _ ⟨rfl, rfl⟩ A
      show Go p e below _ (T.setTop (mkF m 49 #[.val (.int t1), .val (.int t2), .val (.int qq), .val (.ref b1), .val (.int v5)] [(.int (FY t1 (0 : Int32))), (.int v89)]))
      obtain ⟨v90, e90⟩ : ∃ v : Int32, (FY t1 (0 : Int32)) = v := ⟨_, rfl⟩
      rw [e90]
      refine A.if_ne (q := 52) (r := 60) at_49 rfl (by decide) (fun h91 => ?_) (fun h91 => ?_)
      · refine A.iconst (q := 61) (v := (1 : Int32)) at_60 rfl (by decide) ?_
        refine A.goto (r := 65) at_61 (by decide) ?_
        exact J44_94 T _ (by simp only [e90, if_neg h91]) A
      · refine A.iloadN (q := 53) at_52 rfl rfl ?_
        refine A.iconst (q := 54) (v := (0 : Int32)) at_53 rfl (by decide) ?_
        refine A.callS (q := 57) (w1 := 123) (w2 := 124) (w3 := 24) (w4 := 125) (as := [(.int t2), (.int (0 : Int32))]) (st := [(.int v89)]) (W := 1) at_54 rfl rfl rfl rfl rfl (rmY l Z a0 hw n0 t2 (0 : Int32) _) (by decide) ⟨_, _, pd_12, rfl⟩ rfl rfl rfl (by decide) (by decide) (by decide) (by decide) ?_
        rintro _ T _ ⟨rfl, rfl⟩ A
        show Go p e below _ (T.setTop (mkF m 57 #[.val (.int t1), .val (.int t2), .val (.int qq), .val (.ref b1), .val (.int v5)] [(.int (FY t2 (0 : Int32))), (.int v89)]))
        obtain ⟨v92, e92⟩ : ∃ v : Int32, (FY t2 (0 : Int32)) = v := ⟨_, rfl⟩
        rw [e92]
        refine A.if_eq (q := 60) (r := 64) at_57 rfl (by decide) (fun h93 => ?_) (fun h93 => ?_)
        · refine A.iconst (q := 65) (v := (0 : Int32)) at_64 rfl (by decide) ?_
          exact J44_94 T _ (by first | (simp only [e90, e92, if_pos h91, if_pos h93]; done) | (subst e90 e92; simp only [if_pos h91, if_pos h93])) A
        · refine A.iconst (q := 61) (v := (1 : Int32)) at_60 rfl (by decide) ?_
          refine A.goto (r := 65) at_61 (by decide) ?_
          exact J44_94 T _ (by first | (simp only [e90, e92, if_neg h93, if_pos h91]; done) | (subst e90 e92; simp only [if_neg h93, if_pos h91])) A
    · have A := A.front (i := 10) rfl rfl
      have A := A.front (i := 4) rfl rfl
      have A := A.front (i := 4) rfl rfl
      have A := A.front (i := 4) rfl rfl
      have A := A.front (i := 4) rfl rfl
      have A := A.front (i := 10) rfl rfl
      have A := A.front (i := 11) rfl rfl
      have A := A.front (i := 11) (L' := [(b1, ob1 (.ref b3) (.ref b2) (.int al1) (.long (0 : Int64)) (.long v80) (.long v81) .null (.ref b79)), (b3, .inr (.long, List.map Value.long (z4))), (b2, .inr (.byte, List.map Value.int fo1)), (b82, ob0 (.ref b83) (.ref b84) (.ref b85) (.long (0 : Int64)) (.int (1 : Int32))), (b83, .inr (.int, [(.int pa2), (.int pb2)])), (b84, .inr (.long, [(.long (0 : Int64)), (.long (0 : Int64))])), (b85, .inr (.boolean, [(.int g1), (.int g2)])), (b79, .inr (.int, List.map Value.int sv1)), (b6, ob0 (.ref b7) (.ref b8) (.ref b9) (.long (0 : Int64)) (.int (1 : Int32))), (b7, .inr (.int, [(.int pa1), (.int pb1)])), (b8, .inr (.long, [(.long (0 : Int64)), (.long (0 : Int64))])), (b9, .inr (.boolean, [(.int f1), (.int f2)]))]) rfl rfl
      refine A.callVW (q := 34) (i := 0) (w1 := 59) (w2 := 60) (w3 := 2) (w4 := 63) (w5 := 62) (w6 := 61) (a := b1) (as := [(.ref b82)]) (st := []) (W := 0) at_31 rfl rfl rfl rfl rfl rfl rfl rfl (rmDA1 l Z a0 hw n0 b1 b82 b3 b2 al1 v80 v81 b79 fo1 b83 b84 b85 pa2 pb2 g1 g2 sv1 sg pg2 _ hfo1 hA2 hB2 hal1 hsv1 hu2 hv2 hS) (by decide) ⟨_, _, pd_11, rfl⟩ rfl rfl rfl (by decide) (by decide) (by decide) (by decide) ?_
      rintro _ T _ ⟨b117, v118, v119, rfl, rfl⟩ A
      show Go p e below _ (T.setTop (mkF m 34 #[.val (.int t1), .val (.int t2), .val (.int qq), .val (.ref b1), .val (.int v5)] []))
      obtain ⟨lf, hlf⟩ : ∃ z : List Int32, (umL (uL (l2L (mkL fo1 pa2 pb2) pa2 pb2 g1 g2)) pa2 pb2) = z := ⟨_, rfl⟩
      rw [hlf] at A
      have hl := (own_rO1 g1 g2 hfo1 hA2 hB2).trans hlf
      have hll := own_rlen hl
      have A : Here p l e room_1 s m ([(.int t1), (.int t2), (.int qq)] : List Value).toArray below meth c Z a0 tables_1 x.cls x.name code 5 (some .boolean) n0 T [(b82, ob0 (.ref b83) (.ref b84) (.ref b85) (.long (0 : Int64)) (.int (1 : Int32))), (b83, .inr (.int, [(.int pa2), (.int pb2)])), (b84, .inr (.long, [(.long (0 : Int64)), (.long (0 : Int64))])), (b85, .inr (.boolean, [(.int g1), (.int g2)])), (b1, ob1 (.ref b3) (.ref b2) (.int (cnt (uL (l2L (mkL fo1 pa2 pb2) pa2 pb2 g1 g2)))) (.long (0 : Int64)) (.long v118) (.long v119) .null (.ref b117)), (b2, .inr (.byte, List.map Value.int lf)), (b117, .inr (.int, List.map Value.int (svL (uL (l2L (mkL fo1 pa2 pb2) pa2 pb2 g1 g2)) pa2 pb2))), (b79, .inr (.int, List.map Value.int sv1)), (b3, .inr (.long, List.map Value.long (z4))), (b6, ob0 (.ref b7) (.ref b8) (.ref b9) (.long (0 : Int64)) (.int (1 : Int32))), (b7, .inr (.int, [(.int pa1), (.int pb1)])), (b8, .inr (.long, [(.long (0 : Int64)), (.long (0 : Int64))])), (b9, .inr (.boolean, [(.int f1), (.int f2)]))] 13 42 := A
      refine A.iload (q := 36) at_34 rfl rfl ?_
      refine A.if_ne (q := 39) (r := 159) at_36 rfl (by decide) (fun h => (h (own_bef e4 e5)).elim) (fun _ => ?_)
      refine A.aloadN (q := 40) at_39 rfl rfl rfl ?_
      refine A.iconst (q := 41) (v := (0 : Int32)) at_40 rfl (by decide) ?_
      have A := A.front (i := 5) rfl rfl
      have A := A.front (i := 5) (L' := [(b1, ob1 (.ref b3) (.ref b2) (.int (cnt (uL (l2L (mkL fo1 pa2 pb2) pa2 pb2 g1 g2)))) (.long (0 : Int64)) (.long v118) (.long v119) .null (.ref b117)), (b2, .inr (.byte, List.map Value.int lf)), (b82, ob0 (.ref b83) (.ref b84) (.ref b85) (.long (0 : Int64)) (.int (1 : Int32))), (b83, .inr (.int, [(.int pa2), (.int pb2)])), (b84, .inr (.long, [(.long (0 : Int64)), (.long (0 : Int64))])), (b85, .inr (.boolean, [(.int g1), (.int g2)])), (b117, .inr (.int, List.map Value.int (svL (uL (l2L (mkL fo1 pa2 pb2) pa2 pb2 g1 g2)) pa2 pb2))), (b79, .inr (.int, List.map Value.int sv1)), (b3, .inr (.long, List.map Value.long (z4))), (b6, ob0 (.ref b7) (.ref b8) (.ref b9) (.long (0 : Int64)) (.int (1 : Int32))), (b7, .inr (.int, [(.int pa1), (.int pb1)])), (b8, .inr (.long, [(.long (0 : Int64)), (.long (0 : Int64))])), (b9, .inr (.boolean, [(.int f1), (.int f2)]))]) rfl rfl
      refine A.callV (q := 44) (i := 0) (w1 := 17) (w2 := 18) (w3 := 2) (w4 := 21) (w5 := 20) (w6 := 19) (a := b1) (as := [(.int (0 : Int32))]) (st := []) (W := 0) at_41 rfl rfl rfl rfl rfl rfl rfl rfl (rmF l Z a0 hw n0 b1 (0 : Int32) b3 b2 (cnt (uL (l2L (mkL fo1 pa2 pb2) pa2 pb2 g1 g2))) (0 : Int64) v118 v119 .null (.ref b117) lf _ (by decide) (own_rlt hll _ (by decide))) (by decide) ⟨_, _, pd_2, rfl⟩ rfl rfl rfl (by decide) (by decide) (by decide) (by decide) ?_
      rintro _ T _ ⟨rfl, rfl⟩ A
      show Go p e below _ (T.setTop (mkF m 44 #[.val (.int t1), .val (.int t2), .val (.int qq), .val (.ref b1), .val (.int v5)] [(.int (FF (0 : Int32) lf))]))
      obtain ⟨v121, e121⟩ : ∃ v : Int32, (FF (0 : Int32) lf) = v := ⟨_, rfl⟩
      rw [e121]
      have J44_126 : ∀ (T : State) (j126 : Int32), j126 = (if ((FY t1 (0 : Int32))) = (0 : Int32) then (if ((FY t2 (0 : Int32))) = (0 : Int32) then (0 : Int32) else (1 : Int32)) else (1 : Int32)) → Here p l e room_1 s m ([(.int t1), (.int t2), (.int qq)] : List Value).toArray below meth c Z a0 tables_1 x.cls x.name code 5 (some .boolean) n0 T [(b1, ob1 (.ref b3) (.ref b2) (.int (cnt (uL (l2L (mkL fo1 pa2 pb2) pa2 pb2 g1 g2)))) (.long (0 : Int64)) (.long v118) (.long v119) .null (.ref b117)), (b2, .inr (.byte, List.map Value.int lf)), (b82, ob0 (.ref b83) (.ref b84) (.ref b85) (.long (0 : Int64)) (.int (1 : Int32))), (b83, .inr (.int, [(.int pa2), (.int pb2)])), (b84, .inr (.long, [(.long (0 : Int64)), (.long (0 : Int64))])), (b85, .inr (.boolean, [(.int g1), (.int g2)])), (b117, .inr (.int, List.map Value.int (svL (uL (l2L (mkL fo1 pa2 pb2) pa2 pb2 g1 g2)) pa2 pb2))), (b79, .inr (.int, List.map Value.int sv1)), (b3, .inr (.long, List.map Value.long (z4))), (b6, ob0 (.ref b7) (.ref b8) (.ref b9) (.long (0 : Int64)) (.int (1 : Int32))), (b7, .inr (.int, [(.int pa1), (.int pb1)])), (b8, .inr (.long, [(.long (0 : Int64)), (.long (0 : Int64))])), (b9, .inr (.boolean, [(.int f1), (.int f2)]))] 13 42 → Go p e below (EndS below s n0 Z 40 192 (fun v _ => v = some (.int 1))) (T.setTop (mkF m 65 #[.val (.int t1), .val (.int t2), .val (.int qq), .val (.ref b1), .val (.int v5)] [(.int j126), (.int v121)])) := by
       intro T j126 ej126 A
       have z_j126 : nar .boolean j126 = j126 := by rw [ej126]; (repeat' split) <;> first | decide | assumption
       refine A.icmpF (q := 68) at_65 rfl (teq (by rw [← e121, ej126]; exact own_e0 hr hl hu1 hv1 (Or.inr rfl) hu2 hv2 (Or.inr rfl) hy1 hy2 : v121 = j126)).2 ?_
       refine A.aloadN (q := 69) at_68 rfl rfl rfl ?_
       refine A.iconst (q := 70) (v := (1 : Int32)) at_69 rfl (by decide) ?_
       refine A.callV (q := 73) (i := 0) (w1 := 17) (w2 := 18) (w3 := 2) (w4 := 21) (w5 := 20) (w6 := 19) (a := b1) (as := [(.int (1 : Int32))]) (st := []) (W := 0) at_70 rfl rfl rfl rfl rfl rfl rfl rfl (rmF l Z a0 hw n0 b1 (1 : Int32) b3 b2 (cnt (uL (l2L (mkL fo1 pa2 pb2) pa2 pb2 g1 g2))) (0 : Int64) v118 v119 .null (.ref b117) lf _ (by decide) (own_rlt hll _ (by decide))) (by decide) ⟨_, _, pd_2, rfl⟩ rfl rfl rfl (by decide) (by decide) (by decide) (by decide) ?_
       rintro _ T _ ⟨rfl, rfl⟩ A
       show Go p e below _ (T.setTop (mkF m 73 #[.val (.int t1), .val (.int t2), .val (.int qq), .val (.ref b1), .val (.int v5)] [(.int (FF (1 : Int32) lf))]))
       obtain ⟨v128, e128⟩ : ∃ v : Int32, (FF (1 : Int32) lf) = v := ⟨_, rfl⟩
       rw [e128]
       have J73_133 : ∀ (T : State) (j133 : Int32), j133 = (if ((FY t1 (1 : Int32))) = (0 : Int32) then (if ((FY t2 (1 : Int32))) = (0 : Int32) then (0 : Int32) else (1 : Int32)) else (1 : Int32)) → Here p l e room_1 s m ([(.int t1), (.int t2), (.int qq)] : List Value).toArray below meth c Z a0 tables_1 x.cls x.name code 5 (some .boolean) n0 T [(b1, ob1 (.ref b3) (.ref b2) (.int (cnt (uL (l2L (mkL fo1 pa2 pb2) pa2 pb2 g1 g2)))) (.long (0 : Int64)) (.long v118) (.long v119) .null (.ref b117)), (b2, .inr (.byte, List.map Value.int lf)), (b82, ob0 (.ref b83) (.ref b84) (.ref b85) (.long (0 : Int64)) (.int (1 : Int32))), (b83, .inr (.int, [(.int pa2), (.int pb2)])), (b84, .inr (.long, [(.long (0 : Int64)), (.long (0 : Int64))])), (b85, .inr (.boolean, [(.int g1), (.int g2)])), (b117, .inr (.int, List.map Value.int (svL (uL (l2L (mkL fo1 pa2 pb2) pa2 pb2 g1 g2)) pa2 pb2))), (b79, .inr (.int, List.map Value.int sv1)), (b3, .inr (.long, List.map Value.long (z4))), (b6, ob0 (.ref b7) (.ref b8) (.ref b9) (.long (0 : Int64)) (.int (1 : Int32))), (b7, .inr (.int, [(.int pa1), (.int pb1)])), (b8, .inr (.long, [(.long (0 : Int64)), (.long (0 : Int64))])), (b9, .inr (.boolean, [(.int f1), (.int f2)]))] 13 42 → Go p e below (EndS below s n0 Z 40 192 (fun v _ => v = some (.int 1))) (T.setTop (mkF m 94 #[.val (.int t1), .val (.int t2), .val (.int qq), .val (.ref b1), .val (.int v5)] [(.int j133), (.int v128)])) := by
        intro T j133 ej133 A
        have z_j133 : nar .boolean j133 = j133 := by rw [ej133]; (repeat' split) <;> first | decide | assumption
        refine A.icmpF (q := 97) at_94 rfl (teq (by rw [← e128, ej133]; exact own_e1 hr hl hu1 hv1 (Or.inr rfl) hu2 hv2 (Or.inr rfl) hy1 hy2 : v128 = j133)).2 ?_
        refine A.aloadN (q := 98) at_97 rfl rfl rfl ?_
        refine A.iconst (q := 99) (v := (2 : Int32)) at_98 rfl (by decide) ?_
        refine A.callV (q := 102) (i := 0) (w1 := 17) (w2 := 18) (w3 := 2) (w4 := 21) (w5 := 20) (w6 := 19) (a := b1) (as := [(.int (2 : Int32))]) (st := []) (W := 0) at_99 rfl rfl rfl rfl rfl rfl rfl rfl (rmF l Z a0 hw n0 b1 (2 : Int32) b3 b2 (cnt (uL (l2L (mkL fo1 pa2 pb2) pa2 pb2 g1 g2))) (0 : Int64) v118 v119 .null (.ref b117) lf _ (by decide) (own_rlt hll _ (by decide))) (by decide) ⟨_, _, pd_2, rfl⟩ rfl rfl rfl (by decide) (by decide) (by decide) (by decide) ?_
        rintro _ T _ ⟨rfl, rfl⟩ A
        show Go p e below _ (T.setTop (mkF m 102 #[.val (.int t1), .val (.int t2), .val (.int qq), .val (.ref b1), .val (.int v5)] [(.int (FF (2 : Int32) lf))]))
        obtain ⟨v135, e135⟩ : ∃ v : Int32, (FF (2 : Int32) lf) = v := ⟨_, rfl⟩
        rw [e135]
        have J102_140 : ∀ (T : State) (j140 : Int32), j140 = (if ((FY t1 (2 : Int32))) = (0 : Int32) then (if ((FY t2 (2 : Int32))) = (0 : Int32) then (0 : Int32) else (1 : Int32)) else (1 : Int32)) → Here p l e room_1 s m ([(.int t1), (.int t2), (.int qq)] : List Value).toArray below meth c Z a0 tables_1 x.cls x.name code 5 (some .boolean) n0 T [(b1, ob1 (.ref b3) (.ref b2) (.int (cnt (uL (l2L (mkL fo1 pa2 pb2) pa2 pb2 g1 g2)))) (.long (0 : Int64)) (.long v118) (.long v119) .null (.ref b117)), (b2, .inr (.byte, List.map Value.int lf)), (b82, ob0 (.ref b83) (.ref b84) (.ref b85) (.long (0 : Int64)) (.int (1 : Int32))), (b83, .inr (.int, [(.int pa2), (.int pb2)])), (b84, .inr (.long, [(.long (0 : Int64)), (.long (0 : Int64))])), (b85, .inr (.boolean, [(.int g1), (.int g2)])), (b117, .inr (.int, List.map Value.int (svL (uL (l2L (mkL fo1 pa2 pb2) pa2 pb2 g1 g2)) pa2 pb2))), (b79, .inr (.int, List.map Value.int sv1)), (b3, .inr (.long, List.map Value.long (z4))), (b6, ob0 (.ref b7) (.ref b8) (.ref b9) (.long (0 : Int64)) (.int (1 : Int32))), (b7, .inr (.int, [(.int pa1), (.int pb1)])), (b8, .inr (.long, [(.long (0 : Int64)), (.long (0 : Int64))])), (b9, .inr (.boolean, [(.int f1), (.int f2)]))] 13 42 → Go p e below (EndS below s n0 Z 40 192 (fun v _ => v = some (.int 1))) (T.setTop (mkF m 123 #[.val (.int t1), .val (.int t2), .val (.int qq), .val (.ref b1), .val (.int v5)] [(.int j140), (.int v135)])) := by
         intro T j140 ej140 A
         have z_j140 : nar .boolean j140 = j140 := by rw [ej140]; (repeat' split) <;> first | decide | assumption
         refine A.icmpF (q := 126) at_123 rfl (teq (by rw [← e135, ej140]; exact own_e2 hr hl hu1 hv1 (Or.inr rfl) hu2 hv2 (Or.inr rfl) hy1 hy2 : v135 = j140)).2 ?_
         refine A.aloadN (q := 127) at_126 rfl rfl rfl ?_
         refine A.iconst (q := 128) (v := (3 : Int32)) at_127 rfl (by decide) ?_
         refine A.callV (q := 131) (i := 0) (w1 := 17) (w2 := 18) (w3 := 2) (w4 := 21) (w5 := 20) (w6 := 19) (a := b1) (as := [(.int (3 : Int32))]) (st := []) (W := 0) at_128 rfl rfl rfl rfl rfl rfl rfl rfl (rmF l Z a0 hw n0 b1 (3 : Int32) b3 b2 (cnt (uL (l2L (mkL fo1 pa2 pb2) pa2 pb2 g1 g2))) (0 : Int64) v118 v119 .null (.ref b117) lf _ (by decide) (own_rlt hll _ (by decide))) (by decide) ⟨_, _, pd_2, rfl⟩ rfl rfl rfl (by decide) (by decide) (by decide) (by decide) ?_
         rintro _ T _ ⟨rfl, rfl⟩ A
         show Go p e below _ (T.setTop (mkF m 131 #[.val (.int t1), .val (.int t2), .val (.int qq), .val (.ref b1), .val (.int v5)] [(.int (FF (3 : Int32) lf))]))
         obtain ⟨v142, e142⟩ : ∃ v : Int32, (FF (3 : Int32) lf) = v := ⟨_, rfl⟩
         rw [e142]
         have J131_147 : ∀ (T : State) (j147 : Int32), j147 = (if ((FY t1 (3 : Int32))) = (0 : Int32) then (if ((FY t2 (3 : Int32))) = (0 : Int32) then (0 : Int32) else (1 : Int32)) else (1 : Int32)) → Here p l e room_1 s m ([(.int t1), (.int t2), (.int qq)] : List Value).toArray below meth c Z a0 tables_1 x.cls x.name code 5 (some .boolean) n0 T [(b1, ob1 (.ref b3) (.ref b2) (.int (cnt (uL (l2L (mkL fo1 pa2 pb2) pa2 pb2 g1 g2)))) (.long (0 : Int64)) (.long v118) (.long v119) .null (.ref b117)), (b2, .inr (.byte, List.map Value.int lf)), (b82, ob0 (.ref b83) (.ref b84) (.ref b85) (.long (0 : Int64)) (.int (1 : Int32))), (b83, .inr (.int, [(.int pa2), (.int pb2)])), (b84, .inr (.long, [(.long (0 : Int64)), (.long (0 : Int64))])), (b85, .inr (.boolean, [(.int g1), (.int g2)])), (b117, .inr (.int, List.map Value.int (svL (uL (l2L (mkL fo1 pa2 pb2) pa2 pb2 g1 g2)) pa2 pb2))), (b79, .inr (.int, List.map Value.int sv1)), (b3, .inr (.long, List.map Value.long (z4))), (b6, ob0 (.ref b7) (.ref b8) (.ref b9) (.long (0 : Int64)) (.int (1 : Int32))), (b7, .inr (.int, [(.int pa1), (.int pb1)])), (b8, .inr (.long, [(.long (0 : Int64)), (.long (0 : Int64))])), (b9, .inr (.boolean, [(.int f1), (.int f2)]))] 13 42 → Go p e below (EndS below s n0 Z 40 192 (fun v _ => v = some (.int 1))) (T.setTop (mkF m 152 #[.val (.int t1), .val (.int t2), .val (.int qq), .val (.ref b1), .val (.int v5)] [(.int j147), (.int v142)])) := by
          intro T j147 ej147 A
          have z_j147 : nar .boolean j147 = j147 := by rw [ej147]; (repeat' split) <;> first | decide | assumption
          refine A.icmpF (q := 155) at_152 rfl (teq (by rw [← e142, ej147]; exact own_e3 hr hl hu1 hv1 (Or.inr rfl) hu2 hv2 (Or.inr rfl) hy1 hy2 : v142 = j147)).2 ?_
          refine A.iconst (q := 156) (v := (1 : Int32)) at_155 rfl (by decide) ?_
          refine A.goto (r := 160) at_156 (by decide) ?_
          exact A.retZ (v := 1) at_160 (by decide) (by decide) (by decide) rfl
         refine A.iloadN (q := 132) at_131 rfl rfl ?_
         refine A.iconst (q := 133) (v := (3 : Int32)) at_132 rfl (by decide) ?_
         refine A.callS (q := 136) (w1 := 123) (w2 := 124) (w3 := 24) (w4 := 125) (as := [(.int t1), (.int (3 : Int32))]) (st := [(.int v142)]) (W := 1) at_133 rfl rfl rfl rfl rfl (rmY l Z a0 hw n0 t1 (3 : Int32) _) (by decide) ⟨_, _, pd_12, rfl⟩ rfl rfl rfl (by decide) (by decide) (by decide) (by decide) ?_
         rintro _ T _ ⟨rfl, rfl⟩ A
         show Go p e below _ (T.setTop (mkF m 136 #[.val (.int t1), .val (.int t2), .val (.int qq), .val (.ref b1), .val (.int v5)] [(.int (FY t1 (3 : Int32))), (.int v142)]))
         obtain ⟨v143, e143⟩ : ∃ v : Int32, (FY t1 (3 : Int32)) = v := ⟨_, rfl⟩
         rw [e143]
         refine A.if_ne (q := 139) (r := 147) at_136 rfl (by decide) (fun h144 => ?_) (fun h144 => ?_)
         · refine A.iconst (q := 148) (v := (1 : Int32)) at_147 rfl (by decide) ?_
           refine A.goto (r := 152) at_148 (by decide) ?_
           exact J131_147 T _ (by simp only [e143, if_neg h144]) A
         · refine A.iloadN (q := 140) at_139 rfl rfl ?_
           refine A.iconst (q := 141) (v := (3 : Int32)) at_140 rfl (by decide) ?_
           refine A.callS (q := 144) (w1 := 123) (w2 := 124) (w3 := 24) (w4 := 125) (as := [(.int t2), (.int (3 : Int32))]) (st := [(.int v142)]) (W := 1) at_141 rfl rfl rfl rfl rfl (rmY l Z a0 hw n0 t2 (3 : Int32) _) (by decide) ⟨_, _, pd_12, rfl⟩ rfl rfl rfl (by decide) (by decide) (by decide) (by decide) ?_
           rintro _ T _ ⟨rfl, rfl⟩ A
           show Go p e below _ (T.setTop (mkF m 144 #[.val (.int t1), .val (.int t2), .val (.int qq), .val (.ref b1), .val (.int v5)] [(.int (FY t2 (3 : Int32))), (.int v142)]))
           obtain ⟨v145, e145⟩ : ∃ v : Int32, (FY t2 (3 : Int32)) = v := ⟨_, rfl⟩
           rw [e145]
           refine A.if_eq (q := 147) (r := 151) at_144 rfl (by decide) (fun h146 => ?_) (fun h146 => ?_)
           · refine A.iconst (q := 152) (v := (0 : Int32)) at_151 rfl (by decide) ?_
             exact J131_147 T _ (by first | (simp only [e143, e145, if_pos h144, if_pos h146]; done) | (subst e143 e145; simp only [if_pos h144, if_pos h146])) A
           · refine A.iconst (q := 148) (v := (1 : Int32)) at_147 rfl (by decide) ?_
             refine A.goto (r := 152) at_148 (by decide) ?_
             exact J131_147 T _ (by first | (simp only [e143, e145, if_neg h146, if_pos h144]; done) | (subst e143 e145; simp only [if_neg h146, if_pos h144])) A
        refine A.iloadN (q := 103) at_102 rfl rfl ?_
        refine A.iconst (q := 104) (v := (2 : Int32)) at_103 rfl (by decide) ?_
        refine A.callS (q := 107) (w1 := 123) (w2 := 124) (w3 := 24) (w4 := 125) (as := [(.int t1), (.int (2 : Int32))]) (st := [(.int v135)]) (W := 1) at_104 rfl rfl rfl rfl rfl (rmY l Z a0 hw n0 t1 (2 : Int32) _) (by decide) ⟨_, _, pd_12, rfl⟩ rfl rfl rfl (by decide) (by decide) (by decide) (by decide) ?_
        rintro _ T _ ⟨rfl, rfl⟩ A
        show Go p e below _ (T.setTop (mkF m 107 #[.val (.int t1), .val (.int t2), .val (.int qq), .val (.ref b1), .val (.int v5)] [(.int (FY t1 (2 : Int32))), (.int v135)]))
        obtain ⟨v136, e136⟩ : ∃ v : Int32, (FY t1 (2 : Int32)) = v := ⟨_, rfl⟩
        rw [e136]
        refine A.if_ne (q := 110) (r := 118) at_107 rfl (by decide) (fun h137 => ?_) (fun h137 => ?_)
        · refine A.iconst (q := 119) (v := (1 : Int32)) at_118 rfl (by decide) ?_
          refine A.goto (r := 123) at_119 (by decide) ?_
          exact J102_140 T _ (by simp only [e136, if_neg h137]) A
        · refine A.iloadN (q := 111) at_110 rfl rfl ?_
          refine A.iconst (q := 112) (v := (2 : Int32)) at_111 rfl (by decide) ?_
          refine A.callS (q := 115) (w1 := 123) (w2 := 124) (w3 := 24) (w4 := 125) (as := [(.int t2), (.int (2 : Int32))]) (st := [(.int v135)]) (W := 1) at_112 rfl rfl rfl rfl rfl (rmY l Z a0 hw n0 t2 (2 : Int32) _) (by decide) ⟨_, _, pd_12, rfl⟩ rfl rfl rfl (by decide) (by decide) (by decide) (by decide) ?_
          rintro _ T _ ⟨rfl, rfl⟩ A
          show Go p e below _ (T.setTop (mkF m 115 #[.val (.int t1), .val (.int t2), .val (.int qq), .val (.ref b1), .val (.int v5)] [(.int (FY t2 (2 : Int32))), (.int v135)]))
          obtain ⟨v138, e138⟩ : ∃ v : Int32, (FY t2 (2 : Int32)) = v := ⟨_, rfl⟩
          rw [e138]
          refine A.if_eq (q := 118) (r := 122) at_115 rfl (by decide) (fun h139 => ?_) (fun h139 => ?_)
          · refine A.iconst (q := 123) (v := (0 : Int32)) at_122 rfl (by decide) ?_
            exact J102_140 T _ (by first | (simp only [e136, e138, if_pos h137, if_pos h139]; done) | (subst e136 e138; simp only [if_pos h137, if_pos h139])) A
          · refine A.iconst (q := 119) (v := (1 : Int32)) at_118 rfl (by decide) ?_
            refine A.goto (r := 123) at_119 (by decide) ?_
            exact J102_140 T _ (by first | (simp only [e136, e138, if_neg h139, if_pos h137]; done) | (subst e136 e138; simp only [if_neg h139, if_pos h137])) A
       refine A.iloadN (q := 74) at_73 rfl rfl ?_
       refine A.iconst (q := 75) (v := (1 : Int32)) at_74 rfl (by decide) ?_
       refine A.callS (q := 78) (w1 := 123) (w2 := 124) (w3 := 24) (w4 := 125) (as := [(.int t1), (.int (1 : Int32))]) (st := [(.int v128)]) (W := 1) at_75 rfl rfl rfl rfl rfl (rmY l Z a0 hw n0 t1 (1 : Int32) _) (by decide) ⟨_, _, pd_12, rfl⟩ rfl rfl rfl (by decide) (by decide) (by decide) (by decide) ?_
       rintro _ T _ ⟨rfl, rfl⟩ A
       show Go p e below _ (T.setTop (mkF m 78 #[.val (.int t1), .val (.int t2), .val (.int qq), .val (.ref b1), .val (.int v5)] [(.int (FY t1 (1 : Int32))), (.int v128)]))
       obtain ⟨v129, e129⟩ : ∃ v : Int32, (FY t1 (1 : Int32)) = v := ⟨_, rfl⟩
       rw [e129]
       refine A.if_ne (q := 81) (r := 89) at_78 rfl (by decide) (fun h130 => ?_) (fun h130 => ?_)
       · refine A.iconst (q := 90) (v := (1 : Int32)) at_89 rfl (by decide) ?_
         refine A.goto (r := 94) at_90 (by decide) ?_
         exact J73_133 T _ (by simp only [e129, if_neg h130]) A
       · refine A.iloadN (q := 82) at_81 rfl rfl ?_
         refine A.iconst (q := 83) (v := (1 : Int32)) at_82 rfl (by decide) ?_
         refine A.callS (q := 86) (w1 := 123) (w2 := 124) (w3 := 24) (w4 := 125) (as := [(.int t2), (.int (1 : Int32))]) (st := [(.int v128)]) (W := 1) at_83 rfl rfl rfl rfl rfl (rmY l Z a0 hw n0 t2 (1 : Int32) _) (by decide) ⟨_, _, pd_12, rfl⟩ rfl rfl rfl (by decide) (by decide) (by decide) (by decide) ?_
         rintro _ T _ ⟨rfl, rfl⟩ A
         show Go p e below _ (T.setTop (mkF m 86 #[.val (.int t1), .val (.int t2), .val (.int qq), .val (.ref b1), .val (.int v5)] [(.int (FY t2 (1 : Int32))), (.int v128)]))
         obtain ⟨v131, e131⟩ : ∃ v : Int32, (FY t2 (1 : Int32)) = v := ⟨_, rfl⟩
         rw [e131]
         refine A.if_eq (q := 89) (r := 93) at_86 rfl (by decide) (fun h132 => ?_) (fun h132 => ?_)
         · refine A.iconst (q := 94) (v := (0 : Int32)) at_93 rfl (by decide) ?_
           exact J73_133 T _ (by first | (simp only [e129, e131, if_pos h130, if_pos h132]; done) | (subst e129 e131; simp only [if_pos h130, if_pos h132])) A
         · refine A.iconst (q := 90) (v := (1 : Int32)) at_89 rfl (by decide) ?_
           refine A.goto (r := 94) at_90 (by decide) ?_
           exact J73_133 T _ (by first | (simp only [e129, e131, if_neg h132, if_pos h130]; done) | (subst e129 e131; simp only [if_neg h132, if_pos h130])) A
      refine A.iloadN (q := 45) at_44 rfl rfl ?_
      refine A.iconst (q := 46) (v := (0 : Int32)) at_45 rfl (by decide) ?_
      refine A.callS (q := 49) (w1 := 123) (w2 := 124) (w3 := 24) (w4 := 125) (as := [(.int t1), (.int (0 : Int32))]) (st := [(.int v121)]) (W := 1) at_46 rfl rfl rfl rfl rfl (rmY l Z a0 hw n0 t1 (0 : Int32) _) (by decide) ⟨_, _, pd_12, rfl⟩ rfl rfl rfl (by decide) (by decide) (by decide) (by decide) ?_
      rintro _ T _ ⟨rfl, rfl⟩ A
      show Go p e below _ (T.setTop (mkF m 49 #[.val (.int t1), .val (.int t2), .val (.int qq), .val (.ref b1), .val (.int v5)] [(.int (FY t1 (0 : Int32))), (.int v121)]))
      obtain ⟨v122, e122⟩ : ∃ v : Int32, (FY t1 (0 : Int32)) = v := ⟨_, rfl⟩
      rw [e122]
      refine A.if_ne (q := 52) (r := 60) at_49 rfl (by decide) (fun h123 => ?_) (fun h123 => ?_)
      · refine A.iconst (q := 61) (v := (1 : Int32)) at_60 rfl (by decide) ?_
        refine A.goto (r := 65) at_61 (by decide) ?_
        exact J44_126 T _ (by simp only [e122, if_neg h123]) A
      · refine A.iloadN (q := 53) at_52 rfl rfl ?_
        refine A.iconst (q := 54) (v := (0 : Int32)) at_53 rfl (by decide) ?_
        refine A.callS (q := 57) (w1 := 123) (w2 := 124) (w3 := 24) (w4 := 125) (as := [(.int t2), (.int (0 : Int32))]) (st := [(.int v121)]) (W := 1) at_54 rfl rfl rfl rfl rfl (rmY l Z a0 hw n0 t2 (0 : Int32) _) (by decide) ⟨_, _, pd_12, rfl⟩ rfl rfl rfl (by decide) (by decide) (by decide) (by decide) ?_
        rintro _ T _ ⟨rfl, rfl⟩ A
        show Go p e below _ (T.setTop (mkF m 57 #[.val (.int t1), .val (.int t2), .val (.int qq), .val (.ref b1), .val (.int v5)] [(.int (FY t2 (0 : Int32))), (.int v121)]))
        obtain ⟨v124, e124⟩ : ∃ v : Int32, (FY t2 (0 : Int32)) = v := ⟨_, rfl⟩
        rw [e124]
        refine A.if_eq (q := 60) (r := 64) at_57 rfl (by decide) (fun h125 => ?_) (fun h125 => ?_)
        · refine A.iconst (q := 65) (v := (0 : Int32)) at_64 rfl (by decide) ?_
          exact J44_126 T _ (by first | (simp only [e122, e124, if_pos h123, if_pos h125]; done) | (subst e122 e124; simp only [if_pos h123, if_pos h125])) A
        · refine A.iconst (q := 61) (v := (1 : Int32)) at_60 rfl (by decide) ?_
          refine A.goto (r := 65) at_61 (by decide) ?_
          exact J44_126 T _ (by first | (simp only [e122, e124, if_neg h125, if_pos h123]; done) | (subst e122 e124; simp only [if_neg h125, if_pos h123])) A
set_option maxRecDepth 65536 in
set_option maxHeartbeats 8000000 in
theorem comes_1 {Post : Tables → Env → Array Value → State → Outcome → State → Prop} (hpost : ∀ tb e args s v u, (limb_1_1.after args s (.returned v) u = true ∧ limb_1_2.after args s (.returned v) u = true ∧ True) → FrameEnd s (.returned v) u (Jvm.fieldLocs frame_1_writes args s ++ Jvm.arrayLocs frame_1_arrays args s ++ Jvm.staticLocs frame_1_statics s) 40 192 → Post tb e args s (.returned v) u) :
    ArmFor flags0 classFile x code maxLocals ret World_1 tables_1 room_1 Calls_1 rest_1 Pre_1 Post := by
  intro l hfl _ _ p e ha hc hk s m args below hf hA hF happ hP
  obtain ⟨hcalls, hrest, hpre⟩ := hP
  obtain ⟨-, -, -, hnamed, -, -, -, hat⟩ := (Spec.applies_iff hf).mp happ
  obtain ⟨hg, hn⟩ := and_e (Cond.before_iff.mp (show (Jvm.Cond.and given_1 narrow_1).before args s = true from hpre))
  obtain ⟨g1, hg⟩ := and_e hg
  obtain ⟨gv0, hg⟩ := and_e hg
  obtain ⟨gv1, hg⟩ := and_e hg
  have gv2 := hg
  obtain ⟨w0, w1, w2, rfl⟩ : ∃ w0 w1 w2 : Value, args = #[w0, w1, w2] := by
    have hs : args.size = 3 := by simpa [Cond.value, given_1] using g1
    obtain ⟨L⟩ := args
    match L, hs with
    | [w0, w1, w2], _ => exact ⟨w0, w1, w2, rfl⟩
  have hw := fun d (hd : d ∈ tables_1) => atoms_spec (ws := Jvm.Cond.code x code maxLocals ret :: tables_1) hat d (List.mem_cons_of_mem _ hd)
  obtain ⟨i0, ei0⟩ := is_v gv0
  obtain rfl : w0 = (.int i0) := Option.some.inj ei0
  obtain ⟨i1, ei1⟩ := is_v gv1
  obtain rfl : w1 = (.int i1) := Option.some.inj ei1
  obtain ⟨i2, ei2⟩ := is_v gv2
  obtain rfl : w2 = (.int i2) := Option.some.inj ei2
  obtain ⟨n, o, h1, h2, h3, _, L, rfl, ⟨N, _, L', rfl, _⟩, hq⟩ := rm0 l s _ hw s.heap.size i0 i1 i2 s.heap tables_1 (Nat.le_refl _) ⟨fun _ q => (nomatch q), List.nodup_nil⟩ p e ha hc hk s m _ below hf ((Spec.applies_iff_loose hf).mp happ).1 ⟨rfl, State.Warmed39.refl s, rfl⟩ trivial
  refine ⟨n, _, h1, h2, h3, hpost _ _ _ _ _ _ ⟨Cond.after_iff.mpr rfl, Cond.after_iff.mpr (eq_i res_at (Term.int_eval (1)) rfl), trivial⟩ ⟨hq.1, hq.2.1, hq.2.2.sift fun y hy => Or.inr (N y hy)⟩⟩
theorem main_1_1 : Claimed_1_1 := comes_1 fun _ _ _ _ _ _ h hF => ⟨h.1, hF⟩
theorem main_1_2 : Claimed_1_2 := comes_1 fun _ _ _ _ _ _ h hF => ⟨h.2.1, hF⟩
end Jvm.Pilot.@@N@@
namespace Jvm.Pilot.@@N@@
open Jvm Jvm.ClassFile Sem Op Lib Jvm.Free Jvm.Stand Jvm.Pilot.@@N@@.Jvm.D
/-! MADE BY PROGRAM (witnessworld.py) out of the Statement's table words and the real class files: 16 classes; the members and pool entries that the words name. The judged class is class 1, her method 1. -/
namespace start1
open Jvm.ClassFile
def u (s : String) : CpInfo := .utf8 (stringToUtf16 s)
/-- a pool by its gaps: so many unusable entries, then the entry; so many at the end -/
def gap : Nat → List CpInfo → List CpInfo
  | 0, r => r
  | n + 1, r => .unusable :: gap n r
def poolList (es : List (Nat × CpInfo)) (last : Nat) : List CpInfo := es.foldr (fun e r => gap e.1 (e.2 :: r)) (gap last [])
def pool (es : List (Nat × CpInfo)) (last : Nat) : Array CpInfo := ⟨poolList es last⟩
def fileOf (pool : Array CpInfo) (this : Nat) (attrs : Array Attribute := #[]) (ms : Array MethodInfo := #[]) (fl : Nat := 33) (sup : Nat := 0) (ifs : Array Nat := #[]) (fds : Array FieldInfo := #[]) : ClassFile where
  minorVersion := 0
  majorVersion := 65
  constantPool := pool
  accessFlags := fl
  thisClass := this
  superClass := sup
  interfaces := ifs
  fields := fds
  methods := ms
  attributes := attrs
def plain (name : String) (sup : Option ClassId) : Class where
  name := name
  kind := .ordinary
  loader := none
  accessFlags := 33
  super := sup
  interfaces := #[]
  cf := none
  fields := #[]
  methods := #[]
  instanceTypes := #[]
  staticTypes := #[]
  resolved := #[]
  callSites := []
  init := .initialized
  statics := none
  mirror := none

def pool0 : Array CpInfo := pool [(5, u "<init>"), (0, u "()V"), (1, .class_ 10), (1, u "java/lang/Object")] 113

def k0c0 : Code := { maxStack := 0, maxLocals := 1, code := object_method_1_code, exceptionTable := #[], attributes := #[] }
def k0m0 : Method := { name := "<init>", desc := "()V", sig := { parameters := [], returnType := none }, accessFlags := 1, code := some k0c0 }
/-- java/lang/Object -/
def k0 : Class := { plain "java/lang/Object" none with
  accessFlags := 33
  interfaces := #[]
  cf := some (fileOf pool0 8 #[] #[{ accessFlags := 1, nameIndex := 5, descriptorIndex := 6, attributes := #[] }] 33 0 #[] #[])
  fields := #[]
  methods := #[k0m0]
  instanceTypes := #[]
  staticTypes := #[]
  resolved := Array.replicate 124 none
  statics := none }

def pool1 : Array CpInfo := pool [(2, .class_ 4), (1, u "java/lang/Object"), (0, u "<init>"), (0, u "()V"), (0, .class_ 8), (0, u "com/example/forebound/forebound/problem/Sum"), (0, .methodref 7 10), (0, .nameAndType 5 11), (0, u "(I)V"), (0, .methodref 7 13), (0, .nameAndType 14 15), (0, u "forbidden"), (0, u "(I)Z"), (0, .methodref 17 18), (0, .class_ 19), (0, .nameAndType 20 21), (0, u "com/example/forebound/forebound/problem/SumForbiddenPinLaw"), (0, u "table"), (0, u "(I)Lcom/example/forebound/forebound/problem/Problem$Table;"), (0, .methodref 7 23), (0, .nameAndType 24 25), (0, u "add"), (0, u "(Lcom/example/forebound/forebound/problem/Problem$Table;)V"), (0, .methodref 17 27), (0, .nameAndType 28 29), (0, u "by"), (0, u "(II)Z"), (0, .methodref 17 31), (0, .nameAndType 32 33), (0, u "first"), (0, u "(I)I"), (0, .methodref 17 35), (0, .nameAndType 36 33), (0, u "second"), (0, .methodref 17 38), (0, .nameAndType 39 29), (0, u "flagAt"), (0, .class_ 41), (0, u "com/example/forebound/forebound/problem/Problem$Table"), (0, .methodref 40 43), (0, .nameAndType 5 44), (0, u "([I[J[ZJZ)V"), (2, u "law"), (0, u "(III)Z")] 7

def k1m0 : Method := { name := "<init>", desc := "()V", sig := { parameters := [], returnType := none }, accessFlags := 1, code := none }
def k1c1 : Code := { maxStack := 3, maxLocals := 5, code := code, exceptionTable := #[], attributes := #[] }
def k1m1 : Method := { name := "law", desc := "(III)Z", sig := { parameters := [.int, .int, .int], returnType := some .boolean }, accessFlags := 9, code := some k1c1 }
def k1c2 : Code := { maxStack := 2, maxLocals := 1, code := method_3_code, exceptionTable := #[], attributes := #[] }
def k1m2 : Method := { name := "first", desc := "(I)I", sig := { parameters := [.int], returnType := some .int }, accessFlags := 10, code := some k1c2 }
def k1c3 : Code := { maxStack := 3, maxLocals := 1, code := method_4_code, exceptionTable := #[], attributes := #[] }
def k1m3 : Method := { name := "second", desc := "(I)I", sig := { parameters := [.int], returnType := some .int }, accessFlags := 10, code := some k1c3 }
def k1c4 : Code := { maxStack := 2, maxLocals := 2, code := method_5_code, exceptionTable := #[], attributes := #[] }
def k1m4 : Method := { name := "flagAt", desc := "(II)Z", sig := { parameters := [.int, .int], returnType := some .boolean }, accessFlags := 10, code := some k1c4 }
def k1c5 : Code := { maxStack := 9, maxLocals := 4, code := method_6_code, exceptionTable := #[], attributes := #[] }
def k1m5 : Method := { name := "table", desc := "(I)Lcom/example/forebound/forebound/problem/Problem$Table;", sig := { parameters := [.int], returnType := some (.object "com/example/forebound/forebound/problem/Problem$Table") }, accessFlags := 10, code := some k1c5 }
def k1c6 : Code := { maxStack := 2, maxLocals := 2, code := method_7_code, exceptionTable := #[], attributes := #[] }
def k1m6 : Method := { name := "by", desc := "(II)Z", sig := { parameters := [.int, .int], returnType := some .boolean }, accessFlags := 10, code := some k1c6 }
/-- com/example/forebound/forebound/problem/SumForbiddenPinLaw -/
def k1 : Class := { plain "com/example/forebound/forebound/problem/SumForbiddenPinLaw" (some 0) with
  accessFlags := 49
  interfaces := #[]
  cf := some (fileOf pool1 17 #[] #[{ accessFlags := 1, nameIndex := 5, descriptorIndex := 6, attributes := #[] }, { accessFlags := 9, nameIndex := 47, descriptorIndex := 48, attributes := #[] }, { accessFlags := 10, nameIndex := 32, descriptorIndex := 33, attributes := #[] }, { accessFlags := 10, nameIndex := 36, descriptorIndex := 33, attributes := #[] }, { accessFlags := 10, nameIndex := 39, descriptorIndex := 29, attributes := #[] }, { accessFlags := 10, nameIndex := 20, descriptorIndex := 21, attributes := #[] }, { accessFlags := 10, nameIndex := 28, descriptorIndex := 29, attributes := #[] }] 49 2 #[] #[])
  fields := #[]
  methods := #[k1m0, k1m1, k1m2, k1m3, k1m4, k1m5, k1m6]
  instanceTypes := #[]
  staticTypes := #[]
  resolved := Array.replicate 56 none
  statics := none }

def pool2 : Array CpInfo := pool [(1, .methodref 2 3), (0, .class_ 4), (0, .nameAndType 5 6), (0, u "java/lang/Object"), (0, u "<init>"), (0, u "()V"), (0, .fieldref 8 9), (0, .class_ 10), (0, .nameAndType 11 12), (0, u "com/example/forebound/forebound/problem/Sum"), (0, u "offsets"), (0, u "[J"), (0, .fieldref 8 14), (0, .nameAndType 15 16), (0, u "flags"), (0, u "[B"), (0, .fieldref 8 18), (0, .nameAndType 19 20), (0, u "allowed"), (0, u "I"), (0, .fieldref 8 22), (0, .nameAndType 23 24), (0, u "shift"), (0, u "J"), (0, .methodref 8 26), (0, .nameAndType 27 28), (0, u "forbidden"), (0, u "(I)Z"), (2, .long 9223372036854775807), (1, .methodref 8 34), (0, .nameAndType 35 36), (0, u "cost"), (0, u "(I)J"), (6, .methodref 44 45), (0, .class_ 46), (0, .nameAndType 47 48), (0, u "com/example/forebound/forebound/problem/Problem$Table"), (0, u "positions"), (0, u "()[I"), (9, .methodref 8 59), (0, .nameAndType 60 61), (0, u "addListed"), (0, u "(Lcom/example/forebound/forebound/problem/Problem$Table;)V"), (0, .methodref 44 63), (0, .nameAndType 27 64), (0, u "()[Z"), (0, .methodref 44 66), (0, .nameAndType 67 68), (0, u "costs"), (0, u "()[J"), (0, .methodref 70 71), (0, .class_ 72), (0, .nameAndType 73 74), (0, u "java/lang/Math"), (0, u "addExact"), (0, u "(JJ)J"), (0, .methodref 44 76), (0, .nameAndType 77 78), (0, u "defaultForbidden"), (0, u "()Z"), (0, .methodref 44 80), (0, .nameAndType 81 82), (0, u "defaultCost"), (0, u "()J"), (0, .fieldref 8 84), (0, .nameAndType 85 24), (0, u "highest"), (0, .fieldref 8 87), (0, .nameAndType 88 24), (0, u "lowest"), (4, u "extremes"), (2, .class_ 98), (1, u "com/example/forebound/forebound/problem/Sum$Extremes"), (7, .long 9223372036854775808), (3, .methodref 8 111), (0, .nameAndType 112 113), (0, u "forbid"), (0, u "(I)V"), (0, .methodref 8 115), (0, .nameAndType 116 113), (0, u "changed"), (0, .methodref 70 118), (0, .nameAndType 119 74), (0, u "max"), (0, .methodref 70 121), (0, .nameAndType 122 74), (0, u "min"), (0, .methodref 8 124), (0, .nameAndType 125 126), (0, u "forbidUnlisted"), (0, u "([I)V"), (0, .fieldref 8 128), (0, .nameAndType 129 130), (0, u "survivors"), (0, u "[I"), (0, .fieldref 8 132), (0, .nameAndType 93 133), (0, u "Lcom/example/forebound/forebound/problem/Sum$Extremes;"), (4, u "FORBIDDEN"), (0, u "B"), (2, u "LISTED"), (9, u "add")] 23

def k2c0 : Code := { maxStack := 2, maxLocals := 2, code := prog_28_method_1_code, exceptionTable := #[], attributes := #[] }
def k2m0 : Method := { name := "<init>", desc := "(I)V", sig := { parameters := [.int], returnType := none }, accessFlags := 0, code := some k2c0 }
def k2c1 : Code := { maxStack := 2, maxLocals := 2, code := prog_28_method_3_code, exceptionTable := #[], attributes := #[] }
def k2m1 : Method := { name := "forbidden", desc := "(I)Z", sig := { parameters := [.int], returnType := some .boolean }, accessFlags := 0, code := some k2c1 }
def k2c2 : Code := { maxStack := 4, maxLocals := 2, code := prog_28_method_4_code, exceptionTable := #[], attributes := #[] }
def k2m2 : Method := { name := "cost", desc := "(I)J", sig := { parameters := [.int], returnType := some .long }, accessFlags := 0, code := some k2c2 }
def k2c3 : Code := { maxStack := 4, maxLocals := 7, code := prog_28_method_6_code, exceptionTable := #[{ startPc := 7, endPc := 88, handlerPc := 121, catchType := 0 }, { startPc := 121, endPc := 123, handlerPc := 121, catchType := 0 }], attributes := #[] }
def k2m3 : Method := { name := "add", desc := "(Lcom/example/forebound/forebound/problem/Problem$Table;)V", sig := { parameters := [(.object "com/example/forebound/forebound/problem/Problem$Table")], returnType := none }, accessFlags := 0, code := some k2c3 }
def k2c4 : Code := { maxStack := 6, maxLocals := 21, code := prog_28_method_7_code, exceptionTable := #[], attributes := #[] }
def k2m4 : Method := { name := "addListed", desc := "(Lcom/example/forebound/forebound/problem/Problem$Table;)V", sig := { parameters := [(.object "com/example/forebound/forebound/problem/Problem$Table")], returnType := none }, accessFlags := 2, code := some k2c4 }
def k2c5 : Code := { maxStack := 3, maxLocals := 7, code := prog_28_method_8_code, exceptionTable := #[], attributes := #[] }
def k2m5 : Method := { name := "forbidUnlisted", desc := "([I)V", sig := { parameters := [(.array .int)], returnType := none }, accessFlags := 2, code := some k2c5 }
def k2c6 : Code := { maxStack := 4, maxLocals := 2, code := prog_28_method_9_code, exceptionTable := #[], attributes := #[] }
def k2m6 : Method := { name := "forbid", desc := "(I)V", sig := { parameters := [.int], returnType := none }, accessFlags := 2, code := some k2c6 }
def k2c7 : Code := { maxStack := 2, maxLocals := 2, code := prog_28_method_10_code, exceptionTable := #[], attributes := #[] }
def k2m7 : Method := { name := "changed", desc := "(I)V", sig := { parameters := [.int], returnType := none }, accessFlags := 2, code := some k2c7 }
/-- com/example/forebound/forebound/problem/Sum -/
def k2 : Class := { plain "com/example/forebound/forebound/problem/Sum" (some 0) with
  accessFlags := 48
  interfaces := #[]
  cf := some (fileOf pool2 8 #[.nestMembers #[96]] #[{ accessFlags := 0, nameIndex := 5, descriptorIndex := 113, attributes := #[] }, { accessFlags := 0, nameIndex := 27, descriptorIndex := 28, attributes := #[] }, { accessFlags := 0, nameIndex := 35, descriptorIndex := 36, attributes := #[] }, { accessFlags := 0, nameIndex := 152, descriptorIndex := 61, attributes := #[] }, { accessFlags := 2, nameIndex := 60, descriptorIndex := 61, attributes := #[] }, { accessFlags := 2, nameIndex := 125, descriptorIndex := 126, attributes := #[] }, { accessFlags := 2, nameIndex := 112, descriptorIndex := 113, attributes := #[] }, { accessFlags := 2, nameIndex := 116, descriptorIndex := 113, attributes := #[] }] 48 2 #[] #[{ accessFlags := 26, nameIndex := 138, descriptorIndex := 139, attributes := #[] }, { accessFlags := 26, nameIndex := 142, descriptorIndex := 139, attributes := #[] }, { accessFlags := 18, nameIndex := 11, descriptorIndex := 12, attributes := #[] }, { accessFlags := 18, nameIndex := 15, descriptorIndex := 16, attributes := #[] }, { accessFlags := 2, nameIndex := 23, descriptorIndex := 24, attributes := #[] }, { accessFlags := 2, nameIndex := 19, descriptorIndex := 20, attributes := #[] }, { accessFlags := 2, nameIndex := 85, descriptorIndex := 24, attributes := #[] }, { accessFlags := 2, nameIndex := 88, descriptorIndex := 24, attributes := #[] }, { accessFlags := 2, nameIndex := 129, descriptorIndex := 130, attributes := #[] }, { accessFlags := 2, nameIndex := 93, descriptorIndex := 133, attributes := #[] }])
  fields := #[{ name := "FORBIDDEN", type := .byte, accessFlags := 26, slot := 0, constantValue := 0 }, { name := "LISTED", type := .byte, accessFlags := 26, slot := 1, constantValue := 0 }, { name := "offsets", type := (.array .long), accessFlags := 18, slot := 0, constantValue := 0 }, { name := "flags", type := (.array .byte), accessFlags := 18, slot := 1, constantValue := 0 }, { name := "shift", type := .long, accessFlags := 2, slot := 2, constantValue := 0 }, { name := "allowed", type := .int, accessFlags := 2, slot := 3, constantValue := 0 }, { name := "highest", type := .long, accessFlags := 2, slot := 4, constantValue := 0 }, { name := "lowest", type := .long, accessFlags := 2, slot := 5, constantValue := 0 }, { name := "survivors", type := (.array .int), accessFlags := 2, slot := 6, constantValue := 0 }, { name := "extremes", type := (.object "com/example/forebound/forebound/problem/Sum$Extremes"), accessFlags := 2, slot := 7, constantValue := 0 }]
  methods := #[k2m0, k2m1, k2m2, k2m3, k2m4, k2m5, k2m6, k2m7]
  instanceTypes := #[(.array .long), (.array .byte), .long, .int, .long, .long, (.array .int), (.object "com/example/forebound/forebound/problem/Sum$Extremes")]
  staticTypes := #[.byte, .byte]
  resolved := Array.replicate 176 none
  statics := none }

def pool3 : Array CpInfo := pool [(1, .methodref 2 3), (0, .class_ 4), (0, .nameAndType 5 6), (0, u "java/lang/Object"), (0, u "<init>"), (0, u "()V"), (0, .class_ 8), (0, u "java/lang/Record")] 13

def k3c0 : Code := { maxStack := 1, maxLocals := 1, code := jdk_30_method_1_code, exceptionTable := #[], attributes := #[] }
def k3m0 : Method := { name := "<init>", desc := "()V", sig := { parameters := [], returnType := none }, accessFlags := 4, code := some k3c0 }
/-- java/lang/Record -/
def k3 : Class := { plain "java/lang/Record" (some 0) with
  accessFlags := 1057
  interfaces := #[]
  cf := some (fileOf pool3 7 #[] #[{ accessFlags := 4, nameIndex := 5, descriptorIndex := 6, attributes := #[] }] 1057 2 #[] #[])
  fields := #[]
  methods := #[k3m0]
  instanceTypes := #[]
  staticTypes := #[]
  resolved := Array.replicate 22 none
  statics := none }

def pool4 : Array CpInfo := pool [(1, .methodref 2 3), (0, .class_ 4), (0, .nameAndType 5 6), (0, u "java/lang/Record"), (0, u "<init>"), (0, u "()V"), (9, .fieldref 17 18), (0, .class_ 19), (0, .nameAndType 20 21), (0, u "com/example/forebound/forebound/problem/Problem$Table"), (0, u "positions"), (0, u "[I"), (0, .fieldref 17 23), (0, .nameAndType 24 25), (0, u "costs"), (0, u "[J"), (0, .fieldref 17 27), (0, .nameAndType 28 29), (0, u "forbidden"), (0, u "[Z"), (0, .fieldref 17 31), (0, .nameAndType 32 33), (0, u "defaultCost"), (0, u "J"), (0, .fieldref 17 35), (0, .nameAndType 36 37), (0, u "defaultForbidden"), (0, u "Z"), (9, u "()[I"), (2, u "([I[J[ZJZ)V"), (25, u "()[J"), (0, u "()[Z"), (0, u "()J"), (0, u "()Z"), (3, .class_ 84), (0, u "com/example/forebound/forebound/problem/Problem")] 31

def k4c0 : Code := { maxStack := 5, maxLocals := 7, code := prog_27_method_1_code, exceptionTable := #[], attributes := #[] }
def k4m0 : Method := { name := "<init>", desc := "([I[J[ZJZ)V", sig := { parameters := [(.array .int), (.array .long), (.array .boolean), .long, .boolean], returnType := none }, accessFlags := 1, code := some k4c0 }
def k4c1 : Code := { maxStack := 1, maxLocals := 1, code := prog_27_method_7_code, exceptionTable := #[], attributes := #[] }
def k4m1 : Method := { name := "positions", desc := "()[I", sig := { parameters := [], returnType := some (.array .int) }, accessFlags := 1, code := some k4c1 }
def k4c2 : Code := { maxStack := 1, maxLocals := 1, code := prog_27_method_8_code, exceptionTable := #[], attributes := #[] }
def k4m2 : Method := { name := "costs", desc := "()[J", sig := { parameters := [], returnType := some (.array .long) }, accessFlags := 1, code := some k4c2 }
def k4c3 : Code := { maxStack := 1, maxLocals := 1, code := prog_27_method_9_code, exceptionTable := #[], attributes := #[] }
def k4m3 : Method := { name := "forbidden", desc := "()[Z", sig := { parameters := [], returnType := some (.array .boolean) }, accessFlags := 1, code := some k4c3 }
def k4c4 : Code := { maxStack := 2, maxLocals := 1, code := prog_27_method_10_code, exceptionTable := #[], attributes := #[] }
def k4m4 : Method := { name := "defaultCost", desc := "()J", sig := { parameters := [], returnType := some .long }, accessFlags := 1, code := some k4c4 }
def k4c5 : Code := { maxStack := 1, maxLocals := 1, code := prog_27_method_11_code, exceptionTable := #[], attributes := #[] }
def k4m5 : Method := { name := "defaultForbidden", desc := "()Z", sig := { parameters := [], returnType := some .boolean }, accessFlags := 1, code := some k4c5 }
/-- com/example/forebound/forebound/problem/Problem$Table -/
def k4 : Class := { plain "com/example/forebound/forebound/problem/Problem$Table" (some 3) with
  accessFlags := 49
  interfaces := #[]
  cf := some (fileOf pool4 17 #[.nestHost 83] #[{ accessFlags := 1, nameIndex := 5, descriptorIndex := 50, attributes := #[] }, { accessFlags := 1, nameIndex := 20, descriptorIndex := 47, attributes := #[] }, { accessFlags := 1, nameIndex := 24, descriptorIndex := 76, attributes := #[] }, { accessFlags := 1, nameIndex := 28, descriptorIndex := 77, attributes := #[] }, { accessFlags := 1, nameIndex := 32, descriptorIndex := 78, attributes := #[] }, { accessFlags := 1, nameIndex := 36, descriptorIndex := 79, attributes := #[] }] 49 2 #[] #[{ accessFlags := 18, nameIndex := 20, descriptorIndex := 21, attributes := #[] }, { accessFlags := 18, nameIndex := 24, descriptorIndex := 25, attributes := #[] }, { accessFlags := 18, nameIndex := 28, descriptorIndex := 29, attributes := #[] }, { accessFlags := 18, nameIndex := 32, descriptorIndex := 33, attributes := #[] }, { accessFlags := 18, nameIndex := 36, descriptorIndex := 37, attributes := #[] }])
  fields := #[{ name := "positions", type := (.array .int), accessFlags := 18, slot := 0, constantValue := 0 }, { name := "costs", type := (.array .long), accessFlags := 18, slot := 1, constantValue := 0 }, { name := "forbidden", type := (.array .boolean), accessFlags := 18, slot := 2, constantValue := 0 }, { name := "defaultCost", type := .long, accessFlags := 18, slot := 3, constantValue := 0 }, { name := "defaultForbidden", type := .boolean, accessFlags := 18, slot := 4, constantValue := 0 }]
  methods := #[k4m0, k4m1, k4m2, k4m3, k4m4, k4m5]
  instanceTypes := #[(.array .int), (.array .long), (.array .boolean), .long, .boolean]
  staticTypes := #[]
  resolved := Array.replicate 116 none
  statics := none }

def pool5 : Array CpInfo := pool [(1, .class_ 2), (0, u "java/lang/Math"), (1, .class_ 6), (1, u "java/lang/Object"), (0, u "<init>"), (0, u "()V"), (89, .class_ 100), (1, u "java/lang/Math$RandomNumberGeneratorHolder"), (20, u "(JJ)J"), (50, u "negativeZeroFloatBits"), (0, u "J"), (2, u "negativeZeroDoubleBits"), (21, u "max"), (2, u "min"), (43, u "$assertionsDisabled"), (0, u "Z"), (91, u "twoToTheDoubleScaleDown"), (0, u "D"), (4, u "twoToTheDoubleScaleUp"), (9, u "E"), (3, u "PI"), (2, u "TAU"), (2, u "DEGREES_TO_RADIANS"), (0, u "RADIANS_TO_DEGREES"), (27, u "addExact")] 66

def k5m0 : Method := { name := "<init>", desc := "()V", sig := { parameters := [], returnType := none }, accessFlags := 2, code := none }
def k5c1 : Code := { maxStack := 6, maxLocals := 6, code := jdk_29_method_25_code, exceptionTable := #[], attributes := #[] }
def k5m1 : Method := { name := "addExact", desc := "(JJ)J", sig := { parameters := [.long, .long], returnType := some .long }, accessFlags := 9, code := some k5c1 }
def k5c2 : Code := { maxStack := 4, maxLocals := 4, code := jdk_29_method_66_code, exceptionTable := #[], attributes := #[] }
def k5m2 : Method := { name := "max", desc := "(JJ)J", sig := { parameters := [.long, .long], returnType := some .long }, accessFlags := 9, code := some k5c2 }
def k5c3 : Code := { maxStack := 4, maxLocals := 4, code := jdk_29_method_70_code, exceptionTable := #[], attributes := #[] }
def k5m3 : Method := { name := "min", desc := "(JJ)J", sig := { parameters := [.long, .long], returnType := some .long }, accessFlags := 9, code := some k5c3 }
/-- java/lang/Math -/
def k5 : Class := { plain "java/lang/Math" (some 0) with
  accessFlags := 49
  interfaces := #[]
  cf := some (fileOf pool5 1 #[.nestMembers #[98]] #[{ accessFlags := 2, nameIndex := 7, descriptorIndex := 8, attributes := #[] }, { accessFlags := 9, nameIndex := 393, descriptorIndex := 121, attributes := #[] }, { accessFlags := 9, nameIndex := 198, descriptorIndex := 121, attributes := #[] }, { accessFlags := 9, nameIndex := 201, descriptorIndex := 121, attributes := #[] }] 49 4 #[] #[{ accessFlags := 25, nameIndex := 354, descriptorIndex := 339, attributes := #[] }, { accessFlags := 25, nameIndex := 358, descriptorIndex := 339, attributes := #[] }, { accessFlags := 25, nameIndex := 361, descriptorIndex := 339, attributes := #[] }, { accessFlags := 26, nameIndex := 364, descriptorIndex := 339, attributes := #[] }, { accessFlags := 26, nameIndex := 365, descriptorIndex := 339, attributes := #[] }, { accessFlags := 26, nameIndex := 172, descriptorIndex := 173, attributes := #[] }, { accessFlags := 26, nameIndex := 176, descriptorIndex := 173, attributes := #[] }, { accessFlags := 8, nameIndex := 344, descriptorIndex := 339, attributes := #[] }, { accessFlags := 8, nameIndex := 338, descriptorIndex := 339, attributes := #[] }, { accessFlags := 4120, nameIndex := 245, descriptorIndex := 246, attributes := #[] }])
  fields := #[{ name := "E", type := .double, accessFlags := 25, slot := 0, constantValue := 0 }, { name := "PI", type := .double, accessFlags := 25, slot := 1, constantValue := 0 }, { name := "TAU", type := .double, accessFlags := 25, slot := 2, constantValue := 0 }, { name := "DEGREES_TO_RADIANS", type := .double, accessFlags := 26, slot := 3, constantValue := 0 }, { name := "RADIANS_TO_DEGREES", type := .double, accessFlags := 26, slot := 4, constantValue := 0 }, { name := "negativeZeroFloatBits", type := .long, accessFlags := 26, slot := 5, constantValue := 0 }, { name := "negativeZeroDoubleBits", type := .long, accessFlags := 26, slot := 6, constantValue := 0 }, { name := "twoToTheDoubleScaleUp", type := .double, accessFlags := 8, slot := 7, constantValue := 0 }, { name := "twoToTheDoubleScaleDown", type := .double, accessFlags := 8, slot := 8, constantValue := 0 }, { name := "$assertionsDisabled", type := .boolean, accessFlags := 4120, slot := 9, constantValue := 0 }]
  methods := #[k5m0, k5m1, k5m2, k5m3]
  instanceTypes := #[]
  staticTypes := #[.double, .double, .double, .double, .double, .long, .long, .double, .double, .boolean]
  resolved := Array.replicate 460 none
  statics := none }

def pool6 : Array CpInfo := pool [(1, u "java/lang/Cloneable"), (0, .class_ 1), (0, u "java/lang/Object"), (0, .class_ 3)] 3

/-- java/lang/Cloneable -/
def k6 : Class := { plain "java/lang/Cloneable" (some 0) with
  accessFlags := 1537
  interfaces := #[]
  cf := some (fileOf pool6 2 #[] #[] 1537 4 #[] #[])
  fields := #[]
  methods := #[]
  instanceTypes := #[]
  staticTypes := #[]
  resolved := Array.replicate 8 none
  statics := none }

def pool7 : Array CpInfo := pool [(1, u "java/io/Serializable"), (0, .class_ 1), (0, u "java/lang/Object"), (0, .class_ 3)] 3

/-- java/io/Serializable -/
def k7 : Class := { plain "java/io/Serializable" (some 0) with
  accessFlags := 1537
  interfaces := #[]
  cf := some (fileOf pool7 2 #[] #[] 1537 4 #[] #[])
  fields := #[]
  methods := #[]
  instanceTypes := #[]
  staticTypes := #[]
  resolved := Array.replicate 8 none
  statics := none }

/-- the primitive boolean -/
def k8 : Class := { plain "boolean" none with kind := .primitive 'Z', accessFlags := 0x411 }
/-- [Z -/
def k9 : Class := { plain "[Z" (some 0) with kind := .array 8 .boolean, interfaces := #[6, 7], accessFlags := 1041 }

/-- the primitive byte -/
def k10 : Class := { plain "byte" none with kind := .primitive 'B', accessFlags := 0x411 }
/-- [B -/
def k11 : Class := { plain "[B" (some 0) with kind := .array 10 .byte, interfaces := #[6, 7], accessFlags := 1041 }

/-- the primitive int -/
def k12 : Class := { plain "int" none with kind := .primitive 'I', accessFlags := 0x411 }
/-- [I -/
def k13 : Class := { plain "[I" (some 0) with kind := .array 12 .int, interfaces := #[6, 7], accessFlags := 1041 }

/-- the primitive long -/
def k14 : Class := { plain "long" none with kind := .primitive 'J', accessFlags := 0x411 }
/-- [J -/
def k15 : Class := { plain "[J" (some 0) with kind := .array 14 .long, interfaces := #[6, 7], accessFlags := 1041 }

def heap : Heap := #[]
def classes : Array Class := #[k0, k1, k2, k3, k4, k5, k6, k7, k8, k9, k10, k11, k12, k13, k14, k15]
def interned : List (Array UInt16 × Addr) := []
def slotsUsed : Nat := 0
def theMethod : MethodId := ⟨1, 1⟩
def args0 : Array Value := #[.int 5, .int 3, .int 1]
def aboutOver (below : List Frame) : State where
  vm := { classes := classes, interned := interned.toArray }
  heap := heap
  slotsUsed := slotsUsed
  threads := #[{ frames := .invoking theMethod args0 :: below }]
def below0 : List Frame := [.native { method := ⟨0, 0⟩, args := #[] }]
def about1 : State := aboutOver below0
def p0 : Program := .bare "" "" ""
def e0 : Env := launch0.env 0 0 0
theorem w_frames : about1.frames = Frame.invoking theMethod args0 :: below0 := rfl
set_option maxRecDepth 65536 in
theorem w_args : argsFit about1.vm theMethod args0 = true := by decide +kernel
set_option maxRecDepth 65536 in
theorem w_heap : heapFits about1 = true := by decide +kernel
set_option maxRecDepth 65536 in
theorem w_runnable : about1.curStatus? = some .runnable := by decide +kernel
set_option maxRecDepth 65536 in
theorem w_alone : about1.alone = true := by decide +kernel
set_option maxRecDepth 65536 in
theorem w_named : about1.methodNamed? x = some theMethod := by decide +kernel
set_option maxRecDepth 65536 in
theorem w_hears : about1.hears theMethod below0 = true := by decide +kernel
set_option maxRecDepth 65536 in
theorem w_ripe : about1.ripe theMethod args0 below0 = true := by decide +kernel
theorem w_running : about1.status = .running := rfl
set_option maxRecDepth 65536 in
theorem w_room : about1.hasRoom e0.platform room_1 = true :=
  launch0.hasRoom_least _ room_1 (by decide +kernel) (by decide +kernel) (by decide +kernel) (by decide +kernel) (by decide +kernel) (by decide +kernel)
theorem allAtoms_all (ts : List Jvm.Cond) (a : Array Jvm.Value) (st : Jvm.State) : (allAtoms ts).before a st = ts.all (fun c => c.before a st) := by
  induction ts with
  | nil => rfl
  | cons c t ih =>
    show (Jvm.Cond.and c (allAtoms t)).before a st = _
    rw [Jvm.Cond.before_and, ih, List.all_cons]
def words1 : List Jvm.Cond := Jvm.Cond.code x code maxLocals ret :: tables_1
/-- a 'code' word, met by the world's own term for the bytes: nothing is compared byte by byte -/
theorem code_word {y : MethodName} {bytes : ByteArray} {mx : Nat} {rt : Option FieldType} {a : Array Value} {s : State} {m : MethodId} {meth : Method} {c : Code} (h1 : s.methodNamed? y = some m) (h2 : s.vm.method? m = some meth) (h3 : meth.code = some c) (h4 : c.code = bytes)
    (h5 : (c.maxLocals == mx && c.exceptionTable.isEmpty && decide (c.maxStack ≤ mostOperands) && decide (meth.sig.returnType = rt) && !meth.locks && decide (parseMethodDescriptor y.desc = some meth.sig)) = true) : (Jvm.Cond.code y bytes mx rt).before a s = true := by
  simp only [Bool.and_eq_true, beq_iff_eq, Bool.not_eq_true', decide_eq_true_eq] at h5
  obtain ⟨⟨⟨⟨⟨g1, g2⟩, g3⟩, g4⟩, g5⟩, g6⟩ := h5
  simp [Cond.before, Cond.holds, Cond.value, h1, h2, h3, h4, g1, g2, g3, g4, g5, g6]
def isCode : Jvm.Cond → Bool
  | .code _ _ _ _ => true
  | _ => false
theorem all_split {L : List Jvm.Cond} {P : Jvm.Cond → Bool} (h1 : L.all (fun c => isCode c || P c) = true) (h2 : ∀ c ∈ L.filter isCode, P c = true) : L.all P = true := by
  refine List.all_eq_true.mpr fun c hc => ?_
  have h := List.all_eq_true.mp h1 c hc
  rcases Bool.eq_false_or_eq_true (isCode c) with hi | hi
  · exact h2 c (List.mem_filter.mpr ⟨hc, hi⟩)
  · simpa [hi] using h
set_option maxRecDepth 65536 in
theorem w_c0 : (Jvm.Cond.code x code maxLocals ret).before args0 about1 = true := code_word (m := ⟨1, 1⟩) (meth := k1m1) (c := k1c1) (by decide +kernel) rfl rfl rfl (by decide +kernel)
set_option maxRecDepth 65536 in
theorem w_c1 : (Jvm.Cond.code ({ cls := "com/example/forebound/forebound/problem/Sum", name := "<init>", desc := "(I)V" } : Jvm.MethodName) prog_28_method_1_code (2 : Nat) (Option.none : Option Jvm.ClassFile.FieldType)).before args0 about1 = true := code_word (m := ⟨2, 0⟩) (meth := k2m0) (c := k2c0) (by decide +kernel) rfl rfl rfl (by decide +kernel)
set_option maxRecDepth 65536 in
theorem w_c2 : (Jvm.Cond.code ({ cls := "java/lang/Object", name := "<init>", desc := "()V" } : Jvm.MethodName) object_method_1_code (1 : Nat) (Option.none : Option Jvm.ClassFile.FieldType)).before args0 about1 = true := code_word (m := ⟨0, 0⟩) (meth := k0m0) (c := k0c0) (by decide +kernel) rfl rfl rfl (by decide +kernel)
set_option maxRecDepth 65536 in
theorem w_c3 : (Jvm.Cond.code ({ cls := "com/example/forebound/forebound/problem/Sum", name := "forbidden", desc := "(I)Z" } : Jvm.MethodName) prog_28_method_3_code (2 : Nat) (Option.some Jvm.ClassFile.FieldType.boolean)).before args0 about1 = true := code_word (m := ⟨2, 1⟩) (meth := k2m1) (c := k2c1) (by decide +kernel) rfl rfl rfl (by decide +kernel)
set_option maxRecDepth 65536 in
theorem w_c4 : (Jvm.Cond.code ({ cls := "com/example/forebound/forebound/problem/SumForbiddenPinLaw", name := "table", desc := "(I)Lcom/example/forebound/forebound/problem/Problem$Table;" } : Jvm.MethodName) method_6_code (4 : Nat) (Option.some (Jvm.ClassFile.FieldType.object "com/example/forebound/forebound/problem/Problem$Table"))).before args0 about1 = true := code_word (m := ⟨1, 5⟩) (meth := k1m5) (c := k1c5) (by decide +kernel) rfl rfl rfl (by decide +kernel)
set_option maxRecDepth 65536 in
theorem w_c5 : (Jvm.Cond.code ({ cls := "com/example/forebound/forebound/problem/SumForbiddenPinLaw", name := "first", desc := "(I)I" } : Jvm.MethodName) method_3_code (1 : Nat) (Option.some Jvm.ClassFile.FieldType.int)).before args0 about1 = true := code_word (m := ⟨1, 2⟩) (meth := k1m2) (c := k1c2) (by decide +kernel) rfl rfl rfl (by decide +kernel)
set_option maxRecDepth 65536 in
theorem w_c6 : (Jvm.Cond.code ({ cls := "com/example/forebound/forebound/problem/SumForbiddenPinLaw", name := "second", desc := "(I)I" } : Jvm.MethodName) method_4_code (1 : Nat) (Option.some Jvm.ClassFile.FieldType.int)).before args0 about1 = true := code_word (m := ⟨1, 3⟩) (meth := k1m3) (c := k1c3) (by decide +kernel) rfl rfl rfl (by decide +kernel)
set_option maxRecDepth 65536 in
theorem w_c7 : (Jvm.Cond.code ({ cls := "com/example/forebound/forebound/problem/SumForbiddenPinLaw", name := "flagAt", desc := "(II)Z" } : Jvm.MethodName) method_5_code (2 : Nat) (Option.some Jvm.ClassFile.FieldType.boolean)).before args0 about1 = true := code_word (m := ⟨1, 4⟩) (meth := k1m4) (c := k1c4) (by decide +kernel) rfl rfl rfl (by decide +kernel)
set_option maxRecDepth 65536 in
theorem w_c8 : (Jvm.Cond.code ({ cls := "com/example/forebound/forebound/problem/Problem$Table", name := "<init>", desc := "([I[J[ZJZ)V" } : Jvm.MethodName) prog_27_method_1_code (7 : Nat) (Option.none : Option Jvm.ClassFile.FieldType)).before args0 about1 = true := code_word (m := ⟨4, 0⟩) (meth := k4m0) (c := k4c0) (by decide +kernel) rfl rfl rfl (by decide +kernel)
set_option maxRecDepth 65536 in
theorem w_c9 : (Jvm.Cond.code ({ cls := "java/lang/Record", name := "<init>", desc := "()V" } : Jvm.MethodName) jdk_30_method_1_code (1 : Nat) (Option.none : Option Jvm.ClassFile.FieldType)).before args0 about1 = true := code_word (m := ⟨3, 0⟩) (meth := k3m0) (c := k3c0) (by decide +kernel) rfl rfl rfl (by decide +kernel)
set_option maxRecDepth 65536 in
theorem w_c10 : (Jvm.Cond.code ({ cls := "com/example/forebound/forebound/problem/Problem$Table", name := "positions", desc := "()[I" } : Jvm.MethodName) prog_27_method_7_code (1 : Nat) (Option.some (Jvm.ClassFile.FieldType.array Jvm.ClassFile.FieldType.int))).before args0 about1 = true := code_word (m := ⟨4, 1⟩) (meth := k4m1) (c := k4c1) (by decide +kernel) rfl rfl rfl (by decide +kernel)
set_option maxRecDepth 65536 in
theorem w_c11 : (Jvm.Cond.code ({ cls := "com/example/forebound/forebound/problem/Sum", name := "addListed", desc := "(Lcom/example/forebound/forebound/problem/Problem$Table;)V" } : Jvm.MethodName) prog_28_method_7_code (21 : Nat) (Option.none : Option Jvm.ClassFile.FieldType)).before args0 about1 = true := code_word (m := ⟨2, 4⟩) (meth := k2m4) (c := k2c4) (by decide +kernel) rfl rfl rfl (by decide +kernel)
set_option maxRecDepth 65536 in
theorem w_c12 : (Jvm.Cond.code ({ cls := "com/example/forebound/forebound/problem/Problem$Table", name := "forbidden", desc := "()[Z" } : Jvm.MethodName) prog_27_method_9_code (1 : Nat) (Option.some (Jvm.ClassFile.FieldType.array Jvm.ClassFile.FieldType.boolean))).before args0 about1 = true := code_word (m := ⟨4, 3⟩) (meth := k4m3) (c := k4c3) (by decide +kernel) rfl rfl rfl (by decide +kernel)
set_option maxRecDepth 65536 in
theorem w_c13 : (Jvm.Cond.code ({ cls := "com/example/forebound/forebound/problem/Sum", name := "cost", desc := "(I)J" } : Jvm.MethodName) prog_28_method_4_code (2 : Nat) (Option.some Jvm.ClassFile.FieldType.long)).before args0 about1 = true := code_word (m := ⟨2, 2⟩) (meth := k2m2) (c := k2c2) (by decide +kernel) rfl rfl rfl (by decide +kernel)
set_option maxRecDepth 65536 in
theorem w_c14 : (Jvm.Cond.code ({ cls := "com/example/forebound/forebound/problem/Problem$Table", name := "costs", desc := "()[J" } : Jvm.MethodName) prog_27_method_8_code (1 : Nat) (Option.some (Jvm.ClassFile.FieldType.array Jvm.ClassFile.FieldType.long))).before args0 about1 = true := code_word (m := ⟨4, 2⟩) (meth := k4m2) (c := k4c2) (by decide +kernel) rfl rfl rfl (by decide +kernel)
set_option maxRecDepth 65536 in
theorem w_c15 : (Jvm.Cond.code ({ cls := "java/lang/Math", name := "addExact", desc := "(JJ)J" } : Jvm.MethodName) jdk_29_method_25_code (6 : Nat) (Option.some Jvm.ClassFile.FieldType.long)).before args0 about1 = true := code_word (m := ⟨5, 1⟩) (meth := k5m1) (c := k5c1) (by decide +kernel) rfl rfl rfl (by decide +kernel)
set_option maxRecDepth 65536 in
theorem w_c16 : (Jvm.Cond.code ({ cls := "com/example/forebound/forebound/problem/Problem$Table", name := "defaultForbidden", desc := "()Z" } : Jvm.MethodName) prog_27_method_11_code (1 : Nat) (Option.some Jvm.ClassFile.FieldType.boolean)).before args0 about1 = true := code_word (m := ⟨4, 5⟩) (meth := k4m5) (c := k4c5) (by decide +kernel) rfl rfl rfl (by decide +kernel)
set_option maxRecDepth 65536 in
theorem w_c17 : (Jvm.Cond.code ({ cls := "com/example/forebound/forebound/problem/Problem$Table", name := "defaultCost", desc := "()J" } : Jvm.MethodName) prog_27_method_10_code (1 : Nat) (Option.some Jvm.ClassFile.FieldType.long)).before args0 about1 = true := code_word (m := ⟨4, 4⟩) (meth := k4m4) (c := k4c4) (by decide +kernel) rfl rfl rfl (by decide +kernel)
set_option maxRecDepth 65536 in
theorem w_c18 : (Jvm.Cond.code ({ cls := "com/example/forebound/forebound/problem/Sum", name := "changed", desc := "(I)V" } : Jvm.MethodName) prog_28_method_10_code (2 : Nat) (Option.none : Option Jvm.ClassFile.FieldType)).before args0 about1 = true := code_word (m := ⟨2, 7⟩) (meth := k2m7) (c := k2c7) (by decide +kernel) rfl rfl rfl (by decide +kernel)
set_option maxRecDepth 65536 in
theorem w_c19 : (Jvm.Cond.code ({ cls := "java/lang/Math", name := "max", desc := "(JJ)J" } : Jvm.MethodName) jdk_29_method_66_code (4 : Nat) (Option.some Jvm.ClassFile.FieldType.long)).before args0 about1 = true := code_word (m := ⟨5, 2⟩) (meth := k5m2) (c := k5c2) (by decide +kernel) rfl rfl rfl (by decide +kernel)
set_option maxRecDepth 65536 in
theorem w_c20 : (Jvm.Cond.code ({ cls := "java/lang/Math", name := "min", desc := "(JJ)J" } : Jvm.MethodName) jdk_29_method_70_code (4 : Nat) (Option.some Jvm.ClassFile.FieldType.long)).before args0 about1 = true := code_word (m := ⟨5, 3⟩) (meth := k5m3) (c := k5c3) (by decide +kernel) rfl rfl rfl (by decide +kernel)
set_option maxRecDepth 65536 in
theorem w_c21 : (Jvm.Cond.code ({ cls := "com/example/forebound/forebound/problem/SumForbiddenPinLaw", name := "by", desc := "(II)Z" } : Jvm.MethodName) method_7_code (2 : Nat) (Option.some Jvm.ClassFile.FieldType.boolean)).before args0 about1 = true := code_word (m := ⟨1, 6⟩) (meth := k1m6) (c := k1c6) (by decide +kernel) rfl rfl rfl (by decide +kernel)
set_option maxRecDepth 65536 in
theorem w_c22 : (Jvm.Cond.code ({ cls := "com/example/forebound/forebound/problem/Sum", name := "forbid", desc := "(I)V" } : Jvm.MethodName) prog_28_method_9_code (2 : Nat) (Option.none : Option Jvm.ClassFile.FieldType)).before args0 about1 = true := code_word (m := ⟨2, 6⟩) (meth := k2m6) (c := k2c6) (by decide +kernel) rfl rfl rfl (by decide +kernel)
set_option maxRecDepth 65536 in
theorem w_c23 : (Jvm.Cond.code ({ cls := "com/example/forebound/forebound/problem/Sum", name := "forbidUnlisted", desc := "([I)V" } : Jvm.MethodName) prog_28_method_8_code (7 : Nat) (Option.none : Option Jvm.ClassFile.FieldType)).before args0 about1 = true := code_word (m := ⟨2, 5⟩) (meth := k2m5) (c := k2c5) (by decide +kernel) rfl rfl rfl (by decide +kernel)
def codes1 : List Jvm.Cond := [Jvm.Cond.code x code maxLocals ret, Jvm.Cond.code ({ cls := "com/example/forebound/forebound/problem/Sum", name := "<init>", desc := "(I)V" } : Jvm.MethodName) prog_28_method_1_code (2 : Nat) (Option.none : Option Jvm.ClassFile.FieldType), Jvm.Cond.code ({ cls := "java/lang/Object", name := "<init>", desc := "()V" } : Jvm.MethodName) object_method_1_code (1 : Nat) (Option.none : Option Jvm.ClassFile.FieldType), Jvm.Cond.code ({ cls := "com/example/forebound/forebound/problem/Sum", name := "forbidden", desc := "(I)Z" } : Jvm.MethodName) prog_28_method_3_code (2 : Nat) (Option.some Jvm.ClassFile.FieldType.boolean), Jvm.Cond.code ({ cls := "com/example/forebound/forebound/problem/SumForbiddenPinLaw", name := "table", desc := "(I)Lcom/example/forebound/forebound/problem/Problem$Table;" } : Jvm.MethodName) method_6_code (4 : Nat) (Option.some (Jvm.ClassFile.FieldType.object "com/example/forebound/forebound/problem/Problem$Table")), Jvm.Cond.code ({ cls := "com/example/forebound/forebound/problem/SumForbiddenPinLaw", name := "first", desc := "(I)I" } : Jvm.MethodName) method_3_code (1 : Nat) (Option.some Jvm.ClassFile.FieldType.int), Jvm.Cond.code ({ cls := "com/example/forebound/forebound/problem/SumForbiddenPinLaw", name := "second", desc := "(I)I" } : Jvm.MethodName) method_4_code (1 : Nat) (Option.some Jvm.ClassFile.FieldType.int), Jvm.Cond.code ({ cls := "com/example/forebound/forebound/problem/SumForbiddenPinLaw", name := "flagAt", desc := "(II)Z" } : Jvm.MethodName) method_5_code (2 : Nat) (Option.some Jvm.ClassFile.FieldType.boolean), Jvm.Cond.code ({ cls := "com/example/forebound/forebound/problem/Problem$Table", name := "<init>", desc := "([I[J[ZJZ)V" } : Jvm.MethodName) prog_27_method_1_code (7 : Nat) (Option.none : Option Jvm.ClassFile.FieldType), Jvm.Cond.code ({ cls := "java/lang/Record", name := "<init>", desc := "()V" } : Jvm.MethodName) jdk_30_method_1_code (1 : Nat) (Option.none : Option Jvm.ClassFile.FieldType), Jvm.Cond.code ({ cls := "com/example/forebound/forebound/problem/Problem$Table", name := "positions", desc := "()[I" } : Jvm.MethodName) prog_27_method_7_code (1 : Nat) (Option.some (Jvm.ClassFile.FieldType.array Jvm.ClassFile.FieldType.int)), Jvm.Cond.code ({ cls := "com/example/forebound/forebound/problem/Sum", name := "addListed", desc := "(Lcom/example/forebound/forebound/problem/Problem$Table;)V" } : Jvm.MethodName) prog_28_method_7_code (21 : Nat) (Option.none : Option Jvm.ClassFile.FieldType), Jvm.Cond.code ({ cls := "com/example/forebound/forebound/problem/Problem$Table", name := "forbidden", desc := "()[Z" } : Jvm.MethodName) prog_27_method_9_code (1 : Nat) (Option.some (Jvm.ClassFile.FieldType.array Jvm.ClassFile.FieldType.boolean)), Jvm.Cond.code ({ cls := "com/example/forebound/forebound/problem/Sum", name := "cost", desc := "(I)J" } : Jvm.MethodName) prog_28_method_4_code (2 : Nat) (Option.some Jvm.ClassFile.FieldType.long), Jvm.Cond.code ({ cls := "com/example/forebound/forebound/problem/Problem$Table", name := "costs", desc := "()[J" } : Jvm.MethodName) prog_27_method_8_code (1 : Nat) (Option.some (Jvm.ClassFile.FieldType.array Jvm.ClassFile.FieldType.long)), Jvm.Cond.code ({ cls := "java/lang/Math", name := "addExact", desc := "(JJ)J" } : Jvm.MethodName) jdk_29_method_25_code (6 : Nat) (Option.some Jvm.ClassFile.FieldType.long), Jvm.Cond.code ({ cls := "com/example/forebound/forebound/problem/Problem$Table", name := "defaultForbidden", desc := "()Z" } : Jvm.MethodName) prog_27_method_11_code (1 : Nat) (Option.some Jvm.ClassFile.FieldType.boolean), Jvm.Cond.code ({ cls := "com/example/forebound/forebound/problem/Problem$Table", name := "defaultCost", desc := "()J" } : Jvm.MethodName) prog_27_method_10_code (1 : Nat) (Option.some Jvm.ClassFile.FieldType.long), Jvm.Cond.code ({ cls := "com/example/forebound/forebound/problem/Sum", name := "changed", desc := "(I)V" } : Jvm.MethodName) prog_28_method_10_code (2 : Nat) (Option.none : Option Jvm.ClassFile.FieldType), Jvm.Cond.code ({ cls := "java/lang/Math", name := "max", desc := "(JJ)J" } : Jvm.MethodName) jdk_29_method_66_code (4 : Nat) (Option.some Jvm.ClassFile.FieldType.long), Jvm.Cond.code ({ cls := "java/lang/Math", name := "min", desc := "(JJ)J" } : Jvm.MethodName) jdk_29_method_70_code (4 : Nat) (Option.some Jvm.ClassFile.FieldType.long), Jvm.Cond.code ({ cls := "com/example/forebound/forebound/problem/SumForbiddenPinLaw", name := "by", desc := "(II)Z" } : Jvm.MethodName) method_7_code (2 : Nat) (Option.some Jvm.ClassFile.FieldType.boolean), Jvm.Cond.code ({ cls := "com/example/forebound/forebound/problem/Sum", name := "forbid", desc := "(I)V" } : Jvm.MethodName) prog_28_method_9_code (2 : Nat) (Option.none : Option Jvm.ClassFile.FieldType), Jvm.Cond.code ({ cls := "com/example/forebound/forebound/problem/Sum", name := "forbidUnlisted", desc := "([I)V" } : Jvm.MethodName) prog_28_method_8_code (7 : Nat) (Option.none : Option Jvm.ClassFile.FieldType)]
set_option maxRecDepth 65536 in
theorem codes_eq : words1.filter isCode = codes1 := rfl
theorem w_codes : ∀ c ∈ words1.filter isCode, c.before args0 about1 = true := by
  rw [codes_eq]
  intro c hc
  simp only [codes1, List.mem_cons, List.not_mem_nil, or_false] at hc
  rcases hc with rfl | rfl | rfl | rfl | rfl | rfl | rfl | rfl | rfl | rfl | rfl | rfl | rfl | rfl | rfl | rfl | rfl | rfl | rfl | rfl | rfl | rfl | rfl | rfl
  · exact w_c0
  · exact w_c1
  · exact w_c2
  · exact w_c3
  · exact w_c4
  · exact w_c5
  · exact w_c6
  · exact w_c7
  · exact w_c8
  · exact w_c9
  · exact w_c10
  · exact w_c11
  · exact w_c12
  · exact w_c13
  · exact w_c14
  · exact w_c15
  · exact w_c16
  · exact w_c17
  · exact w_c18
  · exact w_c19
  · exact w_c20
  · exact w_c21
  · exact w_c22
  · exact w_c23
set_option maxRecDepth 65536 in
theorem w_t1 : (words1.take 24).all (fun c => isCode c || c.before args0 about1) = true := by decide +kernel
set_option maxRecDepth 65536 in
theorem w_t2 : ((words1.drop 24).take 24).all (fun c => isCode c || c.before args0 about1) = true := by decide +kernel
set_option maxRecDepth 65536 in
theorem w_t3 : (((words1.drop 24).drop 24).take 24).all (fun c => isCode c || c.before args0 about1) = true := by decide +kernel
set_option maxRecDepth 65536 in
theorem w_t4 : ((((words1.drop 24).drop 24).drop 24).take 24).all (fun c => isCode c || c.before args0 about1) = true := by decide +kernel
set_option maxRecDepth 65536 in
theorem w_t5 : (((((words1.drop 24).drop 24).drop 24).drop 24).take 24).all (fun c => isCode c || c.before args0 about1) = true := by decide +kernel
set_option maxRecDepth 65536 in
theorem w_t6 : (((((words1.drop 24).drop 24).drop 24).drop 24).drop 24).all (fun c => isCode c || c.before args0 about1) = true := by decide +kernel
theorem w_tables : (allAtoms (Jvm.Cond.code x code maxLocals ret :: tables_1)).before args0 about1 = true := by
  rw [allAtoms_all]
  show words1.all (fun c => c.before args0 about1) = true
  refine all_split ?_ w_codes
  rw [← List.take_append_drop 24 words1, List.all_append, w_t1, ← List.take_append_drop 24 (words1.drop 24), List.all_append, w_t2, ← List.take_append_drop 24 ((words1.drop 24).drop 24), List.all_append, w_t3, ← List.take_append_drop 24 (((words1.drop 24).drop 24).drop 24), List.all_append, w_t4, ← List.take_append_drop 24 ((((words1.drop 24).drop 24).drop 24).drop 24), List.all_append, w_t5, w_t6]
  rfl
set_option maxRecDepth 65536 in
theorem w_case : (Jvm.Cond.and given_1 narrow_1).before args0 about1 = true := by decide +kernel
theorem w_applies : (headSpec (Jvm.Cond.code x code maxLocals ret :: tables_1) room_1).applies x e0.platform about1 = true :=
  (Spec.applies_iff w_frames).mpr ⟨w_running, w_runnable, w_alone, w_named, w_hears, w_ripe, w_room, w_tables⟩
theorem atStart : AtStart classFile x code maxLocals ret World_1 tables_1 room_1 Calls_1 rest_1 Pre_1 launch0 p0 e0 about1 theMethod args0 below0 :=
  ⟨lists_1, trivial, launch0.admits_env _ _ _, launch0.least_env, fairChoices_fair.cas, fairChoices_fair.clock, w_frames, w_args, w_heap, w_applies, trivial, trivial, w_case⟩
end start1
theorem witness_1 : WitnessClaimed_1 := ⟨start1.p0, start1.e0, start1.about1, start1.theMethod, start1.args0, start1.below0, start1.atStart⟩
end Jvm.Pilot.@@N@@
