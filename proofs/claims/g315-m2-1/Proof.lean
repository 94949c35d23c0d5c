import JvmDerived
import JvmDerived.Pilot.@@N@@Statement
import JvmDerived.Pilot.@@N@@Code
set_option linter.unusedVariables false
set_option linter.unusedSimpArgs false
namespace Jvm.Pilot.@@N@@
open Jvm Jvm.ClassFile Sem Op Lib Jvm.Free Jvm.Stand Jvm.LawKit Jvm.RoadKit Bundle Jvm.Pilot.@@N@@.Jvm.D
/-! ## the own layer: a picture of the heap, one fact for where a walk stands, steps in continuation form -/
abbrev Ob : Type := Sum (String × List ((String × String × String) × Value)) (FieldType × List Value)
abbrev Obs : Type := List (Addr × Ob)
def Ara (Z : State) (h : Heap) (a : Addr) (ty : FieldType) (vs : List Value) : Prop :=
  ∃ c : Cell, Arr Z h a c ty ∧ c.slots = vs.toArray ∧ vs.length < 2 ^ 31 ∧ (∀ v ∈ vs, fits ty v = true) ∧ Exa Z h a ("[" ++ ty.toString)
def Is (Z : State) (h : Heap) (a : Addr) (o : Ob) : Prop :=
  match o with
  | .inl q => Exa Z h a q.1 ∧ ∀ f ∈ q.2, Fld Z h a f.1.1 f.1.2.1 f.1.2.2 f.2
  | .inr q => Ara Z h a q.1 q.2
def Pic (Z : State) (n0 : Nat) (h : Heap) (L : Obs) : Prop := (∀ q ∈ L, n0 ≤ q.1 ∧ Is Z h q.1 q.2) ∧ (L.map Prod.fst).Nodup
def Lays (Z : State) (a0 : Array Value) (C : String) (fn : List (String × String × String)) : Prop :=
  (∀ q ∈ fn, Laid Z a0 C q.1 q.2.1 q.2.2 ∧ ∃ t, parseFieldDescriptor q.2.2 = some t) ∧ (fn.map fun q => q.2.1).Nodup
section Pics
variable {Z : State} {h h' : Heap} {a b : Addr} {o o' : Ob} {n0 : Nat} {L L' : Obs} {sl : Nat} {v : Value} {a0 : Array Value}
theorem Is.lt (I : Is Z h a o) : a < h.size := by
  cases o with
  | inl q => exact I.1.lt
  | inr q => obtain ⟨c, A, _⟩ := I; exact A.lt
theorem Is.ext (E : Ext h h') (I : Is Z h a o) : Is Z h' a o := by
  cases o with
  | inl q => exact ⟨I.1.ext E, fun f hf => (I.2 f hf).ext E⟩
  | inr q => obtain ⟨c, A, r1, r2, r3, r4⟩ := I; exact ⟨c, A.ext E, r1, r2, r3, r4.ext E⟩
theorem Is.other (W : Wr h h' b sl v) (ne : a ≠ b) (I : Is Z h a o) : Is Z h' a o := by
  cases o with
  | inl q => exact ⟨I.1.wr W, fun f hf => (I.2 f hf).other W (Or.inl ne)⟩
  | inr q => obtain ⟨c, A, r1, r2, r3, r4⟩ := I; exact ⟨c, A.other W ne, r1, r2, r3, r4.wr W⟩
theorem nodup_get {α : Type} : ∀ {l : List α} {i j : Nat} {x : α}, l.Nodup → l[i]? = some x → l[j]? = some x → i = j
  | [], i, j, x, _, h, _ => by simp at h
  | y :: t, 0, 0, x, _, _, _ => rfl
  | y :: t, 0, j + 1, x, hn, h1, h2 => by
    simp at h1 h2; subst h1
    exact absurd (List.mem_of_getElem? h2) (List.nodup_cons.mp hn).1
  | y :: t, i + 1, 0, x, hn, h1, h2 => by
    simp at h1 h2; subst h2
    exact absurd (List.mem_of_getElem? h1) (List.nodup_cons.mp hn).1
  | y :: t, i + 1, j + 1, x, hn, h1, h2 => by
    simp at h1 h2
    rw [nodup_get (List.nodup_cons.mp hn).2 h1 h2]
theorem mem_set_get {α : Type} {l : List α} {i : Nat} {x q : α} (h : q ∈ l.set i x) : q = x ∨ ∃ j, j ≠ i ∧ l[j]? = some q := by
  obtain ⟨j, hj⟩ := List.mem_iff_getElem?.mp h
  by_cases e : j = i
  · subst e
    rw [List.getElem?_set] at hj
    by_cases hl : j < l.length
    · simp [hl] at hj; exact Or.inl hj.symm
    · simp [hl] at hj
  · rw [List.getElem?_set_ne (Ne.symm e)] at hj
    exact Or.inr ⟨j, e, hj⟩
theorem Pic.new (P : Pic Z n0 h L) (E : Ext h h') (Z0 : n0 ≤ h.size) (I : Is Z h' h.size o) : Pic Z n0 h' ((h.size, o) :: L) := by
  refine ⟨fun q hq => ?_, ?_⟩
  · rcases List.mem_cons.mp hq with rfl | hq
    · exact ⟨Z0, I⟩
    · exact ⟨(P.1 q hq).1, (P.1 q hq).2.ext E⟩
  · show (h.size :: L.map Prod.fst).Nodup
    refine List.nodup_cons.mpr ⟨fun hm => ?_, P.2⟩
    obtain ⟨q, hq, e⟩ := List.mem_map.mp hm
    have lt := (P.1 q hq).2.lt
    rw [e] at lt
    exact Nat.lt_irrefl _ lt
theorem map_set_same {α β : Type} (f : α → β) : ∀ {l : List α} {i : Nat} {x y : α}, l[i]? = some x → f y = f x → (l.set i y).map f = l.map f
  | [], i, x, y, h, _ => by simp at h
  | z :: t, 0, x, y, h, e => by simp at h; subst h; simp [e]
  | z :: t, i + 1, x, y, h, e => by simp at h; simp [map_set_same f h e]
theorem Pic.set {i : Nat} (P : Pic Z n0 h L) (W : Wr h h' a sl v) (hi : L[i]? = some (a, o)) (I : Is Z h' a o') : Pic Z n0 h' (L.set i (a, o')) := by
  refine ⟨fun q hq => ?_, ?_⟩
  · rcases mem_set_get hq with rfl | ⟨j, ne, hj⟩
    · exact ⟨(P.1 _ (List.mem_of_getElem? hi)).1, I⟩
    · refine ⟨(P.1 _ (List.mem_of_getElem? hj)).1, (P.1 _ (List.mem_of_getElem? hj)).2.other W fun e => ne ?_⟩
      refine nodup_get P.2 (x := a) ?_ ?_
      · rw [List.getElem?_map, hj]; simp [e]
      · rw [List.getElem?_map, hi]; simp
  · rw [map_set_same Prod.fst (y := (a, o')) hi rfl]; exact P.2
theorem front_perm {α : Type} : ∀ {l : List α} {i : Nat} {x : α}, l[i]? = some x → List.Perm (x :: l.eraseIdx i) l
  | [], i, x, h => by simp at h
  | z :: t, 0, x, h => by simp at h; subst h; exact List.Perm.refl _
  | z :: t, i + 1, x, h => by
    simp at h
    exact (List.Perm.swap z x _).trans ((front_perm h).cons z)
theorem Pic.perm (P : Pic Z n0 h L) (q : List.Perm L' L) : Pic Z n0 h L' :=
  ⟨fun x hx => P.1 x (q.mem_iff.mp hx), ((q.map Prod.fst).nodup_iff).mpr P.2⟩
theorem Pic.front {i : Nat} {x : Addr × Ob} (P : Pic Z n0 h L) (hi : L[i]? = some x) : Pic Z n0 h (x :: L.eraseIdx i) := P.perm (front_perm hi)
theorem Pic.ne {i j : Nat} {x y : Ob} (P : Pic Z n0 h L) (hi : L[i]? = some (a, x)) (hj : L[j]? = some (b, y)) (hn : i ≠ j) : a ≠ b := fun e => hn (by
  subst e
  refine nodup_get P.2 (x := a) ?_ ?_
  · rw [List.getElem?_map, hi]; simp
  · rw [List.getElem?_map, hj]; simp)
theorem Is.put {C O n d : String} {fs : List ((String × String × String) × Value)} {j : Nat} {old : Value} (W : Wr h h' a (Jvm.RoadKit.slotOf Z O n d) v) (hl : Lays Z a0 C (fs.map Prod.fst)) (I : Is Z h a (.inl (C, fs))) (hf : fs[j]? = some ((O, n, d), old)) : Is Z h' a (.inl (C, fs.set j ((O, n, d), v))) := by
  refine ⟨I.1.wr W, fun f hm => ?_⟩
  rcases mem_set_get hm with rfl | ⟨i, ne, hi⟩
  · exact Fld.same W (I.2 ((O, n, d), old) (List.mem_of_getElem? hf))
  · have g1 : (fs.map Prod.fst)[i]? = some f.1 := by rw [List.getElem?_map, hi]; rfl
    have g2 : (fs.map Prod.fst)[j]? = some (O, n, d) := by rw [List.getElem?_map, hf]; rfl
    obtain ⟨l1, t1, p1⟩ := hl.1 _ (List.mem_of_getElem? g1)
    obtain ⟨l2, t2, p2⟩ := hl.1 _ (List.mem_of_getElem? g2)
    refine (I.2 _ (List.mem_of_getElem? hi)).other W (Or.inr (slot_ne l1 l2 (fun e => ne ?_) p1 p2))
    refine nodup_get hl.2 (x := n) ?_ ?_
    · rw [List.getElem?_map, g1]; simp [← e]
    · rw [List.getElem?_map, g2]; try rfl
theorem Ara.put {ty : FieldType} {vs : List Value} {j : Int32} (I : Ara Z h a ty vs) (W : Wr h h' a j.toNatClampNeg v) (hf : fits ty v = true) : Ara Z h' a ty (vs.set j.toNatClampNeg v) := by
  obtain ⟨c, A, r1, r2, r3, r4⟩ := I
  refine ⟨c.setSlot j.toNatClampNeg v, A.same W, ?_, by rw [List.length_set]; exact r2, fun x hx => ?_, r4.wr W⟩
  · show c.slots.setIfInBounds _ _ = _
    rw [r1]; simp
  · rcases mem_set_get hx with rfl | ⟨i, _, hi⟩
    · exact hf
    · exact r3 _ (List.mem_of_getElem? hi)
theorem fits_def (aty : ArrayType) : fits (newarray.typeOf aty) (defaultValue (newarray.typeOf aty)) = true := by cases aty <;> decide
theorem Is.keep {ws : List Addr} (K : Keep h h' ws) (hn : a ∉ ws) (I : Is Z h a o) : Is Z h' a o := by
  cases o with
  | inl q => exact ⟨I.1.keep K, fun f hf => (I.2 f hf).keep K hn⟩
  | inr q => obtain ⟨c, A, r1, r2, r3, r4⟩ := I; exact ⟨c, ⟨K.2.1 a c A.1 hn, A.2⟩, r1, r2, r3, r4.keep K⟩
theorem Pic.setK {i : Nat} (P : Pic Z n0 h L) (K : Keep h h' [a]) (hi : L[i]? = some (a, o)) (I : Is Z h' a o') : Pic Z n0 h' (L.set i (a, o')) := by
  refine ⟨fun q hq => ?_, ?_⟩
  · rcases mem_set_get hq with rfl | ⟨j, ne, hj⟩
    · exact ⟨(P.1 _ (List.mem_of_getElem? hi)).1, I⟩
    · refine ⟨(P.1 _ (List.mem_of_getElem? hj)).1, (P.1 _ (List.mem_of_getElem? hj)).2.keep K fun e => ne ?_⟩
      have e := List.mem_singleton.mp e
      refine nodup_get P.2 (x := a) ?_ ?_
      · rw [List.getElem?_map, hj]; simp [e]
      · rw [List.getElem?_map, hi]; simp
  · rw [map_set_same Prod.fst (y := (a, o')) hi rfl]; exact P.2
theorem Arv.toAra {k : ClassId} {ty : FieldType} {z : Int32} {vs : List Value} {dv : Value} (V : Arv Z h a k ty z vs dv) (hz : z.toNatClampNeg = vs.length) (hl : vs.length < 2 ^ 31) (E : Exa Z h a ("[" ++ ty.toString)) : Ara Z h a ty vs := by
  obtain ⟨c, A, q1, q2, q3, H, G⟩ := V
  refine ⟨c, A, ?_, hl, fun v hv => ?_, E⟩
  · refine Array.ext_getElem? fun i => ?_
    by_cases hi : i < c.slots.size
    · rw [H i hi, List.getElem?_toArray, List.getD_eq_getElem?_getD]
      have : i < vs.length := by omega
      rw [List.getElem?_eq_getElem this]; rfl
    · rw [Array.getElem?_eq_none (by omega), List.getElem?_toArray, List.getElem?_eq_none (by omega)]
  · obtain ⟨i, hi⟩ := List.mem_iff_getElem?.mp hv
    have hlt := (List.getElem?_eq_some_iff.mp hi).1
    have := G i (by omega)
    rw [List.getD_eq_getElem?_getD, hi] at this
    exact this
theorem Ara.toArv {ty : FieldType} {vs : List Value} (I : Ara Z h a ty vs) (dv : Value) : ∃ k, Arv Z h a k ty vs.length.toInt32 vs dv ∧ vs.length.toInt32.toNatClampNeg = vs.length ∧ ¬ vs.length.toInt32 < 0 := by
  obtain ⟨c, A, r1, r2, r3, r4⟩ := I
  have e1 : vs.length.toInt32.toInt = vs.length := len_toInt r2
  have e2 : vs.length.toInt32.toNatClampNeg = vs.length := by simp only [Int32.toNatClampNeg, e1]; omega
  have e3 : ¬ vs.length.toInt32 < 0 := by rw [Int32.lt_iff_toInt_lt, e1]; simp only [Int32.reduceToInt]; omega
  have e4 : c.slots.size = vs.length := by rw [r1]; simp
  refine ⟨c.cls, ⟨c, A, rfl, by omega, e3, fun k hk => ?_, fun k hk => ?_⟩, e2, e3⟩
  · have : k < vs.length := by omega
    rw [r1, List.getElem?_toArray, List.getElem?_eq_getElem this, List.getD_eq_getElem?_getD, List.getElem?_eq_getElem this]; rfl
  · have : k < vs.length := by omega
    rw [List.getD_eq_getElem?_getD, List.getElem?_eq_getElem this]
    exact r3 _ (List.getElem_mem this)
end Pics
def Go (p : Program) (e : Env) (below : List Frame) (F : State → Prop) (U : State) : Prop := ∃ t, Steps p.tables e below U t ∧ F t
theorem Go.st {p : Program} {e : Env} {below : List Frame} {F : State → Prop} {U U' : State} (h : ∀ t, Steps p.tables e below U' t → Steps p.tables e below U t) (g : Go p e below F U') : Go p e below F U := by
  obtain ⟨t, s, f⟩ := g; exact ⟨t, h t s, f⟩
def Here (p : Program) (l : Launch) (e : Env) (R : Room) (s : State) (m : MethodId) (args : Array Value) (below : List Frame) (meth : Method) (c : Code) (Z : State) (a0 : Array Value) (tbl : List Jvm.Cond) (own nm : String) (bc : ByteArray) (mxl : Nat) (rt : Option FieldType) (n0 : Nat) (T : State) (L : Obs) (cells slots : Nat) : Prop :=
  (p.tables.exec = Jvm.exec ∧ Z.Warmed39 s.vm ∧ s.vm.findClass own = some m.cls ∧ c.code = bc ∧ c.maxLocals = mxl ∧ (∀ d ∈ tbl, d.before a0 Z = true) ∧ meth.name = nm ∧ meth.sig.returnType = rt ∧ meth.locks = false) ∧
  ∃ locs, Stand p l e R s m args below meth c T locs cells slots ∧ Fr n0 locs ∧ n0 ≤ T.heap.size ∧ Pic Z n0 T.heap L
def EndS (below : List Frame) (s : State) (n0 : Nat) (Z : State) (kc ks : Nat) (Q : Option Value → Obs → Prop) (t : State) : Prop :=
  ∃ o, t.status = .running ∧ Ended t below o ∧ ∃ v Lc, o = .returned v ∧ (Fr n0 Lc ∧ n0 ≤ t.heap.size ∧ ∃ L', Q v L' ∧ Pic Z n0 t.heap L') ∧ FrameEnd s o t Lc kc ks
def Triple (l : Launch) (Z : State) (n0 : Nat) (y : MethodName) (bytes : ByteArray) (ml : Nat) (rt : Option FieldType) (rm : Room) (kc ks : Nat) (as : List Value) (L : Obs) (Q : Option Value → Obs → Prop) : Prop :=
  ∀ (h0 : Heap) (ws : List Jvm.Cond), n0 ≤ h0.size → Pic Z n0 h0 L →
    MetFree l y (head1 (Jvm.Cond.code y bytes ml rt :: ws) rm) (fun a U => a = as.toArray ∧ Z.Warmed39 U.vm ∧ U.heap = h0) (fun _ _ _ _ _ => True)
      (fun _ U o U' => ∃ v Lc, o = .returned v ∧ (Fr n0 Lc ∧ n0 ≤ U'.heap.size ∧ ∃ L', Q v L' ∧ Pic Z n0 U'.heap L') ∧ FrameEnd U o U' Lc kc ks)
theorem Triple.of_body {l : Launch} {Z : State} {a0 : Array Value} {tbl : List Jvm.Cond} {n0 : Nat} {y : MethodName} {bytes : ByteArray} {ml : Nat} {rt : Option FieldType} {rm : Room} {kc ks : Nat} {as : List Value} {L : Obs} {Q : Option Value → Obs → Prop} {Ls : Array Slot}
    (hp : plainFor y = true) (hw : ∀ d ∈ tbl, d.before a0 Z = true) (ef : ∀ m, entryFrame m as.toArray ml = mkF m 0 Ls [])
    (body : ∀ p e s m below meth c T, Here p l e rm s m as.toArray below meth c Z a0 tbl y.cls y.name bytes ml rt n0 T L 0 0 → Go p e below (EndS below s n0 Z kc ks Q) (T.setTop (mkF m 0 Ls []))) :
    Triple l Z n0 y bytes ml rt rm kc ks as L Q := by
  intro h0 ws Z0 P0
  refine MetFree.of_bodySF hp hisR ?_
  intro p e s m args below meth c s₁ Bd hml0 hP hK
  obtain ⟨rfl, hZ, hh⟩ := hP
  have e0 : s₁.heap = h0 := by rw [← hh, Bd.state]; rfl
  have A : Here p l e rm s m as.toArray below meth c Z a0 tbl y.cls y.name bytes ml rt n0 s₁ L 0 0 :=
    ⟨⟨Bd.exec, hZ, findClass_of_methodNamed Bd.named, Bd.bytes, hml0, hw, (name_of_methodNamed Bd.named Bd.method).1, Bd.returns, Bd.notSynchronized⟩, [], Stand.of_body Bd, Fr.nil n0, by rw [e0]; exact Z0, by rw [e0]; exact P0⟩
  obtain ⟨t, st, o, h1, h2, h3⟩ := body p e s m below meth c s₁ A
  exact ⟨t, o, castTop (ef m) st, h1, h2, h3⟩

section Walk
variable {p : Program} {l : Launch} {e : Env} {R : Room} {s : State} {m : MethodId} {args : Array Value} {below : List Frame} {meth : Method} {c : Code} {Z : State} {a0 : Array Value} {tbl : List Jvm.Cond} {own nm : String} {bc : ByteArray} {mxl : Nat} {rt : Option FieldType} {n0 : Nat} {T : State} {L : Obs} {cells slots : Nat} {F : State → Prop}
theorem Here.pt (A : Here p l e R s m args below meth c Z a0 tbl own nm bc mxl rt n0 T L cells slots) : At T m c below := by obtain ⟨_, X, _⟩ := A.2; exact X.here
theorem Here.iadd (A : Here p l e R s m args below meth c Z a0 tbl own nm bc mxl rt n0 T L cells slots) {pc q : Nat} {Ls : Array Slot} {st : List Value} {x y v : Int32} (hd : decode bc pc = .ok (.iadd, 1)) (hq : pc + 1 = q) (hv : x + y = v) (k : Go p e below F (T.setTop (mkF m q Ls (.int v :: st)))) : Go p e below F (T.setTop (mkF m pc Ls (.int y :: .int x :: st))) := by
  subst hq hv
  exact Go.st (fun t h => XS.iadd A.pt A.1.1 rfl (hb A.1.2.2.2.1 hd) rfl h) k
theorem Here.isub (A : Here p l e R s m args below meth c Z a0 tbl own nm bc mxl rt n0 T L cells slots) {pc q : Nat} {Ls : Array Slot} {st : List Value} {x y v : Int32} (hd : decode bc pc = .ok (.isub, 1)) (hq : pc + 1 = q) (hv : x - y = v) (k : Go p e below F (T.setTop (mkF m q Ls (.int v :: st)))) : Go p e below F (T.setTop (mkF m pc Ls (.int y :: .int x :: st))) := by
  subst hq hv
  exact Go.st (fun t h => XS.isub A.pt A.1.1 rfl (hb A.1.2.2.2.1 hd) rfl h) k
theorem Here.imul (A : Here p l e R s m args below meth c Z a0 tbl own nm bc mxl rt n0 T L cells slots) {pc q : Nat} {Ls : Array Slot} {st : List Value} {x y v : Int32} (hd : decode bc pc = .ok (.imul, 1)) (hq : pc + 1 = q) (hv : x * y = v) (k : Go p e below F (T.setTop (mkF m q Ls (.int v :: st)))) : Go p e below F (T.setTop (mkF m pc Ls (.int y :: .int x :: st))) := by
  subst hq hv
  exact Go.st (fun t h => XS.imul A.pt A.1.1 rfl (hb A.1.2.2.2.1 hd) rfl h) k
theorem Here.iand (A : Here p l e R s m args below meth c Z a0 tbl own nm bc mxl rt n0 T L cells slots) {pc q : Nat} {Ls : Array Slot} {st : List Value} {x y v : Int32} (hd : decode bc pc = .ok (.iand, 1)) (hq : pc + 1 = q) (hv : x &&& y = v) (k : Go p e below F (T.setTop (mkF m q Ls (.int v :: st)))) : Go p e below F (T.setTop (mkF m pc Ls (.int y :: .int x :: st))) := by
  subst hq hv
  exact Go.st (fun t h => XS.iand A.pt A.1.1 rfl (hb A.1.2.2.2.1 hd) rfl h) k
theorem Here.ior (A : Here p l e R s m args below meth c Z a0 tbl own nm bc mxl rt n0 T L cells slots) {pc q : Nat} {Ls : Array Slot} {st : List Value} {x y v : Int32} (hd : decode bc pc = .ok (.ior, 1)) (hq : pc + 1 = q) (hv : x ||| y = v) (k : Go p e below F (T.setTop (mkF m q Ls (.int v :: st)))) : Go p e below F (T.setTop (mkF m pc Ls (.int y :: .int x :: st))) := by
  subst hq hv
  exact Go.st (fun t h => XS.ior A.pt A.1.1 rfl (hb A.1.2.2.2.1 hd) rfl h) k
theorem Here.ixor (A : Here p l e R s m args below meth c Z a0 tbl own nm bc mxl rt n0 T L cells slots) {pc q : Nat} {Ls : Array Slot} {st : List Value} {x y v : Int32} (hd : decode bc pc = .ok (.ixor, 1)) (hq : pc + 1 = q) (hv : x ^^^ y = v) (k : Go p e below F (T.setTop (mkF m q Ls (.int v :: st)))) : Go p e below F (T.setTop (mkF m pc Ls (.int y :: .int x :: st))) := by
  subst hq hv
  exact Go.st (fun t h => XS.ixor A.pt A.1.1 rfl (hb A.1.2.2.2.1 hd) rfl h) k
theorem Here.ishl (A : Here p l e R s m args below meth c Z a0 tbl own nm bc mxl rt n0 T L cells slots) {pc q : Nat} {Ls : Array Slot} {st : List Value} {x y v : Int32} (hd : decode bc pc = .ok (.ishl, 1)) (hq : pc + 1 = q) (hv : x <<< (y &&& 31) = v) (k : Go p e below F (T.setTop (mkF m q Ls (.int v :: st)))) : Go p e below F (T.setTop (mkF m pc Ls (.int y :: .int x :: st))) := by
  subst hq hv
  exact Go.st (fun t h => XS.ishl A.pt A.1.1 rfl (hb A.1.2.2.2.1 hd) rfl h) k
theorem Here.ishr (A : Here p l e R s m args below meth c Z a0 tbl own nm bc mxl rt n0 T L cells slots) {pc q : Nat} {Ls : Array Slot} {st : List Value} {x y v : Int32} (hd : decode bc pc = .ok (.ishr, 1)) (hq : pc + 1 = q) (hv : x >>> (y &&& 31) = v) (k : Go p e below F (T.setTop (mkF m q Ls (.int v :: st)))) : Go p e below F (T.setTop (mkF m pc Ls (.int y :: .int x :: st))) := by
  subst hq hv
  exact Go.st (fun t h => XS.ishr A.pt A.1.1 rfl (hb A.1.2.2.2.1 hd) rfl h) k
theorem Here.iushr (A : Here p l e R s m args below meth c Z a0 tbl own nm bc mxl rt n0 T L cells slots) {pc q : Nat} {Ls : Array Slot} {st : List Value} {x y v : Int32} (hd : decode bc pc = .ok (.iushr, 1)) (hq : pc + 1 = q) (hv : (x.toUInt32 >>> (y &&& 31).toUInt32).toInt32 = v) (k : Go p e below F (T.setTop (mkF m q Ls (.int v :: st)))) : Go p e below F (T.setTop (mkF m pc Ls (.int y :: .int x :: st))) := by
  subst hq hv
  exact Go.st (fun t h => XS.iushr A.pt A.1.1 rfl (hb A.1.2.2.2.1 hd) rfl h) k
theorem Here.idiv (A : Here p l e R s m args below meth c Z a0 tbl own nm bc mxl rt n0 T L cells slots) {pc q : Nat} {Ls : Array Slot} {st : List Value} {x y v : Int32} (hd : decode bc pc = .ok (.idiv, 1)) (hq : pc + 1 = q) (hy : y ≠ 0) (hv : x / y = v) (k : Go p e below F (T.setTop (mkF m q Ls (.int v :: st)))) : Go p e below F (T.setTop (mkF m pc Ls (.int y :: .int x :: st))) := by
  subst hq hv
  exact Go.st (fun t h => XS.idiv A.pt A.1.1 rfl (hb A.1.2.2.2.1 hd) rfl hy h) k
theorem Here.irem (A : Here p l e R s m args below meth c Z a0 tbl own nm bc mxl rt n0 T L cells slots) {pc q : Nat} {Ls : Array Slot} {st : List Value} {x y v : Int32} (hd : decode bc pc = .ok (.irem, 1)) (hq : pc + 1 = q) (hy : y ≠ 0) (hv : x % y = v) (k : Go p e below F (T.setTop (mkF m q Ls (.int v :: st)))) : Go p e below F (T.setTop (mkF m pc Ls (.int y :: .int x :: st))) := by
  subst hq hv
  obtain ⟨_, X, _⟩ := A.2
  exact Go.st (fun t h => iremM X A.1.1 rfl (hb A.1.2.2.2.1 hd) rfl hy h) k
theorem Here.ineg (A : Here p l e R s m args below meth c Z a0 tbl own nm bc mxl rt n0 T L cells slots) {pc q : Nat} {Ls : Array Slot} {st : List Value} {x v : Int32} (hd : decode bc pc = .ok (.ineg, 1)) (hq : pc + 1 = q) (hv : -x = v) (k : Go p e below F (T.setTop (mkF m q Ls (.int v :: st)))) : Go p e below F (T.setTop (mkF m pc Ls (.int x :: st))) := by
  subst hq hv
  exact Go.st (fun t h => XS.ineg A.pt A.1.1 rfl (hb A.1.2.2.2.1 hd) rfl h) k
theorem Here.ladd (A : Here p l e R s m args below meth c Z a0 tbl own nm bc mxl rt n0 T L cells slots) {pc q : Nat} {Ls : Array Slot} {st : List Value} {x y v : Int64} (hd : decode bc pc = .ok (.ladd, 1)) (hq : pc + 1 = q) (hv : x + y = v) (k : Go p e below F (T.setTop (mkF m q Ls (.long v :: st)))) : Go p e below F (T.setTop (mkF m pc Ls (.long y :: .long x :: st))) := by
  subst hq hv
  exact Go.st (fun t h => XS.ladd A.pt A.1.1 rfl (hb A.1.2.2.2.1 hd) rfl h) k
theorem Here.lsub (A : Here p l e R s m args below meth c Z a0 tbl own nm bc mxl rt n0 T L cells slots) {pc q : Nat} {Ls : Array Slot} {st : List Value} {x y v : Int64} (hd : decode bc pc = .ok (.lsub, 1)) (hq : pc + 1 = q) (hv : x - y = v) (k : Go p e below F (T.setTop (mkF m q Ls (.long v :: st)))) : Go p e below F (T.setTop (mkF m pc Ls (.long y :: .long x :: st))) := by
  subst hq hv
  exact Go.st (fun t h => XS.lsub A.pt A.1.1 rfl (hb A.1.2.2.2.1 hd) rfl h) k
theorem Here.lmul (A : Here p l e R s m args below meth c Z a0 tbl own nm bc mxl rt n0 T L cells slots) {pc q : Nat} {Ls : Array Slot} {st : List Value} {x y v : Int64} (hd : decode bc pc = .ok (.lmul, 1)) (hq : pc + 1 = q) (hv : x * y = v) (k : Go p e below F (T.setTop (mkF m q Ls (.long v :: st)))) : Go p e below F (T.setTop (mkF m pc Ls (.long y :: .long x :: st))) := by
  subst hq hv
  exact Go.st (fun t h => XS.lmul A.pt A.1.1 rfl (hb A.1.2.2.2.1 hd) rfl h) k
theorem Here.land (A : Here p l e R s m args below meth c Z a0 tbl own nm bc mxl rt n0 T L cells slots) {pc q : Nat} {Ls : Array Slot} {st : List Value} {x y v : Int64} (hd : decode bc pc = .ok (.land, 1)) (hq : pc + 1 = q) (hv : x &&& y = v) (k : Go p e below F (T.setTop (mkF m q Ls (.long v :: st)))) : Go p e below F (T.setTop (mkF m pc Ls (.long y :: .long x :: st))) := by
  subst hq hv
  exact Go.st (fun t h => XS.land A.pt A.1.1 rfl (hb A.1.2.2.2.1 hd) rfl h) k
theorem Here.lor (A : Here p l e R s m args below meth c Z a0 tbl own nm bc mxl rt n0 T L cells slots) {pc q : Nat} {Ls : Array Slot} {st : List Value} {x y v : Int64} (hd : decode bc pc = .ok (.lor, 1)) (hq : pc + 1 = q) (hv : x ||| y = v) (k : Go p e below F (T.setTop (mkF m q Ls (.long v :: st)))) : Go p e below F (T.setTop (mkF m pc Ls (.long y :: .long x :: st))) := by
  subst hq hv
  exact Go.st (fun t h => XS.lor A.pt A.1.1 rfl (hb A.1.2.2.2.1 hd) rfl h) k
theorem Here.lxor (A : Here p l e R s m args below meth c Z a0 tbl own nm bc mxl rt n0 T L cells slots) {pc q : Nat} {Ls : Array Slot} {st : List Value} {x y v : Int64} (hd : decode bc pc = .ok (.lxor, 1)) (hq : pc + 1 = q) (hv : x ^^^ y = v) (k : Go p e below F (T.setTop (mkF m q Ls (.long v :: st)))) : Go p e below F (T.setTop (mkF m pc Ls (.long y :: .long x :: st))) := by
  subst hq hv
  exact Go.st (fun t h => XS.lxor A.pt A.1.1 rfl (hb A.1.2.2.2.1 hd) rfl h) k
theorem Here.lshl (A : Here p l e R s m args below meth c Z a0 tbl own nm bc mxl rt n0 T L cells slots) {pc q : Nat} {Ls : Array Slot} {st : List Value} {x v : Int64} {y : Int32} (hd : decode bc pc = .ok (.lshl, 1)) (hq : pc + 1 = q) (hv : x <<< (y &&& 0x3f).toInt64 = v) (k : Go p e below F (T.setTop (mkF m q Ls (.long v :: st)))) : Go p e below F (T.setTop (mkF m pc Ls (.int y :: .long x :: st))) := by
  subst hq hv
  exact Go.st (fun t h => XS.lshl A.pt A.1.1 rfl (hb A.1.2.2.2.1 hd) rfl h) k
theorem Here.lshr (A : Here p l e R s m args below meth c Z a0 tbl own nm bc mxl rt n0 T L cells slots) {pc q : Nat} {Ls : Array Slot} {st : List Value} {x v : Int64} {y : Int32} (hd : decode bc pc = .ok (.lshr, 1)) (hq : pc + 1 = q) (hv : x >>> (y &&& 0x3f).toInt64 = v) (k : Go p e below F (T.setTop (mkF m q Ls (.long v :: st)))) : Go p e below F (T.setTop (mkF m pc Ls (.int y :: .long x :: st))) := by
  subst hq hv
  exact Go.st (fun t h => XS.lshr A.pt A.1.1 rfl (hb A.1.2.2.2.1 hd) rfl h) k
theorem Here.lushr (A : Here p l e R s m args below meth c Z a0 tbl own nm bc mxl rt n0 T L cells slots) {pc q : Nat} {Ls : Array Slot} {st : List Value} {x v : Int64} {y : Int32} (hd : decode bc pc = .ok (.lushr, 1)) (hq : pc + 1 = q) (hv : (x.toUInt64 >>> (y &&& 0x3f).toInt64.toUInt64).toInt64 = v) (k : Go p e below F (T.setTop (mkF m q Ls (.long v :: st)))) : Go p e below F (T.setTop (mkF m pc Ls (.int y :: .long x :: st))) := by
  subst hq hv
  exact Go.st (fun t h => XS.lushr A.pt A.1.1 rfl (hb A.1.2.2.2.1 hd) rfl h) k
theorem Here.ldiv (A : Here p l e R s m args below meth c Z a0 tbl own nm bc mxl rt n0 T L cells slots) {pc q : Nat} {Ls : Array Slot} {st : List Value} {x y v : Int64} (hd : decode bc pc = .ok (.ldiv, 1)) (hq : pc + 1 = q) (hy : y ≠ 0) (hv : x / y = v) (k : Go p e below F (T.setTop (mkF m q Ls (.long v :: st)))) : Go p e below F (T.setTop (mkF m pc Ls (.long y :: .long x :: st))) := by
  subst hq hv
  exact Go.st (fun t h => XS.ldiv A.pt A.1.1 rfl (hb A.1.2.2.2.1 hd) rfl hy h) k
theorem Here.lrem (A : Here p l e R s m args below meth c Z a0 tbl own nm bc mxl rt n0 T L cells slots) {pc q : Nat} {Ls : Array Slot} {st : List Value} {x y v : Int64} (hd : decode bc pc = .ok (.lrem, 1)) (hq : pc + 1 = q) (hy : y ≠ 0) (hv : x - (x / y) * y = v) (k : Go p e below F (T.setTop (mkF m q Ls (.long v :: st)))) : Go p e below F (T.setTop (mkF m pc Ls (.long y :: .long x :: st))) := by
  subst hq hv
  exact Go.st (fun t h => XS.lrem A.pt A.1.1 rfl (hb A.1.2.2.2.1 hd) rfl hy h) k
theorem Here.lneg (A : Here p l e R s m args below meth c Z a0 tbl own nm bc mxl rt n0 T L cells slots) {pc q : Nat} {Ls : Array Slot} {st : List Value} {x v : Int64} (hd : decode bc pc = .ok (.lneg, 1)) (hq : pc + 1 = q) (hv : -x = v) (k : Go p e below F (T.setTop (mkF m q Ls (.long v :: st)))) : Go p e below F (T.setTop (mkF m pc Ls (.long x :: st))) := by
  subst hq hv
  exact Go.st (fun t h => XS.lneg A.pt A.1.1 rfl (hb A.1.2.2.2.1 hd) rfl h) k
theorem Here.i2l (A : Here p l e R s m args below meth c Z a0 tbl own nm bc mxl rt n0 T L cells slots) {pc q : Nat} {Ls : Array Slot} {st : List Value} {x : Int32} {v : Int64} (hd : decode bc pc = .ok (.i2l, 1)) (hq : pc + 1 = q) (hv : x.toInt64 = v) (k : Go p e below F (T.setTop (mkF m q Ls (.long v :: st)))) : Go p e below F (T.setTop (mkF m pc Ls (.int x :: st))) := by
  subst hq hv
  exact Go.st (fun t h => XS.i2l A.pt A.1.1 rfl (hb A.1.2.2.2.1 hd) rfl h) k
theorem Here.l2i (A : Here p l e R s m args below meth c Z a0 tbl own nm bc mxl rt n0 T L cells slots) {pc q : Nat} {Ls : Array Slot} {st : List Value} {x : Int64} {v : Int32} (hd : decode bc pc = .ok (.l2i, 1)) (hq : pc + 1 = q) (hv : x.toInt32 = v) (k : Go p e below F (T.setTop (mkF m q Ls (.int v :: st)))) : Go p e below F (T.setTop (mkF m pc Ls (.long x :: st))) := by
  subst hq hv
  exact Go.st (fun t h => XS.l2i A.pt A.1.1 rfl (hb A.1.2.2.2.1 hd) rfl h) k
theorem Here.i2b (A : Here p l e R s m args below meth c Z a0 tbl own nm bc mxl rt n0 T L cells slots) {pc q : Nat} {Ls : Array Slot} {st : List Value} {x v : Int32} (hd : decode bc pc = .ok (.i2b, 1)) (hq : pc + 1 = q) (hv : x.toInt8.toInt32 = v) (k : Go p e below F (T.setTop (mkF m q Ls (.int v :: st)))) : Go p e below F (T.setTop (mkF m pc Ls (.int x :: st))) := by
  subst hq hv
  exact Go.st (fun t h => XS.i2b A.pt A.1.1 rfl (hb A.1.2.2.2.1 hd) rfl h) k
theorem Here.i2c (A : Here p l e R s m args below meth c Z a0 tbl own nm bc mxl rt n0 T L cells slots) {pc q : Nat} {Ls : Array Slot} {st : List Value} {x v : Int32} (hd : decode bc pc = .ok (.i2c, 1)) (hq : pc + 1 = q) (hv : x.toUInt32.toUInt16.toUInt32.toInt32 = v) (k : Go p e below F (T.setTop (mkF m q Ls (.int v :: st)))) : Go p e below F (T.setTop (mkF m pc Ls (.int x :: st))) := by
  subst hq hv
  exact Go.st (fun t h => XS.i2c A.pt A.1.1 rfl (hb A.1.2.2.2.1 hd) rfl h) k
theorem Here.i2s (A : Here p l e R s m args below meth c Z a0 tbl own nm bc mxl rt n0 T L cells slots) {pc q : Nat} {Ls : Array Slot} {st : List Value} {x v : Int32} (hd : decode bc pc = .ok (.i2s, 1)) (hq : pc + 1 = q) (hv : x.toInt16.toInt32 = v) (k : Go p e below F (T.setTop (mkF m q Ls (.int v :: st)))) : Go p e below F (T.setTop (mkF m pc Ls (.int x :: st))) := by
  subst hq hv
  exact Go.st (fun t h => XS.i2s A.pt A.1.1 rfl (hb A.1.2.2.2.1 hd) rfl h) k
theorem Here.iloadN (A : Here p l e R s m args below meth c Z a0 tbl own nm bc mxl rt n0 T L cells slots) {pc q : Nat} {Ls : Array Slot} {st : List Value} {k : Fin 4} {v : Int32} (hd : decode bc pc = .ok (.iload_n k, 1)) (hq : pc + 1 = q) (hl : Ls[k.val]? = some (.val (.int v))) (k : Go p e below F (T.setTop (mkF m q Ls (.int v :: st)))) : Go p e below F (T.setTop (mkF m pc Ls st)) := by
  subst hq
  exact Go.st (fun t h => XS.iloadN A.pt A.1.1 rfl (hb A.1.2.2.2.1 hd) hl h) k
theorem Here.iload (A : Here p l e R s m args below meth c Z a0 tbl own nm bc mxl rt n0 T L cells slots) {pc q : Nat} {Ls : Array Slot} {st : List Value} {k : Nat} {v : Int32} (hd : decode bc pc = .ok (.iload k, 2)) (hq : pc + 2 = q) (hl : Ls[k]? = some (.val (.int v))) (k : Go p e below F (T.setTop (mkF m q Ls (.int v :: st)))) : Go p e below F (T.setTop (mkF m pc Ls st)) := by
  subst hq
  exact Go.st (fun t h => XS.iload A.pt A.1.1 rfl (hb A.1.2.2.2.1 hd) hl h) k
theorem Here.istoreN (A : Here p l e R s m args below meth c Z a0 tbl own nm bc mxl rt n0 T L cells slots) {pc q : Nat} {Ls : Array Slot} {st : List Value} {k : Fin 4} {v : Int32} {l' : Array Slot} (hd : decode bc pc = .ok (.istore_n k, 1)) (hq : pc + 1 = q) (hl : storeLocals Ls k.val (.int v) = some l') (k : Go p e below F (T.setTop (mkF m q l' st))) : Go p e below F (T.setTop (mkF m pc Ls (.int v :: st))) := by
  subst hq
  exact Go.st (fun t h => XS.istoreN A.pt A.1.1 rfl (hb A.1.2.2.2.1 hd) rfl hl h) k
theorem Here.istore (A : Here p l e R s m args below meth c Z a0 tbl own nm bc mxl rt n0 T L cells slots) {pc q : Nat} {Ls : Array Slot} {st : List Value} {k : Nat} {v : Int32} {l' : Array Slot} (hd : decode bc pc = .ok (.istore k, 2)) (hq : pc + 2 = q) (hl : storeLocals Ls k (.int v) = some l') (k : Go p e below F (T.setTop (mkF m q l' st))) : Go p e below F (T.setTop (mkF m pc Ls (.int v :: st))) := by
  subst hq
  exact Go.st (fun t h => XS.istore A.pt A.1.1 rfl (hb A.1.2.2.2.1 hd) rfl hl h) k
theorem Here.lloadN (A : Here p l e R s m args below meth c Z a0 tbl own nm bc mxl rt n0 T L cells slots) {pc q : Nat} {Ls : Array Slot} {st : List Value} {k : Fin 4} {v : Int64} (hd : decode bc pc = .ok (.lload_n k, 1)) (hq : pc + 1 = q) (hl : Ls[k.val]? = some (.val (.long v))) (k : Go p e below F (T.setTop (mkF m q Ls (.long v :: st)))) : Go p e below F (T.setTop (mkF m pc Ls st)) := by
  subst hq
  exact Go.st (fun t h => XS.lloadN A.pt A.1.1 rfl (hb A.1.2.2.2.1 hd) hl h) k
theorem Here.lload (A : Here p l e R s m args below meth c Z a0 tbl own nm bc mxl rt n0 T L cells slots) {pc q : Nat} {Ls : Array Slot} {st : List Value} {k : Nat} {v : Int64} (hd : decode bc pc = .ok (.lload k, 2)) (hq : pc + 2 = q) (hl : Ls[k]? = some (.val (.long v))) (k : Go p e below F (T.setTop (mkF m q Ls (.long v :: st)))) : Go p e below F (T.setTop (mkF m pc Ls st)) := by
  subst hq
  exact Go.st (fun t h => XS.lload A.pt A.1.1 rfl (hb A.1.2.2.2.1 hd) hl h) k
theorem Here.lstoreN (A : Here p l e R s m args below meth c Z a0 tbl own nm bc mxl rt n0 T L cells slots) {pc q : Nat} {Ls : Array Slot} {st : List Value} {k : Fin 4} {v : Int64} {l' : Array Slot} (hd : decode bc pc = .ok (.lstore_n k, 1)) (hq : pc + 1 = q) (hl : storeLocals Ls k.val (.long v) = some l') (k : Go p e below F (T.setTop (mkF m q l' st))) : Go p e below F (T.setTop (mkF m pc Ls (.long v :: st))) := by
  subst hq
  exact Go.st (fun t h => XS.lstoreN A.pt A.1.1 rfl (hb A.1.2.2.2.1 hd) rfl hl h) k
theorem Here.lstore (A : Here p l e R s m args below meth c Z a0 tbl own nm bc mxl rt n0 T L cells slots) {pc q : Nat} {Ls : Array Slot} {st : List Value} {k : Nat} {v : Int64} {l' : Array Slot} (hd : decode bc pc = .ok (.lstore k, 2)) (hq : pc + 2 = q) (hl : storeLocals Ls k (.long v) = some l') (k : Go p e below F (T.setTop (mkF m q l' st))) : Go p e below F (T.setTop (mkF m pc Ls (.long v :: st))) := by
  subst hq
  exact Go.st (fun t h => XS.lstore A.pt A.1.1 rfl (hb A.1.2.2.2.1 hd) rfl hl h) k
theorem Here.aloadN (A : Here p l e R s m args below meth c Z a0 tbl own nm bc mxl rt n0 T L cells slots) {pc q : Nat} {Ls : Array Slot} {st : List Value} {k : Fin 4} {v : Value} (hd : decode bc pc = .ok (.aload_n k, 1)) (hq : pc + 1 = q) (hl : Ls[k.val]? = some (.val v)) (hr : v.isRef = true) (k : Go p e below F (T.setTop (mkF m q Ls (v :: st)))) : Go p e below F (T.setTop (mkF m pc Ls st)) := by
  subst hq
  exact Go.st (fun t h => XS.aloadN A.pt A.1.1 rfl (hb A.1.2.2.2.1 hd) hl hr h) k
theorem Here.aload (A : Here p l e R s m args below meth c Z a0 tbl own nm bc mxl rt n0 T L cells slots) {pc q : Nat} {Ls : Array Slot} {st : List Value} {k : Nat} {v : Value} (hd : decode bc pc = .ok (.aload k, 2)) (hq : pc + 2 = q) (hl : Ls[k]? = some (.val v)) (hr : v.isRef = true) (k : Go p e below F (T.setTop (mkF m q Ls (v :: st)))) : Go p e below F (T.setTop (mkF m pc Ls st)) := by
  subst hq
  exact Go.st (fun t h => XS.aload A.pt A.1.1 rfl (hb A.1.2.2.2.1 hd) hl hr h) k
theorem Here.astoreN (A : Here p l e R s m args below meth c Z a0 tbl own nm bc mxl rt n0 T L cells slots) {pc q : Nat} {Ls : Array Slot} {st : List Value} {k : Fin 4} {v : Value} {l' : Array Slot} (hd : decode bc pc = .ok (.astore_n k, 1)) (hq : pc + 1 = q) (hr : v.isRef = true) (hl : storeLocals Ls k.val v = some l') (k : Go p e below F (T.setTop (mkF m q l' st))) : Go p e below F (T.setTop (mkF m pc Ls (v :: st))) := by
  subst hq
  exact Go.st (fun t h => XS.astoreN A.pt A.1.1 rfl (hb A.1.2.2.2.1 hd) rfl hr hl h) k
theorem Here.astore (A : Here p l e R s m args below meth c Z a0 tbl own nm bc mxl rt n0 T L cells slots) {pc q : Nat} {Ls : Array Slot} {st : List Value} {k : Nat} {v : Value} {l' : Array Slot} (hd : decode bc pc = .ok (.astore k, 2)) (hq : pc + 2 = q) (hr : v.isRef = true) (hl : storeLocals Ls k v = some l') (k : Go p e below F (T.setTop (mkF m q l' st))) : Go p e below F (T.setTop (mkF m pc Ls (v :: st))) := by
  subst hq
  exact Go.st (fun t h => XS.astore A.pt A.1.1 rfl (hb A.1.2.2.2.1 hd) rfl hr hl h) k
theorem Here.iconst (A : Here p l e R s m args below meth c Z a0 tbl own nm bc mxl rt n0 T L cells slots) {pc q : Nat} {Ls : Array Slot} {st : List Value} {i : Int} {v : Int32} (hd : decode bc pc = .ok (.iconst i, 1)) (hq : pc + 1 = q) (hv : Int32.ofInt i = v) (k : Go p e below F (T.setTop (mkF m q Ls (.int v :: st)))) : Go p e below F (T.setTop (mkF m pc Ls st)) := by
  subst hq hv
  exact Go.st (fun t h => XS.iconst A.pt A.1.1 rfl (hb A.1.2.2.2.1 hd)  h) k
theorem Here.bipush (A : Here p l e R s m args below meth c Z a0 tbl own nm bc mxl rt n0 T L cells slots) {pc q : Nat} {Ls : Array Slot} {st : List Value} {i : Int} {v : Int32} (hd : decode bc pc = .ok (.bipush i, 2)) (hq : pc + 2 = q) (hv : (Int8.ofInt i).toInt32 = v) (k : Go p e below F (T.setTop (mkF m q Ls (.int v :: st)))) : Go p e below F (T.setTop (mkF m pc Ls st)) := by
  subst hq hv
  exact Go.st (fun t h => XS.bipush A.pt A.1.1 rfl (hb A.1.2.2.2.1 hd)  h) k
theorem Here.sipush (A : Here p l e R s m args below meth c Z a0 tbl own nm bc mxl rt n0 T L cells slots) {pc q : Nat} {Ls : Array Slot} {st : List Value} {i : Int} {v : Int32} (hd : decode bc pc = .ok (.sipush i, 3)) (hq : pc + 3 = q) (hv : (Int16.ofInt i).toInt32 = v) (k : Go p e below F (T.setTop (mkF m q Ls (.int v :: st)))) : Go p e below F (T.setTop (mkF m pc Ls st)) := by
  subst hq hv
  exact Go.st (fun t h => XS.sipush A.pt A.1.1 rfl (hb A.1.2.2.2.1 hd)  h) k
theorem Here.lconst (A : Here p l e R s m args below meth c Z a0 tbl own nm bc mxl rt n0 T L cells slots) {pc q : Nat} {Ls : Array Slot} {st : List Value} {i : Fin 2} {v : Int64} (hd : decode bc pc = .ok (.lconst i, 1)) (hq : pc + 1 = q) (hv : Int64.ofNat i = v) (k : Go p e below F (T.setTop (mkF m q Ls (.long v :: st)))) : Go p e below F (T.setTop (mkF m pc Ls st)) := by
  subst hq hv
  exact Go.st (fun t h => XS.lconst A.pt A.1.1 rfl (hb A.1.2.2.2.1 hd)  h) k
theorem Here.aconst_null (A : Here p l e R s m args below meth c Z a0 tbl own nm bc mxl rt n0 T L cells slots) {pc q : Nat} {Ls : Array Slot} {st : List Value}  (hd : decode bc pc = .ok (.aconst_null, 1)) (hq : pc + 1 = q)  (k : Go p e below F (T.setTop (mkF m q Ls (.null :: st)))) : Go p e below F (T.setTop (mkF m pc Ls st)) := by
  subst hq
  exact Go.st (fun t h => XS.aconstNull A.pt A.1.1 rfl (hb A.1.2.2.2.1 hd)  h) k
theorem Here.dup (A : Here p l e R s m args below meth c Z a0 tbl own nm bc mxl rt n0 T L cells slots) {pc q : Nat} {Ls : Array Slot} {st : List Value} {v : Value} (hd : decode bc pc = .ok (.dup, 1)) (hq : pc + 1 = q) (hc : v.category = 1) (k : Go p e below F (T.setTop (mkF m q Ls (v :: v :: st)))) : Go p e below F (T.setTop (mkF m pc Ls (v :: st))) := by
  subst hq
  exact Go.st (fun t h => XS.dup A.pt A.1.1 rfl (hb A.1.2.2.2.1 hd) rfl hc h) k
theorem Here.dup_x1 (A : Here p l e R s m args below meth c Z a0 tbl own nm bc mxl rt n0 T L cells slots) {pc q : Nat} {Ls : Array Slot} {st : List Value} {v w : Value} (hd : decode bc pc = .ok (.dup_x1, 1)) (hq : pc + 1 = q) (hc : v.category = 1) (hc' : w.category = 1) (k : Go p e below F (T.setTop (mkF m q Ls (v :: w :: v :: st)))) : Go p e below F (T.setTop (mkF m pc Ls (v :: w :: st))) := by
  subst hq
  exact Go.st (fun t h => XS.dupX1 A.pt A.1.1 rfl (hb A.1.2.2.2.1 hd) rfl hc hc' h) k
theorem Here.dup2 (A : Here p l e R s m args below meth c Z a0 tbl own nm bc mxl rt n0 T L cells slots) {pc q : Nat} {Ls : Array Slot} {st : List Value} {v w : Value} (hd : decode bc pc = .ok (.dup2, 1)) (hq : pc + 1 = q) (hc : v.category = 1) (hc' : w.category = 1) (k : Go p e below F (T.setTop (mkF m q Ls (v :: w :: v :: w :: st)))) : Go p e below F (T.setTop (mkF m pc Ls (v :: w :: st))) := by
  subst hq
  exact Go.st (fun t h => XT.dup2 A.pt A.1.1 rfl (hb A.1.2.2.2.1 hd) rfl hc hc' h) k
theorem Here.pop (A : Here p l e R s m args below meth c Z a0 tbl own nm bc mxl rt n0 T L cells slots) {pc q : Nat} {Ls : Array Slot} {st : List Value} {v : Value} (hd : decode bc pc = .ok (.pop, 1)) (hq : pc + 1 = q) (hc : v.category = 1) (k : Go p e below F (T.setTop (mkF m q Ls st))) : Go p e below F (T.setTop (mkF m pc Ls (v :: st))) := by
  subst hq
  exact Go.st (fun t h => XS.pop A.pt A.1.1 rfl (hb A.1.2.2.2.1 hd) rfl hc h) k
theorem Here.iinc (A : Here p l e R s m args below meth c Z a0 tbl own nm bc mxl rt n0 T L cells slots) {pc q : Nat} {Ls : Array Slot} {st : List Value} {k : Nat} {cst : Int} {x v : Int32} {l' : Array Slot} (hd : decode bc pc = .ok (.iinc k cst, 3)) (hq : pc + 3 = q) (hl : Ls[k]? = some (.val (.int x))) (hv : x + Int32.ofInt cst = v) (hl' : storeLocals Ls k (.int v) = some l') (k : Go p e below F (T.setTop (mkF m q l' st))) : Go p e below F (T.setTop (mkF m pc Ls st)) := by
  subst hq hv
  exact Go.st (fun t h => XS.iinc A.pt A.1.1 rfl (hb A.1.2.2.2.1 hd) hl hl' h) k
theorem Here.goto (A : Here p l e R s m args below meth c Z a0 tbl own nm bc mxl rt n0 T L cells slots) {pc r : Nat} {Ls : Array Slot} {st : List Value} {o : Int} (hd : decode bc pc = .ok (.goto o, 3)) (hr : (pc : Int) + o = (r : Int)) (k : Go p e below F (T.setTop (mkF m r Ls st))) : Go p e below F (T.setTop (mkF m pc Ls st)) :=
  Go.st (fun t h => XS.goto A.pt A.1.1 rfl (pc0 := pc) (pc' := r) rfl (hb A.1.2.2.2.1 hd) (by omega) (by omega) h) k
theorem Here.icmp_lt (A : Here p l e R s m args below meth c Z a0 tbl own nm bc mxl rt n0 T L cells slots) {pc q r : Nat} {Ls : Array Slot} {st : List Value} {x y : Int32} {o : Int} (hd : decode bc pc = .ok (.if_icmp .lt o, 3)) (hq : pc + 3 = q) (hr : (pc : Int) + o = (r : Int)) (kt : x < y → Go p e below F (T.setTop (mkF m r Ls st))) (kf : ¬ (x < y) → Go p e below F (T.setTop (mkF m q Ls st))) : Go p e below F (T.setTop (mkF m pc Ls (.int y :: .int x :: st))) := by
  by_cases hc : x < y
  · exact Go.st (fun t h => XS.icmpYes A.pt A.1.1 rfl (pc0 := pc) (pc' := r) rfl (hb A.1.2.2.2.1 hd) rfl (tlt hc).1 (by omega) (by omega) h) (kt hc)
  · subst hq; exact Go.st (fun t h => XS.icmpNo A.pt A.1.1 rfl (hb A.1.2.2.2.1 hd) rfl (flt hc).1 h) (kf hc)
theorem Here.if_lt (A : Here p l e R s m args below meth c Z a0 tbl own nm bc mxl rt n0 T L cells slots) {pc q r : Nat} {Ls : Array Slot} {st : List Value} {x : Int32} {o : Int} (hd : decode bc pc = .ok (.ifCond .lt o, 3)) (hq : pc + 3 = q) (hr : (pc : Int) + o = (r : Int)) (kt : x < (0 : Int32) → Go p e below F (T.setTop (mkF m r Ls st))) (kf : ¬ (x < (0 : Int32)) → Go p e below F (T.setTop (mkF m q Ls st))) : Go p e below F (T.setTop (mkF m pc Ls (.int x :: st))) := by
  by_cases hc : x < (0 : Int32)
  · exact Go.st (fun t h => XS.ifYes A.pt A.1.1 rfl (pc0 := pc) (pc' := r) rfl (hb A.1.2.2.2.1 hd) rfl ((if0 _ _).trans (tlt hc).1) (by omega) (by omega) h) (kt hc)
  · subst hq; exact Go.st (fun t h => XS.ifNo A.pt A.1.1 rfl (hb A.1.2.2.2.1 hd) rfl ((if0 _ _).trans (flt hc).1) h) (kf hc)
theorem Here.icmp_ge (A : Here p l e R s m args below meth c Z a0 tbl own nm bc mxl rt n0 T L cells slots) {pc q r : Nat} {Ls : Array Slot} {st : List Value} {x y : Int32} {o : Int} (hd : decode bc pc = .ok (.if_icmp .ge o, 3)) (hq : pc + 3 = q) (hr : (pc : Int) + o = (r : Int)) (kt : ¬ (x < y) → Go p e below F (T.setTop (mkF m r Ls st))) (kf : x < y → Go p e below F (T.setTop (mkF m q Ls st))) : Go p e below F (T.setTop (mkF m pc Ls (.int y :: .int x :: st))) := by
  by_cases hc : x < y
  · subst hq; exact Go.st (fun t h => XS.icmpNo A.pt A.1.1 rfl (hb A.1.2.2.2.1 hd) rfl (tlt hc).2.1 h) (kf hc)
  · exact Go.st (fun t h => XS.icmpYes A.pt A.1.1 rfl (pc0 := pc) (pc' := r) rfl (hb A.1.2.2.2.1 hd) rfl (flt hc).2.1 (by omega) (by omega) h) (kt hc)
theorem Here.if_ge (A : Here p l e R s m args below meth c Z a0 tbl own nm bc mxl rt n0 T L cells slots) {pc q r : Nat} {Ls : Array Slot} {st : List Value} {x : Int32} {o : Int} (hd : decode bc pc = .ok (.ifCond .ge o, 3)) (hq : pc + 3 = q) (hr : (pc : Int) + o = (r : Int)) (kt : ¬ (x < (0 : Int32)) → Go p e below F (T.setTop (mkF m r Ls st))) (kf : x < (0 : Int32) → Go p e below F (T.setTop (mkF m q Ls st))) : Go p e below F (T.setTop (mkF m pc Ls (.int x :: st))) := by
  by_cases hc : x < (0 : Int32)
  · subst hq; exact Go.st (fun t h => XS.ifNo A.pt A.1.1 rfl (hb A.1.2.2.2.1 hd) rfl ((if0 _ _).trans (tlt hc).2.1) h) (kf hc)
  · exact Go.st (fun t h => XS.ifYes A.pt A.1.1 rfl (pc0 := pc) (pc' := r) rfl (hb A.1.2.2.2.1 hd) rfl ((if0 _ _).trans (flt hc).2.1) (by omega) (by omega) h) (kt hc)
theorem Here.icmp_gt (A : Here p l e R s m args below meth c Z a0 tbl own nm bc mxl rt n0 T L cells slots) {pc q r : Nat} {Ls : Array Slot} {st : List Value} {x y : Int32} {o : Int} (hd : decode bc pc = .ok (.if_icmp .gt o, 3)) (hq : pc + 3 = q) (hr : (pc : Int) + o = (r : Int)) (kt : y < x → Go p e below F (T.setTop (mkF m r Ls st))) (kf : ¬ (y < x) → Go p e below F (T.setTop (mkF m q Ls st))) : Go p e below F (T.setTop (mkF m pc Ls (.int y :: .int x :: st))) := by
  by_cases hc : y < x
  · exact Go.st (fun t h => XS.icmpYes A.pt A.1.1 rfl (pc0 := pc) (pc' := r) rfl (hb A.1.2.2.2.1 hd) rfl (tlt hc).2.2.1 (by omega) (by omega) h) (kt hc)
  · subst hq; exact Go.st (fun t h => XS.icmpNo A.pt A.1.1 rfl (hb A.1.2.2.2.1 hd) rfl (flt hc).2.2.1 h) (kf hc)
theorem Here.if_gt (A : Here p l e R s m args below meth c Z a0 tbl own nm bc mxl rt n0 T L cells slots) {pc q r : Nat} {Ls : Array Slot} {st : List Value} {x : Int32} {o : Int} (hd : decode bc pc = .ok (.ifCond .gt o, 3)) (hq : pc + 3 = q) (hr : (pc : Int) + o = (r : Int)) (kt : (0 : Int32) < x → Go p e below F (T.setTop (mkF m r Ls st))) (kf : ¬ ((0 : Int32) < x) → Go p e below F (T.setTop (mkF m q Ls st))) : Go p e below F (T.setTop (mkF m pc Ls (.int x :: st))) := by
  by_cases hc : (0 : Int32) < x
  · exact Go.st (fun t h => XS.ifYes A.pt A.1.1 rfl (pc0 := pc) (pc' := r) rfl (hb A.1.2.2.2.1 hd) rfl ((if0 _ _).trans (tlt hc).2.2.1) (by omega) (by omega) h) (kt hc)
  · subst hq; exact Go.st (fun t h => XS.ifNo A.pt A.1.1 rfl (hb A.1.2.2.2.1 hd) rfl ((if0 _ _).trans (flt hc).2.2.1) h) (kf hc)
theorem Here.icmp_le (A : Here p l e R s m args below meth c Z a0 tbl own nm bc mxl rt n0 T L cells slots) {pc q r : Nat} {Ls : Array Slot} {st : List Value} {x y : Int32} {o : Int} (hd : decode bc pc = .ok (.if_icmp .le o, 3)) (hq : pc + 3 = q) (hr : (pc : Int) + o = (r : Int)) (kt : ¬ (y < x) → Go p e below F (T.setTop (mkF m r Ls st))) (kf : y < x → Go p e below F (T.setTop (mkF m q Ls st))) : Go p e below F (T.setTop (mkF m pc Ls (.int y :: .int x :: st))) := by
  by_cases hc : y < x
  · subst hq; exact Go.st (fun t h => XS.icmpNo A.pt A.1.1 rfl (hb A.1.2.2.2.1 hd) rfl (tlt hc).2.2.2 h) (kf hc)
  · exact Go.st (fun t h => XS.icmpYes A.pt A.1.1 rfl (pc0 := pc) (pc' := r) rfl (hb A.1.2.2.2.1 hd) rfl (flt hc).2.2.2 (by omega) (by omega) h) (kt hc)
theorem Here.if_le (A : Here p l e R s m args below meth c Z a0 tbl own nm bc mxl rt n0 T L cells slots) {pc q r : Nat} {Ls : Array Slot} {st : List Value} {x : Int32} {o : Int} (hd : decode bc pc = .ok (.ifCond .le o, 3)) (hq : pc + 3 = q) (hr : (pc : Int) + o = (r : Int)) (kt : ¬ ((0 : Int32) < x) → Go p e below F (T.setTop (mkF m r Ls st))) (kf : (0 : Int32) < x → Go p e below F (T.setTop (mkF m q Ls st))) : Go p e below F (T.setTop (mkF m pc Ls (.int x :: st))) := by
  by_cases hc : (0 : Int32) < x
  · subst hq; exact Go.st (fun t h => XS.ifNo A.pt A.1.1 rfl (hb A.1.2.2.2.1 hd) rfl ((if0 _ _).trans (tlt hc).2.2.2) h) (kf hc)
  · exact Go.st (fun t h => XS.ifYes A.pt A.1.1 rfl (pc0 := pc) (pc' := r) rfl (hb A.1.2.2.2.1 hd) rfl ((if0 _ _).trans (flt hc).2.2.2) (by omega) (by omega) h) (kt hc)
theorem Here.icmp_eq (A : Here p l e R s m args below meth c Z a0 tbl own nm bc mxl rt n0 T L cells slots) {pc q r : Nat} {Ls : Array Slot} {st : List Value} {x y : Int32} {o : Int} (hd : decode bc pc = .ok (.if_icmp .eq o, 3)) (hq : pc + 3 = q) (hr : (pc : Int) + o = (r : Int)) (kt : x = y → Go p e below F (T.setTop (mkF m r Ls st))) (kf : ¬ (x = y) → Go p e below F (T.setTop (mkF m q Ls st))) : Go p e below F (T.setTop (mkF m pc Ls (.int y :: .int x :: st))) := by
  by_cases hc : x = y
  · exact Go.st (fun t h => XS.icmpYes A.pt A.1.1 rfl (pc0 := pc) (pc' := r) rfl (hb A.1.2.2.2.1 hd) rfl (teq hc).1 (by omega) (by omega) h) (kt hc)
  · subst hq; exact Go.st (fun t h => XS.icmpNo A.pt A.1.1 rfl (hb A.1.2.2.2.1 hd) rfl (feq hc).1 h) (kf hc)
theorem Here.if_eq (A : Here p l e R s m args below meth c Z a0 tbl own nm bc mxl rt n0 T L cells slots) {pc q r : Nat} {Ls : Array Slot} {st : List Value} {x : Int32} {o : Int} (hd : decode bc pc = .ok (.ifCond .eq o, 3)) (hq : pc + 3 = q) (hr : (pc : Int) + o = (r : Int)) (kt : x = (0 : Int32) → Go p e below F (T.setTop (mkF m r Ls st))) (kf : ¬ (x = (0 : Int32)) → Go p e below F (T.setTop (mkF m q Ls st))) : Go p e below F (T.setTop (mkF m pc Ls (.int x :: st))) := by
  by_cases hc : x = (0 : Int32)
  · exact Go.st (fun t h => XS.ifYes A.pt A.1.1 rfl (pc0 := pc) (pc' := r) rfl (hb A.1.2.2.2.1 hd) rfl ((if0 _ _).trans (teq hc).1) (by omega) (by omega) h) (kt hc)
  · subst hq; exact Go.st (fun t h => XS.ifNo A.pt A.1.1 rfl (hb A.1.2.2.2.1 hd) rfl ((if0 _ _).trans (feq hc).1) h) (kf hc)
theorem Here.icmp_ne (A : Here p l e R s m args below meth c Z a0 tbl own nm bc mxl rt n0 T L cells slots) {pc q r : Nat} {Ls : Array Slot} {st : List Value} {x y : Int32} {o : Int} (hd : decode bc pc = .ok (.if_icmp .ne o, 3)) (hq : pc + 3 = q) (hr : (pc : Int) + o = (r : Int)) (kt : ¬ (x = y) → Go p e below F (T.setTop (mkF m r Ls st))) (kf : x = y → Go p e below F (T.setTop (mkF m q Ls st))) : Go p e below F (T.setTop (mkF m pc Ls (.int y :: .int x :: st))) := by
  by_cases hc : x = y
  · subst hq; exact Go.st (fun t h => XS.icmpNo A.pt A.1.1 rfl (hb A.1.2.2.2.1 hd) rfl (teq hc).2 h) (kf hc)
  · exact Go.st (fun t h => XS.icmpYes A.pt A.1.1 rfl (pc0 := pc) (pc' := r) rfl (hb A.1.2.2.2.1 hd) rfl (feq hc).2 (by omega) (by omega) h) (kt hc)
theorem Here.if_ne (A : Here p l e R s m args below meth c Z a0 tbl own nm bc mxl rt n0 T L cells slots) {pc q r : Nat} {Ls : Array Slot} {st : List Value} {x : Int32} {o : Int} (hd : decode bc pc = .ok (.ifCond .ne o, 3)) (hq : pc + 3 = q) (hr : (pc : Int) + o = (r : Int)) (kt : ¬ (x = (0 : Int32)) → Go p e below F (T.setTop (mkF m r Ls st))) (kf : x = (0 : Int32) → Go p e below F (T.setTop (mkF m q Ls st))) : Go p e below F (T.setTop (mkF m pc Ls (.int x :: st))) := by
  by_cases hc : x = (0 : Int32)
  · subst hq; exact Go.st (fun t h => XS.ifNo A.pt A.1.1 rfl (hb A.1.2.2.2.1 hd) rfl ((if0 _ _).trans (teq hc).2) h) (kf hc)
  · exact Go.st (fun t h => XS.ifYes A.pt A.1.1 rfl (pc0 := pc) (pc' := r) rfl (hb A.1.2.2.2.1 hd) rfl ((if0 _ _).trans (feq hc).2) (by omega) (by omega) h) (kt hc)
theorem Here.icmpT (A : Here p l e R s m args below meth c Z a0 tbl own nm bc mxl rt n0 T L cells slots) {pc r : Nat} {Ls : Array Slot} {st : List Value} {x y : Int32} {o : Int} {cd : ClassFile.Cond} (hd : decode bc pc = .ok (.if_icmp cd o, 3)) (hr : (pc : Int) + o = (r : Int)) (hc : if_icmp.holds cd x y = true) (k : Go p e below F (T.setTop (mkF m r Ls st))) : Go p e below F (T.setTop (mkF m pc Ls (.int y :: .int x :: st))) :=
  Go.st (fun t h => XS.icmpYes A.pt A.1.1 rfl (pc0 := pc) (pc' := r) rfl (hb A.1.2.2.2.1 hd) rfl hc (by omega) (by omega) h) k
theorem Here.icmpF (A : Here p l e R s m args below meth c Z a0 tbl own nm bc mxl rt n0 T L cells slots) {pc q : Nat} {Ls : Array Slot} {st : List Value} {x y : Int32} {o : Int} {cd : ClassFile.Cond} (hd : decode bc pc = .ok (.if_icmp cd o, 3)) (hq : pc + 3 = q) (hc : if_icmp.holds cd x y = false) (k : Go p e below F (T.setTop (mkF m q Ls st))) : Go p e below F (T.setTop (mkF m pc Ls (.int y :: .int x :: st))) := by
  subst hq; exact Go.st (fun t h => XS.icmpNo A.pt A.1.1 rfl (hb A.1.2.2.2.1 hd) rfl hc h) k
theorem Here.ifT (A : Here p l e R s m args below meth c Z a0 tbl own nm bc mxl rt n0 T L cells slots) {pc r : Nat} {Ls : Array Slot} {st : List Value} {x : Int32} {o : Int} {cd : ClassFile.Cond} (hd : decode bc pc = .ok (.ifCond cd o, 3)) (hr : (pc : Int) + o = (r : Int)) (hc : ifCond.holds cd x = true) (k : Go p e below F (T.setTop (mkF m r Ls st))) : Go p e below F (T.setTop (mkF m pc Ls (.int x :: st))) :=
  Go.st (fun t h => XS.ifYes A.pt A.1.1 rfl (pc0 := pc) (pc' := r) rfl (hb A.1.2.2.2.1 hd) rfl hc (by omega) (by omega) h) k
theorem Here.ifF (A : Here p l e R s m args below meth c Z a0 tbl own nm bc mxl rt n0 T L cells slots) {pc q : Nat} {Ls : Array Slot} {st : List Value} {x : Int32} {o : Int} {cd : ClassFile.Cond} (hd : decode bc pc = .ok (.ifCond cd o, 3)) (hq : pc + 3 = q) (hc : ifCond.holds cd x = false) (k : Go p e below F (T.setTop (mkF m q Ls st))) : Go p e below F (T.setTop (mkF m pc Ls (.int x :: st))) := by
  subst hq; exact Go.st (fun t h => XS.ifNo A.pt A.1.1 rfl (hb A.1.2.2.2.1 hd) rfl hc h) k
theorem Here.lcmp_lt (A : Here p l e R s m args below meth c Z a0 tbl own nm bc mxl rt n0 T L cells slots) {pc q q2 r : Nat} {Ls : Array Slot} {st : List Value} {x y : Int64} {o : Int} (hd : decode bc pc = .ok (.lcmp, 1)) (hq : pc + 1 = q) (hd2 : decode bc q = .ok (.ifCond .lt o, 3)) (hq2 : q + 3 = q2) (hr : (q : Int) + o = (r : Int)) (kt : x < y → Go p e below F (T.setTop (mkF m r Ls st))) (kf : ¬ (x < y) → Go p e below F (T.setTop (mkF m q2 Ls st))) : Go p e below F (T.setTop (mkF m pc Ls (.long y :: .long x :: st))) := by
  have key : Go p e below F (T.setTop (mkF m q Ls (.int (lcmpW x y) :: st))) := by
    by_cases hc : x < y
    · exact A.ifT hd2 hr ((if0 _ _).trans (tlt ((lw_lt x y).mpr hc)).1) (kt hc)
    · exact A.ifF hd2 hq2 ((if0 _ _).trans (flt (mt (lw_lt x y).mp hc)).1) (kf hc)
  subst hq
  exact Go.st (fun t h => XS.lcmp A.pt A.1.1 rfl (hb A.1.2.2.2.1 hd) rfl h) key
theorem Here.lcmp_ge (A : Here p l e R s m args below meth c Z a0 tbl own nm bc mxl rt n0 T L cells slots) {pc q q2 r : Nat} {Ls : Array Slot} {st : List Value} {x y : Int64} {o : Int} (hd : decode bc pc = .ok (.lcmp, 1)) (hq : pc + 1 = q) (hd2 : decode bc q = .ok (.ifCond .ge o, 3)) (hq2 : q + 3 = q2) (hr : (q : Int) + o = (r : Int)) (kt : ¬ (x < y) → Go p e below F (T.setTop (mkF m r Ls st))) (kf : x < y → Go p e below F (T.setTop (mkF m q2 Ls st))) : Go p e below F (T.setTop (mkF m pc Ls (.long y :: .long x :: st))) := by
  have key : Go p e below F (T.setTop (mkF m q Ls (.int (lcmpW x y) :: st))) := by
    by_cases hc : x < y
    · exact A.ifF hd2 hq2 ((if0 _ _).trans (tlt ((lw_lt x y).mpr hc)).2.1) (kf hc)
    · exact A.ifT hd2 hr ((if0 _ _).trans (flt (mt (lw_lt x y).mp hc)).2.1) (kt hc)
  subst hq
  exact Go.st (fun t h => XS.lcmp A.pt A.1.1 rfl (hb A.1.2.2.2.1 hd) rfl h) key
theorem Here.lcmp_gt (A : Here p l e R s m args below meth c Z a0 tbl own nm bc mxl rt n0 T L cells slots) {pc q q2 r : Nat} {Ls : Array Slot} {st : List Value} {x y : Int64} {o : Int} (hd : decode bc pc = .ok (.lcmp, 1)) (hq : pc + 1 = q) (hd2 : decode bc q = .ok (.ifCond .gt o, 3)) (hq2 : q + 3 = q2) (hr : (q : Int) + o = (r : Int)) (kt : y < x → Go p e below F (T.setTop (mkF m r Ls st))) (kf : ¬ (y < x) → Go p e below F (T.setTop (mkF m q2 Ls st))) : Go p e below F (T.setTop (mkF m pc Ls (.long y :: .long x :: st))) := by
  have key : Go p e below F (T.setTop (mkF m q Ls (.int (lcmpW x y) :: st))) := by
    by_cases hc : y < x
    · exact A.ifT hd2 hr ((if0 _ _).trans (tlt ((lw_gt x y).mpr hc)).2.2.1) (kt hc)
    · exact A.ifF hd2 hq2 ((if0 _ _).trans (flt (mt (lw_gt x y).mp hc)).2.2.1) (kf hc)
  subst hq
  exact Go.st (fun t h => XS.lcmp A.pt A.1.1 rfl (hb A.1.2.2.2.1 hd) rfl h) key
theorem Here.lcmp_le (A : Here p l e R s m args below meth c Z a0 tbl own nm bc mxl rt n0 T L cells slots) {pc q q2 r : Nat} {Ls : Array Slot} {st : List Value} {x y : Int64} {o : Int} (hd : decode bc pc = .ok (.lcmp, 1)) (hq : pc + 1 = q) (hd2 : decode bc q = .ok (.ifCond .le o, 3)) (hq2 : q + 3 = q2) (hr : (q : Int) + o = (r : Int)) (kt : ¬ (y < x) → Go p e below F (T.setTop (mkF m r Ls st))) (kf : y < x → Go p e below F (T.setTop (mkF m q2 Ls st))) : Go p e below F (T.setTop (mkF m pc Ls (.long y :: .long x :: st))) := by
  have key : Go p e below F (T.setTop (mkF m q Ls (.int (lcmpW x y) :: st))) := by
    by_cases hc : y < x
    · exact A.ifF hd2 hq2 ((if0 _ _).trans (tlt ((lw_gt x y).mpr hc)).2.2.2) (kf hc)
    · exact A.ifT hd2 hr ((if0 _ _).trans (flt (mt (lw_gt x y).mp hc)).2.2.2) (kt hc)
  subst hq
  exact Go.st (fun t h => XS.lcmp A.pt A.1.1 rfl (hb A.1.2.2.2.1 hd) rfl h) key
theorem Here.lcmp_eq (A : Here p l e R s m args below meth c Z a0 tbl own nm bc mxl rt n0 T L cells slots) {pc q q2 r : Nat} {Ls : Array Slot} {st : List Value} {x y : Int64} {o : Int} (hd : decode bc pc = .ok (.lcmp, 1)) (hq : pc + 1 = q) (hd2 : decode bc q = .ok (.ifCond .eq o, 3)) (hq2 : q + 3 = q2) (hr : (q : Int) + o = (r : Int)) (kt : x = y → Go p e below F (T.setTop (mkF m r Ls st))) (kf : ¬ (x = y) → Go p e below F (T.setTop (mkF m q2 Ls st))) : Go p e below F (T.setTop (mkF m pc Ls (.long y :: .long x :: st))) := by
  have key : Go p e below F (T.setTop (mkF m q Ls (.int (lcmpW x y) :: st))) := by
    by_cases hc : x = y
    · exact A.ifT hd2 hr ((if0 _ _).trans (teq ((lw_eq x y).mpr hc)).1) (kt hc)
    · exact A.ifF hd2 hq2 ((if0 _ _).trans (feq (mt (lw_eq x y).mp hc)).1) (kf hc)
  subst hq
  exact Go.st (fun t h => XS.lcmp A.pt A.1.1 rfl (hb A.1.2.2.2.1 hd) rfl h) key
theorem Here.lcmp_ne (A : Here p l e R s m args below meth c Z a0 tbl own nm bc mxl rt n0 T L cells slots) {pc q q2 r : Nat} {Ls : Array Slot} {st : List Value} {x y : Int64} {o : Int} (hd : decode bc pc = .ok (.lcmp, 1)) (hq : pc + 1 = q) (hd2 : decode bc q = .ok (.ifCond .ne o, 3)) (hq2 : q + 3 = q2) (hr : (q : Int) + o = (r : Int)) (kt : ¬ (x = y) → Go p e below F (T.setTop (mkF m r Ls st))) (kf : x = y → Go p e below F (T.setTop (mkF m q2 Ls st))) : Go p e below F (T.setTop (mkF m pc Ls (.long y :: .long x :: st))) := by
  have key : Go p e below F (T.setTop (mkF m q Ls (.int (lcmpW x y) :: st))) := by
    by_cases hc : x = y
    · exact A.ifF hd2 hq2 ((if0 _ _).trans (teq ((lw_eq x y).mpr hc)).2) (kf hc)
    · exact A.ifT hd2 hr ((if0 _ _).trans (feq (mt (lw_eq x y).mp hc)).2) (kt hc)
  subst hq
  exact Go.st (fun t h => XS.lcmp A.pt A.1.1 rfl (hb A.1.2.2.2.1 hd) rfl h) key
theorem Here.ifnonnullT (A : Here p l e R s m args below meth c Z a0 tbl own nm bc mxl rt n0 T L cells slots) {pc r : Nat} {Ls : Array Slot} {st : List Value} {b : Addr} {o : Int} (hd : decode bc pc = .ok (.ifnonnull o, 3)) (hr : (pc : Int) + o = (r : Int)) (k : Go p e below F (T.setTop (mkF m r Ls st))) : Go p e below F (T.setTop (mkF m pc Ls (.ref b :: st))) :=
  Go.st (fun t h => XS.ifnonnullYes A.pt A.1.1 rfl (pc0 := pc) (pc' := r) rfl (hb A.1.2.2.2.1 hd) rfl (by omega) (by omega) h) k
theorem Here.ifnonnullF (A : Here p l e R s m args below meth c Z a0 tbl own nm bc mxl rt n0 T L cells slots) {pc q : Nat} {Ls : Array Slot} {st : List Value} {o : Int} (hd : decode bc pc = .ok (.ifnonnull o, 3)) (hq : pc + 3 = q) (k : Go p e below F (T.setTop (mkF m q Ls st))) : Go p e below F (T.setTop (mkF m pc Ls (.null :: st))) := by
  subst hq; exact Go.st (fun t h => XS.ifnonnullNo A.pt A.1.1 rfl (hb A.1.2.2.2.1 hd) rfl h) k
theorem Here.ifnullT (A : Here p l e R s m args below meth c Z a0 tbl own nm bc mxl rt n0 T L cells slots) {pc r : Nat} {Ls : Array Slot} {st : List Value} {o : Int} (hd : decode bc pc = .ok (.ifnull o, 3)) (hr : (pc : Int) + o = (r : Int)) (k : Go p e below F (T.setTop (mkF m r Ls st))) : Go p e below F (T.setTop (mkF m pc Ls (.null :: st))) :=
  Go.st (fun t h => XS.ifnullYes A.pt A.1.1 rfl (pc0 := pc) (pc' := r) rfl (hb A.1.2.2.2.1 hd) rfl (by omega) (by omega) h) k
theorem Here.ifnullF (A : Here p l e R s m args below meth c Z a0 tbl own nm bc mxl rt n0 T L cells slots) {pc q : Nat} {Ls : Array Slot} {st : List Value} {b : Addr} {o : Int} (hd : decode bc pc = .ok (.ifnull o, 3)) (hq : pc + 3 = q) (k : Go p e below F (T.setTop (mkF m q Ls st))) : Go p e below F (T.setTop (mkF m pc Ls (.ref b :: st))) := by
  subst hq; exact Go.st (fun t h => XS.ifnullNo A.pt A.1.1 rfl (hb A.1.2.2.2.1 hd) rfl h) k
theorem Here.acmp (A : Here p l e R s m args below meth c Z a0 tbl own nm bc mxl rt n0 T L cells slots) {pc r : Nat} {Ls : Array Slot} {st : List Value} {x y : Value} {cd : ACond} {o : Int} {same : Bool} (hd : decode bc pc = .ok (.if_acmp cd o, 3)) (h1 : x.isRef = true) (h2 : y.isRef = true) (hs : decide (x = y) = same) (ho : 0 ≤ (pc : Int) + o) (hp : r = if acV cd same = true then ((pc : Int) + o).toNat else pc + 3) (k : Go p e below F (T.setTop (mkF m r Ls st))) : Go p e below F (T.setTop (mkF m pc Ls (y :: x :: st))) := by
  obtain ⟨_, X, _⟩ := A.2
  exact Go.st (fun t h => Jvm.RoadKit.acmp X A.1.1 rfl h1 h2 (pc0 := pc) (pc' := r) (same := same) rfl (hb A.1.2.2.2.1 hd) rfl hs ho hp h) k
theorem Here.ldc (A : Here p l e R s m args below meth c Z a0 tbl own nm bc mxl rt n0 T L cells slots) {pc q w index : Nat} {Ls : Array Slot} {st : List Value} {v : Int32} (hd : decode bc pc = .ok (.ldc index, 2)) (hq : pc + 2 = q) (hw : tbl[w]? = some (Jvm.Cond.constant own index v)) (k : Go p e below F (T.setTop (mkF m q Ls (.int v :: st)))) : Go p e below F (T.setTop (mkF m pc Ls st)) := by
  obtain ⟨⟨hx, hZ, hown, hby, hml, hww, hnm, hrt, hlk⟩, locs, X, N, Z0, P⟩ := id A
  subst hq
  exact Go.st (X.ldcInt hx hown (mvT hZ (hww _ (List.mem_of_getElem? hw))) (g := mkF m pc Ls st) rfl (hb hby hd)) k
theorem Here.ldc_w (A : Here p l e R s m args below meth c Z a0 tbl own nm bc mxl rt n0 T L cells slots) {pc q w index : Nat} {Ls : Array Slot} {st : List Value} {v : Int32} (hd : decode bc pc = .ok (.ldc_w index, 3)) (hq : pc + 3 = q) (hw : tbl[w]? = some (Jvm.Cond.constant own index v)) (k : Go p e below F (T.setTop (mkF m q Ls (.int v :: st)))) : Go p e below F (T.setTop (mkF m pc Ls st)) := by
  obtain ⟨⟨hx, hZ, hown, hby, hml, hww, hnm, hrt, hlk⟩, locs, X, N, Z0, P⟩ := id A
  subst hq
  exact Go.st (X.ldcwInt hx hown (mvT hZ (hww _ (List.mem_of_getElem? hw))) (g := mkF m pc Ls st) rfl (hb hby hd)) k
theorem Here.ldc2_w (A : Here p l e R s m args below meth c Z a0 tbl own nm bc mxl rt n0 T L cells slots) {pc q w index : Nat} {Ls : Array Slot} {st : List Value} {v : Int64} (hd : decode bc pc = .ok (.ldc2_w index, 3)) (hq : pc + 3 = q) (hw : tbl[w]? = some (Jvm.Cond.constantLong own index v)) (k : Go p e below F (T.setTop (mkF m q Ls (.long v :: st)))) : Go p e below F (T.setTop (mkF m pc Ls st)) := by
  obtain ⟨⟨hx, hZ, hown, hby, hml, hww, hnm, hrt, hlk⟩, locs, X, N, Z0, P⟩ := id A
  subst hq
  exact Go.st (X.ldc2Long hx hown (mvT hZ (hww _ (List.mem_of_getElem? hw))) (g := mkF m pc Ls st) rfl (hb hby hd)) k
theorem Here.getF (A : Here p l e R s m args below meth c Z a0 tbl own nm bc mxl rt n0 T L cells slots) {pc q w i j index : Nat} {Ls : Array Slot} {st : List Value} {O n d C : String} {a : Addr} {fs : List ((String × String × String) × Value)} {v : Value} (hd : decode bc pc = .ok (.getfield index, 3)) (hq : pc + 3 = q) (hw : tbl[w]? = some (Jvm.Cond.fieldLink own index O n d)) (hL : L[i]? = some (a, .inl (C, fs))) (hf : fs[j]? = some ((O, n, d), v))
    (k : ∀ T', Here p l e R s m args below meth c Z a0 tbl own nm bc mxl rt n0 T' L cells slots → Go p e below F (T'.setTop (mkF m q Ls (v :: st)))) : Go p e below F (T.setTop (mkF m pc Ls (.ref a :: st))) := by
  obtain ⟨⟨hx, hZ, hown, hby, hml, hww, hnm, hrt, hlk⟩, locs, X, N, Z0, P⟩ := id A
  have Fd := (P.1 _ (List.mem_of_getElem? hL)).2.2 _ (List.mem_of_getElem? hf)
  obtain ⟨T', X', e', st'⟩ := Jvm.RoadKit.getF X hx hZ hown (host := "") (Or.inl (hww _ (List.mem_of_getElem? hw))) Via.refl rfl Fd (g := mkF m pc Ls (.ref a :: st)) rfl rfl (hb hby hd)
  subst hq
  exact Go.st st' (k T' ⟨A.1, locs, X', N, by rw [e']; exact Z0, by rw [e']; exact P⟩)
theorem Here.putF (A : Here p l e R s m args below meth c Z a0 tbl own nm bc mxl rt n0 T L cells slots) {pc q w w2 w3 i j index kk : Nat} {Ls : Array Slot} {st : List Value} {O n d C : String} {a : Addr} {fs : List ((String × String × String) × Value)} {v v' old : Value} {ty : FieldType} {L' : Obs} (hd : decode bc pc = .ok (.putfield index, 3)) (hq : pc + 3 = q) (hw : tbl[w]? = some (Jvm.Cond.fieldLink own index O n d)) (hL : L[i]? = some (a, .inl (C, fs))) (hf : fs[j]? = some ((O, n, d), old))
    (hl : Lays Z a0 C (fs.map Prod.fst)) (hp : tbl[w2]? = some (Jvm.Cond.lays C O n d) ∨ (tbl[w2]? = some (Jvm.Cond.laysFinal C O n d) ∧ own = O ∧ nm = "<init>")) (hi : tbl[w3]? = some (Jvm.Cond.instantiable C kk)) (hty : parseFieldDescriptor d = some ty) (hn : narrow ty v = v') (hfit : fits ty v' = true) (hL' : L.set i (a, .inl (C, fs.set j ((O, n, d), v'))) = L')
    (k : ∀ T', Here p l e R s m args below meth c Z a0 tbl own nm bc mxl rt n0 T' L' cells slots → Go p e below F (T'.setTop (mkF m q Ls st))) : Go p e below F (T.setTop (mkF m pc Ls (v :: .ref a :: st))) := by
  obtain ⟨⟨hx, hZ, hown, hby, hml, hww, hnm, hrt, hlk⟩, locs, X, N, Z0, P⟩ := id A
  have I := P.1 _ (List.mem_of_getElem? hL)
  obtain ⟨T', h', X', e', W, st'⟩ := Jvm.RoadKit.putFN X hx hZ hown (hww _ (List.mem_of_getElem? hw)) Via.refl rfl (I.2.2 _ (List.mem_of_getElem? hf)) I.2.1 (hp.imp (fun q => hww _ (List.mem_of_getElem? q)) (fun q => ⟨hww _ (List.mem_of_getElem? q.1), q.2.1, by rw [hnm]; exact q.2.2⟩)) (hww _ (List.mem_of_getElem? hi)) hty hn hfit (g := mkF m pc Ls (v :: .ref a :: st)) rfl rfl (hb hby hd)
  subst hq hL' e'
  exact Go.st st' (k T' ⟨A.1, _, X', Fr.snoc X' N I.1, by rw [W.size]; exact Z0, P.set W hL (I.2.put W hl hf)⟩)
theorem Here.newO (A : Here p l e R s m args below meth c Z a0 tbl own nm bc mxl rt n0 T L cells slots) {pc q w1 w2 w3 index n : Nat} {Ls : Array Slot} {st : List Value} {C : String} {fs : List ((String × String × String) × Value)} (hd : decode bc pc = .ok (.new index, 3)) (hq : pc + 3 = q) (h1 : tbl[w1]? = some (Jvm.Cond.classLink own index C)) (h2 : tbl[w2]? = some (Jvm.Cond.instantiable C n)) (h3 : tbl[w3]? = some (Jvm.Cond.initialized C)) (hl : Lays Z a0 C (fs.map Prod.fst))
    (hdef : (fs.all fun q => match parseFieldDescriptor q.1.2.2 with | some t => decide (defaultValue t = q.2) | none => false) = true) (hc : cells + 1 ≤ R.cells) (hs : slots + n ≤ R.slots)
    (k : ∀ T' a, Here p l e R s m args below meth c Z a0 tbl own nm bc mxl rt n0 T' ((a, .inl (C, fs)) :: L) (cells + 1) (slots + n) → Go p e below F (T'.setTop (mkF m q Ls (.ref a :: st)))) : Go p e below F (T.setTop (mkF m pc Ls st)) := by
  obtain ⟨⟨hx, hZ, hown, hby, hml, hww, hnm, hrt, hlk⟩, locs, X, N, Z0, P⟩ := id A
  obtain ⟨T', h', X', e', E, Ex, D, -, st'⟩ := Jvm.RoadKit.newO X hx hZ hown (hww _ (List.mem_of_getElem? h1)) (hww _ (List.mem_of_getElem? h2)) (hww _ (List.mem_of_getElem? h3)) rfl (g := mkF m pc Ls st) rfl (hb hby hd) hc hs
  subst hq e'
  refine Go.st st' (k T' _ ⟨A.1, locs, X', N, Nat.le_trans Z0 E.1, P.new E Z0 ⟨Ex, fun f hf => ?_⟩⟩)
  obtain ⟨lf, -⟩ := hl.1 _ (List.mem_map.mpr ⟨f, hf, rfl⟩)
  have q := List.all_eq_true.mp hdef f hf
  cases ht : parseFieldDescriptor f.1.2.2 with
  | none => rw [ht] at q; cases q
  | some t =>
    rw [ht] at q
    have q' : defaultValue t = f.2 := of_decide_eq_true q
    rw [← q']; exact D lf ht
theorem Here.newA (A : Here p l e R s m args below meth c Z a0 tbl own nm bc mxl rt n0 T L cells slots) {pc q w cap : Nat} {Ls : Array Slot} {st : List Value} {aty : ArrayType} {n : Int32} {ty : FieldType} {vs : List Value} (hd : decode bc pc = .ok (.newarray aty, 2)) (hq : pc + 2 = q) (hty : newarray.typeOf aty = ty) (hw : tbl[w]? = some (Jvm.Cond.arrayClass ty)) (hn : ¬ n < 0) (hcap : n.toNatClampNeg ≤ cap) (hb8 : cap * 8 ≤ 536870912) (hvs : List.replicate n.toNatClampNeg (defaultValue ty) = vs) (hc : cells + 1 ≤ R.cells) (hs : slots + cap ≤ R.slots)
    (k : ∀ T' a, Here p l e R s m args below meth c Z a0 tbl own nm bc mxl rt n0 T' ((a, .inr (ty, vs)) :: L) (cells + 1) (slots + cap) → Go p e below F (T'.setTop (mkF m q Ls (.ref a :: st)))) : Go p e below F (T.setTop (mkF m pc Ls (.int n :: st))) := by
  obtain ⟨⟨hx, hZ, hown, hby, hml, hww, hnm, hrt, hlk⟩, locs, X, N, Z0, P⟩ := id A
  subst hty
  obtain ⟨T', h', cA, X', e', E, Ar, Ex, st'⟩ := newPE X hx hZ (hww _ (List.mem_of_getElem? hw)) rfl (g := mkF m pc Ls (.int n :: st)) rfl (hb hby hd) rfl hn hcap hb8 hc hs rfl
  subst hq e' hvs
  refine Go.st st' (k T' _ ⟨A.1, locs, X', N, Nat.le_trans Z0 E.1, P.new E Z0 ⟨_, Ar, ?_, ?_, ?_, Ex⟩⟩)
  · simp [Jvm.RoadKit.newA]
  · rw [List.length_replicate]; omega
  · intro v hv
    rw [(List.mem_replicate.mp hv).2]; exact fits_def aty

theorem Here.iaload (A : Here p l e R s m args below meth c Z a0 tbl own nm bc mxl rt n0 T L cells slots) {pc q i : Nat} {Ls : Array Slot} {st : List Value} {a : Addr} {j : Int32} {vs : List Value} {v : Value} (hd : decode bc pc = .ok (.iaload, 1)) (hq : pc + 1 = q) (hL : L[i]? = some (a, .inr (.int, vs))) (hj : ¬ j < 0) (hv : vs[j.toNatClampNeg]? = some v) (k : Go p e below F (T.setTop (mkF m q Ls (v :: st)))) : Go p e below F (T.setTop (mkF m pc Ls (.int j :: .ref a :: st))) := by
  obtain ⟨⟨hx, hZ, hown, hby, hml, hww, hnm, hrt, hlk⟩, locs, X, N, Z0, P⟩ := id A
  obtain ⟨cl, Ar, r1, r2, r3, r4⟩ := (P.1 _ (List.mem_of_getElem? hL)).2
  have hlt : j.toNatClampNeg < vs.length := (List.getElem?_eq_some_iff.mp hv).1
  subst hq
  exact Go.st (fun t h => X.iaload hx (j := j) (v := v) Ar.1 (State.isArrayOf_alike hZ.alike Ar.2.1) Ar.2.2 (fun q => q.elim hj (fun q => by rw [r1] at q; simp at q; omega)) (by rw [r1]; simpa using hv) (g := mkF m pc Ls (.int j :: .ref a :: st)) rfl rfl (hb hby hd) t h) k
theorem Here.laload (A : Here p l e R s m args below meth c Z a0 tbl own nm bc mxl rt n0 T L cells slots) {pc q i : Nat} {Ls : Array Slot} {st : List Value} {a : Addr} {j : Int32} {vs : List Value} {v : Value} (hd : decode bc pc = .ok (.laload, 1)) (hq : pc + 1 = q) (hL : L[i]? = some (a, .inr (.long, vs))) (hj : ¬ j < 0) (hv : vs[j.toNatClampNeg]? = some v) (k : Go p e below F (T.setTop (mkF m q Ls (v :: st)))) : Go p e below F (T.setTop (mkF m pc Ls (.int j :: .ref a :: st))) := by
  obtain ⟨⟨hx, hZ, hown, hby, hml, hww, hnm, hrt, hlk⟩, locs, X, N, Z0, P⟩ := id A
  obtain ⟨cl, Ar, r1, r2, r3, r4⟩ := (P.1 _ (List.mem_of_getElem? hL)).2
  have hlt : j.toNatClampNeg < vs.length := (List.getElem?_eq_some_iff.mp hv).1
  subst hq
  exact Go.st (fun t h => X.laload hx (j := j) (v := v) Ar.1 (State.isArrayOf_alike hZ.alike Ar.2.1) Ar.2.2 (fun q => q.elim hj (fun q => by rw [r1] at q; simp at q; omega)) (by rw [r1]; simpa using hv) (g := mkF m pc Ls (.int j :: .ref a :: st)) rfl rfl (hb hby hd) t h) k
theorem Here.baloadB (A : Here p l e R s m args below meth c Z a0 tbl own nm bc mxl rt n0 T L cells slots) {pc q i : Nat} {Ls : Array Slot} {st : List Value} {a : Addr} {j : Int32} {vs : List Value} {v : Value} (hd : decode bc pc = .ok (.baload, 1)) (hq : pc + 1 = q) (hL : L[i]? = some (a, .inr (.byte, vs))) (hj : ¬ j < 0) (hv : vs[j.toNatClampNeg]? = some v) (k : Go p e below F (T.setTop (mkF m q Ls (v :: st)))) : Go p e below F (T.setTop (mkF m pc Ls (.int j :: .ref a :: st))) := by
  obtain ⟨⟨hx, hZ, hown, hby, hml, hww, hnm, hrt, hlk⟩, locs, X, N, Z0, P⟩ := id A
  obtain ⟨cl, Ar, r1, r2, r3, r4⟩ := (P.1 _ (List.mem_of_getElem? hL)).2
  have hlt : j.toNatClampNeg < vs.length := (List.getElem?_eq_some_iff.mp hv).1
  subst hq
  exact Go.st (fun t h => X.baloadBytes hx (j := j) (v := v) Ar.1 (State.isArrayOf_alike hZ.alike Ar.2.1) Ar.2.2 (fun q => q.elim hj (fun q => by rw [r1] at q; simp at q; omega)) (by rw [r1]; simpa using hv) (g := mkF m pc Ls (.int j :: .ref a :: st)) rfl rfl (hb hby hd) t h) k
theorem Here.baloadZ (A : Here p l e R s m args below meth c Z a0 tbl own nm bc mxl rt n0 T L cells slots) {pc q i : Nat} {Ls : Array Slot} {st : List Value} {a : Addr} {j : Int32} {vs : List Value} {v : Value} (hd : decode bc pc = .ok (.baload, 1)) (hq : pc + 1 = q) (hL : L[i]? = some (a, .inr (.boolean, vs))) (hj : ¬ j < 0) (hv : vs[j.toNatClampNeg]? = some v) (k : Go p e below F (T.setTop (mkF m q Ls (v :: st)))) : Go p e below F (T.setTop (mkF m pc Ls (.int j :: .ref a :: st))) := by
  obtain ⟨⟨hx, hZ, hown, hby, hml, hww, hnm, hrt, hlk⟩, locs, X, N, Z0, P⟩ := id A
  obtain ⟨cl, Ar, r1, r2, r3, r4⟩ := (P.1 _ (List.mem_of_getElem? hL)).2
  have hlt : j.toNatClampNeg < vs.length := (List.getElem?_eq_some_iff.mp hv).1
  subst hq
  exact Go.st (fun t h => X.baloadBooleans hx (j := j) (v := v) Ar.1 (State.isArrayOf_alike hZ.alike Ar.2.1) Ar.2.2 (fun q => q.elim hj (fun q => by rw [r1] at q; simp at q; omega)) (by rw [r1]; simpa using hv) (g := mkF m pc Ls (.int j :: .ref a :: st)) rfl rfl (hb hby hd) t h) k
theorem Here.iastore (A : Here p l e R s m args below meth c Z a0 tbl own nm bc mxl rt n0 T L cells slots) {pc q i : Nat} {Ls : Array Slot} {st : List Value} {a : Addr} {j : Int32} {x x' : Int32} {vs : List Value} {L' : Obs} (hd : decode bc pc = .ok (.iastore, 1)) (hq : pc + 1 = q) (hL : L[i]? = some (a, .inr (.int, vs))) (hj : ¬ j < 0) (hlt : j.toNatClampNeg < vs.length) (hx' : x = x') (hL' : L.set i (a, .inr (.int, vs.set j.toNatClampNeg (.int x'))) = L') (k : ∀ T', Here p l e R s m args below meth c Z a0 tbl own nm bc mxl rt n0 T' L' cells slots → Go p e below F (T'.setTop (mkF m q Ls st))) : Go p e below F (T.setTop (mkF m pc Ls (.int x :: .int j :: .ref a :: st))) := by
  obtain ⟨⟨hx, hZ, hown, hby, hml, hww, hnm, hrt, hlk⟩, locs, X, N, Z0, P⟩ := id A
  have I := P.1 _ (List.mem_of_getElem? hL)
  obtain ⟨cl, Ar, r1, r2, r3, r4⟩ := id I.2
  obtain ⟨T', h', X', e', W, st'⟩ := stI X hx hZ rfl Ar (j := j) (x := x) (fun q => q.elim hj (fun q => by rw [r1] at q; simp at q; omega)) (g := mkF m pc Ls (.int x :: .int j :: .ref a :: st)) rfl rfl (hb hby hd)
  subst hq hL' e' hx'
  exact Go.st st' (k T' ⟨A.1, _, X', Fr.snoc X' N I.1, by rw [W.size]; exact Z0, P.set W hL (Ara.put (show Ara Z T.heap a .int vs from I.2) W rfl)⟩)
theorem Here.lastore (A : Here p l e R s m args below meth c Z a0 tbl own nm bc mxl rt n0 T L cells slots) {pc q i : Nat} {Ls : Array Slot} {st : List Value} {a : Addr} {j : Int32} {x x' : Int64} {vs : List Value} {L' : Obs} (hd : decode bc pc = .ok (.lastore, 1)) (hq : pc + 1 = q) (hL : L[i]? = some (a, .inr (.long, vs))) (hj : ¬ j < 0) (hlt : j.toNatClampNeg < vs.length) (hx' : x = x') (hL' : L.set i (a, .inr (.long, vs.set j.toNatClampNeg (.long x'))) = L') (k : ∀ T', Here p l e R s m args below meth c Z a0 tbl own nm bc mxl rt n0 T' L' cells slots → Go p e below F (T'.setTop (mkF m q Ls st))) : Go p e below F (T.setTop (mkF m pc Ls (.long x :: .int j :: .ref a :: st))) := by
  obtain ⟨⟨hx, hZ, hown, hby, hml, hww, hnm, hrt, hlk⟩, locs, X, N, Z0, P⟩ := id A
  have I := P.1 _ (List.mem_of_getElem? hL)
  obtain ⟨cl, Ar, r1, r2, r3, r4⟩ := id I.2
  obtain ⟨T', h', X', e', W, st'⟩ := stJ X hx hZ rfl Ar (j := j) (x := x) (fun q => q.elim hj (fun q => by rw [r1] at q; simp at q; omega)) (g := mkF m pc Ls (.long x :: .int j :: .ref a :: st)) rfl rfl (hb hby hd)
  subst hq hL' e' hx'
  exact Go.st st' (k T' ⟨A.1, _, X', Fr.snoc X' N I.1, by rw [W.size]; exact Z0, P.set W hL (Ara.put (show Ara Z T.heap a .long vs from I.2) W rfl)⟩)
theorem Here.bastoreB (A : Here p l e R s m args below meth c Z a0 tbl own nm bc mxl rt n0 T L cells slots) {pc q i : Nat} {Ls : Array Slot} {st : List Value} {a : Addr} {j : Int32} {x x' : Int32} {vs : List Value} {L' : Obs} (hd : decode bc pc = .ok (.bastore, 1)) (hq : pc + 1 = q) (hL : L[i]? = some (a, .inr (.byte, vs))) (hj : ¬ j < 0) (hlt : j.toNatClampNeg < vs.length) (hx' : (nar .byte x) = x') (hL' : L.set i (a, .inr (.byte, vs.set j.toNatClampNeg (.int x'))) = L') (k : ∀ T', Here p l e R s m args below meth c Z a0 tbl own nm bc mxl rt n0 T' L' cells slots → Go p e below F (T'.setTop (mkF m q Ls st))) : Go p e below F (T.setTop (mkF m pc Ls (.int x :: .int j :: .ref a :: st))) := by
  obtain ⟨⟨hx, hZ, hown, hby, hml, hww, hnm, hrt, hlk⟩, locs, X, N, Z0, P⟩ := id A
  have I := P.1 _ (List.mem_of_getElem? hL)
  obtain ⟨cl, Ar, r1, r2, r3, r4⟩ := id I.2
  obtain ⟨T', h', X', e', W, st'⟩ := stB X hx hZ rfl Ar (j := j) (x := x) (fun q => q.elim hj (fun q => by rw [r1] at q; simp at q; omega)) (g := mkF m pc Ls (.int x :: .int j :: .ref a :: st)) rfl rfl (hb hby hd)
  subst hq hL' e' hx'
  exact Go.st st' (k T' ⟨A.1, _, X', Fr.snoc X' N I.1, by rw [W.size]; exact Z0, P.set W hL (Ara.put (show Ara Z T.heap a .byte vs from I.2) W (fits_nar_byte _))⟩)
theorem Here.bastoreZ (A : Here p l e R s m args below meth c Z a0 tbl own nm bc mxl rt n0 T L cells slots) {pc q i : Nat} {Ls : Array Slot} {st : List Value} {a : Addr} {j : Int32} {x x' : Int32} {vs : List Value} {L' : Obs} (hd : decode bc pc = .ok (.bastore, 1)) (hq : pc + 1 = q) (hL : L[i]? = some (a, .inr (.boolean, vs))) (hj : ¬ j < 0) (hlt : j.toNatClampNeg < vs.length) (hx' : (nar .boolean x) = x') (hL' : L.set i (a, .inr (.boolean, vs.set j.toNatClampNeg (.int x'))) = L') (k : ∀ T', Here p l e R s m args below meth c Z a0 tbl own nm bc mxl rt n0 T' L' cells slots → Go p e below F (T'.setTop (mkF m q Ls st))) : Go p e below F (T.setTop (mkF m pc Ls (.int x :: .int j :: .ref a :: st))) := by
  obtain ⟨⟨hx, hZ, hown, hby, hml, hww, hnm, hrt, hlk⟩, locs, X, N, Z0, P⟩ := id A
  have I := P.1 _ (List.mem_of_getElem? hL)
  obtain ⟨cl, Ar, r1, r2, r3, r4⟩ := id I.2
  obtain ⟨T', h', X', e', W, st'⟩ := stZ X hx hZ rfl Ar (j := j) (x := x) (fun q => q.elim hj (fun q => by rw [r1] at q; simp at q; omega)) (g := mkF m pc Ls (.int x :: .int j :: .ref a :: st)) rfl rfl (hb hby hd)
  subst hq hL' e' hx'
  exact Go.st st' (k T' ⟨A.1, _, X', Fr.snoc X' N I.1, by rw [W.size]; exact Z0, P.set W hL (Ara.put (show Ara Z T.heap a .boolean vs from I.2) W (fits_nar_bool _))⟩)
theorem Here.arraylength (A : Here p l e R s m args below meth c Z a0 tbl own nm bc mxl rt n0 T L cells slots) {pc q i : Nat} {Ls : Array Slot} {st : List Value} {a : Addr} {ty : FieldType} {vs : List Value} {v : Int32} (hd : decode bc pc = .ok (.arraylength, 1)) (hq : pc + 1 = q) (hL : L[i]? = some (a, .inr (ty, vs))) (hv : vs.length.toInt32 = v) (k : Go p e below F (T.setTop (mkF m q Ls (.int v :: st)))) : Go p e below F (T.setTop (mkF m pc Ls (.ref a :: st))) := by
  obtain ⟨⟨hx, hZ, hown, hby, hml, hww, hnm, hrt, hlk⟩, locs, X, N, Z0, P⟩ := id A
  obtain ⟨cl, Ar, r1, r2, r3, r4⟩ := (P.1 _ (List.mem_of_getElem? hL)).2
  have hn : cl.slots.size = vs.length := by rw [r1]; simp
  subst hq hv
  exact Go.st (fun t h => X.arraylength hx Ar.1 (State.isArrayOf_alike hZ.alike Ar.2.1) (g := mkF m pc Ls (.ref a :: st)) rfl rfl (hb hby hd) t (by rw [hn]; exact h)) k
theorem Here.castArr (A : Here p l e R s m args below meth c Z a0 tbl own nm bc mxl rt n0 T L cells slots) {pc q i w index : Nat} {Ls : Array Slot} {st : List Value} {a : Addr} {ty : FieldType} {vs : List Value} {K : String} (hd : decode bc pc = .ok (.checkcast index, 3)) (hq : pc + 3 = q) (hw : tbl[w]? = some (Jvm.Cond.classLink own index K)) (hL : L[i]? = some (a, .inr (ty, vs))) (hK : "[" ++ ty.toString = K) (k : ∀ T', Here p l e R s m args below meth c Z a0 tbl own nm bc mxl rt n0 T' L cells slots → Go p e below F (T'.setTop (mkF m q Ls (.ref a :: st)))) : Go p e below F (T.setTop (mkF m pc Ls (.ref a :: st))) := by
  obtain ⟨⟨hx, hZ, hown, hby, hml, hww, hnm, hrt, hlk⟩, locs, X, N, Z0, P⟩ := id A
  obtain ⟨cl, Ar, r1, r2, r3, r4⟩ := (P.1 _ (List.mem_of_getElem? hL)).2
  subst hK hq
  obtain ⟨T', X', e', st'⟩ := castY X hx hZ hown (hww _ (List.mem_of_getElem? hw)) rfl (Ins.self r4) (g := mkF m pc Ls (.ref a :: st)) rfl rfl (hb hby hd)
  exact Go.st st' (k T' ⟨A.1, locs, X', N, by rw [e']; exact Z0, by rw [e']; exact P⟩)
theorem Here.clone (A : Here p l e R s m args below meth c Z a0 tbl own nm bc mxl rt n0 T L cells slots) {pc q i index W w1 w2 w3 w4 w5 w6 cap : Nat} {Ls : Array Slot} {st : List Value} {a : Addr} {ty : FieldType} {vs : List Value} {ad : String} (hd : decode bc pc = .ok (.invokevirtual index, 3)) (hq : pc + 3 = q) (hL : L[i]? = some (a, .inr (ty, vs))) (hK : "[" ++ ty.toString = ad)
    (h1 : tbl[w1]? = some (Jvm.Cond.methodLink own index ⟨ad, "clone", "()Ljava/lang/Object;"⟩)) (h2 : tbl[w2]? = some (Jvm.Cond.sameMethod ad "java/lang/Object" "clone" "()Ljava/lang/Object;")) (h3 : tbl[w3]? = some (Jvm.Cond.native ⟨"java/lang/Object", "clone", "()Ljava/lang/Object;"⟩)) (h4 : tbl[w4]? = some (Jvm.Cond.instanceMethod ⟨"java/lang/Object", "clone", "()Ljava/lang/Object;"⟩)) (h5 : tbl[w5]? = some (Jvm.Cond.selects ad ⟨ad, "clone", "()Ljava/lang/Object;"⟩ ⟨"java/lang/Object", "clone", "()Ljava/lang/Object;"⟩)) (h6 : tbl[w6]? = some (Jvm.Cond.castable ad "java/lang/Cloneable"))
    (hsz : Ls.size = mxl) (hW : (st.map fun v => v.category).sum = W) (hf : 1 ≤ R.frames) (hl : W + 14 ≤ R.locals) (hcap : vs.length ≤ cap) (hc : cells + 1 ≤ R.cells) (hs : slots + cap ≤ R.slots)
    (k : ∀ T' b, Here p l e R s m args below meth c Z a0 tbl own nm bc mxl rt n0 T' ((b, .inr (ty, vs)) :: L) (cells + 1) (slots + cap) → Go p e below F (T'.setTop (mkF m q Ls (.ref b :: st)))) : Go p e below F (T.setTop (mkF m pc Ls (.ref a :: st))) := by
  obtain ⟨⟨hx, hZ, hown, hby, hml, hww, hnm, hrt, hlk⟩, locs, X, N, Z0, P⟩ := id A
  obtain ⟨cl, Ar, r1, r2, r3, r4⟩ := (P.1 _ (List.mem_of_getElem? hL)).2
  subst hK hq
  have hn : cl.slots.size = vs.length := by rw [r1]; simp
  have FC : FitC Z cl := fitC_of Ar fun i hi v hv => r3 v (by rw [r1] at hv; exact List.mem_of_getElem? (by simpa using hv))
  obtain ⟨T', h', X', e', E, Ar', Ex, st'⟩ := cloneA X hx hZ hown (hww _ (List.mem_of_getElem? h1)) (hww _ (List.mem_of_getElem? h2)) (hww _ (List.mem_of_getElem? h3)) (hww _ (List.mem_of_getElem? h4)) (hww _ (List.mem_of_getElem? h5)) (hww _ (List.mem_of_getElem? h6)) rfl Ar r4 FC (g := mkF m pc Ls (.ref a :: st)) rfl (by rw [hml]; exact hsz) rfl (hb hby hd) hf (W := W) (cap := cap) (by show 2 * 0 + _ ≤ _; omega) hl (by omega) hc hs
  subst e'
  exact Go.st st' (k T' _ ⟨A.1, locs, X', N, Nat.le_trans Z0 E.1, P.new E Z0 ⟨_, Ar', r1, r2, r3, Ex⟩⟩)
theorem Here.initObj (A : Here p l e R s m args below meth c Z a0 tbl own nm bc mxl rt n0 T L cells slots) {pc q index w1 w2 w3 W : Nat} {Ls : Array Slot} {st : List Value} {a : Addr} (hd : decode bc pc = .ok (.invokespecial index, 3)) (hq : pc + 3 = q) (h1 : tbl[w1]? = some (Jvm.Cond.methodLink own index Lib.objectInit)) (h2 : tbl[w2]? = some (Jvm.Cond.instanceMethod Lib.objectInit)) (h3 : tbl[w3]? = some (Jvm.Cond.code Lib.objectInit ⟨#[0xb1]⟩ 1 none)) (hsz : Ls.size = mxl) (hW : (st.map fun v => v.category).sum = W) (hf : 1 ≤ R.frames) (hl : W + 12 ≤ R.locals) (k : ∀ T', Here p l e R s m args below meth c Z a0 tbl own nm bc mxl rt n0 T' L cells slots → Go p e below F (T'.setTop (mkF m q Ls st))) : Go p e below F (T.setTop (mkF m pc Ls (.ref a :: st))) := by
  obtain ⟨⟨hx, hZ, hown, hby, hml, hww, hnm, hrt, hlk⟩, locs, X, N, Z0, P⟩ := id A
  subst hq
  obtain ⟨T', X', e', st'⟩ := initO X hx hZ hown (hww _ (List.mem_of_getElem? h1)) (hww _ (List.mem_of_getElem? h2)) (hww _ (List.mem_of_getElem? h3)) rfl (g := mkF m pc Ls (.ref a :: st)) rfl (by rw [hml]; exact hsz) rfl (hb hby hd) hf (W := W) (by show 2 * 0 + _ ≤ _; omega) hl
  exact Go.st st' (k T' ⟨A.1, locs, X', N, by rw [e']; exact Z0, by rw [e']; exact P⟩)
theorem Here.front (A : Here p l e R s m args below meth c Z a0 tbl own nm bc mxl rt n0 T L cells slots) {i : Nat} {x : Addr × Ob} {L' : Obs} (hi : L[i]? = some x) (hL' : x :: L.eraseIdx i = L') : Here p l e R s m args below meth c Z a0 tbl own nm bc mxl rt n0 T L' cells slots := by
  obtain ⟨⟨hx, hZ, hown, hby, hml, hww, hnm, hrt, hlk⟩, locs, X, N, Z0, P⟩ := id A
  subst hL'
  exact ⟨A.1, locs, X, N, Z0, P.front hi⟩
theorem Here.ne (A : Here p l e R s m args below meth c Z a0 tbl own nm bc mxl rt n0 T L cells slots) {i j : Nat} {a b : Addr} {x y : Ob} (hi : L[i]? = some (a, x)) (hj : L[j]? = some (b, y)) (hn : i ≠ j) : a ≠ b := by
  obtain ⟨⟨hx, hZ, hown, hby, hml, hww, hnm, hrt, hlk⟩, locs, X, N, Z0, P⟩ := id A
  exact P.ne hi hj hn

theorem Here.ialoadM (A : Here p l e R s m args below meth c Z a0 tbl own nm bc mxl rt n0 T L cells slots) {pc q i : Nat} {Ls : Array Slot} {st : List Value} {a : Addr} {j : Int32} {xs : List Int32} {v : Int32} (hd : decode bc pc = .ok (.iaload, 1)) (hq : pc + 1 = q) (hL : L[i]? = some (a, .inr (.int, xs.map Value.int))) (hj : ¬ j < 0) (hv : xs[j.toNatClampNeg]? = some v) (k : Go p e below F (T.setTop (mkF m q Ls (Value.int v :: st)))) : Go p e below F (T.setTop (mkF m pc Ls (.int j :: .ref a :: st))) :=
  A.iaload hd hq hL hj (by rw [List.getElem?_map, hv]; rfl) k
theorem Here.laloadM (A : Here p l e R s m args below meth c Z a0 tbl own nm bc mxl rt n0 T L cells slots) {pc q i : Nat} {Ls : Array Slot} {st : List Value} {a : Addr} {j : Int32} {xs : List Int64} {v : Int64} (hd : decode bc pc = .ok (.laload, 1)) (hq : pc + 1 = q) (hL : L[i]? = some (a, .inr (.long, xs.map Value.long))) (hj : ¬ j < 0) (hv : xs[j.toNatClampNeg]? = some v) (k : Go p e below F (T.setTop (mkF m q Ls (Value.long v :: st)))) : Go p e below F (T.setTop (mkF m pc Ls (.int j :: .ref a :: st))) :=
  A.laload hd hq hL hj (by rw [List.getElem?_map, hv]; rfl) k
theorem Here.baloadBM (A : Here p l e R s m args below meth c Z a0 tbl own nm bc mxl rt n0 T L cells slots) {pc q i : Nat} {Ls : Array Slot} {st : List Value} {a : Addr} {j : Int32} {xs : List Int32} {v : Int32} (hd : decode bc pc = .ok (.baload, 1)) (hq : pc + 1 = q) (hL : L[i]? = some (a, .inr (.byte, xs.map Value.int))) (hj : ¬ j < 0) (hv : xs[j.toNatClampNeg]? = some v) (k : Go p e below F (T.setTop (mkF m q Ls (Value.int v :: st)))) : Go p e below F (T.setTop (mkF m pc Ls (.int j :: .ref a :: st))) :=
  A.baloadB hd hq hL hj (by rw [List.getElem?_map, hv]; rfl) k
theorem Here.baloadZM (A : Here p l e R s m args below meth c Z a0 tbl own nm bc mxl rt n0 T L cells slots) {pc q i : Nat} {Ls : Array Slot} {st : List Value} {a : Addr} {j : Int32} {xs : List Int32} {v : Int32} (hd : decode bc pc = .ok (.baload, 1)) (hq : pc + 1 = q) (hL : L[i]? = some (a, .inr (.boolean, xs.map Value.int))) (hj : ¬ j < 0) (hv : xs[j.toNatClampNeg]? = some v) (k : Go p e below F (T.setTop (mkF m q Ls (Value.int v :: st)))) : Go p e below F (T.setTop (mkF m pc Ls (.int j :: .ref a :: st))) :=
  A.baloadZ hd hq hL hj (by rw [List.getElem?_map, hv]; rfl) k
theorem Here.iastoreM (A : Here p l e R s m args below meth c Z a0 tbl own nm bc mxl rt n0 T L cells slots) {pc q i : Nat} {Ls : Array Slot} {st : List Value} {a : Addr} {j : Int32} {x x' : Int32} {xs : List Int32} {L' : Obs} (hd : decode bc pc = .ok (.iastore, 1)) (hq : pc + 1 = q) (hL : L[i]? = some (a, .inr (.int, xs.map Value.int))) (hj : ¬ j < 0) (hlt : j.toNatClampNeg < xs.length) (hx' : x = x') (hL' : L.set i (a, .inr (.int, (xs.set j.toNatClampNeg x').map Value.int)) = L') (k : ∀ T', Here p l e R s m args below meth c Z a0 tbl own nm bc mxl rt n0 T' L' cells slots → Go p e below F (T'.setTop (mkF m q Ls st))) : Go p e below F (T.setTop (mkF m pc Ls (Value.int x :: .int j :: .ref a :: st))) :=
  A.iastore hd hq hL hj (by rw [List.length_map]; exact hlt) hx' (by rw [← hL', List.map_set]) k
theorem Here.lastoreM (A : Here p l e R s m args below meth c Z a0 tbl own nm bc mxl rt n0 T L cells slots) {pc q i : Nat} {Ls : Array Slot} {st : List Value} {a : Addr} {j : Int32} {x x' : Int64} {xs : List Int64} {L' : Obs} (hd : decode bc pc = .ok (.lastore, 1)) (hq : pc + 1 = q) (hL : L[i]? = some (a, .inr (.long, xs.map Value.long))) (hj : ¬ j < 0) (hlt : j.toNatClampNeg < xs.length) (hx' : x = x') (hL' : L.set i (a, .inr (.long, (xs.set j.toNatClampNeg x').map Value.long)) = L') (k : ∀ T', Here p l e R s m args below meth c Z a0 tbl own nm bc mxl rt n0 T' L' cells slots → Go p e below F (T'.setTop (mkF m q Ls st))) : Go p e below F (T.setTop (mkF m pc Ls (Value.long x :: .int j :: .ref a :: st))) :=
  A.lastore hd hq hL hj (by rw [List.length_map]; exact hlt) hx' (by rw [← hL', List.map_set]) k
theorem Here.bastoreBM (A : Here p l e R s m args below meth c Z a0 tbl own nm bc mxl rt n0 T L cells slots) {pc q i : Nat} {Ls : Array Slot} {st : List Value} {a : Addr} {j : Int32} {x x' : Int32} {xs : List Int32} {L' : Obs} (hd : decode bc pc = .ok (.bastore, 1)) (hq : pc + 1 = q) (hL : L[i]? = some (a, .inr (.byte, xs.map Value.int))) (hj : ¬ j < 0) (hlt : j.toNatClampNeg < xs.length) (hx' : (nar .byte x) = x') (hL' : L.set i (a, .inr (.byte, (xs.set j.toNatClampNeg x').map Value.int)) = L') (k : ∀ T', Here p l e R s m args below meth c Z a0 tbl own nm bc mxl rt n0 T' L' cells slots → Go p e below F (T'.setTop (mkF m q Ls st))) : Go p e below F (T.setTop (mkF m pc Ls (Value.int x :: .int j :: .ref a :: st))) :=
  A.bastoreB hd hq hL hj (by rw [List.length_map]; exact hlt) hx' (by rw [← hL', List.map_set]) k
theorem Here.bastoreZM (A : Here p l e R s m args below meth c Z a0 tbl own nm bc mxl rt n0 T L cells slots) {pc q i : Nat} {Ls : Array Slot} {st : List Value} {a : Addr} {j : Int32} {x x' : Int32} {xs : List Int32} {L' : Obs} (hd : decode bc pc = .ok (.bastore, 1)) (hq : pc + 1 = q) (hL : L[i]? = some (a, .inr (.boolean, xs.map Value.int))) (hj : ¬ j < 0) (hlt : j.toNatClampNeg < xs.length) (hx' : (nar .boolean x) = x') (hL' : L.set i (a, .inr (.boolean, (xs.set j.toNatClampNeg x').map Value.int)) = L') (k : ∀ T', Here p l e R s m args below meth c Z a0 tbl own nm bc mxl rt n0 T' L' cells slots → Go p e below F (T'.setTop (mkF m q Ls st))) : Go p e below F (T.setTop (mkF m pc Ls (Value.int x :: .int j :: .ref a :: st))) :=
  A.bastoreZ hd hq hL hj (by rw [List.length_map]; exact hlt) hx' (by rw [← hL', List.map_set]) k
theorem Here.arraylengthM (A : Here p l e R s m args below meth c Z a0 tbl own nm bc mxl rt n0 T L cells slots) {pc q i : Nat} {Ls : Array Slot} {st : List Value} {a : Addr} {ty : FieldType} {α : Type} {f : α → Value} {xs : List α} {v : Int32} (hd : decode bc pc = .ok (.arraylength, 1)) (hq : pc + 1 = q) (hL : L[i]? = some (a, .inr (ty, xs.map f))) (hv : xs.length.toInt32 = v) (k : Go p e below F (T.setTop (mkF m q Ls (.int v :: st)))) : Go p e below F (T.setTop (mkF m pc Ls (.ref a :: st))) :=
  A.arraylength hd hq hL (by rw [List.length_map]; exact hv) k
theorem own_gd {α : Type} {xs : List α} {n : Nat} {d : α} (h : n < xs.length) : xs[n]? = some (xs.getD n d) := by simp [List.getD, h]
theorem Here.callS (A : Here p l e R s m args below meth c Z a0 tbl own nm bc mxl rt n0 T L cells slots) {pc q index W w1 w2 w3 w4 : Nat} {Ls : Array Slot} {st stk : List Value} {y : MethodName} {bytes : ByteArray} {ml : Nat} {rt' : Option FieldType} {rm : Room} {as : List Value} {Q : Option Value → Obs → Prop} (hd : decode bc pc = .ok (.invokestatic index, 3)) (hq : pc + 3 = q) (h1 : tbl[w1]? = some (Jvm.Cond.methodLink own index y)) (h2 : tbl[w2]? = some (Jvm.Cond.static y)) (h3 : tbl[w3]? = some (Jvm.Cond.initialized y.cls)) (h4 : tbl[w4]? = some (Jvm.Cond.code y bytes ml rt')) (hT : Triple l Z n0 y bytes ml rt' rm rm.cells rm.slots as L Q) (hy : y.cls ≠ "java/lang/invoke/MethodHandle" ∧ y.cls ≠ "java/lang/invoke/VarHandle") (hlen : ∃ ps r, parseMethodDescriptor y.desc = some ⟨ps, r⟩ ∧ as.length = ps.length) (hst : stk = as.reverse ++ st) (hsz : Ls.size = mxl) (hW : (st.map fun v => v.category).sum = W) (hf : rm.frames + 1 ≤ R.frames) (hl : W + (ml + 11) + rm.locals ≤ R.locals) (hc : cells + rm.cells ≤ R.cells) (hs : slots + rm.slots ≤ R.slots)
    (k : ∀ v T' L', Q v L' → Here p l e R s m args below meth c Z a0 tbl own nm bc mxl rt n0 T' L' (cells + rm.cells) (slots + rm.slots) → Go p e below F (T'.setTop (mkF m q Ls (v.toList ++ st)))) : Go p e below F (T.setTop (mkF m pc Ls stk)) := by
  obtain ⟨⟨hx, hZ, hown, hby, hml, hww, hnm, hrt, hlk⟩, locs, X, N, Z0, P⟩ := id A
  obtain ⟨ps, r, hps, hle⟩ := hlen
  subst hst hq
  obtain ⟨v, _, ⟨T1, L1, k1, n1⟩, -, X1, ⟨Lc, hQ, l1, y1, z1⟩, st1⟩ := Jvm.LawKit.callS X hx (y := y) hown (mvT hZ (hww _ (List.mem_of_getElem? h1))) (mvT hZ (hww _ (List.mem_of_getElem? h2))) (mvT hZ (hww _ (List.mem_of_getElem? h3))) (mvT hZ (hww _ (List.mem_of_getElem? h4))) hy (backOf (W := W) (Q := fun v h Lc => Fr n0 Lc ∧ n0 ≤ h.size ∧ ∃ L', Q v L' ∧ Pic Z n0 h L') (hT T.heap [] Z0 P) hZ (hww _ (List.mem_of_getElem? h4)) (hww _ (List.mem_of_getElem? h3)) hf hl) (g := mkF m pc Ls (as.reverse ++ st)) rfl (by rw [hml]; exact hsz) (argsL := as) (rest := st) (lenOf hps hle) rfl (by show 2 * 0 + _ ≤ _; omega) (hb hby hd) (fun _ _ => ⟨rfl, rfl, hc, hs⟩)
  dsimp only [Pt.U, Pt.locs, Pt.cells, Pt.slots] at X1 l1 y1 z1 st1 hQ
  subst l1 y1 z1
  obtain ⟨Nq, Zq, L', q, Pq⟩ := hQ
  exact Go.st st1 (k v T1 L' q ⟨A.1, _, X1, N.app Nq, Zq, Pq⟩)
theorem Here.callI (A : Here p l e R s m args below meth c Z a0 tbl own nm bc mxl rt n0 T L cells slots) {pc q index W w1 w2 w3 w4 : Nat} {Ls : Array Slot} {st stk : List Value} {a : Addr} {y : MethodName} {bytes : ByteArray} {ml : Nat} {rm : Room} {as : List Value} {Q : Option Value → Obs → Prop} (hd : decode bc pc = .ok (.invokespecial index, 3)) (hq : pc + 3 = q) (hy1 : y.name = "<init>") (h1 : tbl[w1]? = some (Jvm.Cond.methodLink own index y)) (h2 : tbl[w2]? = some (Jvm.Cond.instanceMethod y)) (h3 : tbl[w3]? = some (Jvm.Cond.initialized y.cls)) (h4 : tbl[w4]? = some (Jvm.Cond.code y bytes ml none)) (hT : Triple l Z n0 y bytes ml none rm rm.cells rm.slots (.ref a :: as) L Q) (hy : y.cls ≠ "java/lang/invoke/MethodHandle" ∧ y.cls ≠ "java/lang/invoke/VarHandle") (hlen : ∃ ps r, parseMethodDescriptor y.desc = some ⟨ps, r⟩ ∧ as.length = ps.length) (hst : stk = as.reverse ++ .ref a :: st) (hsz : Ls.size = mxl) (hW : (st.map fun v => v.category).sum = W) (hf : rm.frames + 1 ≤ R.frames) (hl : W + (ml + 11) + rm.locals ≤ R.locals) (hc : cells + rm.cells ≤ R.cells) (hs : slots + rm.slots ≤ R.slots)
    (k : ∀ v T' L', Q v L' → Here p l e R s m args below meth c Z a0 tbl own nm bc mxl rt n0 T' L' (cells + rm.cells) (slots + rm.slots) → Go p e below F (T'.setTop (mkF m q Ls (v.toList ++ st)))) : Go p e below F (T.setTop (mkF m pc Ls stk)) := by
  obtain ⟨⟨hx, hZ, hown, hby, hml, hww, hnm, hrt, hlk⟩, locs, X, N, Z0, P⟩ := id A
  obtain ⟨ps, r, hps, hle⟩ := hlen
  subst hst hq
  obtain ⟨v, _, ⟨T1, L1, k1, n1⟩, -, X1, ⟨Lc, hQ, l1, y1, z1⟩, st1⟩ := X.specialBack hx (y := y) hy1 hown (mvT hZ (hww _ (List.mem_of_getElem? h1))) (mvT hZ (hww _ (List.mem_of_getElem? h2))) (mvT hZ (hww _ (List.mem_of_getElem? h4))) hy (backOf (W := W) (Q := fun v h Lc => Fr n0 Lc ∧ n0 ≤ h.size ∧ ∃ L', Q v L' ∧ Pic Z n0 h L') (hT T.heap [] Z0 P) hZ (hww _ (List.mem_of_getElem? h4)) (hww _ (List.mem_of_getElem? h3)) hf hl) (g := mkF m pc Ls (as.reverse ++ .ref a :: st)) rfl (by rw [hml]; exact hsz) (Steps.refl _) (a := a) (argsL := as) (rest := st) (lenOf hps hle) rfl (by show 2 * 0 + _ ≤ _; omega) (hb hby hd) (fun _ _ => ⟨rfl, rfl, hc, hs⟩)
  dsimp only [Pt.U, Pt.locs, Pt.cells, Pt.slots] at X1 l1 y1 z1 st1 hQ
  subst l1 y1 z1
  obtain ⟨Nq, Zq, L', q, Pq⟩ := hQ
  exact Go.st (fun t h => st1.trans h) (k v T1 L' q ⟨A.1, _, X1, N.app Nq, Zq, Pq⟩)
theorem Here.callV (A : Here p l e R s m args below meth c Z a0 tbl own nm bc mxl rt n0 T L cells slots) {pc q index W i w1 w2 w3 w4 w5 w6 : Nat} {Ls : Array Slot} {st stk : List Value} {a : Addr} {C : String} {fs : List ((String × String × String) × Value)} {y : MethodName} {bytes : ByteArray} {ml : Nat} {rt' : Option FieldType} {rm : Room} {as : List Value} {Q : Option Value → Obs → Prop} (hd : decode bc pc = .ok (.invokevirtual index, 3)) (hq : pc + 3 = q) (hL : L[i]? = some (a, .inl (C, fs))) (h1 : tbl[w1]? = some (Jvm.Cond.methodLink own index y)) (h2 : tbl[w2]? = some (Jvm.Cond.declares y)) (h5 : tbl[w5]? = some (Jvm.Cond.selects C y y)) (h6 : tbl[w6]? = some (Jvm.Cond.instanceMethod y)) (h3 : tbl[w3]? = some (Jvm.Cond.initialized y.cls)) (h4 : tbl[w4]? = some (Jvm.Cond.code y bytes ml rt')) (hT : Triple l Z n0 y bytes ml rt' rm rm.cells rm.slots (.ref a :: as) L Q) (hy : y.cls ≠ "java/lang/invoke/MethodHandle" ∧ y.cls ≠ "java/lang/invoke/VarHandle") (hlen : ∃ ps r, parseMethodDescriptor y.desc = some ⟨ps, r⟩ ∧ as.length = ps.length) (hst : stk = as.reverse ++ .ref a :: st) (hsz : Ls.size = mxl) (hW : (st.map fun v => v.category).sum = W) (hf : rm.frames + 1 ≤ R.frames) (hl : W + (ml + 11) + rm.locals ≤ R.locals) (hc : cells + rm.cells ≤ R.cells) (hs : slots + rm.slots ≤ R.slots)
    (k : ∀ v T' L', Q v L' → Here p l e R s m args below meth c Z a0 tbl own nm bc mxl rt n0 T' L' (cells + rm.cells) (slots + rm.slots) → Go p e below F (T'.setTop (mkF m q Ls (v.toList ++ st)))) : Go p e below F (T.setTop (mkF m pc Ls stk)) := by
  obtain ⟨⟨hx, hZ, hown, hby, hml, hww, hnm, hrt, hlk⟩, locs, X, N, Z0, P⟩ := id A
  obtain ⟨ps, r, hps, hle⟩ := hlen
  subst hst hq
  obtain ⟨cq, kq, qa, qb, qc⟩ := isOf (T := T) hZ rfl (P.1 _ (List.mem_of_getElem? hL)).2.1
  obtain ⟨v, _, ⟨T1, L1, k1, n1⟩, -, X1, ⟨Lc, hQ, l1, y1, z1⟩, st1⟩ := X.virtualBack hx (y := y) (z := y) hown (mvT hZ (hww _ (List.mem_of_getElem? h1))) (mvT hZ (hww _ (List.mem_of_getElem? h2))) (notFace_of_selects (args := #[]) (mvT hZ (hww _ (List.mem_of_getElem? h5)))) (mvT hZ (hww _ (List.mem_of_getElem? h5))) (mvT hZ (hww _ (List.mem_of_getElem? h6))) hy (backOf (W := W) (Q := fun v h Lc => Fr n0 Lc ∧ n0 ≤ h.size ∧ ∃ L', Q v L' ∧ Pic Z n0 h L') (hT T.heap [] Z0 P) hZ (hww _ (List.mem_of_getElem? h4)) (hww _ (List.mem_of_getElem? h3)) hf hl) qa qc (g := mkF m pc Ls (as.reverse ++ .ref a :: st)) rfl (by rw [hml]; exact hsz) (Steps.refl _) (argsL := as) (rest := st) (lenOf hps hle) rfl (by show 2 * 0 + _ ≤ _; omega) (hb hby hd) (fun _ _ => ⟨rfl, rfl, hc, hs⟩)
  dsimp only [Pt.U, Pt.locs, Pt.cells, Pt.slots] at X1 l1 y1 z1 st1 hQ
  subst l1 y1 z1
  obtain ⟨Nq, Zq, L', q, Pq⟩ := hQ
  exact Go.st (fun t h => st1.trans h) (k v T1 L' q ⟨A.1, _, X1, N.app Nq, Zq, Pq⟩)

theorem Here.callP (A : Here p l e R s m args below meth c Z a0 tbl own nm bc mxl rt n0 T L cells slots) {pc q index W i w1 w2 w3 w4 w5 w6 kk : Nat} {Ls : Array Slot} {st stk : List Value} {a : Addr} {C : String} {fs : List ((String × String × String) × Value)} {y : MethodName} {bytes : ByteArray} {ml : Nat} {rt' : Option FieldType} {rm : Room} {as : List Value} {Q : Option Value → Obs → Prop} (hd : decode bc pc = .ok (.invokevirtual index, 3)) (hq : pc + 3 = q) (hL : L[i]? = some (a, .inl (C, fs))) (h1 : tbl[w1]? = some (Jvm.Cond.methodLink own index y)) (h2 : tbl[w2]? = some (Jvm.Cond.privateMethod y)) (h5 : tbl[w5]? = some (Jvm.Cond.instantiable y.cls kk)) (h6 : tbl[w6]? = some (Jvm.Cond.instanceMethod y)) (h3 : tbl[w3]? = some (Jvm.Cond.initialized y.cls)) (h4 : tbl[w4]? = some (Jvm.Cond.code y bytes ml rt')) (hT : Triple l Z n0 y bytes ml rt' rm rm.cells rm.slots (.ref a :: as) L Q) (hy : y.cls ≠ "java/lang/invoke/MethodHandle" ∧ y.cls ≠ "java/lang/invoke/VarHandle") (hlen : ∃ ps r, parseMethodDescriptor y.desc = some ⟨ps, r⟩ ∧ as.length = ps.length) (hst : stk = as.reverse ++ .ref a :: st) (hsz : Ls.size = mxl) (hW : (st.map fun v => v.category).sum = W) (hf : rm.frames + 1 ≤ R.frames) (hl : W + (ml + 11) + rm.locals ≤ R.locals) (hc : cells + rm.cells ≤ R.cells) (hs : slots + rm.slots ≤ R.slots)
    (k : ∀ v T' L', Q v L' → Here p l e R s m args below meth c Z a0 tbl own nm bc mxl rt n0 T' L' (cells + rm.cells) (slots + rm.slots) → Go p e below F (T'.setTop (mkF m q Ls (v.toList ++ st)))) : Go p e below F (T.setTop (mkF m pc Ls stk)) := by
  obtain ⟨⟨hx, hZ, hown, hby, hml, hww, hnm, hrt, hlk⟩, locs, X, N, Z0, P⟩ := id A
  obtain ⟨ps, r, hps, hle⟩ := hlen
  subst hst hq
  have hp : s.PrivateAt y := Cond.privateMethod_at (mvP hZ (hww _ (List.mem_of_getElem? h2)) (args := #[]))
  have hin : (Jvm.Cond.instanceMethod y).before args s = true := mvT hZ (hww _ (List.mem_of_getElem? h6))
  have hit : (Jvm.Cond.instantiable y.cls kk).before args s = true := mvT hZ (hww _ (List.mem_of_getElem? h5))
  obtain ⟨cI, kI, i1, i2, -, i4, -⟩ := Cond.instantiable_spec hit
  have hni : kI.isInterface = false := by simp only [Bool.or_eq_false_iff] at i4; exact i4.1
  have hsel := selects_self_of_private (args := args) i1 i2 hni hp hin hy
  obtain ⟨cq, q1, q2⟩ := (P.1 _ (List.mem_of_getElem? hL)).2.1.cell
  obtain ⟨v, _, ⟨T1, L1, k1, n1⟩, -, X1, ⟨Lc, hQ, l1, y1, z1⟩, st1⟩ := X.privateBack hx (y := y) hown (mvT hZ (hww _ (List.mem_of_getElem? h1))) hin hsel hp (mvT hZ (hww _ (List.mem_of_getElem? h4))) hy (backOf (W := W) (Q := fun v h Lc => Fr n0 Lc ∧ n0 ≤ h.size ∧ ∃ L', Q v L' ∧ Pic Z n0 h L') (hT T.heap [] Z0 P) hZ (hww _ (List.mem_of_getElem? h4)) (hww _ (List.mem_of_getElem? h3)) hf hl) (g := mkF m pc Ls (as.reverse ++ .ref a :: st)) rfl (by rw [hml]; exact hsz) (Steps.refl _) (a := a) q1 q2 (argsL := as) (rest := st) (lenOf hps hle) rfl (by show 2 * 0 + _ ≤ _; omega) (hb hby hd) (fun _ _ => ⟨rfl, rfl, hc, hs⟩)
  dsimp only [Pt.U, Pt.locs, Pt.cells, Pt.slots] at X1 l1 y1 z1 st1 hQ
  subst l1 y1 z1
  obtain ⟨Nq, Zq, L', q, Pq⟩ := hQ
  exact Go.st (fun t h => st1.trans h) (k v T1 L' q ⟨A.1, _, X1, N.app Nq, Zq, Pq⟩)
theorem Here.pop2L (A : Here p l e R s m args below meth c Z a0 tbl own nm bc mxl rt n0 T L cells slots) {pc q : Nat} {Ls : Array Slot} {st : List Value} {x : Int64} (hd : decode bc pc = .ok (.pop2, 1)) (hq : pc + 1 = q) (k : Go p e below F (T.setTop (mkF m q Ls st))) : Go p e below F (T.setTop (mkF m pc Ls (.long x :: st))) := by
  obtain ⟨⟨hx, hZ, hown, hby, hml, hww, hnm, hrt, hlk⟩, locs, X, N, Z0, P⟩ := id A
  subst hq
  have hd' := hb hby hd
  refine Go.st (fun t h => ?_) k
  show Steps p.tables e below (T.setTop { method := m, pc := pc, locals := Ls, stack := _ :: st, locked := none }) _
  jvm_step X.here [X.here.top, hx, hd', Value.category]
  exact h

theorem Here.copyAll (A : Here p l e R s m args below meth c Z a0 tbl own nm bc mxl rt n0 T L cells slots) {pc q index W w1 w2 w3 w4 i j : Nat} {Ls : Array Slot} {st : List Value} {a b : Addr} {ty : FieldType} {vs vd : List Value} {nn : Int32} {L' : Obs} (hd : decode bc pc = .ok (.invokestatic index, 3)) (hq : pc + 3 = q) (h1 : tbl[w1]? = some (Jvm.Cond.methodLink own index Jvm.Stand.acN)) (h2 : tbl[w2]? = some (Jvm.Cond.native Jvm.Stand.acN)) (h3 : tbl[w3]? = some (Jvm.Cond.static Jvm.Stand.acN)) (h4 : tbl[w4]? = some (Jvm.Cond.initialized "java/lang/System")) (hi : L[i]? = some (a, .inr (ty, vs))) (hj : L[j]? = some (b, .inr (ty, vd))) (hr : refKind ty = false) (hn : vd.length = vs.length) (hnn : vs.length.toInt32 = nn)
    (hsz : Ls.size = mxl) (hW : (st.map fun v => v.category).sum = W) (hf : 1 ≤ R.frames) (hlo : W + (nativeFrameWords "java/lang/System" "arraycopy" 5 + 11) ≤ R.locals) (hL' : L.set j (b, .inr (ty, vs)) = L') (k : ∀ T', Here p l e R s m args below meth c Z a0 tbl own nm bc mxl rt n0 T' L' cells slots → Go p e below F (T'.setTop (mkF m q Ls st))) : Go p e below F (T.setTop (mkF m pc Ls (.int nn :: .int 0 :: .ref b :: .int 0 :: .ref a :: st))) := by
  obtain ⟨⟨hx, hZ, hown, hby, hml, hww, hnm, hrt, hlk⟩, locs, X, N, Z0, P⟩ := id A
  have Ia := P.1 _ (List.mem_of_getElem? hi)
  have Ib := P.1 _ (List.mem_of_getElem? hj)
  have Ib2 : Ara Z T.heap b ty vd := Ib.2
  have Ia2 : Ara Z T.heap a ty vs := Ia.2
  obtain ⟨ka, VA, la, na⟩ := Ia2.toArv (defaultValue ty)
  obtain ⟨kb, VB, lb, nb⟩ := Ib2.toArv (defaultValue ty)
  rw [hn] at VB lb
  subst hq hnn hL'
  have z0 : (0 : Int32).toNatClampNeg = 0 := by decide
  obtain ⟨T', h', L1, X', e', N', K, V', st'⟩ := cpA X hx hZ hown (hww _ (List.mem_of_getElem? h1)) (hww _ (List.mem_of_getElem? h2)) (hww _ (List.mem_of_getElem? h3)) (hww _ (List.mem_of_getElem? h4)) rfl VA VB (Or.inl ⟨rfl, hr⟩) (sp := 0) (dp := 0) (by decide) (by decide) na (by rw [z0]; omega) (by rw [z0]; omega) rfl (by rw [z0]; omega) N Ib.1 (g := mkF m pc Ls (.int vs.length.toInt32 :: .int 0 :: .ref b :: .int 0 :: .ref a :: st)) rfl (by rw [hml]; exact hsz) rfl (hb hby hd) hf (W := W) (by show 2 * 0 + _ ≤ _; omega) hlo
  subst e'
  have ev : vd.take (0 : Int32).toNatClampNeg ++ (List.range vs.length.toInt32.toNatClampNeg).map (fun i => vs.getD ((0 : Int32).toNatClampNeg + i) (defaultValue ty)) ++ vd.drop ((0 : Int32).toNatClampNeg + vs.length.toInt32.toNatClampNeg) = vs := by
    rw [z0, la, List.take_zero, List.nil_append, List.drop_eq_nil_of_le (by omega), List.append_nil]
    refine List.ext_getElem? fun i => ?_
    by_cases hi' : i < vs.length
    · rw [List.getElem?_map, List.getElem?_range hi']; simp [List.getD_eq_getElem?_getD, hi']
    · rw [List.getElem?_eq_none (by simp; omega), List.getElem?_eq_none (by omega)]
  rw [ev] at V'
  obtain ⟨_, _, _, l31, _, Eb⟩ := Ib2
  exact Go.st st' (k T' ⟨A.1, L1, X', N', Nat.le_trans Z0 K.1, P.setK K hj (Arv.toAra V' la (by rw [hn] at l31; exact l31) (Eb.keep K))⟩)

theorem Here.retV  (A : Here p l e R s m args below meth c Z a0 tbl own nm bc mxl none n0 T L cells slots) {pc kc ks : Nat} {Ls : Array Slot} {Q : Option Value → Obs → Prop} (hd : decode bc pc = .ok (.return_, 1)) (hc : cells ≤ kc) (hs : slots ≤ ks) (hQ : Q none L) : Go p e below (EndS below s n0 Z kc ks Q) (T.setTop (mkF m pc Ls [])) := by
  obtain ⟨⟨hx, hZ, hown, hby, hml, hww, hnm, hrt, hlk⟩, locs, X, N, Z0, P⟩ := id A
  obtain ⟨fs, hr, hrun, hended, hW, hsame⟩ := X.leave (v := none) (fun _ => rfl)
  refine ⟨T.setFrames fs, ?_, _, hrun, hended, _, locs, rfl, ⟨N, Z0, L, hQ, P⟩, ⟨_, rfl⟩, hW, hsame.mono hc hs⟩
  exact X.returnOut hx hrt (hb hby hd) hr
theorem Here.retZ {x v : Int32} (A : Here p l e R s m args below meth c Z a0 tbl own nm bc mxl (some .boolean) n0 T L cells slots) {pc kc ks : Nat} {Ls : Array Slot} {st : List Value} {Q : Option Value → Obs → Prop} (hd : decode bc pc = .ok (.ireturn, 1)) (hv : nar .boolean x = v) (hc : cells ≤ kc) (hs : slots ≤ ks) (hQ : Q (some (.int v)) L) : Go p e below (EndS below s n0 Z kc ks Q) (T.setTop (mkF m pc Ls (.int x :: st))) := by
  obtain ⟨⟨hx, hZ, hown, hby, hml, hww, hnm, hrt, hlk⟩, locs, X, N, Z0, P⟩ := id A
  obtain ⟨fs, hr, hrun, hended, hW, hsame⟩ := X.leave (v := (some (.int v))) (fun h => by rw [hrt] at h; cases h)
  refine ⟨T.setFrames fs, ?_, _, hrun, hended, _, locs, rfl, ⟨N, Z0, L, hQ, P⟩, ⟨_, rfl⟩, hW, hsame.mono hc hs⟩
  subst hv; exact retN X hx (t := .boolean) hrt (by simp) (hb hby hd) hr
theorem Here.retB {x v : Int32} (A : Here p l e R s m args below meth c Z a0 tbl own nm bc mxl (some .byte) n0 T L cells slots) {pc kc ks : Nat} {Ls : Array Slot} {st : List Value} {Q : Option Value → Obs → Prop} (hd : decode bc pc = .ok (.ireturn, 1)) (hv : nar .byte x = v) (hc : cells ≤ kc) (hs : slots ≤ ks) (hQ : Q (some (.int v)) L) : Go p e below (EndS below s n0 Z kc ks Q) (T.setTop (mkF m pc Ls (.int x :: st))) := by
  obtain ⟨⟨hx, hZ, hown, hby, hml, hww, hnm, hrt, hlk⟩, locs, X, N, Z0, P⟩ := id A
  obtain ⟨fs, hr, hrun, hended, hW, hsame⟩ := X.leave (v := (some (.int v))) (fun h => by rw [hrt] at h; cases h)
  refine ⟨T.setFrames fs, ?_, _, hrun, hended, _, locs, rfl, ⟨N, Z0, L, hQ, P⟩, ⟨_, rfl⟩, hW, hsame.mono hc hs⟩
  subst hv; exact retN X hx (t := .byte) hrt (by simp) (hb hby hd) hr
theorem Here.retI {x : Int32} (A : Here p l e R s m args below meth c Z a0 tbl own nm bc mxl (some .int) n0 T L cells slots) {pc kc ks : Nat} {Ls : Array Slot} {st : List Value} {Q : Option Value → Obs → Prop} (hd : decode bc pc = .ok (.ireturn, 1)) (hc : cells ≤ kc) (hs : slots ≤ ks) (hQ : Q (some (.int x)) L) : Go p e below (EndS below s n0 Z kc ks Q) (T.setTop (mkF m pc Ls (.int x :: st))) := by
  obtain ⟨⟨hx, hZ, hown, hby, hml, hww, hnm, hrt, hlk⟩, locs, X, N, Z0, P⟩ := id A
  obtain ⟨fs, hr, hrun, hended, hW, hsame⟩ := X.leave (v := (some (.int x))) (fun h => by rw [hrt] at h; cases h)
  refine ⟨T.setFrames fs, ?_, _, hrun, hended, _, locs, rfl, ⟨N, Z0, L, hQ, P⟩, ⟨_, rfl⟩, hW, hsame.mono hc hs⟩
  exact retOut X hx (t := .int) hrt rfl (Or.inl ⟨rfl, Or.inl rfl, _, rfl⟩) (hb hby hd) hr
theorem Here.retJ {x : Int64} (A : Here p l e R s m args below meth c Z a0 tbl own nm bc mxl (some .long) n0 T L cells slots) {pc kc ks : Nat} {Ls : Array Slot} {st : List Value} {Q : Option Value → Obs → Prop} (hd : decode bc pc = .ok (.lreturn, 1)) (hc : cells ≤ kc) (hs : slots ≤ ks) (hQ : Q (some (.long x)) L) : Go p e below (EndS below s n0 Z kc ks Q) (T.setTop (mkF m pc Ls (.long x :: st))) := by
  obtain ⟨⟨hx, hZ, hown, hby, hml, hww, hnm, hrt, hlk⟩, locs, X, N, Z0, P⟩ := id A
  obtain ⟨fs, hr, hrun, hended, hW, hsame⟩ := X.leave (v := (some (.long x))) (fun h => by rw [hrt] at h; cases h)
  refine ⟨T.setFrames fs, ?_, _, hrun, hended, _, locs, rfl, ⟨N, Z0, L, hQ, P⟩, ⟨_, rfl⟩, hW, hsame.mono hc hs⟩
  exact retOut X hx (t := .long) hrt rfl (Or.inr (Or.inl ⟨rfl, rfl, _, rfl⟩)) (hb hby hd) hr
theorem Here.retA {x : Value} {t : FieldType} (A : Here p l e R s m args below meth c Z a0 tbl own nm bc mxl (some t) n0 T L cells slots) {pc kc ks : Nat} {Ls : Array Slot} {st : List Value} {Q : Option Value → Obs → Prop} (hd : decode bc pc = .ok (.areturn, 1)) (hrf : x.isRef = true) (htr : t.isReference = true) (hnn : narrow t x = x) (hc : cells ≤ kc) (hs : slots ≤ ks) (hQ : Q (some x) L) : Go p e below (EndS below s n0 Z kc ks Q) (T.setTop (mkF m pc Ls (x :: st))) := by
  obtain ⟨⟨hx, hZ, hown, hby, hml, hww, hnm, hrt, hlk⟩, locs, X, N, Z0, P⟩ := id A
  obtain ⟨fs, hr, hrun, hended, hW, hsame⟩ := X.leave (v := (some x)) (fun h => by rw [hrt] at h; cases h)
  refine ⟨T.setFrames fs, ?_, _, hrun, hended, _, locs, rfl, ⟨N, Z0, L, hQ, P⟩, ⟨_, rfl⟩, hW, hsame.mono hc hs⟩
  exact retOut X hx (t := t) hrt hnn (Or.inr (Or.inr (Or.inr (Or.inr ⟨rfl, htr, hrf⟩)))) (hb hby hd) hr
end Walk
abbrev ob0 (v0 v1 v2 : Value) : Ob := .inl ("com/example/forebound/forebound/scheduler/Counts", [(("com/example/forebound/forebound/scheduler/Counts", "msgs", "J"), v0), (("com/example/forebound/forebound/scheduler/Counts", "nccc", "J"), v1), (("com/example/forebound/forebound/scheduler/Counts", "checks", "J"), v2)])
abbrev ob1 (v0 v1 v2 : Value) : Ob := .inl ("com/example/forebound/forebound/scheduler/Outcome", [(("com/example/forebound/forebound/scheduler/Outcome", "assignment", "[I"), v0), (("com/example/forebound/forebound/scheduler/Outcome", "counts", "Lcom/example/forebound/forebound/scheduler/Counts;"), v1), (("com/example/forebound/forebound/scheduler/Outcome", "deleted", "J"), v2)])
theorem own_r3 {v : Int32} (h : 0 ≤ v.toInt ∧ v.toInt < 3) : v = 0 ∨ v = 1 ∨ v = 2 := by
  have q : v.toInt = (0 : Int32).toInt ∨ v.toInt = (1 : Int32).toInt ∨ v.toInt = (2 : Int32).toInt := by simp only [Int32.reduceToInt]; omega
  exact q.imp Int32.toInt_inj.mp (Or.imp Int32.toInt_inj.mp Int32.toInt_inj.mp)
theorem own_r4 {v : Int32} (h : 0 ≤ v.toInt ∧ v.toInt < 4) : v = 0 ∨ v = 1 ∨ v = 2 ∨ v = 3 := by
  have q : v.toInt = (0 : Int32).toInt ∨ v.toInt = (1 : Int32).toInt ∨ v.toInt = (2 : Int32).toInt ∨ v.toInt = (3 : Int32).toInt := by simp only [Int32.reduceToInt]; omega
  exact q.imp Int32.toInt_inj.mp (Or.imp Int32.toInt_inj.mp (Or.imp Int32.toInt_inj.mp Int32.toInt_inj.mp))
theorem own_r5 {v : Int32} (h : 0 ≤ v.toInt ∧ v.toInt < 5) : v = 0 ∨ v = 1 ∨ v = 2 ∨ v = 3 ∨ v = 4 := by
  have q : v.toInt = (0 : Int32).toInt ∨ v.toInt = (1 : Int32).toInt ∨ v.toInt = (2 : Int32).toInt ∨ v.toInt = (3 : Int32).toInt ∨ v.toInt = (4 : Int32).toInt := by simp only [Int32.reduceToInt]; omega
  exact q.imp Int32.toInt_inj.mp (Or.imp Int32.toInt_inj.mp (Or.imp Int32.toInt_inj.mp (Or.imp Int32.toInt_inj.mp Int32.toInt_inj.mp)))
theorem own_and3 (x : Int32) : x &&& (3 : Int32) = 0 ∨ x &&& (3 : Int32) = 1 ∨ x &&& (3 : Int32) = 2 ∨ x &&& (3 : Int32) = 3 :=
  own_r4 (by have h := c_mask x 3 2 (by decide) (by decide); omega)
theorem own_mod3 (x : Int32) : (x &&& (2147483647 : Int32)) % (3 : Int32) = 0 ∨ (x &&& (2147483647 : Int32)) % (3 : Int32) = 1 ∨ (x &&& (2147483647 : Int32)) % (3 : Int32) = 2 :=
  own_r3 (by
    have h1 := c_mask x 2147483647 31 (by decide) (by decide)
    have h2 := c_irem (x &&& (2147483647 : Int32)) 3 3 (by decide)
    omega)
theorem own_mod5 (x : Int32) : (x &&& (2147483647 : Int32)) % (5 : Int32) = 0 ∨ (x &&& (2147483647 : Int32)) % (5 : Int32) = 1 ∨ (x &&& (2147483647 : Int32)) % (5 : Int32) = 2 ∨ (x &&& (2147483647 : Int32)) % (5 : Int32) = 3 ∨ (x &&& (2147483647 : Int32)) % (5 : Int32) = 4 :=
  own_r5 (by
    have h1 := c_mask x 2147483647 31 (by decide) (by decide)
    have h2 := c_irem (x &&& (2147483647 : Int32)) 5 5 (by decide)
    omega)
theorem own_r2 {v : Int32} (h : 0 ≤ v.toInt ∧ v.toInt < 2) : v = 0 ∨ v = 1 := by
  have q : v.toInt = (0 : Int32).toInt ∨ v.toInt = (1 : Int32).toInt := by simp only [Int32.reduceToInt]; omega
  exact q.imp Int32.toInt_inj.mp Int32.toInt_inj.mp
theorem own_r1 {v : Int32} (h : 0 ≤ v.toInt ∧ v.toInt < 1) : v = 0 := by
  have q : v.toInt = (0 : Int32).toInt := by simp only [Int32.reduceToInt]; omega
  exact Int32.toInt_inj.mp q
theorem own_modb (x k : Int32) (d : Int) (hk : k.toInt = d) (hd : 0 < d) : 0 ≤ ((x &&& (2147483647 : Int32)) % k).toInt ∧ ((x &&& (2147483647 : Int32)) % k).toInt < d := by
  have h1 := c_mask x 2147483647 31 (by decide) (by decide)
  have h2 := (c_irem (x &&& (2147483647 : Int32)) k d hk).1 (by omega)
  rw [h2]
  exact ⟨Int.emod_nonneg _ (by omega), Int.emod_lt_of_pos _ hd⟩
theorem own_nb (x : Int32) : nar .byte (x.toInt8.toInt32) = x.toInt8.toInt32 := by
  have h1 := c_i2b x
  have h2 := c_i2b (x.toInt8.toInt32)
  refine Int32.toInt_inj.mp ?_
  show (x.toInt8.toInt32).toInt8.toInt32.toInt = _
  omega

theorem lay_0 (Z : State) (a0 : Array Value) (hw : ∀ d ∈ tables_1, d.before a0 Z = true) : Lays Z a0 "com/example/forebound/forebound/scheduler/Counts" [("com/example/forebound/forebound/scheduler/Counts", "msgs", "J"), ("com/example/forebound/forebound/scheduler/Counts", "nccc", "J"), ("com/example/forebound/forebound/scheduler/Counts", "checks", "J")] := by
  refine ⟨fun q hq => ?_, by decide⟩
  simp only [List.mem_cons, List.not_mem_nil, or_false] at hq
  rcases hq with rfl | rfl | rfl
  · exact ⟨Or.inr (hw _ (List.mem_of_getElem? (i := 16) rfl)), .long, by decide⟩
  · exact ⟨Or.inr (hw _ (List.mem_of_getElem? (i := 18) rfl)), .long, by decide⟩
  · exact ⟨Or.inr (hw _ (List.mem_of_getElem? (i := 20) rfl)), .long, by decide⟩
theorem d2_0 : decode jdk_30_method_1_code 0 = .ok (.aload_n 0, 1) := by decide +kernel
theorem d2_1 : decode jdk_30_method_1_code 1 = .ok (.invokespecial 1, 3) := by decide +kernel
theorem d2_4 : decode jdk_30_method_1_code 4 = .ok (.return_, 1) := by decide +kernel
theorem pn_2 : plainFor (⟨"java/lang/Record", "<init>", "()V"⟩ : MethodName) = true := plainFor_of_name (by first | (simp [plainName, overriddenIn]; done) | decide +kernel)
set_option maxRecDepth 65536 in
set_option maxHeartbeats 40000000 in
theorem rm2_1 (l : Launch) (Z : State) (a0 : Array Value) (hw : ∀ d ∈ tables_1, d.before a0 Z = true) (n0 : Nat) (r0 : Addr) (RR : Obs) :
    Triple l Z n0 (⟨"java/lang/Record", "<init>", "()V"⟩ : MethodName) jdk_30_method_1_code 1 none ({ frames := 1, cells := 0, slots := 0, locals := 12 } : Room) 0 0 [(.ref r0)] ((r0, ob0 (.long (0 : Int64)) (.long (0 : Int64)) (.long (0 : Int64))) :: RR) (fun v L' => v = none ∧ L' = ((r0, ob0 (.long (0 : Int64)) (.long (0 : Int64)) (.long (0 : Int64))) :: RR)) := by
  refine Triple.of_body (tbl := tables_1) (a0 := a0) (Ls := #[.val (.ref r0)]) pn_2 hw (fun m => by first | rfl | (simp [entryFrame, mkF, argsToLocals, Value.category]; done)) ?_
  intro p e s m below meth c T A
  refine A.aloadN (q := 1) d2_0 rfl rfl rfl ?_
  refine A.initObj (q := 4) (w1 := 12) (w2 := 13) (w3 := 14) (W := 0) d2_1 rfl rfl rfl rfl rfl rfl (by decide) (by decide) ?_
  intro T A
  exact A.retV d2_4 (by decide) (by decide) ⟨rfl, rfl⟩
theorem pd_0 : parseMethodDescriptor "()V" = some ⟨[], none⟩ := by decide +kernel
theorem d1_0 : decode prog_31_method_1_code 0 = .ok (.aload_n 0, 1) := by decide +kernel
theorem d1_1 : decode prog_31_method_1_code 1 = .ok (.invokespecial 1, 3) := by decide +kernel
theorem d1_4 : decode prog_31_method_1_code 4 = .ok (.aload_n 0, 1) := by decide +kernel
theorem d1_5 : decode prog_31_method_1_code 5 = .ok (.lload_n 1, 1) := by decide +kernel
theorem d1_6 : decode prog_31_method_1_code 6 = .ok (.putfield 7, 3) := by decide +kernel
theorem d1_9 : decode prog_31_method_1_code 9 = .ok (.aload_n 0, 1) := by decide +kernel
theorem d1_10 : decode prog_31_method_1_code 10 = .ok (.lload_n 3, 1) := by decide +kernel
theorem d1_11 : decode prog_31_method_1_code 11 = .ok (.putfield 13, 3) := by decide +kernel
theorem d1_14 : decode prog_31_method_1_code 14 = .ok (.aload_n 0, 1) := by decide +kernel
theorem d1_15 : decode prog_31_method_1_code 15 = .ok (.lload 5, 2) := by decide +kernel
theorem d1_17 : decode prog_31_method_1_code 17 = .ok (.putfield 16, 3) := by decide +kernel
theorem d1_20 : decode prog_31_method_1_code 20 = .ok (.return_, 1) := by decide +kernel
theorem pn_1 : plainFor (⟨"com/example/forebound/forebound/scheduler/Counts", "<init>", "(JJJ)V"⟩ : MethodName) = true := plainFor_of_name (by first | (simp [plainName, overriddenIn]; done) | decide +kernel)
set_option maxRecDepth 65536 in
set_option maxHeartbeats 40000000 in
theorem rm1_1 (l : Launch) (Z : State) (a0 : Array Value) (hw : ∀ d ∈ tables_1, d.before a0 Z = true) (n0 : Nat) (r0 : Addr) (q1 : Int64) (q2 : Int64) (q3 : Int64) (RR : Obs) :
    Triple l Z n0 (⟨"com/example/forebound/forebound/scheduler/Counts", "<init>", "(JJJ)V"⟩ : MethodName) prog_31_method_1_code 7 none ({ frames := 2, cells := 0, slots := 0, locals := 24 } : Room) 0 0 [(.ref r0), (.long q1), (.long q2), (.long q3)] ((r0, ob0 (.long (0 : Int64)) (.long (0 : Int64)) (.long (0 : Int64))) :: RR) (fun v L' => v = none ∧ L' = ((r0, ob0 (.long q1) (.long q2) (.long q3)) :: RR)) := by
  refine Triple.of_body (tbl := tables_1) (a0 := a0) (Ls := #[.val (.ref r0), .val (.long q1), .second, .val (.long q2), .second, .val (.long q3), .second]) pn_1 hw (fun m => by first | rfl | (simp [entryFrame, mkF, argsToLocals, Value.category]; done)) ?_
  intro p e s m below meth c T A
  refine A.aloadN (q := 1) d1_0 rfl rfl rfl ?_
  refine A.callI (q := 4) (w1 := 7) (w2 := 8) (w3 := 10) (w4 := 11) (a := r0) (as := []) (st := []) (W := 0) d1_1 rfl rfl rfl rfl rfl rfl (rm2_1 l Z a0 hw n0 r0 _) (by decide) ⟨_, _, pd_0, rfl⟩ rfl rfl rfl (by decide) (by decide) (by decide) (by decide) ?_
  rintro _ T _ ⟨rfl, rfl⟩ A
  show Go p e below _ (T.setTop (mkF m 4 #[.val (.ref r0), .val (.long q1), .second, .val (.long q2), .second, .val (.long q3), .second] []))
  refine A.aloadN (q := 5) d1_4 rfl rfl rfl ?_
  refine A.lloadN (q := 6) d1_5 rfl rfl ?_
  refine A.putF (q := 9) (w := 15) (w2 := 16) (w3 := 2) (i := 0) (j := 0) (ty := .long) (v' := (.long q1)) (L' := ((r0, ob0 (.long q1) (.long (0 : Int64)) (.long (0 : Int64))) :: RR)) d1_6 rfl rfl rfl rfl (lay_0 Z a0 hw) (Or.inr ⟨rfl, rfl, rfl⟩) rfl (by decide) rfl rfl rfl ?_
  intro T A
  refine A.aloadN (q := 10) d1_9 rfl rfl rfl ?_
  refine A.lloadN (q := 11) d1_10 rfl rfl ?_
  refine A.putF (q := 14) (w := 17) (w2 := 18) (w3 := 2) (i := 0) (j := 1) (ty := .long) (v' := (.long q2)) (L' := ((r0, ob0 (.long q1) (.long q2) (.long (0 : Int64))) :: RR)) d1_11 rfl rfl rfl rfl (lay_0 Z a0 hw) (Or.inr ⟨rfl, rfl, rfl⟩) rfl (by decide) rfl rfl rfl ?_
  intro T A
  refine A.aloadN (q := 15) d1_14 rfl rfl rfl ?_
  refine A.lload (q := 17) d1_15 rfl rfl ?_
  refine A.putF (q := 20) (w := 19) (w2 := 20) (w3 := 2) (i := 0) (j := 2) (ty := .long) (v' := (.long q3)) (L' := ((r0, ob0 (.long q1) (.long q2) (.long q3)) :: RR)) d1_17 rfl rfl rfl rfl (lay_0 Z a0 hw) (Or.inr ⟨rfl, rfl, rfl⟩) rfl (by decide) rfl rfl rfl ?_
  intro T A
  exact A.retV d1_20 (by decide) (by decide) ⟨rfl, rfl⟩
theorem pd_1 : parseMethodDescriptor "(JJJ)V" = some ⟨[.long, .long, .long], none⟩ := by decide +kernel
theorem lay_1 (Z : State) (a0 : Array Value) (hw : ∀ d ∈ tables_1, d.before a0 Z = true) : Lays Z a0 "com/example/forebound/forebound/scheduler/Outcome" [("com/example/forebound/forebound/scheduler/Outcome", "assignment", "[I"), ("com/example/forebound/forebound/scheduler/Outcome", "counts", "Lcom/example/forebound/forebound/scheduler/Counts;"), ("com/example/forebound/forebound/scheduler/Outcome", "deleted", "J")] := by
  refine ⟨fun q hq => ?_, by decide⟩
  simp only [List.mem_cons, List.not_mem_nil, or_false] at hq
  rcases hq with rfl | rfl | rfl
  · exact ⟨Or.inr (hw _ (List.mem_of_getElem? (i := 38) rfl)), (.array .int), by decide⟩
  · exact ⟨Or.inr (hw _ (List.mem_of_getElem? (i := 40) rfl)), (.object "com/example/forebound/forebound/scheduler/Counts"), by decide⟩
  · exact ⟨Or.inr (hw _ (List.mem_of_getElem? (i := 42) rfl)), .long, by decide⟩
set_option maxRecDepth 65536 in
set_option maxHeartbeats 40000000 in
theorem rm2_2 (l : Launch) (Z : State) (a0 : Array Value) (hw : ∀ d ∈ tables_1, d.before a0 Z = true) (n0 : Nat) (r0 : Addr) (RR : Obs) :
    Triple l Z n0 (⟨"java/lang/Record", "<init>", "()V"⟩ : MethodName) jdk_30_method_1_code 1 none ({ frames := 1, cells := 0, slots := 0, locals := 12 } : Room) 0 0 [(.ref r0)] ((r0, ob1 .null .null (.long (0 : Int64))) :: RR) (fun v L' => v = none ∧ L' = ((r0, ob1 .null .null (.long (0 : Int64))) :: RR)) := by
  refine Triple.of_body (tbl := tables_1) (a0 := a0) (Ls := #[.val (.ref r0)]) pn_2 hw (fun m => by first | rfl | (simp [entryFrame, mkF, argsToLocals, Value.category]; done)) ?_
  intro p e s m below meth c T A
  refine A.aloadN (q := 1) d2_0 rfl rfl rfl ?_
  refine A.initObj (q := 4) (w1 := 12) (w2 := 13) (w3 := 14) (W := 0) d2_1 rfl rfl rfl rfl rfl rfl (by decide) (by decide) ?_
  intro T A
  exact A.retV d2_4 (by decide) (by decide) ⟨rfl, rfl⟩
theorem d4_0 : decode prog_34_method_1_code 0 = .ok (.aload_n 0, 1) := by decide +kernel
theorem d4_1 : decode prog_34_method_1_code 1 = .ok (.invokespecial 1, 3) := by decide +kernel
theorem d4_4 : decode prog_34_method_1_code 4 = .ok (.aload_n 1, 1) := by decide +kernel
theorem d4_5 : decode prog_34_method_1_code 5 = .ok (.ifnonnull 7, 3) := by decide +kernel
theorem d4_8 : decode prog_34_method_1_code 8 = .ok (.aconst_null, 1) := by decide +kernel
theorem d4_9 : decode prog_34_method_1_code 9 = .ok (.goto 10, 3) := by decide +kernel
theorem d4_12 : decode prog_34_method_1_code 12 = .ok (.aload_n 1, 1) := by decide +kernel
theorem d4_13 : decode prog_34_method_1_code 13 = .ok (.invokevirtual 7, 3) := by decide +kernel
theorem d4_16 : decode prog_34_method_1_code 16 = .ok (.checkcast 8, 3) := by decide +kernel
theorem d4_19 : decode prog_34_method_1_code 19 = .ok (.astore_n 1, 1) := by decide +kernel
theorem d4_20 : decode prog_34_method_1_code 20 = .ok (.aload_n 0, 1) := by decide +kernel
theorem d4_21 : decode prog_34_method_1_code 21 = .ok (.aload_n 1, 1) := by decide +kernel
theorem d4_22 : decode prog_34_method_1_code 22 = .ok (.putfield 13, 3) := by decide +kernel
theorem d4_25 : decode prog_34_method_1_code 25 = .ok (.aload_n 0, 1) := by decide +kernel
theorem d4_26 : decode prog_34_method_1_code 26 = .ok (.aload_n 2, 1) := by decide +kernel
theorem d4_27 : decode prog_34_method_1_code 27 = .ok (.putfield 18, 3) := by decide +kernel
theorem d4_30 : decode prog_34_method_1_code 30 = .ok (.aload_n 0, 1) := by decide +kernel
theorem d4_31 : decode prog_34_method_1_code 31 = .ok (.lload_n 3, 1) := by decide +kernel
theorem d4_32 : decode prog_34_method_1_code 32 = .ok (.putfield 22, 3) := by decide +kernel
theorem d4_35 : decode prog_34_method_1_code 35 = .ok (.return_, 1) := by decide +kernel
theorem pn_4 : plainFor (⟨"com/example/forebound/forebound/scheduler/Outcome", "<init>", "([ILcom/example/forebound/forebound/scheduler/Counts;J)V"⟩ : MethodName) = true := plainFor_of_name (by first | (simp [plainName, overriddenIn]; done) | decide +kernel)
set_option maxRecDepth 65536 in
set_option maxHeartbeats 40000000 in
theorem rm4_1 (l : Launch) (Z : State) (a0 : Array Value) (hw : ∀ d ∈ tables_1, d.before a0 Z = true) (n0 : Nat) (r0 : Addr) (r1 : Addr) (r2 : Addr) (q3 : Int64) (q4 : Int64) (q5 : Int64) (RR : Obs) :
    Triple l Z n0 (⟨"com/example/forebound/forebound/scheduler/Outcome", "<init>", "([ILcom/example/forebound/forebound/scheduler/Counts;J)V"⟩ : MethodName) prog_34_method_1_code 5 none ({ frames := 2, cells := 1, slots := 0, locals := 24 } : Room) 1 0 [(.ref r0), (.ref r1), (.ref r2), (.long q3)] ((r0, ob1 .null .null (.long (0 : Int64))) :: (r1, .inr (.int, [])) :: (r2, ob0 (.long q4) (.long q5) (.long q3)) :: RR) (fun v L' => ∃ b1 : Addr, v = none ∧ L' = ((b1, .inr (.int, [])) :: (r0, ob1 (.ref b1) (.ref r2) (.long q3)) :: (r1, .inr (.int, [])) :: (r2, ob0 (.long q4) (.long q5) (.long q3)) :: RR)) := by
  refine Triple.of_body (tbl := tables_1) (a0 := a0) (Ls := #[.val (.ref r0), .val (.ref r1), .val (.ref r2), .val (.long q3), .second]) pn_4 hw (fun m => by first | rfl | (simp [entryFrame, mkF, argsToLocals, Value.category]; done)) ?_
  intro p e s m below meth c T A
  refine A.aloadN (q := 1) d4_0 rfl rfl rfl ?_
  refine A.callI (q := 4) (w1 := 27) (w2 := 8) (w3 := 10) (w4 := 11) (a := r0) (as := []) (st := []) (W := 0) d4_1 rfl rfl rfl rfl rfl rfl (rm2_2 l Z a0 hw n0 r0 _) (by decide) ⟨_, _, pd_0, rfl⟩ rfl rfl rfl (by decide) (by decide) (by decide) (by decide) ?_
  rintro _ T _ ⟨rfl, rfl⟩ A
  show Go p e below _ (T.setTop (mkF m 4 #[.val (.ref r0), .val (.ref r1), .val (.ref r2), .val (.long q3), .second] []))
  refine A.aloadN (q := 5) d4_4 rfl rfl rfl ?_
  refine A.ifnonnullT (r := 12) d4_5 (by decide) ?_
  refine A.aloadN (q := 13) d4_12 rfl rfl rfl ?_
  refine A.clone (q := 16) (i := 1) (w1 := 28) (w2 := 29) (w3 := 33) (w4 := 31) (w5 := 32) (w6 := 34) (W := 0) (cap := 0) (ad := "[I") d4_13 rfl rfl (by decide) rfl rfl rfl rfl rfl rfl rfl rfl (by decide) (by decide) (Nat.le_refl _) (by decide) (by decide) ?_
  intro T b1 A
  refine A.castArr (q := 19) (w := 35) (i := 0) d4_16 rfl rfl rfl (by decide) ?_
  intro T A
  refine A.astoreN (q := 20) (l' := #[.val (.ref r0), .val (.ref b1), .val (.ref r2), .val (.long q3), .second]) d4_19 rfl rfl rfl ?_
  refine A.aloadN (q := 21) d4_20 rfl rfl rfl ?_
  refine A.aloadN (q := 22) d4_21 rfl rfl rfl ?_
  refine A.putF (q := 25) (w := 37) (w2 := 38) (w3 := 22) (i := 1) (j := 0) (ty := (.array .int)) (v' := (.ref b1)) (L' := ((b1, .inr (.int, [])) :: (r0, ob1 (.ref b1) .null (.long (0 : Int64))) :: (r1, .inr (.int, [])) :: (r2, ob0 (.long q4) (.long q5) (.long q3)) :: RR)) d4_22 rfl rfl rfl rfl (lay_1 Z a0 hw) (Or.inr ⟨rfl, rfl, rfl⟩) rfl (by decide) rfl rfl rfl ?_
  intro T A
  refine A.aloadN (q := 26) d4_25 rfl rfl rfl ?_
  refine A.aloadN (q := 27) d4_26 rfl rfl rfl ?_
  refine A.putF (q := 30) (w := 39) (w2 := 40) (w3 := 22) (i := 1) (j := 1) (ty := (.object "com/example/forebound/forebound/scheduler/Counts")) (v' := (.ref r2)) (L' := ((b1, .inr (.int, [])) :: (r0, ob1 (.ref b1) (.ref r2) (.long (0 : Int64))) :: (r1, .inr (.int, [])) :: (r2, ob0 (.long q4) (.long q5) (.long q3)) :: RR)) d4_27 rfl rfl rfl rfl (lay_1 Z a0 hw) (Or.inr ⟨rfl, rfl, rfl⟩) rfl (by decide) rfl rfl rfl ?_
  intro T A
  refine A.aloadN (q := 31) d4_30 rfl rfl rfl ?_
  refine A.lloadN (q := 32) d4_31 rfl rfl ?_
  refine A.putF (q := 35) (w := 41) (w2 := 42) (w3 := 22) (i := 1) (j := 2) (ty := .long) (v' := (.long q3)) (L' := ((b1, .inr (.int, [])) :: (r0, ob1 (.ref b1) (.ref r2) (.long q3)) :: (r1, .inr (.int, [])) :: (r2, ob0 (.long q4) (.long q5) (.long q3)) :: RR)) d4_32 rfl rfl rfl rfl (lay_1 Z a0 hw) (Or.inr ⟨rfl, rfl, rfl⟩) rfl (by decide) rfl rfl rfl ?_
  intro T A
  exact A.retV d4_35 (by decide) (by decide) ⟨b1, rfl, rfl⟩
theorem pd_2 : parseMethodDescriptor "([ILcom/example/forebound/forebound/scheduler/Counts;J)V" = some ⟨[(.array .int), (.object "com/example/forebound/forebound/scheduler/Counts"), .long], none⟩ := by decide +kernel
theorem d5_0 : decode method_3_code 0 = .ok (.iload_n 1, 1) := by decide +kernel
theorem d5_1 : decode method_3_code 1 = .ok (.ifCond .le 9, 3) := by decide +kernel
theorem d5_4 : decode method_3_code 4 = .ok (.aload_n 0, 1) := by decide +kernel
theorem d5_5 : decode method_3_code 5 = .ok (.iconst 0, 1) := by decide +kernel
theorem d5_6 : decode method_3_code 6 = .ok (.iload_n 2, 1) := by decide +kernel
theorem d5_7 : decode method_3_code 7 = .ok (.iconst (-1), 1) := by decide +kernel
theorem d5_8 : decode method_3_code 8 = .ok (.ixor, 1) := by decide +kernel
theorem d5_9 : decode method_3_code 9 = .ok (.iastore, 1) := by decide +kernel
theorem d5_10 : decode method_3_code 10 = .ok (.iload_n 1, 1) := by decide +kernel
theorem d5_11 : decode method_3_code 11 = .ok (.iconst 1, 1) := by decide +kernel
theorem d5_12 : decode method_3_code 12 = .ok (.if_icmp .le 9, 3) := by decide +kernel
theorem d5_15 : decode method_3_code 15 = .ok (.aload_n 0, 1) := by decide +kernel
theorem d5_16 : decode method_3_code 16 = .ok (.iconst 1, 1) := by decide +kernel
theorem d5_17 : decode method_3_code 17 = .ok (.iload_n 3, 1) := by decide +kernel
theorem d5_18 : decode method_3_code 18 = .ok (.iconst (-1), 1) := by decide +kernel
theorem d5_19 : decode method_3_code 19 = .ok (.ixor, 1) := by decide +kernel
theorem d5_20 : decode method_3_code 20 = .ok (.iastore, 1) := by decide +kernel
theorem d5_21 : decode method_3_code 21 = .ok (.iload_n 1, 1) := by decide +kernel
theorem d5_22 : decode method_3_code 22 = .ok (.iconst 2, 1) := by decide +kernel
theorem d5_23 : decode method_3_code 23 = .ok (.if_icmp .le 10, 3) := by decide +kernel
theorem d5_26 : decode method_3_code 26 = .ok (.aload_n 0, 1) := by decide +kernel
theorem d5_27 : decode method_3_code 27 = .ok (.iconst 2, 1) := by decide +kernel
theorem d5_28 : decode method_3_code 28 = .ok (.iload 4, 2) := by decide +kernel
theorem d5_30 : decode method_3_code 30 = .ok (.iconst (-1), 1) := by decide +kernel
theorem d5_31 : decode method_3_code 31 = .ok (.ixor, 1) := by decide +kernel
theorem d5_32 : decode method_3_code 32 = .ok (.iastore, 1) := by decide +kernel
theorem d5_33 : decode method_3_code 33 = .ok (.return_, 1) := by decide +kernel
theorem pn_5 : plainFor (⟨"com/example/forebound/forebound/scheduler/OutcomeAssignmentPinLaw", "spoil", "([IIIII)V"⟩ : MethodName) = true := plainFor_of_name (by first | (simp [plainName, overriddenIn]; done) | decide +kernel)
set_option maxRecDepth 65536 in
set_option maxHeartbeats 40000000 in
theorem rm5_1 (l : Launch) (Z : State) (a0 : Array Value) (hw : ∀ d ∈ tables_1, d.before a0 Z = true) (n0 : Nat) (r0 : Addr) (p1 : Int32) (p2 : Int32) (p3 : Int32) (RR : Obs) :
    Triple l Z n0 (⟨"com/example/forebound/forebound/scheduler/OutcomeAssignmentPinLaw", "spoil", "([IIIII)V"⟩ : MethodName) method_3_code 5 none ({ frames := 0, cells := 0, slots := 0, locals := 0 } : Room) 0 0 [(.ref r0), (.int (0 : Int32)), (.int p1), (.int p2), (.int p3)] ((r0, .inr (.int, [])) :: RR) (fun v L' => v = none ∧ L' = ((r0, .inr (.int, [])) :: RR)) := by
  refine Triple.of_body (tbl := tables_1) (a0 := a0) (Ls := #[.val (.ref r0), .val (.int (0 : Int32)), .val (.int p1), .val (.int p2), .val (.int p3)]) pn_5 hw (fun m => by first | rfl | (simp [entryFrame, mkF, argsToLocals, Value.category]; done)) ?_
  intro p e s m below meth c T A
  refine A.iloadN (q := 1) d5_0 rfl rfl ?_
  refine A.ifT (r := 10) d5_1 (by decide) (by decide) ?_
  refine A.iloadN (q := 11) d5_10 rfl rfl ?_
  refine A.iconst (q := 12) (v := (1 : Int32)) d5_11 rfl (by decide) ?_
  refine A.icmpT (r := 21) d5_12 (by decide) (by decide) ?_
  refine A.iloadN (q := 22) d5_21 rfl rfl ?_
  refine A.iconst (q := 23) (v := (2 : Int32)) d5_22 rfl (by decide) ?_
  refine A.icmpT (r := 33) d5_23 (by decide) (by decide) ?_
  exact A.retV d5_33 (by decide) (by decide) ⟨rfl, rfl⟩
theorem pd_3 : parseMethodDescriptor "([IIIII)V" = some ⟨[(.array .int), .int, .int, .int, .int], none⟩ := by decide +kernel
theorem d6_0 : decode prog_34_method_2_code 0 = .ok (.aload_n 0, 1) := by decide +kernel
theorem d6_1 : decode prog_34_method_2_code 1 = .ok (.getfield 13, 3) := by decide +kernel
theorem d6_4 : decode prog_34_method_2_code 4 = .ok (.ifnonnull 7, 3) := by decide +kernel
theorem d6_7 : decode prog_34_method_2_code 7 = .ok (.aconst_null, 1) := by decide +kernel
theorem d6_8 : decode prog_34_method_2_code 8 = .ok (.goto 13, 3) := by decide +kernel
theorem d6_11 : decode prog_34_method_2_code 11 = .ok (.aload_n 0, 1) := by decide +kernel
theorem d6_12 : decode prog_34_method_2_code 12 = .ok (.getfield 13, 3) := by decide +kernel
theorem d6_15 : decode prog_34_method_2_code 15 = .ok (.invokevirtual 7, 3) := by decide +kernel
theorem d6_18 : decode prog_34_method_2_code 18 = .ok (.checkcast 8, 3) := by decide +kernel
theorem d6_21 : decode prog_34_method_2_code 21 = .ok (.areturn, 1) := by decide +kernel
theorem pn_6 : plainFor (⟨"com/example/forebound/forebound/scheduler/Outcome", "assignment", "()[I"⟩ : MethodName) = true := plainFor_of_name (by first | (simp [plainName, overriddenIn]; done) | decide +kernel)
set_option maxRecDepth 65536 in
set_option maxHeartbeats 40000000 in
theorem rm6_1 (l : Launch) (Z : State) (a0 : Array Value) (hw : ∀ d ∈ tables_1, d.before a0 Z = true) (n0 : Nat) (r0 : Addr) (r1 : Addr) (r2 : Addr) (q3 : Int64) (q4 : Int64) (q5 : Int64) (RR : Obs) :
    Triple l Z n0 (⟨"com/example/forebound/forebound/scheduler/Outcome", "assignment", "()[I"⟩ : MethodName) prog_34_method_2_code 1 (some (.array .int)) ({ frames := 1, cells := 1, slots := 0, locals := 14 } : Room) 1 0 [(.ref r0)] ((r0, ob1 (.ref r1) (.ref r2) (.long q3)) :: (r1, .inr (.int, [])) :: (r2, ob0 (.long q4) (.long q5) (.long q3)) :: RR) (fun v L' => ∃ b1 : Addr, v = some (.ref b1) ∧ L' = ((b1, .inr (.int, [])) :: (r0, ob1 (.ref r1) (.ref r2) (.long q3)) :: (r1, .inr (.int, [])) :: (r2, ob0 (.long q4) (.long q5) (.long q3)) :: RR)) := by
  refine Triple.of_body (tbl := tables_1) (a0 := a0) (Ls := #[.val (.ref r0)]) pn_6 hw (fun m => by first | rfl | (simp [entryFrame, mkF, argsToLocals, Value.category]; done)) ?_
  intro p e s m below meth c T A
  refine A.aloadN (q := 1) d6_0 rfl rfl rfl ?_
  refine A.getF (q := 4) (w := 37) (i := 0) (j := 0) d6_1 rfl rfl rfl rfl ?_
  intro T A
  refine A.ifnonnullT (r := 11) d6_4 (by decide) ?_
  refine A.aloadN (q := 12) d6_11 rfl rfl rfl ?_
  refine A.getF (q := 15) (w := 37) (i := 0) (j := 0) d6_12 rfl rfl rfl rfl ?_
  intro T A
  refine A.clone (q := 18) (i := 1) (w1 := 28) (w2 := 29) (w3 := 33) (w4 := 31) (w5 := 32) (w6 := 34) (W := 0) (cap := 0) (ad := "[I") d6_15 rfl rfl (by decide) rfl rfl rfl rfl rfl rfl rfl rfl (by decide) (by decide) (Nat.le_refl _) (by decide) (by decide) ?_
  intro T b1 A
  refine A.castArr (q := 21) (w := 35) (i := 0) d6_18 rfl rfl rfl (by decide) ?_
  intro T A
  exact A.retA d6_21 rfl rfl rfl (by decide) (by decide) ⟨b1, rfl, rfl⟩
theorem pd_4 : parseMethodDescriptor "()[I" = some ⟨[], some (.array .int)⟩ := by decide +kernel
theorem d7_0 : decode method_2_code 0 = .ok (.aload_n 0, 1) := by decide +kernel
theorem d7_1 : decode method_2_code 1 = .ok (.ifnonnull 5, 3) := by decide +kernel
theorem d7_4 : decode method_2_code 4 = .ok (.iconst 0, 1) := by decide +kernel
theorem d7_5 : decode method_2_code 5 = .ok (.ireturn, 1) := by decide +kernel
theorem d7_6 : decode method_2_code 6 = .ok (.aload_n 0, 1) := by decide +kernel
theorem d7_7 : decode method_2_code 7 = .ok (.arraylength, 1) := by decide +kernel
theorem d7_8 : decode method_2_code 8 = .ok (.iload_n 1, 1) := by decide +kernel
theorem d7_9 : decode method_2_code 9 = .ok (.if_icmp .eq 5, 3) := by decide +kernel
theorem d7_12 : decode method_2_code 12 = .ok (.iconst 0, 1) := by decide +kernel
theorem d7_13 : decode method_2_code 13 = .ok (.ireturn, 1) := by decide +kernel
theorem d7_14 : decode method_2_code 14 = .ok (.iload_n 1, 1) := by decide +kernel
theorem d7_15 : decode method_2_code 15 = .ok (.ifCond .le 12, 3) := by decide +kernel
theorem d7_18 : decode method_2_code 18 = .ok (.aload_n 0, 1) := by decide +kernel
theorem d7_19 : decode method_2_code 19 = .ok (.iconst 0, 1) := by decide +kernel
theorem d7_20 : decode method_2_code 20 = .ok (.iaload, 1) := by decide +kernel
theorem d7_21 : decode method_2_code 21 = .ok (.iload_n 2, 1) := by decide +kernel
theorem d7_22 : decode method_2_code 22 = .ok (.if_icmp .eq 5, 3) := by decide +kernel
theorem d7_25 : decode method_2_code 25 = .ok (.iconst 0, 1) := by decide +kernel
theorem d7_26 : decode method_2_code 26 = .ok (.ireturn, 1) := by decide +kernel
theorem d7_27 : decode method_2_code 27 = .ok (.iload_n 1, 1) := by decide +kernel
theorem d7_28 : decode method_2_code 28 = .ok (.iconst 1, 1) := by decide +kernel
theorem d7_29 : decode method_2_code 29 = .ok (.if_icmp .le 12, 3) := by decide +kernel
theorem d7_32 : decode method_2_code 32 = .ok (.aload_n 0, 1) := by decide +kernel
theorem d7_33 : decode method_2_code 33 = .ok (.iconst 1, 1) := by decide +kernel
theorem d7_34 : decode method_2_code 34 = .ok (.iaload, 1) := by decide +kernel
theorem d7_35 : decode method_2_code 35 = .ok (.iload_n 3, 1) := by decide +kernel
theorem d7_36 : decode method_2_code 36 = .ok (.if_icmp .eq 5, 3) := by decide +kernel
theorem d7_39 : decode method_2_code 39 = .ok (.iconst 0, 1) := by decide +kernel
theorem d7_40 : decode method_2_code 40 = .ok (.ireturn, 1) := by decide +kernel
theorem d7_41 : decode method_2_code 41 = .ok (.iload_n 1, 1) := by decide +kernel
theorem d7_42 : decode method_2_code 42 = .ok (.iconst 2, 1) := by decide +kernel
theorem d7_43 : decode method_2_code 43 = .ok (.if_icmp .le 13, 3) := by decide +kernel
theorem d7_46 : decode method_2_code 46 = .ok (.aload_n 0, 1) := by decide +kernel
theorem d7_47 : decode method_2_code 47 = .ok (.iconst 2, 1) := by decide +kernel
theorem d7_48 : decode method_2_code 48 = .ok (.iaload, 1) := by decide +kernel
theorem d7_49 : decode method_2_code 49 = .ok (.iload 4, 2) := by decide +kernel
theorem d7_51 : decode method_2_code 51 = .ok (.if_icmp .eq 5, 3) := by decide +kernel
theorem d7_54 : decode method_2_code 54 = .ok (.iconst 0, 1) := by decide +kernel
theorem d7_55 : decode method_2_code 55 = .ok (.ireturn, 1) := by decide +kernel
theorem d7_56 : decode method_2_code 56 = .ok (.iconst 1, 1) := by decide +kernel
theorem d7_57 : decode method_2_code 57 = .ok (.ireturn, 1) := by decide +kernel
theorem pn_7 : plainFor (⟨"com/example/forebound/forebound/scheduler/OutcomeAssignmentPinLaw", "same", "([IIIII)Z"⟩ : MethodName) = true := plainFor_of_name (by first | (simp [plainName, overriddenIn]; done) | decide +kernel)
set_option maxRecDepth 65536 in
set_option maxHeartbeats 40000000 in
theorem rm7_1 (l : Launch) (Z : State) (a0 : Array Value) (hw : ∀ d ∈ tables_1, d.before a0 Z = true) (n0 : Nat) (r0 : Addr) (p1 : Int32) (p2 : Int32) (p3 : Int32) (RR : Obs) :
    Triple l Z n0 (⟨"com/example/forebound/forebound/scheduler/OutcomeAssignmentPinLaw", "same", "([IIIII)Z"⟩ : MethodName) method_2_code 5 (some .boolean) ({ frames := 0, cells := 0, slots := 0, locals := 0 } : Room) 0 0 [(.ref r0), (.int (0 : Int32)), (.int p1), (.int p2), (.int p3)] ((r0, .inr (.int, [])) :: RR) (fun v L' => v = some (.int (1 : Int32)) ∧ L' = ((r0, .inr (.int, [])) :: RR)) := by
  refine Triple.of_body (tbl := tables_1) (a0 := a0) (Ls := #[.val (.ref r0), .val (.int (0 : Int32)), .val (.int p1), .val (.int p2), .val (.int p3)]) pn_7 hw (fun m => by first | rfl | (simp [entryFrame, mkF, argsToLocals, Value.category]; done)) ?_
  intro p e s m below meth c T A
  refine A.aloadN (q := 1) d7_0 rfl rfl rfl ?_
  refine A.ifnonnullT (r := 6) d7_1 (by decide) ?_
  refine A.aloadN (q := 7) d7_6 rfl rfl rfl ?_
  refine A.arraylength (q := 8) (i := 0) (v := (0 : Int32)) d7_7 rfl rfl (by show Nat.toInt32 0 = 0; decide) ?_
  refine A.iloadN (q := 9) d7_8 rfl rfl ?_
  refine A.icmpT (r := 14) d7_9 (by decide) (by decide) ?_
  refine A.iloadN (q := 15) d7_14 rfl rfl ?_
  refine A.ifT (r := 27) d7_15 (by decide) (by decide) ?_
  refine A.iloadN (q := 28) d7_27 rfl rfl ?_
  refine A.iconst (q := 29) (v := (1 : Int32)) d7_28 rfl (by decide) ?_
  refine A.icmpT (r := 41) d7_29 (by decide) (by decide) ?_
  refine A.iloadN (q := 42) d7_41 rfl rfl ?_
  refine A.iconst (q := 43) (v := (2 : Int32)) d7_42 rfl (by decide) ?_
  refine A.icmpT (r := 56) d7_43 (by decide) (by decide) ?_
  refine A.iconst (q := 57) (v := (1 : Int32)) d7_56 rfl (by decide) ?_
  exact A.retZ (v := (1 : Int32)) d7_57 (by decide) (by decide) (by decide) ⟨rfl, rfl⟩
theorem pd_5 : parseMethodDescriptor "([IIIII)Z" = some ⟨[(.array .int), .int, .int, .int, .int], some .boolean⟩ := by decide +kernel
set_option maxRecDepth 65536 in
set_option maxHeartbeats 40000000 in
theorem rm4_2 (l : Launch) (Z : State) (a0 : Array Value) (hw : ∀ d ∈ tables_1, d.before a0 Z = true) (n0 : Nat) (r0 : Addr) (r1 : Addr) (r2 : Addr) (q3 : Int64) (p4 : Int32) (q5 : Int64) (q6 : Int64) (RR : Obs) :
    Triple l Z n0 (⟨"com/example/forebound/forebound/scheduler/Outcome", "<init>", "([ILcom/example/forebound/forebound/scheduler/Counts;J)V"⟩ : MethodName) prog_34_method_1_code 5 none ({ frames := 2, cells := 1, slots := 1, locals := 24 } : Room) 1 1 [(.ref r0), (.ref r1), (.ref r2), (.long q3)] ((r0, ob1 .null .null (.long (0 : Int64))) :: (r1, .inr (.int, [(.int p4)])) :: (r2, ob0 (.long q5) (.long q6) (.long q3)) :: RR) (fun v L' => ∃ b1 : Addr, v = none ∧ L' = ((b1, .inr (.int, [(.int p4)])) :: (r0, ob1 (.ref b1) (.ref r2) (.long q3)) :: (r1, .inr (.int, [(.int p4)])) :: (r2, ob0 (.long q5) (.long q6) (.long q3)) :: RR)) := by
  refine Triple.of_body (tbl := tables_1) (a0 := a0) (Ls := #[.val (.ref r0), .val (.ref r1), .val (.ref r2), .val (.long q3), .second]) pn_4 hw (fun m => by first | rfl | (simp [entryFrame, mkF, argsToLocals, Value.category]; done)) ?_
  intro p e s m below meth c T A
  refine A.aloadN (q := 1) d4_0 rfl rfl rfl ?_
  refine A.callI (q := 4) (w1 := 27) (w2 := 8) (w3 := 10) (w4 := 11) (a := r0) (as := []) (st := []) (W := 0) d4_1 rfl rfl rfl rfl rfl rfl (rm2_2 l Z a0 hw n0 r0 _) (by decide) ⟨_, _, pd_0, rfl⟩ rfl rfl rfl (by decide) (by decide) (by decide) (by decide) ?_
  rintro _ T _ ⟨rfl, rfl⟩ A
  show Go p e below _ (T.setTop (mkF m 4 #[.val (.ref r0), .val (.ref r1), .val (.ref r2), .val (.long q3), .second] []))
  refine A.aloadN (q := 5) d4_4 rfl rfl rfl ?_
  refine A.ifnonnullT (r := 12) d4_5 (by decide) ?_
  refine A.aloadN (q := 13) d4_12 rfl rfl rfl ?_
  refine A.clone (q := 16) (i := 1) (w1 := 28) (w2 := 29) (w3 := 33) (w4 := 31) (w5 := 32) (w6 := 34) (W := 0) (cap := 1) (ad := "[I") d4_13 rfl rfl (by decide) rfl rfl rfl rfl rfl rfl rfl rfl (by decide) (by decide) (Nat.le_refl _) (by decide) (by decide) ?_
  intro T b1 A
  refine A.castArr (q := 19) (w := 35) (i := 0) d4_16 rfl rfl rfl (by decide) ?_
  intro T A
  refine A.astoreN (q := 20) (l' := #[.val (.ref r0), .val (.ref b1), .val (.ref r2), .val (.long q3), .second]) d4_19 rfl rfl rfl ?_
  refine A.aloadN (q := 21) d4_20 rfl rfl rfl ?_
  refine A.aloadN (q := 22) d4_21 rfl rfl rfl ?_
  refine A.putF (q := 25) (w := 37) (w2 := 38) (w3 := 22) (i := 1) (j := 0) (ty := (.array .int)) (v' := (.ref b1)) (L' := ((b1, .inr (.int, [(.int p4)])) :: (r0, ob1 (.ref b1) .null (.long (0 : Int64))) :: (r1, .inr (.int, [(.int p4)])) :: (r2, ob0 (.long q5) (.long q6) (.long q3)) :: RR)) d4_22 rfl rfl rfl rfl (lay_1 Z a0 hw) (Or.inr ⟨rfl, rfl, rfl⟩) rfl (by decide) rfl rfl rfl ?_
  intro T A
  refine A.aloadN (q := 26) d4_25 rfl rfl rfl ?_
  refine A.aloadN (q := 27) d4_26 rfl rfl rfl ?_
  refine A.putF (q := 30) (w := 39) (w2 := 40) (w3 := 22) (i := 1) (j := 1) (ty := (.object "com/example/forebound/forebound/scheduler/Counts")) (v' := (.ref r2)) (L' := ((b1, .inr (.int, [(.int p4)])) :: (r0, ob1 (.ref b1) (.ref r2) (.long (0 : Int64))) :: (r1, .inr (.int, [(.int p4)])) :: (r2, ob0 (.long q5) (.long q6) (.long q3)) :: RR)) d4_27 rfl rfl rfl rfl (lay_1 Z a0 hw) (Or.inr ⟨rfl, rfl, rfl⟩) rfl (by decide) rfl rfl rfl ?_
  intro T A
  refine A.aloadN (q := 31) d4_30 rfl rfl rfl ?_
  refine A.lloadN (q := 32) d4_31 rfl rfl ?_
  refine A.putF (q := 35) (w := 41) (w2 := 42) (w3 := 22) (i := 1) (j := 2) (ty := .long) (v' := (.long q3)) (L' := ((b1, .inr (.int, [(.int p4)])) :: (r0, ob1 (.ref b1) (.ref r2) (.long q3)) :: (r1, .inr (.int, [(.int p4)])) :: (r2, ob0 (.long q5) (.long q6) (.long q3)) :: RR)) d4_32 rfl rfl rfl rfl (lay_1 Z a0 hw) (Or.inr ⟨rfl, rfl, rfl⟩) rfl (by decide) rfl rfl rfl ?_
  intro T A
  exact A.retV d4_35 (by decide) (by decide) ⟨b1, rfl, rfl⟩
set_option maxRecDepth 65536 in
set_option maxHeartbeats 40000000 in
theorem rm5_2 (l : Launch) (Z : State) (a0 : Array Value) (hw : ∀ d ∈ tables_1, d.before a0 Z = true) (n0 : Nat) (r0 : Addr) (p1 : Int32) (p2 : Int32) (p3 : Int32) (RR : Obs) :
    Triple l Z n0 (⟨"com/example/forebound/forebound/scheduler/OutcomeAssignmentPinLaw", "spoil", "([IIIII)V"⟩ : MethodName) method_3_code 5 none ({ frames := 0, cells := 0, slots := 0, locals := 0 } : Room) 0 0 [(.ref r0), (.int (1 : Int32)), (.int p1), (.int p2), (.int p3)] ((r0, .inr (.int, [(.int p1)])) :: RR) (fun v L' => v = none ∧ L' = ((r0, .inr (.int, [(.int (p1 ^^^ (-1 : Int32)))])) :: RR)) := by
  refine Triple.of_body (tbl := tables_1) (a0 := a0) (Ls := #[.val (.ref r0), .val (.int (1 : Int32)), .val (.int p1), .val (.int p2), .val (.int p3)]) pn_5 hw (fun m => by first | rfl | (simp [entryFrame, mkF, argsToLocals, Value.category]; done)) ?_
  intro p e s m below meth c T A
  refine A.iloadN (q := 1) d5_0 rfl rfl ?_
  refine A.ifF (q := 4) d5_1 rfl (by decide) ?_
  refine A.aloadN (q := 5) d5_4 rfl rfl rfl ?_
  refine A.iconst (q := 6) (v := (0 : Int32)) d5_5 rfl (by decide) ?_
  refine A.iloadN (q := 7) d5_6 rfl rfl ?_
  refine A.iconst (q := 8) (v := (-1 : Int32)) d5_7 rfl (by decide) ?_
  obtain ⟨v1, e1⟩ : ∃ v : Int32, p1 ^^^ (-1 : Int32) = v := ⟨_, rfl⟩
  refine A.ixor (q := 9) d5_8 rfl e1 ?_
  refine A.iastore (q := 10) (i := 0) (x' := v1) (L' := ((r0, .inr (.int, [(.int v1)])) :: RR)) d5_9 rfl rfl (by decide) (by show Int32.toNatClampNeg (0 : Int32) < 1; decide) rfl rfl ?_
  intro T A
  refine A.iloadN (q := 11) d5_10 rfl rfl ?_
  refine A.iconst (q := 12) (v := (1 : Int32)) d5_11 rfl (by decide) ?_
  refine A.icmpT (r := 21) d5_12 (by decide) (by decide) ?_
  refine A.iloadN (q := 22) d5_21 rfl rfl ?_
  refine A.iconst (q := 23) (v := (2 : Int32)) d5_22 rfl (by decide) ?_
  refine A.icmpT (r := 33) d5_23 (by decide) (by decide) ?_
  subst e1
  exact A.retV d5_33 (by decide) (by decide) ⟨rfl, rfl⟩
set_option maxRecDepth 65536 in
set_option maxHeartbeats 40000000 in
theorem rm6_2 (l : Launch) (Z : State) (a0 : Array Value) (hw : ∀ d ∈ tables_1, d.before a0 Z = true) (n0 : Nat) (r0 : Addr) (r1 : Addr) (r2 : Addr) (q3 : Int64) (p4 : Int32) (q5 : Int64) (q6 : Int64) (RR : Obs) :
    Triple l Z n0 (⟨"com/example/forebound/forebound/scheduler/Outcome", "assignment", "()[I"⟩ : MethodName) prog_34_method_2_code 1 (some (.array .int)) ({ frames := 1, cells := 1, slots := 1, locals := 14 } : Room) 1 1 [(.ref r0)] ((r0, ob1 (.ref r1) (.ref r2) (.long q3)) :: (r1, .inr (.int, [(.int p4)])) :: (r2, ob0 (.long q5) (.long q6) (.long q3)) :: RR) (fun v L' => ∃ b1 : Addr, v = some (.ref b1) ∧ L' = ((b1, .inr (.int, [(.int p4)])) :: (r0, ob1 (.ref r1) (.ref r2) (.long q3)) :: (r1, .inr (.int, [(.int p4)])) :: (r2, ob0 (.long q5) (.long q6) (.long q3)) :: RR)) := by
  refine Triple.of_body (tbl := tables_1) (a0 := a0) (Ls := #[.val (.ref r0)]) pn_6 hw (fun m => by first | rfl | (simp [entryFrame, mkF, argsToLocals, Value.category]; done)) ?_
  intro p e s m below meth c T A
  refine A.aloadN (q := 1) d6_0 rfl rfl rfl ?_
  refine A.getF (q := 4) (w := 37) (i := 0) (j := 0) d6_1 rfl rfl rfl rfl ?_
  intro T A
  refine A.ifnonnullT (r := 11) d6_4 (by decide) ?_
  refine A.aloadN (q := 12) d6_11 rfl rfl rfl ?_
  refine A.getF (q := 15) (w := 37) (i := 0) (j := 0) d6_12 rfl rfl rfl rfl ?_
  intro T A
  refine A.clone (q := 18) (i := 1) (w1 := 28) (w2 := 29) (w3 := 33) (w4 := 31) (w5 := 32) (w6 := 34) (W := 0) (cap := 1) (ad := "[I") d6_15 rfl rfl (by decide) rfl rfl rfl rfl rfl rfl rfl rfl (by decide) (by decide) (Nat.le_refl _) (by decide) (by decide) ?_
  intro T b1 A
  refine A.castArr (q := 21) (w := 35) (i := 0) d6_18 rfl rfl rfl (by decide) ?_
  intro T A
  exact A.retA d6_21 rfl rfl rfl (by decide) (by decide) ⟨b1, rfl, rfl⟩
set_option maxRecDepth 65536 in
set_option maxHeartbeats 40000000 in
theorem rm7_2 (l : Launch) (Z : State) (a0 : Array Value) (hw : ∀ d ∈ tables_1, d.before a0 Z = true) (n0 : Nat) (r0 : Addr) (p1 : Int32) (p2 : Int32) (p3 : Int32) (RR : Obs) :
    Triple l Z n0 (⟨"com/example/forebound/forebound/scheduler/OutcomeAssignmentPinLaw", "same", "([IIIII)Z"⟩ : MethodName) method_2_code 5 (some .boolean) ({ frames := 0, cells := 0, slots := 0, locals := 0 } : Room) 0 0 [(.ref r0), (.int (1 : Int32)), (.int p1), (.int p2), (.int p3)] ((r0, .inr (.int, [(.int p1)])) :: RR) (fun v L' => v = some (.int (1 : Int32)) ∧ L' = ((r0, .inr (.int, [(.int p1)])) :: RR)) := by
  refine Triple.of_body (tbl := tables_1) (a0 := a0) (Ls := #[.val (.ref r0), .val (.int (1 : Int32)), .val (.int p1), .val (.int p2), .val (.int p3)]) pn_7 hw (fun m => by first | rfl | (simp [entryFrame, mkF, argsToLocals, Value.category]; done)) ?_
  intro p e s m below meth c T A
  refine A.aloadN (q := 1) d7_0 rfl rfl rfl ?_
  refine A.ifnonnullT (r := 6) d7_1 (by decide) ?_
  refine A.aloadN (q := 7) d7_6 rfl rfl rfl ?_
  refine A.arraylength (q := 8) (i := 0) (v := (1 : Int32)) d7_7 rfl rfl (by show Nat.toInt32 1 = 1; decide) ?_
  refine A.iloadN (q := 9) d7_8 rfl rfl ?_
  refine A.icmpT (r := 14) d7_9 (by decide) (by decide) ?_
  refine A.iloadN (q := 15) d7_14 rfl rfl ?_
  refine A.ifF (q := 18) d7_15 rfl (by decide) ?_
  refine A.aloadN (q := 19) d7_18 rfl rfl rfl ?_
  refine A.iconst (q := 20) (v := (0 : Int32)) d7_19 rfl (by decide) ?_
  refine A.iaload (q := 21) (i := 0) (v := (.int p1)) d7_20 rfl rfl (by decide) rfl ?_
  refine A.iloadN (q := 22) d7_21 rfl rfl ?_
  refine A.icmpT (r := 27) d7_22 (by decide) (teq rfl).1 ?_
  refine A.iloadN (q := 28) d7_27 rfl rfl ?_
  refine A.iconst (q := 29) (v := (1 : Int32)) d7_28 rfl (by decide) ?_
  refine A.icmpT (r := 41) d7_29 (by decide) (by decide) ?_
  refine A.iloadN (q := 42) d7_41 rfl rfl ?_
  refine A.iconst (q := 43) (v := (2 : Int32)) d7_42 rfl (by decide) ?_
  refine A.icmpT (r := 56) d7_43 (by decide) (by decide) ?_
  refine A.iconst (q := 57) (v := (1 : Int32)) d7_56 rfl (by decide) ?_
  exact A.retZ (v := (1 : Int32)) d7_57 (by decide) (by decide) (by decide) ⟨rfl, rfl⟩
set_option maxRecDepth 65536 in
set_option maxHeartbeats 40000000 in
theorem rm4_3 (l : Launch) (Z : State) (a0 : Array Value) (hw : ∀ d ∈ tables_1, d.before a0 Z = true) (n0 : Nat) (r0 : Addr) (r1 : Addr) (r2 : Addr) (q3 : Int64) (p4 : Int32) (p5 : Int32) (q6 : Int64) (q7 : Int64) (RR : Obs) :
    Triple l Z n0 (⟨"com/example/forebound/forebound/scheduler/Outcome", "<init>", "([ILcom/example/forebound/forebound/scheduler/Counts;J)V"⟩ : MethodName) prog_34_method_1_code 5 none ({ frames := 2, cells := 1, slots := 2, locals := 24 } : Room) 1 2 [(.ref r0), (.ref r1), (.ref r2), (.long q3)] ((r0, ob1 .null .null (.long (0 : Int64))) :: (r1, .inr (.int, [(.int p4), (.int p5)])) :: (r2, ob0 (.long q6) (.long q7) (.long q3)) :: RR) (fun v L' => ∃ b1 : Addr, v = none ∧ L' = ((b1, .inr (.int, [(.int p4), (.int p5)])) :: (r0, ob1 (.ref b1) (.ref r2) (.long q3)) :: (r1, .inr (.int, [(.int p4), (.int p5)])) :: (r2, ob0 (.long q6) (.long q7) (.long q3)) :: RR)) := by
  refine Triple.of_body (tbl := tables_1) (a0 := a0) (Ls := #[.val (.ref r0), .val (.ref r1), .val (.ref r2), .val (.long q3), .second]) pn_4 hw (fun m => by first | rfl | (simp [entryFrame, mkF, argsToLocals, Value.category]; done)) ?_
  intro p e s m below meth c T A
  refine A.aloadN (q := 1) d4_0 rfl rfl rfl ?_
  refine A.callI (q := 4) (w1 := 27) (w2 := 8) (w3 := 10) (w4 := 11) (a := r0) (as := []) (st := []) (W := 0) d4_1 rfl rfl rfl rfl rfl rfl (rm2_2 l Z a0 hw n0 r0 _) (by decide) ⟨_, _, pd_0, rfl⟩ rfl rfl rfl (by decide) (by decide) (by decide) (by decide) ?_
  rintro _ T _ ⟨rfl, rfl⟩ A
  show Go p e below _ (T.setTop (mkF m 4 #[.val (.ref r0), .val (.ref r1), .val (.ref r2), .val (.long q3), .second] []))
  refine A.aloadN (q := 5) d4_4 rfl rfl rfl ?_
  refine A.ifnonnullT (r := 12) d4_5 (by decide) ?_
  refine A.aloadN (q := 13) d4_12 rfl rfl rfl ?_
  refine A.clone (q := 16) (i := 1) (w1 := 28) (w2 := 29) (w3 := 33) (w4 := 31) (w5 := 32) (w6 := 34) (W := 0) (cap := 2) (ad := "[I") d4_13 rfl rfl (by decide) rfl rfl rfl rfl rfl rfl rfl rfl (by decide) (by decide) (Nat.le_refl _) (by decide) (by decide) ?_
  intro T b1 A
  refine A.castArr (q := 19) (w := 35) (i := 0) d4_16 rfl rfl rfl (by decide) ?_
  intro T A
  refine A.astoreN (q := 20) (l' := #[.val (.ref r0), .val (.ref b1), .val (.ref r2), .val (.long q3), .second]) d4_19 rfl rfl rfl ?_
  refine A.aloadN (q := 21) d4_20 rfl rfl rfl ?_
  refine A.aloadN (q := 22) d4_21 rfl rfl rfl ?_
  refine A.putF (q := 25) (w := 37) (w2 := 38) (w3 := 22) (i := 1) (j := 0) (ty := (.array .int)) (v' := (.ref b1)) (L' := ((b1, .inr (.int, [(.int p4), (.int p5)])) :: (r0, ob1 (.ref b1) .null (.long (0 : Int64))) :: (r1, .inr (.int, [(.int p4), (.int p5)])) :: (r2, ob0 (.long q6) (.long q7) (.long q3)) :: RR)) d4_22 rfl rfl rfl rfl (lay_1 Z a0 hw) (Or.inr ⟨rfl, rfl, rfl⟩) rfl (by decide) rfl rfl rfl ?_
  intro T A
  refine A.aloadN (q := 26) d4_25 rfl rfl rfl ?_
  refine A.aloadN (q := 27) d4_26 rfl rfl rfl ?_
  refine A.putF (q := 30) (w := 39) (w2 := 40) (w3 := 22) (i := 1) (j := 1) (ty := (.object "com/example/forebound/forebound/scheduler/Counts")) (v' := (.ref r2)) (L' := ((b1, .inr (.int, [(.int p4), (.int p5)])) :: (r0, ob1 (.ref b1) (.ref r2) (.long (0 : Int64))) :: (r1, .inr (.int, [(.int p4), (.int p5)])) :: (r2, ob0 (.long q6) (.long q7) (.long q3)) :: RR)) d4_27 rfl rfl rfl rfl (lay_1 Z a0 hw) (Or.inr ⟨rfl, rfl, rfl⟩) rfl (by decide) rfl rfl rfl ?_
  intro T A
  refine A.aloadN (q := 31) d4_30 rfl rfl rfl ?_
  refine A.lloadN (q := 32) d4_31 rfl rfl ?_
  refine A.putF (q := 35) (w := 41) (w2 := 42) (w3 := 22) (i := 1) (j := 2) (ty := .long) (v' := (.long q3)) (L' := ((b1, .inr (.int, [(.int p4), (.int p5)])) :: (r0, ob1 (.ref b1) (.ref r2) (.long q3)) :: (r1, .inr (.int, [(.int p4), (.int p5)])) :: (r2, ob0 (.long q6) (.long q7) (.long q3)) :: RR)) d4_32 rfl rfl rfl rfl (lay_1 Z a0 hw) (Or.inr ⟨rfl, rfl, rfl⟩) rfl (by decide) rfl rfl rfl ?_
  intro T A
  exact A.retV d4_35 (by decide) (by decide) ⟨b1, rfl, rfl⟩
set_option maxRecDepth 65536 in
set_option maxHeartbeats 40000000 in
theorem rm5_3 (l : Launch) (Z : State) (a0 : Array Value) (hw : ∀ d ∈ tables_1, d.before a0 Z = true) (n0 : Nat) (r0 : Addr) (p1 : Int32) (p2 : Int32) (p3 : Int32) (RR : Obs) :
    Triple l Z n0 (⟨"com/example/forebound/forebound/scheduler/OutcomeAssignmentPinLaw", "spoil", "([IIIII)V"⟩ : MethodName) method_3_code 5 none ({ frames := 0, cells := 0, slots := 0, locals := 0 } : Room) 0 0 [(.ref r0), (.int (2 : Int32)), (.int p1), (.int p2), (.int p3)] ((r0, .inr (.int, [(.int p1), (.int p2)])) :: RR) (fun v L' => v = none ∧ L' = ((r0, .inr (.int, [(.int (p1 ^^^ (-1 : Int32))), (.int (p2 ^^^ (-1 : Int32)))])) :: RR)) := by
  refine Triple.of_body (tbl := tables_1) (a0 := a0) (Ls := #[.val (.ref r0), .val (.int (2 : Int32)), .val (.int p1), .val (.int p2), .val (.int p3)]) pn_5 hw (fun m => by first | rfl | (simp [entryFrame, mkF, argsToLocals, Value.category]; done)) ?_
  intro p e s m below meth c T A
  refine A.iloadN (q := 1) d5_0 rfl rfl ?_
  refine A.ifF (q := 4) d5_1 rfl (by decide) ?_
  refine A.aloadN (q := 5) d5_4 rfl rfl rfl ?_
  refine A.iconst (q := 6) (v := (0 : Int32)) d5_5 rfl (by decide) ?_
  refine A.iloadN (q := 7) d5_6 rfl rfl ?_
  refine A.iconst (q := 8) (v := (-1 : Int32)) d5_7 rfl (by decide) ?_
  obtain ⟨v1, e1⟩ : ∃ v : Int32, p1 ^^^ (-1 : Int32) = v := ⟨_, rfl⟩
  refine A.ixor (q := 9) d5_8 rfl e1 ?_
  refine A.iastore (q := 10) (i := 0) (x' := v1) (L' := ((r0, .inr (.int, [(.int v1), (.int p2)])) :: RR)) d5_9 rfl rfl (by decide) (by show Int32.toNatClampNeg (0 : Int32) < 2; decide) rfl rfl ?_
  intro T A
  refine A.iloadN (q := 11) d5_10 rfl rfl ?_
  refine A.iconst (q := 12) (v := (1 : Int32)) d5_11 rfl (by decide) ?_
  refine A.icmpF (q := 15) d5_12 rfl (by decide) ?_
  refine A.aloadN (q := 16) d5_15 rfl rfl rfl ?_
  refine A.iconst (q := 17) (v := (1 : Int32)) d5_16 rfl (by decide) ?_
  refine A.iloadN (q := 18) d5_17 rfl rfl ?_
  refine A.iconst (q := 19) (v := (-1 : Int32)) d5_18 rfl (by decide) ?_
  obtain ⟨v2, e2⟩ : ∃ v : Int32, p2 ^^^ (-1 : Int32) = v := ⟨_, rfl⟩
  refine A.ixor (q := 20) d5_19 rfl e2 ?_
  refine A.iastore (q := 21) (i := 0) (x' := v2) (L' := ((r0, .inr (.int, [(.int v1), (.int v2)])) :: RR)) d5_20 rfl rfl (by decide) (by show Int32.toNatClampNeg (1 : Int32) < 2; decide) rfl rfl ?_
  intro T A
  refine A.iloadN (q := 22) d5_21 rfl rfl ?_
  refine A.iconst (q := 23) (v := (2 : Int32)) d5_22 rfl (by decide) ?_
  refine A.icmpT (r := 33) d5_23 (by decide) (by decide) ?_
  subst e1 e2
  exact A.retV d5_33 (by decide) (by decide) ⟨rfl, rfl⟩
set_option maxRecDepth 65536 in
set_option maxHeartbeats 40000000 in
theorem rm6_3 (l : Launch) (Z : State) (a0 : Array Value) (hw : ∀ d ∈ tables_1, d.before a0 Z = true) (n0 : Nat) (r0 : Addr) (r1 : Addr) (r2 : Addr) (q3 : Int64) (p4 : Int32) (p5 : Int32) (q6 : Int64) (q7 : Int64) (RR : Obs) :
    Triple l Z n0 (⟨"com/example/forebound/forebound/scheduler/Outcome", "assignment", "()[I"⟩ : MethodName) prog_34_method_2_code 1 (some (.array .int)) ({ frames := 1, cells := 1, slots := 2, locals := 14 } : Room) 1 2 [(.ref r0)] ((r0, ob1 (.ref r1) (.ref r2) (.long q3)) :: (r1, .inr (.int, [(.int p4), (.int p5)])) :: (r2, ob0 (.long q6) (.long q7) (.long q3)) :: RR) (fun v L' => ∃ b1 : Addr, v = some (.ref b1) ∧ L' = ((b1, .inr (.int, [(.int p4), (.int p5)])) :: (r0, ob1 (.ref r1) (.ref r2) (.long q3)) :: (r1, .inr (.int, [(.int p4), (.int p5)])) :: (r2, ob0 (.long q6) (.long q7) (.long q3)) :: RR)) := by
  refine Triple.of_body (tbl := tables_1) (a0 := a0) (Ls := #[.val (.ref r0)]) pn_6 hw (fun m => by first | rfl | (simp [entryFrame, mkF, argsToLocals, Value.category]; done)) ?_
  intro p e s m below meth c T A
  refine A.aloadN (q := 1) d6_0 rfl rfl rfl ?_
  refine A.getF (q := 4) (w := 37) (i := 0) (j := 0) d6_1 rfl rfl rfl rfl ?_
  intro T A
  refine A.ifnonnullT (r := 11) d6_4 (by decide) ?_
  refine A.aloadN (q := 12) d6_11 rfl rfl rfl ?_
  refine A.getF (q := 15) (w := 37) (i := 0) (j := 0) d6_12 rfl rfl rfl rfl ?_
  intro T A
  refine A.clone (q := 18) (i := 1) (w1 := 28) (w2 := 29) (w3 := 33) (w4 := 31) (w5 := 32) (w6 := 34) (W := 0) (cap := 2) (ad := "[I") d6_15 rfl rfl (by decide) rfl rfl rfl rfl rfl rfl rfl rfl (by decide) (by decide) (Nat.le_refl _) (by decide) (by decide) ?_
  intro T b1 A
  refine A.castArr (q := 21) (w := 35) (i := 0) d6_18 rfl rfl rfl (by decide) ?_
  intro T A
  exact A.retA d6_21 rfl rfl rfl (by decide) (by decide) ⟨b1, rfl, rfl⟩
set_option maxRecDepth 65536 in
set_option maxHeartbeats 40000000 in
theorem rm7_3 (l : Launch) (Z : State) (a0 : Array Value) (hw : ∀ d ∈ tables_1, d.before a0 Z = true) (n0 : Nat) (r0 : Addr) (p1 : Int32) (p2 : Int32) (p3 : Int32) (RR : Obs) :
    Triple l Z n0 (⟨"com/example/forebound/forebound/scheduler/OutcomeAssignmentPinLaw", "same", "([IIIII)Z"⟩ : MethodName) method_2_code 5 (some .boolean) ({ frames := 0, cells := 0, slots := 0, locals := 0 } : Room) 0 0 [(.ref r0), (.int (2 : Int32)), (.int p1), (.int p2), (.int p3)] ((r0, .inr (.int, [(.int p1), (.int p2)])) :: RR) (fun v L' => v = some (.int (1 : Int32)) ∧ L' = ((r0, .inr (.int, [(.int p1), (.int p2)])) :: RR)) := by
  refine Triple.of_body (tbl := tables_1) (a0 := a0) (Ls := #[.val (.ref r0), .val (.int (2 : Int32)), .val (.int p1), .val (.int p2), .val (.int p3)]) pn_7 hw (fun m => by first | rfl | (simp [entryFrame, mkF, argsToLocals, Value.category]; done)) ?_
  intro p e s m below meth c T A
  refine A.aloadN (q := 1) d7_0 rfl rfl rfl ?_
  refine A.ifnonnullT (r := 6) d7_1 (by decide) ?_
  refine A.aloadN (q := 7) d7_6 rfl rfl rfl ?_
  refine A.arraylength (q := 8) (i := 0) (v := (2 : Int32)) d7_7 rfl rfl (by show Nat.toInt32 2 = 2; decide) ?_
  refine A.iloadN (q := 9) d7_8 rfl rfl ?_
  refine A.icmpT (r := 14) d7_9 (by decide) (by decide) ?_
  refine A.iloadN (q := 15) d7_14 rfl rfl ?_
  refine A.ifF (q := 18) d7_15 rfl (by decide) ?_
  refine A.aloadN (q := 19) d7_18 rfl rfl rfl ?_
  refine A.iconst (q := 20) (v := (0 : Int32)) d7_19 rfl (by decide) ?_
  refine A.iaload (q := 21) (i := 0) (v := (.int p1)) d7_20 rfl rfl (by decide) rfl ?_
  refine A.iloadN (q := 22) d7_21 rfl rfl ?_
  refine A.icmpT (r := 27) d7_22 (by decide) (teq rfl).1 ?_
  refine A.iloadN (q := 28) d7_27 rfl rfl ?_
  refine A.iconst (q := 29) (v := (1 : Int32)) d7_28 rfl (by decide) ?_
  refine A.icmpF (q := 32) d7_29 rfl (by decide) ?_
  refine A.aloadN (q := 33) d7_32 rfl rfl rfl ?_
  refine A.iconst (q := 34) (v := (1 : Int32)) d7_33 rfl (by decide) ?_
  refine A.iaload (q := 35) (i := 0) (v := (.int p2)) d7_34 rfl rfl (by decide) rfl ?_
  refine A.iloadN (q := 36) d7_35 rfl rfl ?_
  refine A.icmpT (r := 41) d7_36 (by decide) (teq rfl).1 ?_
  refine A.iloadN (q := 42) d7_41 rfl rfl ?_
  refine A.iconst (q := 43) (v := (2 : Int32)) d7_42 rfl (by decide) ?_
  refine A.icmpT (r := 56) d7_43 (by decide) (by decide) ?_
  refine A.iconst (q := 57) (v := (1 : Int32)) d7_56 rfl (by decide) ?_
  exact A.retZ (v := (1 : Int32)) d7_57 (by decide) (by decide) (by decide) ⟨rfl, rfl⟩
set_option maxRecDepth 65536 in
set_option maxHeartbeats 40000000 in
theorem rm4_4 (l : Launch) (Z : State) (a0 : Array Value) (hw : ∀ d ∈ tables_1, d.before a0 Z = true) (n0 : Nat) (r0 : Addr) (r1 : Addr) (r2 : Addr) (q3 : Int64) (p4 : Int32) (p5 : Int32) (p6 : Int32) (q7 : Int64) (q8 : Int64) (RR : Obs) :
    Triple l Z n0 (⟨"com/example/forebound/forebound/scheduler/Outcome", "<init>", "([ILcom/example/forebound/forebound/scheduler/Counts;J)V"⟩ : MethodName) prog_34_method_1_code 5 none ({ frames := 2, cells := 1, slots := 3, locals := 24 } : Room) 1 3 [(.ref r0), (.ref r1), (.ref r2), (.long q3)] ((r0, ob1 .null .null (.long (0 : Int64))) :: (r1, .inr (.int, [(.int p4), (.int p5), (.int p6)])) :: (r2, ob0 (.long q7) (.long q8) (.long q3)) :: RR) (fun v L' => ∃ b1 : Addr, v = none ∧ L' = ((b1, .inr (.int, [(.int p4), (.int p5), (.int p6)])) :: (r0, ob1 (.ref b1) (.ref r2) (.long q3)) :: (r1, .inr (.int, [(.int p4), (.int p5), (.int p6)])) :: (r2, ob0 (.long q7) (.long q8) (.long q3)) :: RR)) := by
  refine Triple.of_body (tbl := tables_1) (a0 := a0) (Ls := #[.val (.ref r0), .val (.ref r1), .val (.ref r2), .val (.long q3), .second]) pn_4 hw (fun m => by first | rfl | (simp [entryFrame, mkF, argsToLocals, Value.category]; done)) ?_
  intro p e s m below meth c T A
  refine A.aloadN (q := 1) d4_0 rfl rfl rfl ?_
  refine A.callI (q := 4) (w1 := 27) (w2 := 8) (w3 := 10) (w4 := 11) (a := r0) (as := []) (st := []) (W := 0) d4_1 rfl rfl rfl rfl rfl rfl (rm2_2 l Z a0 hw n0 r0 _) (by decide) ⟨_, _, pd_0, rfl⟩ rfl rfl rfl (by decide) (by decide) (by decide) (by decide) ?_
  rintro _ T _ ⟨rfl, rfl⟩ A
  show Go p e below _ (T.setTop (mkF m 4 #[.val (.ref r0), .val (.ref r1), .val (.ref r2), .val (.long q3), .second] []))
  refine A.aloadN (q := 5) d4_4 rfl rfl rfl ?_
  refine A.ifnonnullT (r := 12) d4_5 (by decide) ?_
  refine A.aloadN (q := 13) d4_12 rfl rfl rfl ?_
  refine A.clone (q := 16) (i := 1) (w1 := 28) (w2 := 29) (w3 := 33) (w4 := 31) (w5 := 32) (w6 := 34) (W := 0) (cap := 3) (ad := "[I") d4_13 rfl rfl (by decide) rfl rfl rfl rfl rfl rfl rfl rfl (by decide) (by decide) (Nat.le_refl _) (by decide) (by decide) ?_
  intro T b1 A
  refine A.castArr (q := 19) (w := 35) (i := 0) d4_16 rfl rfl rfl (by decide) ?_
  intro T A
  refine A.astoreN (q := 20) (l' := #[.val (.ref r0), .val (.ref b1), .val (.ref r2), .val (.long q3), .second]) d4_19 rfl rfl rfl ?_
  refine A.aloadN (q := 21) d4_20 rfl rfl rfl ?_
  refine A.aloadN (q := 22) d4_21 rfl rfl rfl ?_
  refine A.putF (q := 25) (w := 37) (w2 := 38) (w3 := 22) (i := 1) (j := 0) (ty := (.array .int)) (v' := (.ref b1)) (L' := ((b1, .inr (.int, [(.int p4), (.int p5), (.int p6)])) :: (r0, ob1 (.ref b1) .null (.long (0 : Int64))) :: (r1, .inr (.int, [(.int p4), (.int p5), (.int p6)])) :: (r2, ob0 (.long q7) (.long q8) (.long q3)) :: RR)) d4_22 rfl rfl rfl rfl (lay_1 Z a0 hw) (Or.inr ⟨rfl, rfl, rfl⟩) rfl (by decide) rfl rfl rfl ?_
  intro T A
  refine A.aloadN (q := 26) d4_25 rfl rfl rfl ?_
  refine A.aloadN (q := 27) d4_26 rfl rfl rfl ?_
  refine A.putF (q := 30) (w := 39) (w2 := 40) (w3 := 22) (i := 1) (j := 1) (ty := (.object "com/example/forebound/forebound/scheduler/Counts")) (v' := (.ref r2)) (L' := ((b1, .inr (.int, [(.int p4), (.int p5), (.int p6)])) :: (r0, ob1 (.ref b1) (.ref r2) (.long (0 : Int64))) :: (r1, .inr (.int, [(.int p4), (.int p5), (.int p6)])) :: (r2, ob0 (.long q7) (.long q8) (.long q3)) :: RR)) d4_27 rfl rfl rfl rfl (lay_1 Z a0 hw) (Or.inr ⟨rfl, rfl, rfl⟩) rfl (by decide) rfl rfl rfl ?_
  intro T A
  refine A.aloadN (q := 31) d4_30 rfl rfl rfl ?_
  refine A.lloadN (q := 32) d4_31 rfl rfl ?_
  refine A.putF (q := 35) (w := 41) (w2 := 42) (w3 := 22) (i := 1) (j := 2) (ty := .long) (v' := (.long q3)) (L' := ((b1, .inr (.int, [(.int p4), (.int p5), (.int p6)])) :: (r0, ob1 (.ref b1) (.ref r2) (.long q3)) :: (r1, .inr (.int, [(.int p4), (.int p5), (.int p6)])) :: (r2, ob0 (.long q7) (.long q8) (.long q3)) :: RR)) d4_32 rfl rfl rfl rfl (lay_1 Z a0 hw) (Or.inr ⟨rfl, rfl, rfl⟩) rfl (by decide) rfl rfl rfl ?_
  intro T A
  exact A.retV d4_35 (by decide) (by decide) ⟨b1, rfl, rfl⟩
set_option maxRecDepth 65536 in
set_option maxHeartbeats 40000000 in
theorem rm5_4 (l : Launch) (Z : State) (a0 : Array Value) (hw : ∀ d ∈ tables_1, d.before a0 Z = true) (n0 : Nat) (r0 : Addr) (p1 : Int32) (p2 : Int32) (p3 : Int32) (RR : Obs) :
    Triple l Z n0 (⟨"com/example/forebound/forebound/scheduler/OutcomeAssignmentPinLaw", "spoil", "([IIIII)V"⟩ : MethodName) method_3_code 5 none ({ frames := 0, cells := 0, slots := 0, locals := 0 } : Room) 0 0 [(.ref r0), (.int (3 : Int32)), (.int p1), (.int p2), (.int p3)] ((r0, .inr (.int, [(.int p1), (.int p2), (.int p3)])) :: RR) (fun v L' => v = none ∧ L' = ((r0, .inr (.int, [(.int (p1 ^^^ (-1 : Int32))), (.int (p2 ^^^ (-1 : Int32))), (.int (p3 ^^^ (-1 : Int32)))])) :: RR)) := by
  refine Triple.of_body (tbl := tables_1) (a0 := a0) (Ls := #[.val (.ref r0), .val (.int (3 : Int32)), .val (.int p1), .val (.int p2), .val (.int p3)]) pn_5 hw (fun m => by first | rfl | (simp [entryFrame, mkF, argsToLocals, Value.category]; done)) ?_
  intro p e s m below meth c T A
  refine A.iloadN (q := 1) d5_0 rfl rfl ?_
  refine A.ifF (q := 4) d5_1 rfl (by decide) ?_
  refine A.aloadN (q := 5) d5_4 rfl rfl rfl ?_
  refine A.iconst (q := 6) (v := (0 : Int32)) d5_5 rfl (by decide) ?_
  refine A.iloadN (q := 7) d5_6 rfl rfl ?_
  refine A.iconst (q := 8) (v := (-1 : Int32)) d5_7 rfl (by decide) ?_
  obtain ⟨v1, e1⟩ : ∃ v : Int32, p1 ^^^ (-1 : Int32) = v := ⟨_, rfl⟩
  refine A.ixor (q := 9) d5_8 rfl e1 ?_
  refine A.iastore (q := 10) (i := 0) (x' := v1) (L' := ((r0, .inr (.int, [(.int v1), (.int p2), (.int p3)])) :: RR)) d5_9 rfl rfl (by decide) (by show Int32.toNatClampNeg (0 : Int32) < 3; decide) rfl rfl ?_
  intro T A
  refine A.iloadN (q := 11) d5_10 rfl rfl ?_
  refine A.iconst (q := 12) (v := (1 : Int32)) d5_11 rfl (by decide) ?_
  refine A.icmpF (q := 15) d5_12 rfl (by decide) ?_
  refine A.aloadN (q := 16) d5_15 rfl rfl rfl ?_
  refine A.iconst (q := 17) (v := (1 : Int32)) d5_16 rfl (by decide) ?_
  refine A.iloadN (q := 18) d5_17 rfl rfl ?_
  refine A.iconst (q := 19) (v := (-1 : Int32)) d5_18 rfl (by decide) ?_
  obtain ⟨v2, e2⟩ : ∃ v : Int32, p2 ^^^ (-1 : Int32) = v := ⟨_, rfl⟩
  refine A.ixor (q := 20) d5_19 rfl e2 ?_
  refine A.iastore (q := 21) (i := 0) (x' := v2) (L' := ((r0, .inr (.int, [(.int v1), (.int v2), (.int p3)])) :: RR)) d5_20 rfl rfl (by decide) (by show Int32.toNatClampNeg (1 : Int32) < 3; decide) rfl rfl ?_
  intro T A
  refine A.iloadN (q := 22) d5_21 rfl rfl ?_
  refine A.iconst (q := 23) (v := (2 : Int32)) d5_22 rfl (by decide) ?_
  refine A.icmpF (q := 26) d5_23 rfl (by decide) ?_
  refine A.aloadN (q := 27) d5_26 rfl rfl rfl ?_
  refine A.iconst (q := 28) (v := (2 : Int32)) d5_27 rfl (by decide) ?_
  refine A.iload (q := 30) d5_28 rfl rfl ?_
  refine A.iconst (q := 31) (v := (-1 : Int32)) d5_30 rfl (by decide) ?_
  obtain ⟨v3, e3⟩ : ∃ v : Int32, p3 ^^^ (-1 : Int32) = v := ⟨_, rfl⟩
  refine A.ixor (q := 32) d5_31 rfl e3 ?_
  refine A.iastore (q := 33) (i := 0) (x' := v3) (L' := ((r0, .inr (.int, [(.int v1), (.int v2), (.int v3)])) :: RR)) d5_32 rfl rfl (by decide) (by show Int32.toNatClampNeg (2 : Int32) < 3; decide) rfl rfl ?_
  intro T A
  subst e1 e2 e3
  exact A.retV d5_33 (by decide) (by decide) ⟨rfl, rfl⟩
set_option maxRecDepth 65536 in
set_option maxHeartbeats 40000000 in
theorem rm6_4 (l : Launch) (Z : State) (a0 : Array Value) (hw : ∀ d ∈ tables_1, d.before a0 Z = true) (n0 : Nat) (r0 : Addr) (r1 : Addr) (r2 : Addr) (q3 : Int64) (p4 : Int32) (p5 : Int32) (p6 : Int32) (q7 : Int64) (q8 : Int64) (RR : Obs) :
    Triple l Z n0 (⟨"com/example/forebound/forebound/scheduler/Outcome", "assignment", "()[I"⟩ : MethodName) prog_34_method_2_code 1 (some (.array .int)) ({ frames := 1, cells := 1, slots := 3, locals := 14 } : Room) 1 3 [(.ref r0)] ((r0, ob1 (.ref r1) (.ref r2) (.long q3)) :: (r1, .inr (.int, [(.int p4), (.int p5), (.int p6)])) :: (r2, ob0 (.long q7) (.long q8) (.long q3)) :: RR) (fun v L' => ∃ b1 : Addr, v = some (.ref b1) ∧ L' = ((b1, .inr (.int, [(.int p4), (.int p5), (.int p6)])) :: (r0, ob1 (.ref r1) (.ref r2) (.long q3)) :: (r1, .inr (.int, [(.int p4), (.int p5), (.int p6)])) :: (r2, ob0 (.long q7) (.long q8) (.long q3)) :: RR)) := by
  refine Triple.of_body (tbl := tables_1) (a0 := a0) (Ls := #[.val (.ref r0)]) pn_6 hw (fun m => by first | rfl | (simp [entryFrame, mkF, argsToLocals, Value.category]; done)) ?_
  intro p e s m below meth c T A
  refine A.aloadN (q := 1) d6_0 rfl rfl rfl ?_
  refine A.getF (q := 4) (w := 37) (i := 0) (j := 0) d6_1 rfl rfl rfl rfl ?_
  intro T A
  refine A.ifnonnullT (r := 11) d6_4 (by decide) ?_
  refine A.aloadN (q := 12) d6_11 rfl rfl rfl ?_
  refine A.getF (q := 15) (w := 37) (i := 0) (j := 0) d6_12 rfl rfl rfl rfl ?_
  intro T A
  refine A.clone (q := 18) (i := 1) (w1 := 28) (w2 := 29) (w3 := 33) (w4 := 31) (w5 := 32) (w6 := 34) (W := 0) (cap := 3) (ad := "[I") d6_15 rfl rfl (by decide) rfl rfl rfl rfl rfl rfl rfl rfl (by decide) (by decide) (Nat.le_refl _) (by decide) (by decide) ?_
  intro T b1 A
  refine A.castArr (q := 21) (w := 35) (i := 0) d6_18 rfl rfl rfl (by decide) ?_
  intro T A
  exact A.retA d6_21 rfl rfl rfl (by decide) (by decide) ⟨b1, rfl, rfl⟩
set_option maxRecDepth 65536 in
set_option maxHeartbeats 40000000 in
theorem rm7_4 (l : Launch) (Z : State) (a0 : Array Value) (hw : ∀ d ∈ tables_1, d.before a0 Z = true) (n0 : Nat) (r0 : Addr) (p1 : Int32) (p2 : Int32) (p3 : Int32) (RR : Obs) :
    Triple l Z n0 (⟨"com/example/forebound/forebound/scheduler/OutcomeAssignmentPinLaw", "same", "([IIIII)Z"⟩ : MethodName) method_2_code 5 (some .boolean) ({ frames := 0, cells := 0, slots := 0, locals := 0 } : Room) 0 0 [(.ref r0), (.int (3 : Int32)), (.int p1), (.int p2), (.int p3)] ((r0, .inr (.int, [(.int p1), (.int p2), (.int p3)])) :: RR) (fun v L' => v = some (.int (1 : Int32)) ∧ L' = ((r0, .inr (.int, [(.int p1), (.int p2), (.int p3)])) :: RR)) := by
  refine Triple.of_body (tbl := tables_1) (a0 := a0) (Ls := #[.val (.ref r0), .val (.int (3 : Int32)), .val (.int p1), .val (.int p2), .val (.int p3)]) pn_7 hw (fun m => by first | rfl | (simp [entryFrame, mkF, argsToLocals, Value.category]; done)) ?_
  intro p e s m below meth c T A
  refine A.aloadN (q := 1) d7_0 rfl rfl rfl ?_
  refine A.ifnonnullT (r := 6) d7_1 (by decide) ?_
  refine A.aloadN (q := 7) d7_6 rfl rfl rfl ?_
  refine A.arraylength (q := 8) (i := 0) (v := (3 : Int32)) d7_7 rfl rfl (by show Nat.toInt32 3 = 3; decide) ?_
  refine A.iloadN (q := 9) d7_8 rfl rfl ?_
  refine A.icmpT (r := 14) d7_9 (by decide) (by decide) ?_
  refine A.iloadN (q := 15) d7_14 rfl rfl ?_
  refine A.ifF (q := 18) d7_15 rfl (by decide) ?_
  refine A.aloadN (q := 19) d7_18 rfl rfl rfl ?_
  refine A.iconst (q := 20) (v := (0 : Int32)) d7_19 rfl (by decide) ?_
  refine A.iaload (q := 21) (i := 0) (v := (.int p1)) d7_20 rfl rfl (by decide) rfl ?_
  refine A.iloadN (q := 22) d7_21 rfl rfl ?_
  refine A.icmpT (r := 27) d7_22 (by decide) (teq rfl).1 ?_
  refine A.iloadN (q := 28) d7_27 rfl rfl ?_
  refine A.iconst (q := 29) (v := (1 : Int32)) d7_28 rfl (by decide) ?_
  refine A.icmpF (q := 32) d7_29 rfl (by decide) ?_
  refine A.aloadN (q := 33) d7_32 rfl rfl rfl ?_
  refine A.iconst (q := 34) (v := (1 : Int32)) d7_33 rfl (by decide) ?_
  refine A.iaload (q := 35) (i := 0) (v := (.int p2)) d7_34 rfl rfl (by decide) rfl ?_
  refine A.iloadN (q := 36) d7_35 rfl rfl ?_
  refine A.icmpT (r := 41) d7_36 (by decide) (teq rfl).1 ?_
  refine A.iloadN (q := 42) d7_41 rfl rfl ?_
  refine A.iconst (q := 43) (v := (2 : Int32)) d7_42 rfl (by decide) ?_
  refine A.icmpF (q := 46) d7_43 rfl (by decide) ?_
  refine A.aloadN (q := 47) d7_46 rfl rfl rfl ?_
  refine A.iconst (q := 48) (v := (2 : Int32)) d7_47 rfl (by decide) ?_
  refine A.iaload (q := 49) (i := 0) (v := (.int p3)) d7_48 rfl rfl (by decide) rfl ?_
  refine A.iload (q := 51) d7_49 rfl rfl ?_
  refine A.icmpT (r := 56) d7_51 (by decide) (teq rfl).1 ?_
  refine A.iconst (q := 57) (v := (1 : Int32)) d7_56 rfl (by decide) ?_
  exact A.retZ (v := (1 : Int32)) d7_57 (by decide) (by decide) (by decide) ⟨rfl, rfl⟩
set_option maxRecDepth 65536 in
set_option maxHeartbeats 40000000 in
theorem rm4_5 (l : Launch) (Z : State) (a0 : Array Value) (hw : ∀ d ∈ tables_1, d.before a0 Z = true) (n0 : Nat) (r0 : Addr) (r1 : Addr) (q2 : Int64) (q3 : Int64) (q4 : Int64) (RR : Obs) :
    Triple l Z n0 (⟨"com/example/forebound/forebound/scheduler/Outcome", "<init>", "([ILcom/example/forebound/forebound/scheduler/Counts;J)V"⟩ : MethodName) prog_34_method_1_code 5 none ({ frames := 2, cells := 0, slots := 0, locals := 24 } : Room) 0 0 [(.ref r0), .null, (.ref r1), (.long q2)] ((r0, ob1 .null .null (.long (0 : Int64))) :: (r1, ob0 (.long q3) (.long q4) (.long q2)) :: RR) (fun v L' => v = none ∧ L' = ((r0, ob1 .null (.ref r1) (.long q2)) :: (r1, ob0 (.long q3) (.long q4) (.long q2)) :: RR)) := by
  refine Triple.of_body (tbl := tables_1) (a0 := a0) (Ls := #[.val (.ref r0), .val .null, .val (.ref r1), .val (.long q2), .second]) pn_4 hw (fun m => by first | rfl | (simp [entryFrame, mkF, argsToLocals, Value.category]; done)) ?_
  intro p e s m below meth c T A
  refine A.aloadN (q := 1) d4_0 rfl rfl rfl ?_
  refine A.callI (q := 4) (w1 := 27) (w2 := 8) (w3 := 10) (w4 := 11) (a := r0) (as := []) (st := []) (W := 0) d4_1 rfl rfl rfl rfl rfl rfl (rm2_2 l Z a0 hw n0 r0 _) (by decide) ⟨_, _, pd_0, rfl⟩ rfl rfl rfl (by decide) (by decide) (by decide) (by decide) ?_
  rintro _ T _ ⟨rfl, rfl⟩ A
  show Go p e below _ (T.setTop (mkF m 4 #[.val (.ref r0), .val .null, .val (.ref r1), .val (.long q2), .second] []))
  refine A.aloadN (q := 5) d4_4 rfl rfl rfl ?_
  refine A.ifnonnullF (q := 8) d4_5 rfl ?_
  refine A.aconst_null (q := 9) d4_8 rfl ?_
  refine A.goto (r := 19) d4_9 (by decide) ?_
  refine A.astoreN (q := 20) (l' := #[.val (.ref r0), .val .null, .val (.ref r1), .val (.long q2), .second]) d4_19 rfl rfl rfl ?_
  refine A.aloadN (q := 21) d4_20 rfl rfl rfl ?_
  refine A.aloadN (q := 22) d4_21 rfl rfl rfl ?_
  refine A.putF (q := 25) (w := 37) (w2 := 38) (w3 := 22) (i := 0) (j := 0) (ty := (.array .int)) (v' := .null) (L' := ((r0, ob1 .null .null (.long (0 : Int64))) :: (r1, ob0 (.long q3) (.long q4) (.long q2)) :: RR)) d4_22 rfl rfl rfl rfl (lay_1 Z a0 hw) (Or.inr ⟨rfl, rfl, rfl⟩) rfl (by decide) rfl rfl rfl ?_
  intro T A
  refine A.aloadN (q := 26) d4_25 rfl rfl rfl ?_
  refine A.aloadN (q := 27) d4_26 rfl rfl rfl ?_
  refine A.putF (q := 30) (w := 39) (w2 := 40) (w3 := 22) (i := 0) (j := 1) (ty := (.object "com/example/forebound/forebound/scheduler/Counts")) (v' := (.ref r1)) (L' := ((r0, ob1 .null (.ref r1) (.long (0 : Int64))) :: (r1, ob0 (.long q3) (.long q4) (.long q2)) :: RR)) d4_27 rfl rfl rfl rfl (lay_1 Z a0 hw) (Or.inr ⟨rfl, rfl, rfl⟩) rfl (by decide) rfl rfl rfl ?_
  intro T A
  refine A.aloadN (q := 31) d4_30 rfl rfl rfl ?_
  refine A.lloadN (q := 32) d4_31 rfl rfl ?_
  refine A.putF (q := 35) (w := 41) (w2 := 42) (w3 := 22) (i := 0) (j := 2) (ty := .long) (v' := (.long q2)) (L' := ((r0, ob1 .null (.ref r1) (.long q2)) :: (r1, ob0 (.long q3) (.long q4) (.long q2)) :: RR)) d4_32 rfl rfl rfl rfl (lay_1 Z a0 hw) (Or.inr ⟨rfl, rfl, rfl⟩) rfl (by decide) rfl rfl rfl ?_
  intro T A
  exact A.retV d4_35 (by decide) (by decide) ⟨rfl, rfl⟩
set_option maxRecDepth 65536 in
set_option maxHeartbeats 40000000 in
theorem rm6_5 (l : Launch) (Z : State) (a0 : Array Value) (hw : ∀ d ∈ tables_1, d.before a0 Z = true) (n0 : Nat) (r0 : Addr) (r1 : Addr) (q2 : Int64) (q3 : Int64) (q4 : Int64) (RR : Obs) :
    Triple l Z n0 (⟨"com/example/forebound/forebound/scheduler/Outcome", "assignment", "()[I"⟩ : MethodName) prog_34_method_2_code 1 (some (.array .int)) ({ frames := 0, cells := 0, slots := 0, locals := 0 } : Room) 0 0 [(.ref r0)] ((r0, ob1 .null (.ref r1) (.long q2)) :: (r1, ob0 (.long q3) (.long q4) (.long q2)) :: RR) (fun v L' => v = some .null ∧ L' = ((r0, ob1 .null (.ref r1) (.long q2)) :: (r1, ob0 (.long q3) (.long q4) (.long q2)) :: RR)) := by
  refine Triple.of_body (tbl := tables_1) (a0 := a0) (Ls := #[.val (.ref r0)]) pn_6 hw (fun m => by first | rfl | (simp [entryFrame, mkF, argsToLocals, Value.category]; done)) ?_
  intro p e s m below meth c T A
  refine A.aloadN (q := 1) d6_0 rfl rfl rfl ?_
  refine A.getF (q := 4) (w := 37) (i := 0) (j := 0) d6_1 rfl rfl rfl rfl ?_
  intro T A
  refine A.ifnonnullF (q := 7) d6_4 rfl ?_
  refine A.aconst_null (q := 8) d6_7 rfl ?_
  refine A.goto (r := 21) d6_8 (by decide) ?_
  exact A.retA d6_21 rfl rfl rfl (by decide) (by decide) ⟨rfl, rfl⟩
theorem pn_0 : plainFor (⟨"com/example/forebound/forebound/scheduler/OutcomeAssignmentPinLaw", "law", "(IIIIJ)Z"⟩ : MethodName) = true := plainFor_of_name (by first | (simp [plainName, overriddenIn]; done) | decide +kernel)
set_option maxRecDepth 65536 in
set_option maxHeartbeats 40000000 in
theorem rm0 (l : Launch) (Z : State) (a0 : Array Value) (hw : ∀ d ∈ tables_1, d.before a0 Z = true) (n0 : Nat) (x0 x1 x2 fl : Int32) (dl : Int64) :
    Triple l Z n0 x code 13 (some .boolean) room_1 24 128 [(.int x0), (.int x1), (.int x2), (.int fl), (.long dl)] [] (fun v _ => v = some (.int 1)) := by
  refine Triple.of_body (tbl := tables_1) (a0 := a0) (Ls := #[.val (.int x0), .val (.int x1), .val (.int x2), .val (.int fl), .val (.long dl), .second, .unset, .unset, .unset, .unset, .unset, .unset, .unset]) pn_0 hw (fun m => by first | rfl | (simp [entryFrame, mkF, argsToLocals, Value.category]; done)) ?_
  intro p e s m below meth c T A
  refine A.iloadN (q := 1) at_0 rfl rfl ?_
  refine A.iconst (q := 2) (v := (3 : Int32)) at_1 rfl (by decide) ?_
  obtain ⟨v1, e1⟩ : ∃ v : Int32, fl &&& (3 : Int32) = v := ⟨_, rfl⟩
  refine A.iand (q := 3) at_2 rfl e1 ?_
  refine A.istore (q := 5) (l' := #[.val (.int x0), .val (.int x1), .val (.int x2), .val (.int fl), .val (.long dl), .second, .val (.int v1), .unset, .unset, .unset, .unset, .unset, .unset]) at_3 rfl rfl ?_
  refine A.iloadN (q := 6) at_5 rfl rfl ?_
  refine A.iconst (q := 7) (v := (4 : Int32)) at_6 rfl (by decide) ?_
  obtain ⟨v2, e2⟩ : ∃ v : Int32, fl &&& (4 : Int32) = v := ⟨_, rfl⟩
  refine A.iand (q := 8) at_7 rfl e2 ?_
  refine A.if_eq (q := 11) (r := 15) at_8 rfl (by decide) (fun h3 => ?_) (fun h3 => ?_)
  · refine A.iconst (q := 16) (v := (0 : Int32)) at_15 rfl (by decide) ?_
    refine A.istore (q := 18) (l' := #[.val (.int x0), .val (.int x1), .val (.int x2), .val (.int fl), .val (.long dl), .second, .val (.int v1), .val (.int (0 : Int32)), .unset, .unset, .unset, .unset, .unset]) at_16 rfl rfl ?_
    refine A.aconst_null (q := 19) at_18 rfl ?_
    refine A.astore (q := 21) (l' := #[.val (.int x0), .val (.int x1), .val (.int x2), .val (.int fl), .val (.long dl), .second, .val (.int v1), .val (.int (0 : Int32)), .val .null, .unset, .unset, .unset, .unset]) at_19 rfl rfl rfl ?_
    refine A.iload (q := 23) at_21 rfl rfl ?_
    refine A.ifF (q := 26) at_23 rfl (by decide) ?_
    have hn : v1 = 0 ∨ v1 = 1 ∨ v1 = 2 ∨ v1 = 3 := by subst e1 e2; exact own_and3 fl
    rcases hn with rfl | rfl | rfl | rfl
    · refine A.iload (q := 28) at_26 rfl rfl ?_
      refine A.newA (q := 30) (w := 0) (cap := 0) (ty := .int) (vs := []) at_28 rfl rfl rfl (by decide) (by decide) (by decide) rfl (by decide) (by decide) ?_
      intro T b4 A
      refine A.astore (q := 32) (l' := #[.val (.int x0), .val (.int x1), .val (.int x2), .val (.int fl), .val (.long dl), .second, .val (.int (0 : Int32)), .val (.int (0 : Int32)), .val (.ref b4), .unset, .unset, .unset, .unset]) at_30 rfl rfl rfl ?_
      refine A.iload (q := 34) at_32 rfl rfl ?_
      refine A.ifT (r := 42) at_34 (by decide) (by decide) ?_
      refine A.iload (q := 44) at_42 rfl rfl ?_
      refine A.iconst (q := 45) (v := (1 : Int32)) at_44 rfl (by decide) ?_
      refine A.icmpT (r := 53) at_45 (by decide) (by decide) ?_
      refine A.iload (q := 55) at_53 rfl rfl ?_
      refine A.iconst (q := 56) (v := (2 : Int32)) at_55 rfl (by decide) ?_
      refine A.icmpT (r := 64) at_56 (by decide) (by decide) ?_
      refine A.newO (q := 67) (w1 := 1) (w2 := 2) (w3 := 3) (n := 3) (fs := [(("com/example/forebound/forebound/scheduler/Counts", "msgs", "J"), (.long (0 : Int64))), (("com/example/forebound/forebound/scheduler/Counts", "nccc", "J"), (.long (0 : Int64))), (("com/example/forebound/forebound/scheduler/Counts", "checks", "J"), (.long (0 : Int64)))]) at_64 rfl rfl rfl rfl (lay_0 Z a0 hw) (by decide) (by decide) (by decide) ?_
      intro T b5 A
      refine A.dup (q := 68) at_67 rfl rfl ?_
      refine A.iloadN (q := 69) at_68 rfl rfl ?_
      obtain ⟨v6, e6⟩ : ∃ v : Int64, x0.toInt64 = v := ⟨_, rfl⟩
      refine A.i2l (q := 70) at_69 rfl e6 ?_
      refine A.iloadN (q := 71) at_70 rfl rfl ?_
      obtain ⟨v7, e7⟩ : ∃ v : Int64, x1.toInt64 = v := ⟨_, rfl⟩
      refine A.i2l (q := 72) at_71 rfl e7 ?_
      refine A.lload (q := 74) at_72 rfl rfl ?_
      refine A.callI (q := 77) (w1 := 4) (w2 := 5) (w3 := 3) (w4 := 6) (a := b5) (as := [(.long v6), (.long v7), (.long dl)]) (st := [(.ref b5)]) (W := 1) at_74 rfl rfl rfl rfl rfl rfl (rm1_1 l Z a0 hw n0 b5 v6 v7 dl _) (by decide) ⟨_, _, pd_1, rfl⟩ rfl rfl rfl (by decide) (by decide) (by decide) (by decide) ?_
      rintro _ T _ ⟨rfl, rfl⟩ A
      show Go p e below _ (T.setTop (mkF m 77 #[.val (.int x0), .val (.int x1), .val (.int x2), .val (.int fl), .val (.long dl), .second, .val (.int (0 : Int32)), .val (.int (0 : Int32)), .val (.ref b4), .unset, .unset, .unset, .unset] [(.ref b5)]))
      refine A.astore (q := 79) (l' := #[.val (.int x0), .val (.int x1), .val (.int x2), .val (.int fl), .val (.long dl), .second, .val (.int (0 : Int32)), .val (.int (0 : Int32)), .val (.ref b4), .val (.ref b5), .unset, .unset, .unset]) at_77 rfl rfl rfl ?_
      refine A.newO (q := 82) (w1 := 21) (w2 := 22) (w3 := 23) (n := 3) (fs := [(("com/example/forebound/forebound/scheduler/Outcome", "assignment", "[I"), .null), (("com/example/forebound/forebound/scheduler/Outcome", "counts", "Lcom/example/forebound/forebound/scheduler/Counts;"), .null), (("com/example/forebound/forebound/scheduler/Outcome", "deleted", "J"), (.long (0 : Int64)))]) at_79 rfl rfl rfl rfl (lay_1 Z a0 hw) (by decide) (by decide) (by decide) ?_
      intro T b8 A
      refine A.dup (q := 83) at_82 rfl rfl ?_
      refine A.aload (q := 85) at_83 rfl rfl rfl ?_
      refine A.aload (q := 87) at_85 rfl rfl rfl ?_
      refine A.lload (q := 89) at_87 rfl rfl ?_
      have A := A.front (i := 1) rfl rfl
      have A := A.front (i := 2) rfl rfl
      have A := A.front (i := 2) (L' := [(b8, ob1 .null .null (.long (0 : Int64))), (b4, .inr (.int, [])), (b5, ob0 (.long v6) (.long v7) (.long dl))]) rfl rfl
      refine A.callI (q := 92) (w1 := 24) (w2 := 25) (w3 := 23) (w4 := 26) (a := b8) (as := [(.ref b4), (.ref b5), (.long dl)]) (st := [(.ref b8)]) (W := 1) at_89 rfl rfl rfl rfl rfl rfl (rm4_1 l Z a0 hw n0 b8 b4 b5 dl v6 v7 _) (by decide) ⟨_, _, pd_2, rfl⟩ rfl rfl rfl (by decide) (by decide) (by decide) (by decide) ?_
      rintro _ T _ ⟨b9, rfl, rfl⟩ A
      show Go p e below _ (T.setTop (mkF m 92 #[.val (.int x0), .val (.int x1), .val (.int x2), .val (.int fl), .val (.long dl), .second, .val (.int (0 : Int32)), .val (.int (0 : Int32)), .val (.ref b4), .val (.ref b5), .unset, .unset, .unset] [(.ref b8)]))
      refine A.astore (q := 94) (l' := #[.val (.int x0), .val (.int x1), .val (.int x2), .val (.int fl), .val (.long dl), .second, .val (.int (0 : Int32)), .val (.int (0 : Int32)), .val (.ref b4), .val (.ref b5), .val (.ref b8), .unset, .unset]) at_92 rfl rfl rfl ?_
      refine A.iload (q := 96) at_94 rfl rfl ?_
      refine A.ifT (r := 129) at_96 (by decide) (by decide) ?_
      refine A.aload (q := 131) at_129 rfl rfl rfl ?_
      refine A.iload (q := 133) at_131 rfl rfl ?_
      refine A.iloadN (q := 134) at_133 rfl rfl ?_
      refine A.iloadN (q := 135) at_134 rfl rfl ?_
      refine A.iloadN (q := 136) at_135 rfl rfl ?_
      have A := A.front (i := 2) (L' := [(b4, .inr (.int, [])), (b9, .inr (.int, [])), (b8, ob1 (.ref b9) (.ref b5) (.long dl)), (b5, ob0 (.long v6) (.long v7) (.long dl))]) rfl rfl
      refine A.callS (q := 139) (w1 := 43) (w2 := 44) (w3 := 45) (w4 := 46) (as := [(.ref b4), (.int (0 : Int32)), (.int x0), (.int x1), (.int x2)]) (st := []) (W := 0) at_136 rfl rfl rfl rfl rfl (rm5_1 l Z a0 hw n0 b4 x0 x1 x2 _) (by decide) ⟨_, _, pd_3, rfl⟩ rfl rfl rfl (by decide) (by decide) (by decide) (by decide) ?_
      rintro _ T _ ⟨rfl, rfl⟩ A
      show Go p e below _ (T.setTop (mkF m 139 #[.val (.int x0), .val (.int x1), .val (.int x2), .val (.int fl), .val (.long dl), .second, .val (.int (0 : Int32)), .val (.int (0 : Int32)), .val (.ref b4), .val (.ref b5), .val (.ref b8), .unset, .unset] []))
      refine A.aload (q := 141) at_139 rfl rfl rfl ?_
      have A := A.front (i := 3) rfl rfl
      have A := A.front (i := 2) rfl rfl
      have A := A.front (i := 3) (L' := [(b8, ob1 (.ref b9) (.ref b5) (.long dl)), (b9, .inr (.int, [])), (b5, ob0 (.long v6) (.long v7) (.long dl)), (b4, .inr (.int, []))]) rfl rfl
      refine A.callV (q := 144) (i := 0) (w1 := 47) (w2 := 48) (w3 := 23) (w4 := 51) (w5 := 50) (w6 := 49) (a := b8) (as := []) (st := []) (W := 0) at_141 rfl rfl rfl rfl rfl rfl rfl rfl (rm6_1 l Z a0 hw n0 b8 b9 b5 dl v6 v7 _) (by decide) ⟨_, _, pd_4, rfl⟩ rfl rfl rfl (by decide) (by decide) (by decide) (by decide) ?_
      rintro _ T _ ⟨b10, rfl, rfl⟩ A
      show Go p e below _ (T.setTop (mkF m 144 #[.val (.int x0), .val (.int x1), .val (.int x2), .val (.int fl), .val (.long dl), .second, .val (.int (0 : Int32)), .val (.int (0 : Int32)), .val (.ref b4), .val (.ref b5), .val (.ref b8), .unset, .unset] [(.ref b10)]))
      refine A.astore (q := 146) (l' := #[.val (.int x0), .val (.int x1), .val (.int x2), .val (.int fl), .val (.long dl), .second, .val (.int (0 : Int32)), .val (.int (0 : Int32)), .val (.ref b4), .val (.ref b5), .val (.ref b8), .val (.ref b10), .unset]) at_144 rfl rfl rfl ?_
      refine A.aload (q := 148) at_146 rfl rfl rfl ?_
      refine A.aload (q := 150) at_148 rfl rfl rfl ?_
      refine A.acmp (r := 155) (same := false) at_150 rfl rfl (decide_eq_false fun q => A.ne (i := 0) (j := 4) rfl rfl (by decide) (Value.ref.inj q)) (by decide) (by decide) ?_
      refine A.aload (q := 157) at_155 rfl rfl rfl ?_
      refine A.iload (q := 159) at_157 rfl rfl ?_
      refine A.iloadN (q := 160) at_159 rfl rfl ?_
      refine A.iloadN (q := 161) at_160 rfl rfl ?_
      refine A.iloadN (q := 162) at_161 rfl rfl ?_
      refine A.callS (q := 165) (w1 := 52) (w2 := 53) (w3 := 45) (w4 := 54) (as := [(.ref b10), (.int (0 : Int32)), (.int x0), (.int x1), (.int x2)]) (st := []) (W := 0) at_162 rfl rfl rfl rfl rfl (rm7_1 l Z a0 hw n0 b10 x0 x1 x2 _) (by decide) ⟨_, _, pd_5, rfl⟩ rfl rfl rfl (by decide) (by decide) (by decide) (by decide) ?_
      rintro _ T _ ⟨rfl, rfl⟩ A
      show Go p e below _ (T.setTop (mkF m 165 #[.val (.int x0), .val (.int x1), .val (.int x2), .val (.int fl), .val (.long dl), .second, .val (.int (0 : Int32)), .val (.int (0 : Int32)), .val (.ref b4), .val (.ref b5), .val (.ref b8), .val (.ref b10), .unset] [(.int (1 : Int32))]))
      refine A.ifT (r := 170) at_165 (by decide) (by decide) ?_
      refine A.aload (q := 172) at_170 rfl rfl rfl ?_
      refine A.iload (q := 174) at_172 rfl rfl ?_
      refine A.iloadN (q := 175) at_174 rfl rfl ?_
      refine A.iloadN (q := 176) at_175 rfl rfl ?_
      refine A.iloadN (q := 177) at_176 rfl rfl ?_
      refine A.callS (q := 180) (w1 := 43) (w2 := 44) (w3 := 45) (w4 := 46) (as := [(.ref b10), (.int (0 : Int32)), (.int x0), (.int x1), (.int x2)]) (st := []) (W := 0) at_177 rfl rfl rfl rfl rfl (rm5_1 l Z a0 hw n0 b10 x0 x1 x2 _) (by decide) ⟨_, _, pd_3, rfl⟩ rfl rfl rfl (by decide) (by decide) (by decide) (by decide) ?_
      rintro _ T _ ⟨rfl, rfl⟩ A
      show Go p e below _ (T.setTop (mkF m 180 #[.val (.int x0), .val (.int x1), .val (.int x2), .val (.int fl), .val (.long dl), .second, .val (.int (0 : Int32)), .val (.int (0 : Int32)), .val (.ref b4), .val (.ref b5), .val (.ref b8), .val (.ref b10), .unset] []))
      refine A.aload (q := 182) at_180 rfl rfl rfl ?_
      have A := A.front (i := 3) rfl rfl
      have A := A.front (i := 3) rfl rfl
      have A := A.front (i := 3) (L' := [(b8, ob1 (.ref b9) (.ref b5) (.long dl)), (b9, .inr (.int, [])), (b5, ob0 (.long v6) (.long v7) (.long dl)), (b10, .inr (.int, [])), (b4, .inr (.int, []))]) rfl rfl
      refine A.callV (q := 185) (i := 0) (w1 := 47) (w2 := 48) (w3 := 23) (w4 := 51) (w5 := 50) (w6 := 49) (a := b8) (as := []) (st := []) (W := 0) at_182 rfl rfl rfl rfl rfl rfl rfl rfl (rm6_1 l Z a0 hw n0 b8 b9 b5 dl v6 v7 _) (by decide) ⟨_, _, pd_4, rfl⟩ rfl rfl rfl (by decide) (by decide) (by decide) (by decide) ?_
      rintro _ T _ ⟨b11, rfl, rfl⟩ A
      show Go p e below _ (T.setTop (mkF m 185 #[.val (.int x0), .val (.int x1), .val (.int x2), .val (.int fl), .val (.long dl), .second, .val (.int (0 : Int32)), .val (.int (0 : Int32)), .val (.ref b4), .val (.ref b5), .val (.ref b8), .val (.ref b10), .unset] [(.ref b11)]))
      refine A.astore (q := 187) (l' := #[.val (.int x0), .val (.int x1), .val (.int x2), .val (.int fl), .val (.long dl), .second, .val (.int (0 : Int32)), .val (.int (0 : Int32)), .val (.ref b4), .val (.ref b5), .val (.ref b8), .val (.ref b10), .val (.ref b11)]) at_185 rfl rfl rfl ?_
      refine A.aload (q := 189) at_187 rfl rfl rfl ?_
      refine A.aload (q := 191) at_189 rfl rfl rfl ?_
      refine A.acmp (r := 194) (same := false) at_191 rfl rfl (decide_eq_false fun q => A.ne (i := 0) (j := 4) rfl rfl (by decide) (Value.ref.inj q)) (by decide) (by decide) ?_
      refine A.aload (q := 196) at_194 rfl rfl rfl ?_
      refine A.aload (q := 198) at_196 rfl rfl rfl ?_
      refine A.acmp (r := 203) (same := false) at_198 rfl rfl (decide_eq_false fun q => A.ne (i := 0) (j := 5) rfl rfl (by decide) (Value.ref.inj q)) (by decide) (by decide) ?_
      refine A.aload (q := 205) at_203 rfl rfl rfl ?_
      refine A.iload (q := 207) at_205 rfl rfl ?_
      refine A.iloadN (q := 208) at_207 rfl rfl ?_
      refine A.iloadN (q := 209) at_208 rfl rfl ?_
      refine A.iloadN (q := 210) at_209 rfl rfl ?_
      refine A.callS (q := 213) (w1 := 52) (w2 := 53) (w3 := 45) (w4 := 54) (as := [(.ref b11), (.int (0 : Int32)), (.int x0), (.int x1), (.int x2)]) (st := []) (W := 0) at_210 rfl rfl rfl rfl rfl (rm7_1 l Z a0 hw n0 b11 x0 x1 x2 _) (by decide) ⟨_, _, pd_5, rfl⟩ rfl rfl rfl (by decide) (by decide) (by decide) (by decide) ?_
      rintro _ T _ ⟨rfl, rfl⟩ A
      show Go p e below _ (T.setTop (mkF m 213 #[.val (.int x0), .val (.int x1), .val (.int x2), .val (.int fl), .val (.long dl), .second, .val (.int (0 : Int32)), .val (.int (0 : Int32)), .val (.ref b4), .val (.ref b5), .val (.ref b8), .val (.ref b10), .val (.ref b11)] [(.int (1 : Int32))]))
      exact A.retZ (v := 1) at_213 (by decide) (by decide) (by decide) rfl
    · refine A.iload (q := 28) at_26 rfl rfl ?_
      refine A.newA (q := 30) (w := 0) (cap := 1) (ty := .int) (vs := [(.int (0 : Int32))]) at_28 rfl rfl rfl (by decide) (by decide) (by decide) rfl (by decide) (by decide) ?_
      intro T b12 A
      refine A.astore (q := 32) (l' := #[.val (.int x0), .val (.int x1), .val (.int x2), .val (.int fl), .val (.long dl), .second, .val (.int (1 : Int32)), .val (.int (0 : Int32)), .val (.ref b12), .unset, .unset, .unset, .unset]) at_30 rfl rfl rfl ?_
      refine A.iload (q := 34) at_32 rfl rfl ?_
      refine A.ifF (q := 37) at_34 rfl (by decide) ?_
      refine A.aload (q := 39) at_37 rfl rfl rfl ?_
      refine A.iconst (q := 40) (v := (0 : Int32)) at_39 rfl (by decide) ?_
      refine A.iloadN (q := 41) at_40 rfl rfl ?_
      refine A.iastore (q := 42) (i := 0) (x' := x0) (L' := [(b12, .inr (.int, [(.int x0)]))]) at_41 rfl rfl (by decide) (by show Int32.toNatClampNeg (0 : Int32) < 1; decide) rfl rfl ?_
      intro T A
      refine A.iload (q := 44) at_42 rfl rfl ?_
      refine A.iconst (q := 45) (v := (1 : Int32)) at_44 rfl (by decide) ?_
      refine A.icmpT (r := 53) at_45 (by decide) (by decide) ?_
      refine A.iload (q := 55) at_53 rfl rfl ?_
      refine A.iconst (q := 56) (v := (2 : Int32)) at_55 rfl (by decide) ?_
      refine A.icmpT (r := 64) at_56 (by decide) (by decide) ?_
      refine A.newO (q := 67) (w1 := 1) (w2 := 2) (w3 := 3) (n := 3) (fs := [(("com/example/forebound/forebound/scheduler/Counts", "msgs", "J"), (.long (0 : Int64))), (("com/example/forebound/forebound/scheduler/Counts", "nccc", "J"), (.long (0 : Int64))), (("com/example/forebound/forebound/scheduler/Counts", "checks", "J"), (.long (0 : Int64)))]) at_64 rfl rfl rfl rfl (lay_0 Z a0 hw) (by decide) (by decide) (by decide) ?_
      intro T b13 A
      refine A.dup (q := 68) at_67 rfl rfl ?_
      refine A.iloadN (q := 69) at_68 rfl rfl ?_
      obtain ⟨v14, e14⟩ : ∃ v : Int64, x0.toInt64 = v := ⟨_, rfl⟩
      refine A.i2l (q := 70) at_69 rfl e14 ?_
      refine A.iloadN (q := 71) at_70 rfl rfl ?_
      obtain ⟨v15, e15⟩ : ∃ v : Int64, x1.toInt64 = v := ⟨_, rfl⟩
      refine A.i2l (q := 72) at_71 rfl e15 ?_
      refine A.lload (q := 74) at_72 rfl rfl ?_
      refine A.callI (q := 77) (w1 := 4) (w2 := 5) (w3 := 3) (w4 := 6) (a := b13) (as := [(.long v14), (.long v15), (.long dl)]) (st := [(.ref b13)]) (W := 1) at_74 rfl rfl rfl rfl rfl rfl (rm1_1 l Z a0 hw n0 b13 v14 v15 dl _) (by decide) ⟨_, _, pd_1, rfl⟩ rfl rfl rfl (by decide) (by decide) (by decide) (by decide) ?_
      rintro _ T _ ⟨rfl, rfl⟩ A
      show Go p e below _ (T.setTop (mkF m 77 #[.val (.int x0), .val (.int x1), .val (.int x2), .val (.int fl), .val (.long dl), .second, .val (.int (1 : Int32)), .val (.int (0 : Int32)), .val (.ref b12), .unset, .unset, .unset, .unset] [(.ref b13)]))
      refine A.astore (q := 79) (l' := #[.val (.int x0), .val (.int x1), .val (.int x2), .val (.int fl), .val (.long dl), .second, .val (.int (1 : Int32)), .val (.int (0 : Int32)), .val (.ref b12), .val (.ref b13), .unset, .unset, .unset]) at_77 rfl rfl rfl ?_
      refine A.newO (q := 82) (w1 := 21) (w2 := 22) (w3 := 23) (n := 3) (fs := [(("com/example/forebound/forebound/scheduler/Outcome", "assignment", "[I"), .null), (("com/example/forebound/forebound/scheduler/Outcome", "counts", "Lcom/example/forebound/forebound/scheduler/Counts;"), .null), (("com/example/forebound/forebound/scheduler/Outcome", "deleted", "J"), (.long (0 : Int64)))]) at_79 rfl rfl rfl rfl (lay_1 Z a0 hw) (by decide) (by decide) (by decide) ?_
      intro T b16 A
      refine A.dup (q := 83) at_82 rfl rfl ?_
      refine A.aload (q := 85) at_83 rfl rfl rfl ?_
      refine A.aload (q := 87) at_85 rfl rfl rfl ?_
      refine A.lload (q := 89) at_87 rfl rfl ?_
      have A := A.front (i := 1) rfl rfl
      have A := A.front (i := 2) rfl rfl
      have A := A.front (i := 2) (L' := [(b16, ob1 .null .null (.long (0 : Int64))), (b12, .inr (.int, [(.int x0)])), (b13, ob0 (.long v14) (.long v15) (.long dl))]) rfl rfl
      refine A.callI (q := 92) (w1 := 24) (w2 := 25) (w3 := 23) (w4 := 26) (a := b16) (as := [(.ref b12), (.ref b13), (.long dl)]) (st := [(.ref b16)]) (W := 1) at_89 rfl rfl rfl rfl rfl rfl (rm4_2 l Z a0 hw n0 b16 b12 b13 dl x0 v14 v15 _) (by decide) ⟨_, _, pd_2, rfl⟩ rfl rfl rfl (by decide) (by decide) (by decide) (by decide) ?_
      rintro _ T _ ⟨b17, rfl, rfl⟩ A
      show Go p e below _ (T.setTop (mkF m 92 #[.val (.int x0), .val (.int x1), .val (.int x2), .val (.int fl), .val (.long dl), .second, .val (.int (1 : Int32)), .val (.int (0 : Int32)), .val (.ref b12), .val (.ref b13), .unset, .unset, .unset] [(.ref b16)]))
      refine A.astore (q := 94) (l' := #[.val (.int x0), .val (.int x1), .val (.int x2), .val (.int fl), .val (.long dl), .second, .val (.int (1 : Int32)), .val (.int (0 : Int32)), .val (.ref b12), .val (.ref b13), .val (.ref b16), .unset, .unset]) at_92 rfl rfl rfl ?_
      refine A.iload (q := 96) at_94 rfl rfl ?_
      refine A.ifT (r := 129) at_96 (by decide) (by decide) ?_
      refine A.aload (q := 131) at_129 rfl rfl rfl ?_
      refine A.iload (q := 133) at_131 rfl rfl ?_
      refine A.iloadN (q := 134) at_133 rfl rfl ?_
      refine A.iloadN (q := 135) at_134 rfl rfl ?_
      refine A.iloadN (q := 136) at_135 rfl rfl ?_
      have A := A.front (i := 2) (L' := [(b12, .inr (.int, [(.int x0)])), (b17, .inr (.int, [(.int x0)])), (b16, ob1 (.ref b17) (.ref b13) (.long dl)), (b13, ob0 (.long v14) (.long v15) (.long dl))]) rfl rfl
      refine A.callS (q := 139) (w1 := 43) (w2 := 44) (w3 := 45) (w4 := 46) (as := [(.ref b12), (.int (1 : Int32)), (.int x0), (.int x1), (.int x2)]) (st := []) (W := 0) at_136 rfl rfl rfl rfl rfl (rm5_2 l Z a0 hw n0 b12 x0 x1 x2 _) (by decide) ⟨_, _, pd_3, rfl⟩ rfl rfl rfl (by decide) (by decide) (by decide) (by decide) ?_
      rintro _ T _ ⟨rfl, rfl⟩ A
      show Go p e below _ (T.setTop (mkF m 139 #[.val (.int x0), .val (.int x1), .val (.int x2), .val (.int fl), .val (.long dl), .second, .val (.int (1 : Int32)), .val (.int (0 : Int32)), .val (.ref b12), .val (.ref b13), .val (.ref b16), .unset, .unset] []))
      refine A.aload (q := 141) at_139 rfl rfl rfl ?_
      have A := A.front (i := 3) rfl rfl
      have A := A.front (i := 2) rfl rfl
      have A := A.front (i := 3) (L' := [(b16, ob1 (.ref b17) (.ref b13) (.long dl)), (b17, .inr (.int, [(.int x0)])), (b13, ob0 (.long v14) (.long v15) (.long dl)), (b12, .inr (.int, [(.int (x0 ^^^ (-1 : Int32)))]))]) rfl rfl
      refine A.callV (q := 144) (i := 0) (w1 := 47) (w2 := 48) (w3 := 23) (w4 := 51) (w5 := 50) (w6 := 49) (a := b16) (as := []) (st := []) (W := 0) at_141 rfl rfl rfl rfl rfl rfl rfl rfl (rm6_2 l Z a0 hw n0 b16 b17 b13 dl x0 v14 v15 _) (by decide) ⟨_, _, pd_4, rfl⟩ rfl rfl rfl (by decide) (by decide) (by decide) (by decide) ?_
      rintro _ T _ ⟨b18, rfl, rfl⟩ A
      show Go p e below _ (T.setTop (mkF m 144 #[.val (.int x0), .val (.int x1), .val (.int x2), .val (.int fl), .val (.long dl), .second, .val (.int (1 : Int32)), .val (.int (0 : Int32)), .val (.ref b12), .val (.ref b13), .val (.ref b16), .unset, .unset] [(.ref b18)]))
      refine A.astore (q := 146) (l' := #[.val (.int x0), .val (.int x1), .val (.int x2), .val (.int fl), .val (.long dl), .second, .val (.int (1 : Int32)), .val (.int (0 : Int32)), .val (.ref b12), .val (.ref b13), .val (.ref b16), .val (.ref b18), .unset]) at_144 rfl rfl rfl ?_
      refine A.aload (q := 148) at_146 rfl rfl rfl ?_
      refine A.aload (q := 150) at_148 rfl rfl rfl ?_
      refine A.acmp (r := 155) (same := false) at_150 rfl rfl (decide_eq_false fun q => A.ne (i := 0) (j := 4) rfl rfl (by decide) (Value.ref.inj q)) (by decide) (by decide) ?_
      refine A.aload (q := 157) at_155 rfl rfl rfl ?_
      refine A.iload (q := 159) at_157 rfl rfl ?_
      refine A.iloadN (q := 160) at_159 rfl rfl ?_
      refine A.iloadN (q := 161) at_160 rfl rfl ?_
      refine A.iloadN (q := 162) at_161 rfl rfl ?_
      refine A.callS (q := 165) (w1 := 52) (w2 := 53) (w3 := 45) (w4 := 54) (as := [(.ref b18), (.int (1 : Int32)), (.int x0), (.int x1), (.int x2)]) (st := []) (W := 0) at_162 rfl rfl rfl rfl rfl (rm7_2 l Z a0 hw n0 b18 x0 x1 x2 _) (by decide) ⟨_, _, pd_5, rfl⟩ rfl rfl rfl (by decide) (by decide) (by decide) (by decide) ?_
      rintro _ T _ ⟨rfl, rfl⟩ A
      show Go p e below _ (T.setTop (mkF m 165 #[.val (.int x0), .val (.int x1), .val (.int x2), .val (.int fl), .val (.long dl), .second, .val (.int (1 : Int32)), .val (.int (0 : Int32)), .val (.ref b12), .val (.ref b13), .val (.ref b16), .val (.ref b18), .unset] [(.int (1 : Int32))]))
      refine A.ifT (r := 170) at_165 (by decide) (by decide) ?_
      refine A.aload (q := 172) at_170 rfl rfl rfl ?_
      refine A.iload (q := 174) at_172 rfl rfl ?_
      refine A.iloadN (q := 175) at_174 rfl rfl ?_
      refine A.iloadN (q := 176) at_175 rfl rfl ?_
      refine A.iloadN (q := 177) at_176 rfl rfl ?_
      refine A.callS (q := 180) (w1 := 43) (w2 := 44) (w3 := 45) (w4 := 46) (as := [(.ref b18), (.int (1 : Int32)), (.int x0), (.int x1), (.int x2)]) (st := []) (W := 0) at_177 rfl rfl rfl rfl rfl (rm5_2 l Z a0 hw n0 b18 x0 x1 x2 _) (by decide) ⟨_, _, pd_3, rfl⟩ rfl rfl rfl (by decide) (by decide) (by decide) (by decide) ?_
      rintro _ T _ ⟨rfl, rfl⟩ A
      show Go p e below _ (T.setTop (mkF m 180 #[.val (.int x0), .val (.int x1), .val (.int x2), .val (.int fl), .val (.long dl), .second, .val (.int (1 : Int32)), .val (.int (0 : Int32)), .val (.ref b12), .val (.ref b13), .val (.ref b16), .val (.ref b18), .unset] []))
      refine A.aload (q := 182) at_180 rfl rfl rfl ?_
      have A := A.front (i := 3) rfl rfl
      have A := A.front (i := 3) rfl rfl
      have A := A.front (i := 3) (L' := [(b16, ob1 (.ref b17) (.ref b13) (.long dl)), (b17, .inr (.int, [(.int x0)])), (b13, ob0 (.long v14) (.long v15) (.long dl)), (b18, .inr (.int, [(.int (x0 ^^^ (-1 : Int32)))])), (b12, .inr (.int, [(.int (x0 ^^^ (-1 : Int32)))]))]) rfl rfl
      refine A.callV (q := 185) (i := 0) (w1 := 47) (w2 := 48) (w3 := 23) (w4 := 51) (w5 := 50) (w6 := 49) (a := b16) (as := []) (st := []) (W := 0) at_182 rfl rfl rfl rfl rfl rfl rfl rfl (rm6_2 l Z a0 hw n0 b16 b17 b13 dl x0 v14 v15 _) (by decide) ⟨_, _, pd_4, rfl⟩ rfl rfl rfl (by decide) (by decide) (by decide) (by decide) ?_
      rintro _ T _ ⟨b19, rfl, rfl⟩ A
      show Go p e below _ (T.setTop (mkF m 185 #[.val (.int x0), .val (.int x1), .val (.int x2), .val (.int fl), .val (.long dl), .second, .val (.int (1 : Int32)), .val (.int (0 : Int32)), .val (.ref b12), .val (.ref b13), .val (.ref b16), .val (.ref b18), .unset] [(.ref b19)]))
      refine A.astore (q := 187) (l' := #[.val (.int x0), .val (.int x1), .val (.int x2), .val (.int fl), .val (.long dl), .second, .val (.int (1 : Int32)), .val (.int (0 : Int32)), .val (.ref b12), .val (.ref b13), .val (.ref b16), .val (.ref b18), .val (.ref b19)]) at_185 rfl rfl rfl ?_
      refine A.aload (q := 189) at_187 rfl rfl rfl ?_
      refine A.aload (q := 191) at_189 rfl rfl rfl ?_
      refine A.acmp (r := 194) (same := false) at_191 rfl rfl (decide_eq_false fun q => A.ne (i := 0) (j := 4) rfl rfl (by decide) (Value.ref.inj q)) (by decide) (by decide) ?_
      refine A.aload (q := 196) at_194 rfl rfl rfl ?_
      refine A.aload (q := 198) at_196 rfl rfl rfl ?_
      refine A.acmp (r := 203) (same := false) at_198 rfl rfl (decide_eq_false fun q => A.ne (i := 0) (j := 5) rfl rfl (by decide) (Value.ref.inj q)) (by decide) (by decide) ?_
      refine A.aload (q := 205) at_203 rfl rfl rfl ?_
      refine A.iload (q := 207) at_205 rfl rfl ?_
      refine A.iloadN (q := 208) at_207 rfl rfl ?_
      refine A.iloadN (q := 209) at_208 rfl rfl ?_
      refine A.iloadN (q := 210) at_209 rfl rfl ?_
      refine A.callS (q := 213) (w1 := 52) (w2 := 53) (w3 := 45) (w4 := 54) (as := [(.ref b19), (.int (1 : Int32)), (.int x0), (.int x1), (.int x2)]) (st := []) (W := 0) at_210 rfl rfl rfl rfl rfl (rm7_2 l Z a0 hw n0 b19 x0 x1 x2 _) (by decide) ⟨_, _, pd_5, rfl⟩ rfl rfl rfl (by decide) (by decide) (by decide) (by decide) ?_
      rintro _ T _ ⟨rfl, rfl⟩ A
      show Go p e below _ (T.setTop (mkF m 213 #[.val (.int x0), .val (.int x1), .val (.int x2), .val (.int fl), .val (.long dl), .second, .val (.int (1 : Int32)), .val (.int (0 : Int32)), .val (.ref b12), .val (.ref b13), .val (.ref b16), .val (.ref b18), .val (.ref b19)] [(.int (1 : Int32))]))
      exact A.retZ (v := 1) at_213 (by decide) (by decide) (by decide) rfl
    · refine A.iload (q := 28) at_26 rfl rfl ?_
      refine A.newA (q := 30) (w := 0) (cap := 2) (ty := .int) (vs := [(.int (0 : Int32)), (.int (0 : Int32))]) at_28 rfl rfl rfl (by decide) (by decide) (by decide) rfl (by decide) (by decide) ?_
      intro T b20 A
      refine A.astore (q := 32) (l' := #[.val (.int x0), .val (.int x1), .val (.int x2), .val (.int fl), .val (.long dl), .second, .val (.int (2 : Int32)), .val (.int (0 : Int32)), .val (.ref b20), .unset, .unset, .unset, .unset]) at_30 rfl rfl rfl ?_
      refine A.iload (q := 34) at_32 rfl rfl ?_
      refine A.ifF (q := 37) at_34 rfl (by decide) ?_
      refine A.aload (q := 39) at_37 rfl rfl rfl ?_
      refine A.iconst (q := 40) (v := (0 : Int32)) at_39 rfl (by decide) ?_
      refine A.iloadN (q := 41) at_40 rfl rfl ?_
      refine A.iastore (q := 42) (i := 0) (x' := x0) (L' := [(b20, .inr (.int, [(.int x0), (.int (0 : Int32))]))]) at_41 rfl rfl (by decide) (by show Int32.toNatClampNeg (0 : Int32) < 2; decide) rfl rfl ?_
      intro T A
      refine A.iload (q := 44) at_42 rfl rfl ?_
      refine A.iconst (q := 45) (v := (1 : Int32)) at_44 rfl (by decide) ?_
      refine A.icmpF (q := 48) at_45 rfl (by decide) ?_
      refine A.aload (q := 50) at_48 rfl rfl rfl ?_
      refine A.iconst (q := 51) (v := (1 : Int32)) at_50 rfl (by decide) ?_
      refine A.iloadN (q := 52) at_51 rfl rfl ?_
      refine A.iastore (q := 53) (i := 0) (x' := x1) (L' := [(b20, .inr (.int, [(.int x0), (.int x1)]))]) at_52 rfl rfl (by decide) (by show Int32.toNatClampNeg (1 : Int32) < 2; decide) rfl rfl ?_
      intro T A
      refine A.iload (q := 55) at_53 rfl rfl ?_
      refine A.iconst (q := 56) (v := (2 : Int32)) at_55 rfl (by decide) ?_
      refine A.icmpT (r := 64) at_56 (by decide) (by decide) ?_
      refine A.newO (q := 67) (w1 := 1) (w2 := 2) (w3 := 3) (n := 3) (fs := [(("com/example/forebound/forebound/scheduler/Counts", "msgs", "J"), (.long (0 : Int64))), (("com/example/forebound/forebound/scheduler/Counts", "nccc", "J"), (.long (0 : Int64))), (("com/example/forebound/forebound/scheduler/Counts", "checks", "J"), (.long (0 : Int64)))]) at_64 rfl rfl rfl rfl (lay_0 Z a0 hw) (by decide) (by decide) (by decide) ?_
      intro T b21 A
      refine A.dup (q := 68) at_67 rfl rfl ?_
      refine A.iloadN (q := 69) at_68 rfl rfl ?_
      obtain ⟨v22, e22⟩ : ∃ v : Int64, x0.toInt64 = v := ⟨_, rfl⟩
      refine A.i2l (q := 70) at_69 rfl e22 ?_
      refine A.iloadN (q := 71) at_70 rfl rfl ?_
      obtain ⟨v23, e23⟩ : ∃ v : Int64, x1.toInt64 = v := ⟨_, rfl⟩
      refine A.i2l (q := 72) at_71 rfl e23 ?_
      refine A.lload (q := 74) at_72 rfl rfl ?_
      refine A.callI (q := 77) (w1 := 4) (w2 := 5) (w3 := 3) (w4 := 6) (a := b21) (as := [(.long v22), (.long v23), (.long dl)]) (st := [(.ref b21)]) (W := 1) at_74 rfl rfl rfl rfl rfl rfl (rm1_1 l Z a0 hw n0 b21 v22 v23 dl _) (by decide) ⟨_, _, pd_1, rfl⟩ rfl rfl rfl (by decide) (by decide) (by decide) (by decide) ?_
      rintro _ T _ ⟨rfl, rfl⟩ A
      show Go p e below _ (T.setTop (mkF m 77 #[.val (.int x0), .val (.int x1), .val (.int x2), .val (.int fl), .val (.long dl), .second, .val (.int (2 : Int32)), .val (.int (0 : Int32)), .val (.ref b20), .unset, .unset, .unset, .unset] [(.ref b21)]))
      refine A.astore (q := 79) (l' := #[.val (.int x0), .val (.int x1), .val (.int x2), .val (.int fl), .val (.long dl), .second, .val (.int (2 : Int32)), .val (.int (0 : Int32)), .val (.ref b20), .val (.ref b21), .unset, .unset, .unset]) at_77 rfl rfl rfl ?_
      refine A.newO (q := 82) (w1 := 21) (w2 := 22) (w3 := 23) (n := 3) (fs := [(("com/example/forebound/forebound/scheduler/Outcome", "assignment", "[I"), .null), (("com/example/forebound/forebound/scheduler/Outcome", "counts", "Lcom/example/forebound/forebound/scheduler/Counts;"), .null), (("com/example/forebound/forebound/scheduler/Outcome", "deleted", "J"), (.long (0 : Int64)))]) at_79 rfl rfl rfl rfl (lay_1 Z a0 hw) (by decide) (by decide) (by decide) ?_
      intro T b24 A
      refine A.dup (q := 83) at_82 rfl rfl ?_
      refine A.aload (q := 85) at_83 rfl rfl rfl ?_
      refine A.aload (q := 87) at_85 rfl rfl rfl ?_
      refine A.lload (q := 89) at_87 rfl rfl ?_
      have A := A.front (i := 1) rfl rfl
      have A := A.front (i := 2) rfl rfl
      have A := A.front (i := 2) (L' := [(b24, ob1 .null .null (.long (0 : Int64))), (b20, .inr (.int, [(.int x0), (.int x1)])), (b21, ob0 (.long v22) (.long v23) (.long dl))]) rfl rfl
      refine A.callI (q := 92) (w1 := 24) (w2 := 25) (w3 := 23) (w4 := 26) (a := b24) (as := [(.ref b20), (.ref b21), (.long dl)]) (st := [(.ref b24)]) (W := 1) at_89 rfl rfl rfl rfl rfl rfl (rm4_3 l Z a0 hw n0 b24 b20 b21 dl x0 x1 v22 v23 _) (by decide) ⟨_, _, pd_2, rfl⟩ rfl rfl rfl (by decide) (by decide) (by decide) (by decide) ?_
      rintro _ T _ ⟨b25, rfl, rfl⟩ A
      show Go p e below _ (T.setTop (mkF m 92 #[.val (.int x0), .val (.int x1), .val (.int x2), .val (.int fl), .val (.long dl), .second, .val (.int (2 : Int32)), .val (.int (0 : Int32)), .val (.ref b20), .val (.ref b21), .unset, .unset, .unset] [(.ref b24)]))
      refine A.astore (q := 94) (l' := #[.val (.int x0), .val (.int x1), .val (.int x2), .val (.int fl), .val (.long dl), .second, .val (.int (2 : Int32)), .val (.int (0 : Int32)), .val (.ref b20), .val (.ref b21), .val (.ref b24), .unset, .unset]) at_92 rfl rfl rfl ?_
      refine A.iload (q := 96) at_94 rfl rfl ?_
      refine A.ifT (r := 129) at_96 (by decide) (by decide) ?_
      refine A.aload (q := 131) at_129 rfl rfl rfl ?_
      refine A.iload (q := 133) at_131 rfl rfl ?_
      refine A.iloadN (q := 134) at_133 rfl rfl ?_
      refine A.iloadN (q := 135) at_134 rfl rfl ?_
      refine A.iloadN (q := 136) at_135 rfl rfl ?_
      have A := A.front (i := 2) (L' := [(b20, .inr (.int, [(.int x0), (.int x1)])), (b25, .inr (.int, [(.int x0), (.int x1)])), (b24, ob1 (.ref b25) (.ref b21) (.long dl)), (b21, ob0 (.long v22) (.long v23) (.long dl))]) rfl rfl
      refine A.callS (q := 139) (w1 := 43) (w2 := 44) (w3 := 45) (w4 := 46) (as := [(.ref b20), (.int (2 : Int32)), (.int x0), (.int x1), (.int x2)]) (st := []) (W := 0) at_136 rfl rfl rfl rfl rfl (rm5_3 l Z a0 hw n0 b20 x0 x1 x2 _) (by decide) ⟨_, _, pd_3, rfl⟩ rfl rfl rfl (by decide) (by decide) (by decide) (by decide) ?_
      rintro _ T _ ⟨rfl, rfl⟩ A
      show Go p e below _ (T.setTop (mkF m 139 #[.val (.int x0), .val (.int x1), .val (.int x2), .val (.int fl), .val (.long dl), .second, .val (.int (2 : Int32)), .val (.int (0 : Int32)), .val (.ref b20), .val (.ref b21), .val (.ref b24), .unset, .unset] []))
      refine A.aload (q := 141) at_139 rfl rfl rfl ?_
      have A := A.front (i := 3) rfl rfl
      have A := A.front (i := 2) rfl rfl
      have A := A.front (i := 3) (L' := [(b24, ob1 (.ref b25) (.ref b21) (.long dl)), (b25, .inr (.int, [(.int x0), (.int x1)])), (b21, ob0 (.long v22) (.long v23) (.long dl)), (b20, .inr (.int, [(.int (x0 ^^^ (-1 : Int32))), (.int (x1 ^^^ (-1 : Int32)))]))]) rfl rfl
      refine A.callV (q := 144) (i := 0) (w1 := 47) (w2 := 48) (w3 := 23) (w4 := 51) (w5 := 50) (w6 := 49) (a := b24) (as := []) (st := []) (W := 0) at_141 rfl rfl rfl rfl rfl rfl rfl rfl (rm6_3 l Z a0 hw n0 b24 b25 b21 dl x0 x1 v22 v23 _) (by decide) ⟨_, _, pd_4, rfl⟩ rfl rfl rfl (by decide) (by decide) (by decide) (by decide) ?_
      rintro _ T _ ⟨b26, rfl, rfl⟩ A
      show Go p e below _ (T.setTop (mkF m 144 #[.val (.int x0), .val (.int x1), .val (.int x2), .val (.int fl), .val (.long dl), .second, .val (.int (2 : Int32)), .val (.int (0 : Int32)), .val (.ref b20), .val (.ref b21), .val (.ref b24), .unset, .unset] [(.ref b26)]))
      refine A.astore (q := 146) (l' := #[.val (.int x0), .val (.int x1), .val (.int x2), .val (.int fl), .val (.long dl), .second, .val (.int (2 : Int32)), .val (.int (0 : Int32)), .val (.ref b20), .val (.ref b21), .val (.ref b24), .val (.ref b26), .unset]) at_144 rfl rfl rfl ?_
      refine A.aload (q := 148) at_146 rfl rfl rfl ?_
      refine A.aload (q := 150) at_148 rfl rfl rfl ?_
      refine A.acmp (r := 155) (same := false) at_150 rfl rfl (decide_eq_false fun q => A.ne (i := 0) (j := 4) rfl rfl (by decide) (Value.ref.inj q)) (by decide) (by decide) ?_
      refine A.aload (q := 157) at_155 rfl rfl rfl ?_
      refine A.iload (q := 159) at_157 rfl rfl ?_
      refine A.iloadN (q := 160) at_159 rfl rfl ?_
      refine A.iloadN (q := 161) at_160 rfl rfl ?_
      refine A.iloadN (q := 162) at_161 rfl rfl ?_
      refine A.callS (q := 165) (w1 := 52) (w2 := 53) (w3 := 45) (w4 := 54) (as := [(.ref b26), (.int (2 : Int32)), (.int x0), (.int x1), (.int x2)]) (st := []) (W := 0) at_162 rfl rfl rfl rfl rfl (rm7_3 l Z a0 hw n0 b26 x0 x1 x2 _) (by decide) ⟨_, _, pd_5, rfl⟩ rfl rfl rfl (by decide) (by decide) (by decide) (by decide) ?_
      rintro _ T _ ⟨rfl, rfl⟩ A
      show Go p e below _ (T.setTop (mkF m 165 #[.val (.int x0), .val (.int x1), .val (.int x2), .val (.int fl), .val (.long dl), .second, .val (.int (2 : Int32)), .val (.int (0 : Int32)), .val (.ref b20), .val (.ref b21), .val (.ref b24), .val (.ref b26), .unset] [(.int (1 : Int32))]))
      refine A.ifT (r := 170) at_165 (by decide) (by decide) ?_
      refine A.aload (q := 172) at_170 rfl rfl rfl ?_
      refine A.iload (q := 174) at_172 rfl rfl ?_
      refine A.iloadN (q := 175) at_174 rfl rfl ?_
      refine A.iloadN (q := 176) at_175 rfl rfl ?_
      refine A.iloadN (q := 177) at_176 rfl rfl ?_
      refine A.callS (q := 180) (w1 := 43) (w2 := 44) (w3 := 45) (w4 := 46) (as := [(.ref b26), (.int (2 : Int32)), (.int x0), (.int x1), (.int x2)]) (st := []) (W := 0) at_177 rfl rfl rfl rfl rfl (rm5_3 l Z a0 hw n0 b26 x0 x1 x2 _) (by decide) ⟨_, _, pd_3, rfl⟩ rfl rfl rfl (by decide) (by decide) (by decide) (by decide) ?_
      rintro _ T _ ⟨rfl, rfl⟩ A
      show Go p e below _ (T.setTop (mkF m 180 #[.val (.int x0), .val (.int x1), .val (.int x2), .val (.int fl), .val (.long dl), .second, .val (.int (2 : Int32)), .val (.int (0 : Int32)), .val (.ref b20), .val (.ref b21), .val (.ref b24), .val (.ref b26), .unset] []))
      refine A.aload (q := 182) at_180 rfl rfl rfl ?_
      have A := A.front (i := 3) rfl rfl
      have A := A.front (i := 3) rfl rfl
      have A := A.front (i := 3) (L' := [(b24, ob1 (.ref b25) (.ref b21) (.long dl)), (b25, .inr (.int, [(.int x0), (.int x1)])), (b21, ob0 (.long v22) (.long v23) (.long dl)), (b26, .inr (.int, [(.int (x0 ^^^ (-1 : Int32))), (.int (x1 ^^^ (-1 : Int32)))])), (b20, .inr (.int, [(.int (x0 ^^^ (-1 : Int32))), (.int (x1 ^^^ (-1 : Int32)))]))]) rfl rfl
      refine A.callV (q := 185) (i := 0) (w1 := 47) (w2 := 48) (w3 := 23) (w4 := 51) (w5 := 50) (w6 := 49) (a := b24) (as := []) (st := []) (W := 0) at_182 rfl rfl rfl rfl rfl rfl rfl rfl (rm6_3 l Z a0 hw n0 b24 b25 b21 dl x0 x1 v22 v23 _) (by decide) ⟨_, _, pd_4, rfl⟩ rfl rfl rfl (by decide) (by decide) (by decide) (by decide) ?_
      rintro _ T _ ⟨b27, rfl, rfl⟩ A
      show Go p e below _ (T.setTop (mkF m 185 #[.val (.int x0), .val (.int x1), .val (.int x2), .val (.int fl), .val (.long dl), .second, .val (.int (2 : Int32)), .val (.int (0 : Int32)), .val (.ref b20), .val (.ref b21), .val (.ref b24), .val (.ref b26), .unset] [(.ref b27)]))
      refine A.astore (q := 187) (l' := #[.val (.int x0), .val (.int x1), .val (.int x2), .val (.int fl), .val (.long dl), .second, .val (.int (2 : Int32)), .val (.int (0 : Int32)), .val (.ref b20), .val (.ref b21), .val (.ref b24), .val (.ref b26), .val (.ref b27)]) at_185 rfl rfl rfl ?_
      refine A.aload (q := 189) at_187 rfl rfl rfl ?_
      refine A.aload (q := 191) at_189 rfl rfl rfl ?_
      refine A.acmp (r := 194) (same := false) at_191 rfl rfl (decide_eq_false fun q => A.ne (i := 0) (j := 4) rfl rfl (by decide) (Value.ref.inj q)) (by decide) (by decide) ?_
      refine A.aload (q := 196) at_194 rfl rfl rfl ?_
      refine A.aload (q := 198) at_196 rfl rfl rfl ?_
      refine A.acmp (r := 203) (same := false) at_198 rfl rfl (decide_eq_false fun q => A.ne (i := 0) (j := 5) rfl rfl (by decide) (Value.ref.inj q)) (by decide) (by decide) ?_
      refine A.aload (q := 205) at_203 rfl rfl rfl ?_
      refine A.iload (q := 207) at_205 rfl rfl ?_
      refine A.iloadN (q := 208) at_207 rfl rfl ?_
      refine A.iloadN (q := 209) at_208 rfl rfl ?_
      refine A.iloadN (q := 210) at_209 rfl rfl ?_
      refine A.callS (q := 213) (w1 := 52) (w2 := 53) (w3 := 45) (w4 := 54) (as := [(.ref b27), (.int (2 : Int32)), (.int x0), (.int x1), (.int x2)]) (st := []) (W := 0) at_210 rfl rfl rfl rfl rfl (rm7_3 l Z a0 hw n0 b27 x0 x1 x2 _) (by decide) ⟨_, _, pd_5, rfl⟩ rfl rfl rfl (by decide) (by decide) (by decide) (by decide) ?_
      rintro _ T _ ⟨rfl, rfl⟩ A
      show Go p e below _ (T.setTop (mkF m 213 #[.val (.int x0), .val (.int x1), .val (.int x2), .val (.int fl), .val (.long dl), .second, .val (.int (2 : Int32)), .val (.int (0 : Int32)), .val (.ref b20), .val (.ref b21), .val (.ref b24), .val (.ref b26), .val (.ref b27)] [(.int (1 : Int32))]))
      exact A.retZ (v := 1) at_213 (by decide) (by decide) (by decide) rfl
    · refine A.iload (q := 28) at_26 rfl rfl ?_
      refine A.newA (q := 30) (w := 0) (cap := 3) (ty := .int) (vs := [(.int (0 : Int32)), (.int (0 : Int32)), (.int (0 : Int32))]) at_28 rfl rfl rfl (by decide) (by decide) (by decide) rfl (by decide) (by decide) ?_
      intro T b28 A
      refine A.astore (q := 32) (l' := #[.val (.int x0), .val (.int x1), .val (.int x2), .val (.int fl), .val (.long dl), .second, .val (.int (3 : Int32)), .val (.int (0 : Int32)), .val (.ref b28), .unset, .unset, .unset, .unset]) at_30 rfl rfl rfl ?_
      refine A.iload (q := 34) at_32 rfl rfl ?_
      refine A.ifF (q := 37) at_34 rfl (by decide) ?_
      refine A.aload (q := 39) at_37 rfl rfl rfl ?_
      refine A.iconst (q := 40) (v := (0 : Int32)) at_39 rfl (by decide) ?_
      refine A.iloadN (q := 41) at_40 rfl rfl ?_
      refine A.iastore (q := 42) (i := 0) (x' := x0) (L' := [(b28, .inr (.int, [(.int x0), (.int (0 : Int32)), (.int (0 : Int32))]))]) at_41 rfl rfl (by decide) (by show Int32.toNatClampNeg (0 : Int32) < 3; decide) rfl rfl ?_
      intro T A
      refine A.iload (q := 44) at_42 rfl rfl ?_
      refine A.iconst (q := 45) (v := (1 : Int32)) at_44 rfl (by decide) ?_
      refine A.icmpF (q := 48) at_45 rfl (by decide) ?_
      refine A.aload (q := 50) at_48 rfl rfl rfl ?_
      refine A.iconst (q := 51) (v := (1 : Int32)) at_50 rfl (by decide) ?_
      refine A.iloadN (q := 52) at_51 rfl rfl ?_
      refine A.iastore (q := 53) (i := 0) (x' := x1) (L' := [(b28, .inr (.int, [(.int x0), (.int x1), (.int (0 : Int32))]))]) at_52 rfl rfl (by decide) (by show Int32.toNatClampNeg (1 : Int32) < 3; decide) rfl rfl ?_
      intro T A
      refine A.iload (q := 55) at_53 rfl rfl ?_
      refine A.iconst (q := 56) (v := (2 : Int32)) at_55 rfl (by decide) ?_
      refine A.icmpF (q := 59) at_56 rfl (by decide) ?_
      refine A.aload (q := 61) at_59 rfl rfl rfl ?_
      refine A.iconst (q := 62) (v := (2 : Int32)) at_61 rfl (by decide) ?_
      refine A.iloadN (q := 63) at_62 rfl rfl ?_
      refine A.iastore (q := 64) (i := 0) (x' := x2) (L' := [(b28, .inr (.int, [(.int x0), (.int x1), (.int x2)]))]) at_63 rfl rfl (by decide) (by show Int32.toNatClampNeg (2 : Int32) < 3; decide) rfl rfl ?_
      intro T A
      refine A.newO (q := 67) (w1 := 1) (w2 := 2) (w3 := 3) (n := 3) (fs := [(("com/example/forebound/forebound/scheduler/Counts", "msgs", "J"), (.long (0 : Int64))), (("com/example/forebound/forebound/scheduler/Counts", "nccc", "J"), (.long (0 : Int64))), (("com/example/forebound/forebound/scheduler/Counts", "checks", "J"), (.long (0 : Int64)))]) at_64 rfl rfl rfl rfl (lay_0 Z a0 hw) (by decide) (by decide) (by decide) ?_
      intro T b29 A
      refine A.dup (q := 68) at_67 rfl rfl ?_
      refine A.iloadN (q := 69) at_68 rfl rfl ?_
      obtain ⟨v30, e30⟩ : ∃ v : Int64, x0.toInt64 = v := ⟨_, rfl⟩
      refine A.i2l (q := 70) at_69 rfl e30 ?_
      refine A.iloadN (q := 71) at_70 rfl rfl ?_
      obtain ⟨v31, e31⟩ : ∃ v : Int64, x1.toInt64 = v := ⟨_, rfl⟩
      refine A.i2l (q := 72) at_71 rfl e31 ?_
      refine A.lload (q := 74) at_72 rfl rfl ?_
      refine A.callI (q := 77) (w1 := 4) (w2 := 5) (w3 := 3) (w4 := 6) (a := b29) (as := [(.long v30), (.long v31), (.long dl)]) (st := [(.ref b29)]) (W := 1) at_74 rfl rfl rfl rfl rfl rfl (rm1_1 l Z a0 hw n0 b29 v30 v31 dl _) (by decide) ⟨_, _, pd_1, rfl⟩ rfl rfl rfl (by decide) (by decide) (by decide) (by decide) ?_
      rintro _ T _ ⟨rfl, rfl⟩ A
      show Go p e below _ (T.setTop (mkF m 77 #[.val (.int x0), .val (.int x1), .val (.int x2), .val (.int fl), .val (.long dl), .second, .val (.int (3 : Int32)), .val (.int (0 : Int32)), .val (.ref b28), .unset, .unset, .unset, .unset] [(.ref b29)]))
      refine A.astore (q := 79) (l' := #[.val (.int x0), .val (.int x1), .val (.int x2), .val (.int fl), .val (.long dl), .second, .val (.int (3 : Int32)), .val (.int (0 : Int32)), .val (.ref b28), .val (.ref b29), .unset, .unset, .unset]) at_77 rfl rfl rfl ?_
      refine A.newO (q := 82) (w1 := 21) (w2 := 22) (w3 := 23) (n := 3) (fs := [(("com/example/forebound/forebound/scheduler/Outcome", "assignment", "[I"), .null), (("com/example/forebound/forebound/scheduler/Outcome", "counts", "Lcom/example/forebound/forebound/scheduler/Counts;"), .null), (("com/example/forebound/forebound/scheduler/Outcome", "deleted", "J"), (.long (0 : Int64)))]) at_79 rfl rfl rfl rfl (lay_1 Z a0 hw) (by decide) (by decide) (by decide) ?_
      intro T b32 A
      refine A.dup (q := 83) at_82 rfl rfl ?_
      refine A.aload (q := 85) at_83 rfl rfl rfl ?_
      refine A.aload (q := 87) at_85 rfl rfl rfl ?_
      refine A.lload (q := 89) at_87 rfl rfl ?_
      have A := A.front (i := 1) rfl rfl
      have A := A.front (i := 2) rfl rfl
      have A := A.front (i := 2) (L' := [(b32, ob1 .null .null (.long (0 : Int64))), (b28, .inr (.int, [(.int x0), (.int x1), (.int x2)])), (b29, ob0 (.long v30) (.long v31) (.long dl))]) rfl rfl
      refine A.callI (q := 92) (w1 := 24) (w2 := 25) (w3 := 23) (w4 := 26) (a := b32) (as := [(.ref b28), (.ref b29), (.long dl)]) (st := [(.ref b32)]) (W := 1) at_89 rfl rfl rfl rfl rfl rfl (rm4_4 l Z a0 hw n0 b32 b28 b29 dl x0 x1 x2 v30 v31 _) (by decide) ⟨_, _, pd_2, rfl⟩ rfl rfl rfl (by decide) (by decide) (by decide) (by decide) ?_
      rintro _ T _ ⟨b33, rfl, rfl⟩ A
      show Go p e below _ (T.setTop (mkF m 92 #[.val (.int x0), .val (.int x1), .val (.int x2), .val (.int fl), .val (.long dl), .second, .val (.int (3 : Int32)), .val (.int (0 : Int32)), .val (.ref b28), .val (.ref b29), .unset, .unset, .unset] [(.ref b32)]))
      refine A.astore (q := 94) (l' := #[.val (.int x0), .val (.int x1), .val (.int x2), .val (.int fl), .val (.long dl), .second, .val (.int (3 : Int32)), .val (.int (0 : Int32)), .val (.ref b28), .val (.ref b29), .val (.ref b32), .unset, .unset]) at_92 rfl rfl rfl ?_
      refine A.iload (q := 96) at_94 rfl rfl ?_
      refine A.ifT (r := 129) at_96 (by decide) (by decide) ?_
      refine A.aload (q := 131) at_129 rfl rfl rfl ?_
      refine A.iload (q := 133) at_131 rfl rfl ?_
      refine A.iloadN (q := 134) at_133 rfl rfl ?_
      refine A.iloadN (q := 135) at_134 rfl rfl ?_
      refine A.iloadN (q := 136) at_135 rfl rfl ?_
      have A := A.front (i := 2) (L' := [(b28, .inr (.int, [(.int x0), (.int x1), (.int x2)])), (b33, .inr (.int, [(.int x0), (.int x1), (.int x2)])), (b32, ob1 (.ref b33) (.ref b29) (.long dl)), (b29, ob0 (.long v30) (.long v31) (.long dl))]) rfl rfl
      refine A.callS (q := 139) (w1 := 43) (w2 := 44) (w3 := 45) (w4 := 46) (as := [(.ref b28), (.int (3 : Int32)), (.int x0), (.int x1), (.int x2)]) (st := []) (W := 0) at_136 rfl rfl rfl rfl rfl (rm5_4 l Z a0 hw n0 b28 x0 x1 x2 _) (by decide) ⟨_, _, pd_3, rfl⟩ rfl rfl rfl (by decide) (by decide) (by decide) (by decide) ?_
      rintro _ T _ ⟨rfl, rfl⟩ A
      show Go p e below _ (T.setTop (mkF m 139 #[.val (.int x0), .val (.int x1), .val (.int x2), .val (.int fl), .val (.long dl), .second, .val (.int (3 : Int32)), .val (.int (0 : Int32)), .val (.ref b28), .val (.ref b29), .val (.ref b32), .unset, .unset] []))
      refine A.aload (q := 141) at_139 rfl rfl rfl ?_
      have A := A.front (i := 3) rfl rfl
      have A := A.front (i := 2) rfl rfl
      have A := A.front (i := 3) (L' := [(b32, ob1 (.ref b33) (.ref b29) (.long dl)), (b33, .inr (.int, [(.int x0), (.int x1), (.int x2)])), (b29, ob0 (.long v30) (.long v31) (.long dl)), (b28, .inr (.int, [(.int (x0 ^^^ (-1 : Int32))), (.int (x1 ^^^ (-1 : Int32))), (.int (x2 ^^^ (-1 : Int32)))]))]) rfl rfl
      refine A.callV (q := 144) (i := 0) (w1 := 47) (w2 := 48) (w3 := 23) (w4 := 51) (w5 := 50) (w6 := 49) (a := b32) (as := []) (st := []) (W := 0) at_141 rfl rfl rfl rfl rfl rfl rfl rfl (rm6_4 l Z a0 hw n0 b32 b33 b29 dl x0 x1 x2 v30 v31 _) (by decide) ⟨_, _, pd_4, rfl⟩ rfl rfl rfl (by decide) (by decide) (by decide) (by decide) ?_
      rintro _ T _ ⟨b34, rfl, rfl⟩ A
      show Go p e below _ (T.setTop (mkF m 144 #[.val (.int x0), .val (.int x1), .val (.int x2), .val (.int fl), .val (.long dl), .second, .val (.int (3 : Int32)), .val (.int (0 : Int32)), .val (.ref b28), .val (.ref b29), .val (.ref b32), .unset, .unset] [(.ref b34)]))
      refine A.astore (q := 146) (l' := #[.val (.int x0), .val (.int x1), .val (.int x2), .val (.int fl), .val (.long dl), .second, .val (.int (3 : Int32)), .val (.int (0 : Int32)), .val (.ref b28), .val (.ref b29), .val (.ref b32), .val (.ref b34), .unset]) at_144 rfl rfl rfl ?_
      refine A.aload (q := 148) at_146 rfl rfl rfl ?_
      refine A.aload (q := 150) at_148 rfl rfl rfl ?_
      refine A.acmp (r := 155) (same := false) at_150 rfl rfl (decide_eq_false fun q => A.ne (i := 0) (j := 4) rfl rfl (by decide) (Value.ref.inj q)) (by decide) (by decide) ?_
      refine A.aload (q := 157) at_155 rfl rfl rfl ?_
      refine A.iload (q := 159) at_157 rfl rfl ?_
      refine A.iloadN (q := 160) at_159 rfl rfl ?_
      refine A.iloadN (q := 161) at_160 rfl rfl ?_
      refine A.iloadN (q := 162) at_161 rfl rfl ?_
      refine A.callS (q := 165) (w1 := 52) (w2 := 53) (w3 := 45) (w4 := 54) (as := [(.ref b34), (.int (3 : Int32)), (.int x0), (.int x1), (.int x2)]) (st := []) (W := 0) at_162 rfl rfl rfl rfl rfl (rm7_4 l Z a0 hw n0 b34 x0 x1 x2 _) (by decide) ⟨_, _, pd_5, rfl⟩ rfl rfl rfl (by decide) (by decide) (by decide) (by decide) ?_
      rintro _ T _ ⟨rfl, rfl⟩ A
      show Go p e below _ (T.setTop (mkF m 165 #[.val (.int x0), .val (.int x1), .val (.int x2), .val (.int fl), .val (.long dl), .second, .val (.int (3 : Int32)), .val (.int (0 : Int32)), .val (.ref b28), .val (.ref b29), .val (.ref b32), .val (.ref b34), .unset] [(.int (1 : Int32))]))
      refine A.ifT (r := 170) at_165 (by decide) (by decide) ?_
      refine A.aload (q := 172) at_170 rfl rfl rfl ?_
      refine A.iload (q := 174) at_172 rfl rfl ?_
      refine A.iloadN (q := 175) at_174 rfl rfl ?_
      refine A.iloadN (q := 176) at_175 rfl rfl ?_
      refine A.iloadN (q := 177) at_176 rfl rfl ?_
      refine A.callS (q := 180) (w1 := 43) (w2 := 44) (w3 := 45) (w4 := 46) (as := [(.ref b34), (.int (3 : Int32)), (.int x0), (.int x1), (.int x2)]) (st := []) (W := 0) at_177 rfl rfl rfl rfl rfl (rm5_4 l Z a0 hw n0 b34 x0 x1 x2 _) (by decide) ⟨_, _, pd_3, rfl⟩ rfl rfl rfl (by decide) (by decide) (by decide) (by decide) ?_
      rintro _ T _ ⟨rfl, rfl⟩ A
      show Go p e below _ (T.setTop (mkF m 180 #[.val (.int x0), .val (.int x1), .val (.int x2), .val (.int fl), .val (.long dl), .second, .val (.int (3 : Int32)), .val (.int (0 : Int32)), .val (.ref b28), .val (.ref b29), .val (.ref b32), .val (.ref b34), .unset] []))
      refine A.aload (q := 182) at_180 rfl rfl rfl ?_
      have A := A.front (i := 3) rfl rfl
      have A := A.front (i := 3) rfl rfl
      have A := A.front (i := 3) (L' := [(b32, ob1 (.ref b33) (.ref b29) (.long dl)), (b33, .inr (.int, [(.int x0), (.int x1), (.int x2)])), (b29, ob0 (.long v30) (.long v31) (.long dl)), (b34, .inr (.int, [(.int (x0 ^^^ (-1 : Int32))), (.int (x1 ^^^ (-1 : Int32))), (.int (x2 ^^^ (-1 : Int32)))])), (b28, .inr (.int, [(.int (x0 ^^^ (-1 : Int32))), (.int (x1 ^^^ (-1 : Int32))), (.int (x2 ^^^ (-1 : Int32)))]))]) rfl rfl
      refine A.callV (q := 185) (i := 0) (w1 := 47) (w2 := 48) (w3 := 23) (w4 := 51) (w5 := 50) (w6 := 49) (a := b32) (as := []) (st := []) (W := 0) at_182 rfl rfl rfl rfl rfl rfl rfl rfl (rm6_4 l Z a0 hw n0 b32 b33 b29 dl x0 x1 x2 v30 v31 _) (by decide) ⟨_, _, pd_4, rfl⟩ rfl rfl rfl (by decide) (by decide) (by decide) (by decide) ?_
      rintro _ T _ ⟨b35, rfl, rfl⟩ A
      show Go p e below _ (T.setTop (mkF m 185 #[.val (.int x0), .val (.int x1), .val (.int x2), .val (.int fl), .val (.long dl), .second, .val (.int (3 : Int32)), .val (.int (0 : Int32)), .val (.ref b28), .val (.ref b29), .val (.ref b32), .val (.ref b34), .unset] [(.ref b35)]))
      refine A.astore (q := 187) (l' := #[.val (.int x0), .val (.int x1), .val (.int x2), .val (.int fl), .val (.long dl), .second, .val (.int (3 : Int32)), .val (.int (0 : Int32)), .val (.ref b28), .val (.ref b29), .val (.ref b32), .val (.ref b34), .val (.ref b35)]) at_185 rfl rfl rfl ?_
      refine A.aload (q := 189) at_187 rfl rfl rfl ?_
      refine A.aload (q := 191) at_189 rfl rfl rfl ?_
      refine A.acmp (r := 194) (same := false) at_191 rfl rfl (decide_eq_false fun q => A.ne (i := 0) (j := 4) rfl rfl (by decide) (Value.ref.inj q)) (by decide) (by decide) ?_
      refine A.aload (q := 196) at_194 rfl rfl rfl ?_
      refine A.aload (q := 198) at_196 rfl rfl rfl ?_
      refine A.acmp (r := 203) (same := false) at_198 rfl rfl (decide_eq_false fun q => A.ne (i := 0) (j := 5) rfl rfl (by decide) (Value.ref.inj q)) (by decide) (by decide) ?_
      refine A.aload (q := 205) at_203 rfl rfl rfl ?_
      refine A.iload (q := 207) at_205 rfl rfl ?_
      refine A.iloadN (q := 208) at_207 rfl rfl ?_
      refine A.iloadN (q := 209) at_208 rfl rfl ?_
      refine A.iloadN (q := 210) at_209 rfl rfl ?_
      refine A.callS (q := 213) (w1 := 52) (w2 := 53) (w3 := 45) (w4 := 54) (as := [(.ref b35), (.int (3 : Int32)), (.int x0), (.int x1), (.int x2)]) (st := []) (W := 0) at_210 rfl rfl rfl rfl rfl (rm7_4 l Z a0 hw n0 b35 x0 x1 x2 _) (by decide) ⟨_, _, pd_5, rfl⟩ rfl rfl rfl (by decide) (by decide) (by decide) (by decide) ?_
      rintro _ T _ ⟨rfl, rfl⟩ A
      show Go p e below _ (T.setTop (mkF m 213 #[.val (.int x0), .val (.int x1), .val (.int x2), .val (.int fl), .val (.long dl), .second, .val (.int (3 : Int32)), .val (.int (0 : Int32)), .val (.ref b28), .val (.ref b29), .val (.ref b32), .val (.ref b34), .val (.ref b35)] [(.int (1 : Int32))]))
      exact A.retZ (v := 1) at_213 (by decide) (by decide) (by decide) rfl
  · refine A.iconst (q := 12) (v := (1 : Int32)) at_11 rfl (by decide) ?_
    refine A.goto (r := 16) at_12 (by decide) ?_
    refine A.istore (q := 18) (l' := #[.val (.int x0), .val (.int x1), .val (.int x2), .val (.int fl), .val (.long dl), .second, .val (.int v1), .val (.int (1 : Int32)), .unset, .unset, .unset, .unset, .unset]) at_16 rfl rfl ?_
    refine A.aconst_null (q := 19) at_18 rfl ?_
    refine A.astore (q := 21) (l' := #[.val (.int x0), .val (.int x1), .val (.int x2), .val (.int fl), .val (.long dl), .second, .val (.int v1), .val (.int (1 : Int32)), .val .null, .unset, .unset, .unset, .unset]) at_19 rfl rfl rfl ?_
    refine A.iload (q := 23) at_21 rfl rfl ?_
    refine A.ifT (r := 64) at_23 (by decide) (by decide) ?_
    refine A.newO (q := 67) (w1 := 1) (w2 := 2) (w3 := 3) (n := 3) (fs := [(("com/example/forebound/forebound/scheduler/Counts", "msgs", "J"), (.long (0 : Int64))), (("com/example/forebound/forebound/scheduler/Counts", "nccc", "J"), (.long (0 : Int64))), (("com/example/forebound/forebound/scheduler/Counts", "checks", "J"), (.long (0 : Int64)))]) at_64 rfl rfl rfl rfl (lay_0 Z a0 hw) (by decide) (by decide) (by decide) ?_
    intro T b36 A
    refine A.dup (q := 68) at_67 rfl rfl ?_
    refine A.iloadN (q := 69) at_68 rfl rfl ?_
    obtain ⟨v37, e37⟩ : ∃ v : Int64, x0.toInt64 = v := ⟨_, rfl⟩
    refine A.i2l (q := 70) at_69 rfl e37 ?_
    refine A.iloadN (q := 71) at_70 rfl rfl ?_
    obtain ⟨v38, e38⟩ : ∃ v : Int64, x1.toInt64 = v := ⟨_, rfl⟩
    refine A.i2l (q := 72) at_71 rfl e38 ?_
    refine A.lload (q := 74) at_72 rfl rfl ?_
    refine A.callI (q := 77) (w1 := 4) (w2 := 5) (w3 := 3) (w4 := 6) (a := b36) (as := [(.long v37), (.long v38), (.long dl)]) (st := [(.ref b36)]) (W := 1) at_74 rfl rfl rfl rfl rfl rfl (rm1_1 l Z a0 hw n0 b36 v37 v38 dl _) (by decide) ⟨_, _, pd_1, rfl⟩ rfl rfl rfl (by decide) (by decide) (by decide) (by decide) ?_
    rintro _ T _ ⟨rfl, rfl⟩ A
    show Go p e below _ (T.setTop (mkF m 77 #[.val (.int x0), .val (.int x1), .val (.int x2), .val (.int fl), .val (.long dl), .second, .val (.int v1), .val (.int (1 : Int32)), .val .null, .unset, .unset, .unset, .unset] [(.ref b36)]))
    refine A.astore (q := 79) (l' := #[.val (.int x0), .val (.int x1), .val (.int x2), .val (.int fl), .val (.long dl), .second, .val (.int v1), .val (.int (1 : Int32)), .val .null, .val (.ref b36), .unset, .unset, .unset]) at_77 rfl rfl rfl ?_
    refine A.newO (q := 82) (w1 := 21) (w2 := 22) (w3 := 23) (n := 3) (fs := [(("com/example/forebound/forebound/scheduler/Outcome", "assignment", "[I"), .null), (("com/example/forebound/forebound/scheduler/Outcome", "counts", "Lcom/example/forebound/forebound/scheduler/Counts;"), .null), (("com/example/forebound/forebound/scheduler/Outcome", "deleted", "J"), (.long (0 : Int64)))]) at_79 rfl rfl rfl rfl (lay_1 Z a0 hw) (by decide) (by decide) (by decide) ?_
    intro T b39 A
    refine A.dup (q := 83) at_82 rfl rfl ?_
    refine A.aload (q := 85) at_83 rfl rfl rfl ?_
    refine A.aload (q := 87) at_85 rfl rfl rfl ?_
    refine A.lload (q := 89) at_87 rfl rfl ?_
    refine A.callI (q := 92) (w1 := 24) (w2 := 25) (w3 := 23) (w4 := 26) (a := b39) (as := [.null, (.ref b36), (.long dl)]) (st := [(.ref b39)]) (W := 1) at_89 rfl rfl rfl rfl rfl rfl (rm4_5 l Z a0 hw n0 b39 b36 dl v37 v38 _) (by decide) ⟨_, _, pd_2, rfl⟩ rfl rfl rfl (by decide) (by decide) (by decide) (by decide) ?_
    rintro _ T _ ⟨rfl, rfl⟩ A
    show Go p e below _ (T.setTop (mkF m 92 #[.val (.int x0), .val (.int x1), .val (.int x2), .val (.int fl), .val (.long dl), .second, .val (.int v1), .val (.int (1 : Int32)), .val .null, .val (.ref b36), .unset, .unset, .unset] [(.ref b39)]))
    refine A.astore (q := 94) (l' := #[.val (.int x0), .val (.int x1), .val (.int x2), .val (.int fl), .val (.long dl), .second, .val (.int v1), .val (.int (1 : Int32)), .val .null, .val (.ref b36), .val (.ref b39), .unset, .unset]) at_92 rfl rfl rfl ?_
    refine A.iload (q := 96) at_94 rfl rfl ?_
    refine A.ifF (q := 99) at_96 rfl (by decide) ?_
    refine A.aload (q := 101) at_99 rfl rfl rfl ?_
    refine A.callV (q := 104) (i := 0) (w1 := 47) (w2 := 48) (w3 := 23) (w4 := 51) (w5 := 50) (w6 := 49) (a := b39) (as := []) (st := []) (W := 0) at_101 rfl rfl rfl rfl rfl rfl rfl rfl (rm6_5 l Z a0 hw n0 b39 b36 dl v37 v38 _) (by decide) ⟨_, _, pd_4, rfl⟩ rfl rfl rfl (by decide) (by decide) (by decide) (by decide) ?_
    rintro _ T _ ⟨rfl, rfl⟩ A
    show Go p e below _ (T.setTop (mkF m 104 #[.val (.int x0), .val (.int x1), .val (.int x2), .val (.int fl), .val (.long dl), .second, .val (.int v1), .val (.int (1 : Int32)), .val .null, .val (.ref b36), .val (.ref b39), .unset, .unset] [.null]))
    refine A.astore (q := 106) (l' := #[.val (.int x0), .val (.int x1), .val (.int x2), .val (.int fl), .val (.long dl), .second, .val (.int v1), .val (.int (1 : Int32)), .val .null, .val (.ref b36), .val (.ref b39), .val .null, .unset]) at_104 rfl rfl rfl ?_
    refine A.aload (q := 108) at_106 rfl rfl rfl ?_
    refine A.callV (q := 111) (i := 0) (w1 := 47) (w2 := 48) (w3 := 23) (w4 := 51) (w5 := 50) (w6 := 49) (a := b39) (as := []) (st := []) (W := 0) at_108 rfl rfl rfl rfl rfl rfl rfl rfl (rm6_5 l Z a0 hw n0 b39 b36 dl v37 v38 _) (by decide) ⟨_, _, pd_4, rfl⟩ rfl rfl rfl (by decide) (by decide) (by decide) (by decide) ?_
    rintro _ T _ ⟨rfl, rfl⟩ A
    show Go p e below _ (T.setTop (mkF m 111 #[.val (.int x0), .val (.int x1), .val (.int x2), .val (.int fl), .val (.long dl), .second, .val (.int v1), .val (.int (1 : Int32)), .val .null, .val (.ref b36), .val (.ref b39), .val .null, .unset] [.null]))
    refine A.astore (q := 113) (l' := #[.val (.int x0), .val (.int x1), .val (.int x2), .val (.int fl), .val (.long dl), .second, .val (.int v1), .val (.int (1 : Int32)), .val .null, .val (.ref b36), .val (.ref b39), .val .null, .val .null]) at_111 rfl rfl rfl ?_
    refine A.aload (q := 115) at_113 rfl rfl rfl ?_
    refine A.ifnonnullF (q := 118) at_115 rfl ?_
    refine A.aload (q := 120) at_118 rfl rfl rfl ?_
    refine A.ifnonnullF (q := 123) at_120 rfl ?_
    refine A.iconst (q := 124) (v := (1 : Int32)) at_123 rfl (by decide) ?_
    refine A.goto (r := 128) at_124 (by decide) ?_
    exact A.retZ (v := 1) at_128 (by decide) (by decide) (by decide) rfl
set_option maxRecDepth 65536 in
set_option maxHeartbeats 40000000 in
theorem comes_1 {Post : Tables → Env → Array Value → State → Outcome → State → Prop} (hpost : ∀ tb e args s v u, (limb_1_1.after args s (.returned v) u = true ∧ limb_1_2.after args s (.returned v) u = true ∧ True) → FrameEnd s (.returned v) u (Jvm.fieldLocs frame_1_writes args s ++ Jvm.arrayLocs frame_1_arrays args s ++ Jvm.staticLocs frame_1_statics s) 24 128 → Post tb e args s (.returned v) u) :
    ArmFor flags0 classFile x code maxLocals ret World_1 tables_1 room_1 Calls_1 rest_1 Pre_1 Post := by
  intro l hfl _ _ p e ha hc hk s m args below hf hA hF happ hP
  obtain ⟨hcalls, hrest, hpre⟩ := hP
  obtain ⟨-, -, -, hnamed, -, -, -, hat⟩ := (Spec.applies_iff hf).mp happ
  obtain ⟨hg, hn⟩ := and_e (Cond.before_iff.mp (show (Jvm.Cond.and given_1 narrow_1).before args s = true from hpre))
  obtain ⟨g1, hg⟩ := and_e hg
  obtain ⟨gv0, hg⟩ := and_e hg
  obtain ⟨gv1, hg⟩ := and_e hg
  obtain ⟨gv2, hg⟩ := and_e hg
  obtain ⟨gv3, hg⟩ := and_e hg
  have gv4 := hg
  obtain ⟨w0, w1, w2, w3, w4, rfl⟩ : ∃ w0 w1 w2 w3 w4 : Value, args = #[w0, w1, w2, w3, w4] := by
    have hs : args.size = 5 := by simpa [Cond.value, given_1] using g1
    obtain ⟨L⟩ := args
    match L, hs with
    | [w0, w1, w2, w3, w4], _ => exact ⟨w0, w1, w2, w3, w4, rfl⟩
  have hw := fun d (hd : d ∈ tables_1) => atoms_spec (ws := Jvm.Cond.code x code maxLocals ret :: tables_1) hat d (List.mem_cons_of_mem _ hd)
  obtain ⟨i0, ei0⟩ := is_v gv0
  obtain rfl : w0 = (.int i0) := Option.some.inj ei0
  obtain ⟨i1, ei1⟩ := is_v gv1
  obtain rfl : w1 = (.int i1) := Option.some.inj ei1
  obtain ⟨i2, ei2⟩ := is_v gv2
  obtain rfl : w2 = (.int i2) := Option.some.inj ei2
  obtain ⟨i3, ei3⟩ := is_v gv3
  obtain rfl : w3 = (.int i3) := Option.some.inj ei3
  obtain ⟨i4, ei4⟩ := isL_v gv4
  obtain rfl : w4 = (.long i4) := Option.some.inj ei4
  obtain ⟨n, o, h1, h2, h3, _, L, rfl, ⟨N, _, L', rfl, _⟩, hq⟩ := rm0 l s _ hw s.heap.size i0 i1 i2 i3 i4 s.heap tables_1 (Nat.le_refl _) ⟨fun _ q => (nomatch q), List.nodup_nil⟩ p e ha hc hk s m _ below hf ((Spec.applies_iff_loose hf).mp happ).1 ⟨rfl, State.Warmed39.refl s, rfl⟩ trivial
  refine ⟨n, _, h1, h2, h3, hpost _ _ _ _ _ _ ⟨Cond.after_iff.mpr rfl, Cond.after_iff.mpr (eq_i res_at (Term.int_eval (1)) rfl), trivial⟩ ⟨hq.1, hq.2.1, hq.2.2.sift fun y hy => Or.inr (N y hy)⟩⟩
theorem main_1_1 : Claimed_1_1 := comes_1 fun _ _ _ _ _ _ h hF => ⟨h.1, hF⟩
theorem main_1_2 : Claimed_1_2 := comes_1 fun _ _ _ _ _ _ h hF => ⟨h.2.1, hF⟩
end Jvm.Pilot.@@N@@
namespace Jvm.Pilot.@@N@@
open Jvm Jvm.ClassFile Sem Op Lib Jvm.Free Jvm.Stand Jvm.Pilot.@@N@@.Jvm.D
/-! MADE BY PROGRAM (witnessworld.py) out of the Statement's table words and the real class files: 11 classes; the members and pool entries that the words name. The judged class is class 1, her method 3. -/
namespace start1
open Jvm.ClassFile
def u (s : String) : CpInfo := .utf8 (stringToUtf16 s)
/-- a pool by its gaps: so many unusable entries, then the entry; so many at the end -/
def gap : Nat → List CpInfo → List CpInfo
  | 0, r => r
  | n + 1, r => .unusable :: gap n r
def poolList (es : List (Nat × CpInfo)) (last : Nat) : List CpInfo := es.foldr (fun e r => gap e.1 (e.2 :: r)) (gap last [])
def pool (es : List (Nat × CpInfo)) (last : Nat) : Array CpInfo := ⟨poolList es last⟩
def fileOf (pool : Array CpInfo) (this : Nat) (attrs : Array Attribute := #[]) (ms : Array MethodInfo := #[]) (fl : Nat := 33) (sup : Nat := 0) (ifs : Array Nat := #[]) (fds : Array FieldInfo := #[]) : ClassFile where
  minorVersion := 0
  majorVersion := 65
  constantPool := pool
  accessFlags := fl
  thisClass := this
  superClass := sup
  interfaces := ifs
  fields := fds
  methods := ms
  attributes := attrs
def plain (name : String) (sup : Option ClassId) : Class where
  name := name
  kind := .ordinary
  loader := none
  accessFlags := 33
  super := sup
  interfaces := #[]
  cf := none
  fields := #[]
  methods := #[]
  instanceTypes := #[]
  staticTypes := #[]
  resolved := #[]
  callSites := []
  init := .initialized
  statics := none
  mirror := none

def pool0 : Array CpInfo := pool [(5, u "<init>"), (0, u "()V"), (1, .class_ 10), (1, u "java/lang/Object"), (85, u "clone"), (0, u "()Ljava/lang/Object;")] 26

def k0c0 : Code := { maxStack := 0, maxLocals := 1, code := object_method_1_code, exceptionTable := #[], attributes := #[] }
def k0m0 : Method := { name := "<init>", desc := "()V", sig := { parameters := [], returnType := none }, accessFlags := 1, code := some k0c0 }
def k0m1 : Method := { name := "clone", desc := "()Ljava/lang/Object;", sig := { parameters := [], returnType := some (.object "java/lang/Object") }, accessFlags := 260, code := none }
/-- java/lang/Object -/
def k0 : Class := { plain "java/lang/Object" none with
  accessFlags := 33
  interfaces := #[]
  cf := some (fileOf pool0 8 #[] #[{ accessFlags := 1, nameIndex := 5, descriptorIndex := 6, attributes := #[] }, { accessFlags := 260, nameIndex := 96, descriptorIndex := 97, attributes := #[] }] 33 0 #[] #[])
  fields := #[]
  methods := #[k0m0, k0m1]
  instanceTypes := #[]
  staticTypes := #[]
  resolved := Array.replicate 124 none
  statics := none }

def pool1 : Array CpInfo := pool [(2, .class_ 4), (1, u "java/lang/Object"), (0, u "<init>"), (0, u "()V"), (0, .class_ 8), (0, u "com/example/forebound/forebound/scheduler/Counts"), (0, .methodref 7 10), (0, .nameAndType 5 11), (0, u "(JJJ)V"), (0, .class_ 13), (0, u "com/example/forebound/forebound/scheduler/Outcome"), (0, .methodref 12 15), (0, .nameAndType 5 16), (0, u "([ILcom/example/forebound/forebound/scheduler/Counts;J)V"), (0, .methodref 12 18), (0, .nameAndType 19 20), (0, u "assignment"), (0, u "()[I"), (0, .methodref 22 23), (0, .class_ 24), (0, .nameAndType 25 26), (0, u "com/example/forebound/forebound/scheduler/OutcomeAssignmentPinLaw"), (0, u "spoil"), (0, u "([IIIII)V"), (0, .methodref 22 28), (0, .nameAndType 29 30), (0, u "same"), (0, u "([IIIII)Z"), (3, u "law"), (0, u "(IIIIJ)Z")] 4

def k1m0 : Method := { name := "<init>", desc := "()V", sig := { parameters := [], returnType := none }, accessFlags := 1, code := none }
def k1c1 : Code := { maxStack := 2, maxLocals := 5, code := method_2_code, exceptionTable := #[], attributes := #[] }
def k1m1 : Method := { name := "same", desc := "([IIIII)Z", sig := { parameters := [(.array .int), .int, .int, .int, .int], returnType := some .boolean }, accessFlags := 10, code := some k1c1 }
def k1c2 : Code := { maxStack := 4, maxLocals := 5, code := method_3_code, exceptionTable := #[], attributes := #[] }
def k1m2 : Method := { name := "spoil", desc := "([IIIII)V", sig := { parameters := [(.array .int), .int, .int, .int, .int], returnType := none }, accessFlags := 10, code := some k1c2 }
def k1c3 : Code := { maxStack := 8, maxLocals := 13, code := code, exceptionTable := #[], attributes := #[] }
def k1m3 : Method := { name := "law", desc := "(IIIIJ)Z", sig := { parameters := [.int, .int, .int, .int, .long], returnType := some .boolean }, accessFlags := 9, code := some k1c3 }
/-- com/example/forebound/forebound/scheduler/OutcomeAssignmentPinLaw -/
def k1 : Class := { plain "com/example/forebound/forebound/scheduler/OutcomeAssignmentPinLaw" (some 0) with
  accessFlags := 49
  interfaces := #[]
  cf := some (fileOf pool1 22 #[] #[{ accessFlags := 1, nameIndex := 5, descriptorIndex := 6, attributes := #[] }, { accessFlags := 10, nameIndex := 29, descriptorIndex := 30, attributes := #[] }, { accessFlags := 10, nameIndex := 25, descriptorIndex := 26, attributes := #[] }, { accessFlags := 9, nameIndex := 34, descriptorIndex := 35, attributes := #[] }] 49 2 #[] #[])
  fields := #[]
  methods := #[k1m0, k1m1, k1m2, k1m3]
  instanceTypes := #[]
  staticTypes := #[]
  resolved := Array.replicate 40 none
  statics := none }

def pool2 : Array CpInfo := pool [(1, .methodref 2 3), (0, .class_ 4), (0, .nameAndType 5 6), (0, u "java/lang/Object"), (0, u "<init>"), (0, u "()V"), (0, .class_ 8), (0, u "java/lang/Record")] 13

def k2c0 : Code := { maxStack := 1, maxLocals := 1, code := jdk_30_method_1_code, exceptionTable := #[], attributes := #[] }
def k2m0 : Method := { name := "<init>", desc := "()V", sig := { parameters := [], returnType := none }, accessFlags := 4, code := some k2c0 }
/-- java/lang/Record -/
def k2 : Class := { plain "java/lang/Record" (some 0) with
  accessFlags := 1057
  interfaces := #[]
  cf := some (fileOf pool2 7 #[] #[{ accessFlags := 4, nameIndex := 5, descriptorIndex := 6, attributes := #[] }] 1057 2 #[] #[])
  fields := #[]
  methods := #[k2m0]
  instanceTypes := #[]
  staticTypes := #[]
  resolved := Array.replicate 22 none
  statics := none }

def pool3 : Array CpInfo := pool [(1, .methodref 2 3), (0, .class_ 4), (0, .nameAndType 5 6), (0, u "java/lang/Record"), (0, u "<init>"), (0, u "()V"), (0, .fieldref 8 9), (0, .class_ 10), (0, .nameAndType 11 12), (0, u "com/example/forebound/forebound/scheduler/Counts"), (0, u "msgs"), (0, u "J"), (0, .fieldref 8 14), (0, .nameAndType 15 12), (0, u "nccc"), (0, .fieldref 8 17), (0, .nameAndType 18 12), (0, u "checks"), (12, u "(JJJ)V")] 29

def k3c0 : Code := { maxStack := 3, maxLocals := 7, code := prog_31_method_1_code, exceptionTable := #[], attributes := #[] }
def k3m0 : Method := { name := "<init>", desc := "(JJJ)V", sig := { parameters := [.long, .long, .long], returnType := none }, accessFlags := 1, code := some k3c0 }
/-- com/example/forebound/forebound/scheduler/Counts -/
def k3 : Class := { plain "com/example/forebound/forebound/scheduler/Counts" (some 2) with
  accessFlags := 49
  interfaces := #[]
  cf := some (fileOf pool3 8 #[] #[{ accessFlags := 1, nameIndex := 5, descriptorIndex := 31, attributes := #[] }] 49 2 #[] #[{ accessFlags := 18, nameIndex := 11, descriptorIndex := 12, attributes := #[] }, { accessFlags := 18, nameIndex := 15, descriptorIndex := 12, attributes := #[] }, { accessFlags := 18, nameIndex := 18, descriptorIndex := 12, attributes := #[] }])
  fields := #[{ name := "msgs", type := .long, accessFlags := 18, slot := 0, constantValue := 0 }, { name := "nccc", type := .long, accessFlags := 18, slot := 1, constantValue := 0 }, { name := "checks", type := .long, accessFlags := 18, slot := 2, constantValue := 0 }]
  methods := #[k3m0]
  instanceTypes := #[.long, .long, .long]
  staticTypes := #[]
  resolved := Array.replicate 61 none
  statics := none }

def pool4 : Array CpInfo := pool [(1, .methodref 2 3), (0, .class_ 4), (0, .nameAndType 5 6), (0, u "java/lang/Record"), (0, u "<init>"), (0, u "()V"), (0, .methodref 8 9), (0, .class_ 10), (0, .nameAndType 11 12), (0, u "[I"), (0, u "clone"), (0, u "()Ljava/lang/Object;"), (0, .fieldref 14 15), (0, .class_ 16), (0, .nameAndType 17 10), (0, u "com/example/forebound/forebound/scheduler/Outcome"), (0, u "assignment"), (0, .fieldref 14 19), (0, .nameAndType 20 21), (0, u "counts"), (0, u "Lcom/example/forebound/forebound/scheduler/Counts;"), (0, .fieldref 14 23), (0, .nameAndType 24 25), (0, u "deleted"), (0, u "J"), (12, u "([ILcom/example/forebound/forebound/scheduler/Counts;J)V"), (6, u "()[I")] 27

def k4c0 : Code := { maxStack := 3, maxLocals := 5, code := prog_34_method_1_code, exceptionTable := #[], attributes := #[] }
def k4m0 : Method := { name := "<init>", desc := "([ILcom/example/forebound/forebound/scheduler/Counts;J)V", sig := { parameters := [(.array .int), (.object "com/example/forebound/forebound/scheduler/Counts"), .long], returnType := none }, accessFlags := 1, code := some k4c0 }
def k4c1 : Code := { maxStack := 1, maxLocals := 1, code := prog_34_method_2_code, exceptionTable := #[], attributes := #[] }
def k4m1 : Method := { name := "assignment", desc := "()[I", sig := { parameters := [], returnType := some (.array .int) }, accessFlags := 1, code := some k4c1 }
/-- com/example/forebound/forebound/scheduler/Outcome -/
def k4 : Class := { plain "com/example/forebound/forebound/scheduler/Outcome" (some 2) with
  accessFlags := 49
  interfaces := #[]
  cf := some (fileOf pool4 14 #[] #[{ accessFlags := 1, nameIndex := 5, descriptorIndex := 38, attributes := #[] }, { accessFlags := 1, nameIndex := 17, descriptorIndex := 45, attributes := #[] }] 49 2 #[] #[{ accessFlags := 18, nameIndex := 17, descriptorIndex := 10, attributes := #[] }, { accessFlags := 18, nameIndex := 20, descriptorIndex := 21, attributes := #[] }, { accessFlags := 18, nameIndex := 24, descriptorIndex := 25, attributes := #[] }])
  fields := #[{ name := "assignment", type := (.array .int), accessFlags := 18, slot := 0, constantValue := 0 }, { name := "counts", type := (.object "com/example/forebound/forebound/scheduler/Counts"), accessFlags := 18, slot := 1, constantValue := 0 }, { name := "deleted", type := .long, accessFlags := 18, slot := 2, constantValue := 0 }]
  methods := #[k4m0, k4m1]
  instanceTypes := #[(.array .int), (.object "com/example/forebound/forebound/scheduler/Counts"), .long]
  staticTypes := #[]
  resolved := Array.replicate 73 none
  statics := none }

def pool5 : Array CpInfo := pool [(1, .class_ 2), (0, u "java/lang/Cloneable"), (0, .class_ 4), (0, u "java/lang/Object")] 2

/-- java/lang/Cloneable -/
def k5 : Class := { plain "java/lang/Cloneable" (some 0) with
  accessFlags := 1537
  interfaces := #[]
  cf := some (fileOf pool5 1 #[] #[] 1537 3 #[] #[])
  fields := #[]
  methods := #[]
  instanceTypes := #[]
  staticTypes := #[]
  resolved := Array.replicate 7 none
  statics := none }

def pool6 : Array CpInfo := pool [(1, u "java/io/Serializable"), (0, .class_ 1), (0, u "java/lang/Object"), (0, .class_ 3)] 3

/-- java/io/Serializable -/
def k6 : Class := { plain "java/io/Serializable" (some 0) with
  accessFlags := 1537
  interfaces := #[]
  cf := some (fileOf pool6 2 #[] #[] 1537 4 #[] #[])
  fields := #[]
  methods := #[]
  instanceTypes := #[]
  staticTypes := #[]
  resolved := Array.replicate 8 none
  statics := none }

/-- the primitive byte -/
def k7 : Class := { plain "byte" none with kind := .primitive 'B', accessFlags := 0x411 }
/-- [B -/
def k8 : Class := { plain "[B" (some 0) with kind := .array 7 .byte, interfaces := #[5, 6], accessFlags := 1041 }

/-- the primitive int -/
def k9 : Class := { plain "int" none with kind := .primitive 'I', accessFlags := 0x411 }
/-- [I -/
def k10 : Class := { plain "[I" (some 0) with kind := .array 9 .int, interfaces := #[5, 6], accessFlags := 1041 }

def heap : Heap := #[]
def classes : Array Class := #[k0, k1, k2, k3, k4, k5, k6, k7, k8, k9, k10]
def interned : List (Array UInt16 × Addr) := []
def slotsUsed : Nat := 0
def theMethod : MethodId := ⟨1, 3⟩
def args0 : Array Value := #[.int 5, .int 3, .int 4, .int 3, .long 9]
def aboutOver (below : List Frame) : State where
  vm := { classes := classes, interned := interned.toArray }
  heap := heap
  slotsUsed := slotsUsed
  threads := #[{ frames := .invoking theMethod args0 :: below }]
def below0 : List Frame := [.native { method := ⟨0, 0⟩, args := #[] }]
def about1 : State := aboutOver below0
def p0 : Program := .bare "" "" ""
def e0 : Env := launch0.env 0 0 0
theorem w_frames : about1.frames = Frame.invoking theMethod args0 :: below0 := rfl
set_option maxRecDepth 65536 in
theorem w_args : argsFit about1.vm theMethod args0 = true := by decide +kernel
set_option maxRecDepth 65536 in
theorem w_heap : heapFits about1 = true := by decide +kernel
set_option maxRecDepth 65536 in
theorem w_runnable : about1.curStatus? = some .runnable := by decide +kernel
set_option maxRecDepth 65536 in
theorem w_alone : about1.alone = true := by decide +kernel
set_option maxRecDepth 65536 in
theorem w_named : about1.methodNamed? x = some theMethod := by decide +kernel
set_option maxRecDepth 65536 in
theorem w_hears : about1.hears theMethod below0 = true := by decide +kernel
set_option maxRecDepth 65536 in
theorem w_ripe : about1.ripe theMethod args0 below0 = true := by decide +kernel
theorem w_running : about1.status = .running := rfl
set_option maxRecDepth 65536 in
theorem w_room : about1.hasRoom e0.platform room_1 = true :=
  launch0.hasRoom_least _ room_1 (by decide +kernel) (by decide +kernel) (by decide +kernel) (by decide +kernel) (by decide +kernel) (by decide +kernel)
theorem allAtoms_all (ts : List Jvm.Cond) (a : Array Jvm.Value) (st : Jvm.State) : (allAtoms ts).before a st = ts.all (fun c => c.before a st) := by
  induction ts with
  | nil => rfl
  | cons c t ih =>
    show (Jvm.Cond.and c (allAtoms t)).before a st = _
    rw [Jvm.Cond.before_and, ih, List.all_cons]
def words1 : List Jvm.Cond := Jvm.Cond.code x code maxLocals ret :: tables_1
/-- a 'code' word, met by the world's own term for the bytes: nothing is compared byte by byte -/
theorem code_word {y : MethodName} {bytes : ByteArray} {mx : Nat} {rt : Option FieldType} {a : Array Value} {s : State} {m : MethodId} {meth : Method} {c : Code} (h1 : s.methodNamed? y = some m) (h2 : s.vm.method? m = some meth) (h3 : meth.code = some c) (h4 : c.code = bytes)
    (h5 : (c.maxLocals == mx && c.exceptionTable.isEmpty && decide (c.maxStack ≤ mostOperands) && decide (meth.sig.returnType = rt) && !meth.locks && decide (parseMethodDescriptor y.desc = some meth.sig)) = true) : (Jvm.Cond.code y bytes mx rt).before a s = true := by
  simp only [Bool.and_eq_true, beq_iff_eq, Bool.not_eq_true', decide_eq_true_eq] at h5
  obtain ⟨⟨⟨⟨⟨g1, g2⟩, g3⟩, g4⟩, g5⟩, g6⟩ := h5
  simp [Cond.before, Cond.holds, Cond.value, h1, h2, h3, h4, g1, g2, g3, g4, g5, g6]
def isCode : Jvm.Cond → Bool
  | .code _ _ _ _ => true
  | _ => false
theorem all_split {L : List Jvm.Cond} {P : Jvm.Cond → Bool} (h1 : L.all (fun c => isCode c || P c) = true) (h2 : ∀ c ∈ L.filter isCode, P c = true) : L.all P = true := by
  refine List.all_eq_true.mpr fun c hc => ?_
  have h := List.all_eq_true.mp h1 c hc
  rcases Bool.eq_false_or_eq_true (isCode c) with hi | hi
  · exact h2 c (List.mem_filter.mpr ⟨hc, hi⟩)
  · simpa [hi] using h
set_option maxRecDepth 65536 in
theorem w_c0 : (Jvm.Cond.code x code maxLocals ret).before args0 about1 = true := code_word (m := ⟨1, 3⟩) (meth := k1m3) (c := k1c3) (by decide +kernel) rfl rfl rfl (by decide +kernel)
set_option maxRecDepth 65536 in
theorem w_c1 : (Jvm.Cond.code ({ cls := "com/example/forebound/forebound/scheduler/Counts", name := "<init>", desc := "(JJJ)V" } : Jvm.MethodName) prog_31_method_1_code (7 : Nat) (Option.none : Option Jvm.ClassFile.FieldType)).before args0 about1 = true := code_word (m := ⟨3, 0⟩) (meth := k3m0) (c := k3c0) (by decide +kernel) rfl rfl rfl (by decide +kernel)
set_option maxRecDepth 65536 in
theorem w_c2 : (Jvm.Cond.code ({ cls := "java/lang/Record", name := "<init>", desc := "()V" } : Jvm.MethodName) jdk_30_method_1_code (1 : Nat) (Option.none : Option Jvm.ClassFile.FieldType)).before args0 about1 = true := code_word (m := ⟨2, 0⟩) (meth := k2m0) (c := k2c0) (by decide +kernel) rfl rfl rfl (by decide +kernel)
set_option maxRecDepth 65536 in
theorem w_c3 : (Jvm.Cond.code ({ cls := "java/lang/Object", name := "<init>", desc := "()V" } : Jvm.MethodName) object_method_1_code (1 : Nat) (Option.none : Option Jvm.ClassFile.FieldType)).before args0 about1 = true := code_word (m := ⟨0, 0⟩) (meth := k0m0) (c := k0c0) (by decide +kernel) rfl rfl rfl (by decide +kernel)
set_option maxRecDepth 65536 in
theorem w_c4 : (Jvm.Cond.code ({ cls := "com/example/forebound/forebound/scheduler/Outcome", name := "<init>", desc := "([ILcom/example/forebound/forebound/scheduler/Counts;J)V" } : Jvm.MethodName) prog_34_method_1_code (5 : Nat) (Option.none : Option Jvm.ClassFile.FieldType)).before args0 about1 = true := code_word (m := ⟨4, 0⟩) (meth := k4m0) (c := k4c0) (by decide +kernel) rfl rfl rfl (by decide +kernel)
set_option maxRecDepth 65536 in
theorem w_c5 : (Jvm.Cond.code ({ cls := "com/example/forebound/forebound/scheduler/OutcomeAssignmentPinLaw", name := "spoil", desc := "([IIIII)V" } : Jvm.MethodName) method_3_code (5 : Nat) (Option.none : Option Jvm.ClassFile.FieldType)).before args0 about1 = true := code_word (m := ⟨1, 2⟩) (meth := k1m2) (c := k1c2) (by decide +kernel) rfl rfl rfl (by decide +kernel)
set_option maxRecDepth 65536 in
theorem w_c6 : (Jvm.Cond.code ({ cls := "com/example/forebound/forebound/scheduler/Outcome", name := "assignment", desc := "()[I" } : Jvm.MethodName) prog_34_method_2_code (1 : Nat) (Option.some (Jvm.ClassFile.FieldType.array Jvm.ClassFile.FieldType.int))).before args0 about1 = true := code_word (m := ⟨4, 1⟩) (meth := k4m1) (c := k4c1) (by decide +kernel) rfl rfl rfl (by decide +kernel)
set_option maxRecDepth 65536 in
theorem w_c7 : (Jvm.Cond.code ({ cls := "com/example/forebound/forebound/scheduler/OutcomeAssignmentPinLaw", name := "same", desc := "([IIIII)Z" } : Jvm.MethodName) method_2_code (5 : Nat) (Option.some Jvm.ClassFile.FieldType.boolean)).before args0 about1 = true := code_word (m := ⟨1, 1⟩) (meth := k1m1) (c := k1c1) (by decide +kernel) rfl rfl rfl (by decide +kernel)
def codes1 : List Jvm.Cond := [Jvm.Cond.code x code maxLocals ret, Jvm.Cond.code ({ cls := "com/example/forebound/forebound/scheduler/Counts", name := "<init>", desc := "(JJJ)V" } : Jvm.MethodName) prog_31_method_1_code (7 : Nat) (Option.none : Option Jvm.ClassFile.FieldType), Jvm.Cond.code ({ cls := "java/lang/Record", name := "<init>", desc := "()V" } : Jvm.MethodName) jdk_30_method_1_code (1 : Nat) (Option.none : Option Jvm.ClassFile.FieldType), Jvm.Cond.code ({ cls := "java/lang/Object", name := "<init>", desc := "()V" } : Jvm.MethodName) object_method_1_code (1 : Nat) (Option.none : Option Jvm.ClassFile.FieldType), Jvm.Cond.code ({ cls := "com/example/forebound/forebound/scheduler/Outcome", name := "<init>", desc := "([ILcom/example/forebound/forebound/scheduler/Counts;J)V" } : Jvm.MethodName) prog_34_method_1_code (5 : Nat) (Option.none : Option Jvm.ClassFile.FieldType), Jvm.Cond.code ({ cls := "com/example/forebound/forebound/scheduler/OutcomeAssignmentPinLaw", name := "spoil", desc := "([IIIII)V" } : Jvm.MethodName) method_3_code (5 : Nat) (Option.none : Option Jvm.ClassFile.FieldType), Jvm.Cond.code ({ cls := "com/example/forebound/forebound/scheduler/Outcome", name := "assignment", desc := "()[I" } : Jvm.MethodName) prog_34_method_2_code (1 : Nat) (Option.some (Jvm.ClassFile.FieldType.array Jvm.ClassFile.FieldType.int)), Jvm.Cond.code ({ cls := "com/example/forebound/forebound/scheduler/OutcomeAssignmentPinLaw", name := "same", desc := "([IIIII)Z" } : Jvm.MethodName) method_2_code (5 : Nat) (Option.some Jvm.ClassFile.FieldType.boolean)]
set_option maxRecDepth 65536 in
theorem codes_eq : words1.filter isCode = codes1 := rfl
theorem w_codes : ∀ c ∈ words1.filter isCode, c.before args0 about1 = true := by
  rw [codes_eq]
  intro c hc
  simp only [codes1, List.mem_cons, List.not_mem_nil, or_false] at hc
  rcases hc with rfl | rfl | rfl | rfl | rfl | rfl | rfl | rfl
  · exact w_c0
  · exact w_c1
  · exact w_c2
  · exact w_c3
  · exact w_c4
  · exact w_c5
  · exact w_c6
  · exact w_c7
set_option maxRecDepth 65536 in
theorem w_t1 : (words1.take 24).all (fun c => isCode c || c.before args0 about1) = true := by decide +kernel
set_option maxRecDepth 65536 in
theorem w_t2 : ((words1.drop 24).take 24).all (fun c => isCode c || c.before args0 about1) = true := by decide +kernel
set_option maxRecDepth 65536 in
theorem w_t3 : ((words1.drop 24).drop 24).all (fun c => isCode c || c.before args0 about1) = true := by decide +kernel
theorem w_tables : (allAtoms (Jvm.Cond.code x code maxLocals ret :: tables_1)).before args0 about1 = true := by
  rw [allAtoms_all]
  show words1.all (fun c => c.before args0 about1) = true
  refine all_split ?_ w_codes
  rw [← List.take_append_drop 24 words1, List.all_append, w_t1, ← List.take_append_drop 24 (words1.drop 24), List.all_append, w_t2, w_t3]
  rfl
set_option maxRecDepth 65536 in
theorem w_case : (Jvm.Cond.and given_1 narrow_1).before args0 about1 = true := by decide +kernel
theorem w_applies : (headSpec (Jvm.Cond.code x code maxLocals ret :: tables_1) room_1).applies x e0.platform about1 = true :=
  (Spec.applies_iff w_frames).mpr ⟨w_running, w_runnable, w_alone, w_named, w_hears, w_ripe, w_room, w_tables⟩
theorem atStart : AtStart classFile x code maxLocals ret World_1 tables_1 room_1 Calls_1 rest_1 Pre_1 launch0 p0 e0 about1 theMethod args0 below0 :=
  ⟨lists_1, trivial, launch0.admits_env _ _ _, launch0.least_env, fairChoices_fair.cas, fairChoices_fair.clock, w_frames, w_args, w_heap, w_applies, trivial, trivial, w_case⟩
end start1
theorem witness_1 : WitnessClaimed_1 := ⟨start1.p0, start1.e0, start1.about1, start1.theMethod, start1.args0, start1.below0, start1.atStart⟩
end Jvm.Pilot.@@N@@
