import JvmDerived
import JvmDerived.Pilot.@@N@@Statement
import JvmDerived.Pilot.@@N@@Code
set_option linter.unusedVariables false
set_option linter.unusedSimpArgs false
@@BLOCK:NumsL.lean.txt@@
namespace Jvm.Pilot.@@N@@
open Jvm Jvm.ClassFile Sem Op Lib Jvm.Free Jvm.Stand Jvm.LawKit Jvm.RoadKit Bundle Jvm.Pilot.@@N@@.Jvm.D
/-! ## own base: a heap as a list of objects; a body by its contract; one lemma an instruction -/
section Own
abbrev Ob : Type := Addr × FieldType × List Value
abbrev Fm : Type := String → List (String × String)
/-- what the cell at a holds -/
def Oat (F : Fm) (Z : State) (h : Heap) (a : Addr) (t : FieldType) (vs : List Value) : Prop :=
  match t with
  | .array ty => Exa Z h a ("[" ++ ty.toString) ∧ (∀ v ∈ vs, fits ty v = true) ∧ ∃ c : Cell, Arr Z h a c ty ∧ c.slots = vs.toArray
  | .object C => Exa Z h a C ∧ vs.length = (F C).length ∧ ∀ (i : Nat) (n d : String) (v : Value), (F C)[i]? = some (n, d) → vs[i]? = some v → Fld Z h a C n d v
  | _ => False
def Hp (F : Fm) (Z : State) (h : Heap) (os : List Ob) : Prop := (os.map (·.1)).Nodup ∧ ∀ o ∈ os, Oat F Z h o.1 o.2.1 o.2.2
/-- an address that the body may write: one of A, or a new one -/
def Okk (A : List Addr) (N : Nat) (a : Addr) : Prop := a ∈ A ∨ N ≤ a
def Hin (F : Fm) (Z : State) (h0 : Heap) (A : List Addr) (h : Heap) (os : List Ob) : Prop := Keep h0 h A ∧ Hp F Z h os ∧ ∀ o ∈ os, Okk A h0.size o.1
def Qc (F : Fm) (Z : State) (B : Nat) (loc : List Ob) (h0 : Heap) (P : Option Value → List Ob → Prop) (v : Option Value) (h : Heap) (L : List Loc) : Prop :=
  (∀ y ∈ L, B ≤ y.base) ∧ ∃ os', Hin F Z h0 (loc.map (·.1)) h os' ∧ P v os'
/-- a body's contract: over the objects loc, with the arguments as, it returns v and leaves os', and P v os' -/
def Con (l : Launch) (Z : State) (F : Fm) (B : Nat) (y : MethodName) (bytes : ByteArray) (mL : Nat) (ret : Option FieldType) (rm : Room) (ws : List Jvm.Cond) (as : Array Value) (loc : List Ob) (P : Option Value → List Ob → Prop) : Prop :=
  ∀ h0, Hp F Z h0 loc → (∀ a ∈ loc.map (·.1), B ≤ a) → B ≤ h0.size → MetFree l y (head1 (Jvm.Cond.code y bytes mL ret :: ws) rm) (fun a U => a = as ∧ Z.Warmed39 U.vm ∧ U.heap = h0) (fun _ _ _ _ _ => True) (fun _ U o U' => ∃ v L, o = .returned v ∧ Qc F Z B loc h0 P v U'.heap L ∧ FrameEnd U o U' L rm.cells rm.slots)
/-- the run stands in the body of y; the objects are os -/
def Here (p : Program) (l : Launch) (e : Env) (R : Room) (s : State) (m : MethodId) (args : Array Value) (below : List Frame) (meth : Method) (c : Code) (Z : State) (F : Fm) (B : Nat) (h0 : Heap) (A : List Addr) (y : MethodName) (bytes : ByteArray) (mL : Nat) (ret : Option FieldType) (T : State) (k n : Nat) (os : List Ob) : Prop :=
  (p.tables.exec = Jvm.exec ∧ Z.Warmed39 s.vm ∧ c.code = bytes ∧ c.maxLocals = mL ∧ s.vm.findClass y.cls = some m.cls ∧ meth.sig.returnType = ret ∧ meth.locks = false ∧ meth.name = y.name) ∧
  ∃ locs, Stand p l e R s m args below meth c T locs k n ∧ ((∀ y ∈ locs, B ≤ y.base) ∧ (∀ a ∈ A, B ≤ a) ∧ B ≤ h0.size) ∧ Hin F Z h0 A T.heap os
def Fin1 (below : List Frame) (s : State) (Z : State) (F : Fm) (B : Nat) (h0 : Heap) (A : List Addr) (kc ks : Nat) (P : Option Value → List Ob → Prop) (t : State) : Prop :=
  t.status = .running ∧ ∃ v L, Ended t below (.returned v) ∧ ((∀ y ∈ L, B ≤ y.base) ∧ ∃ os', Hin F Z h0 A t.heap os' ∧ P v os') ∧ FrameEnd s (.returned v) t L kc ks
def Go (p : Program) (e : Env) (below : List Frame) (G : State → Prop) (S : State) : Prop := ∃ t, Steps p.tables e below S t ∧ G t

variable {p : Program} {l : Launch} {e : Env} {R : Room} {s : State} {m : MethodId} {args : Array Value} {below : List Frame} {meth : Method} {c : Code} {Z : State} {F : Fm} {B : Nat} {h0 : Heap} {A : List Addr} {y : MethodName} {bytes : ByteArray} {mL : Nat} {ret : Option FieldType} {T : State} {k n : Nat} {os : List Ob} {G : State → Prop} {pc : Nat} {ls : Array Slot} {st : List Value} {a0 : Array Value}
theorem Go.by {S S' : State} (k : ∀ t, Steps p.tables e below S' t → Steps p.tables e below S t) (g : Go p e below G S') : Go p e below G S := by
  obtain ⟨t, h, g⟩ := g; exact ⟨t, k t h, g⟩
theorem Go.join {α : Type} {T : State} {fr : α → JFrame} (tree : α) {S : State} (K : ∀ z, z = tree → Go p e below G (T.setTop (fr z))) (M : (∀ z, z = tree → Go p e below G (T.setTop (fr z))) → Go p e below G S) : Go p e below G S := M K
theorem Go.cut {α : Type} {T : State} {fr : α → JFrame} (Q : α → Prop) {S : State} (K : ∀ z, Q z → Go p e below G (T.setTop (fr z))) (M : (∀ z, Q z → Go p e below G (T.setTop (fr z))) → Go p e below G S) : Go p e below G S := M K
theorem Go.cast {S S' : State} (q : S' = S) (g : Go p e below G S') : Go p e below G S := q ▸ g
theorem Oat.keep {h h' : Heap} {ws : List Addr} {a : Addr} {t : FieldType} {vs : List Value} (O : Oat F Z h a t vs) (K : Keep h h' ws) (q : a ∉ ws) : Oat F Z h' a t vs := by
  unfold Oat at O ⊢
  split at O
  · obtain ⟨E, f, cl, Ar, S⟩ := O; exact ⟨E.keep K, f, cl, ⟨K.2.1 a cl Ar.1 q, Ar.2⟩, S⟩
  · obtain ⟨E, hl, f⟩ := O; exact ⟨E.keep K, hl, fun i n d v h1 h2 => (f i n d v h1 h2).keep K q⟩
  · exact O
theorem Oat.lt {h : Heap} {a : Addr} {t : FieldType} {vs : List Value} (O : Oat F Z h a t vs) : a < h.size := by
  unfold Oat at O
  split at O
  · exact O.1.lt
  · exact O.1.lt
  · exact O.elim
theorem Okk.ge {A : List Addr} {N B : Nat} {a : Addr} (h : Okk A N a) (h1 : ∀ a ∈ A, B ≤ a) (h2 : B ≤ N) : B ≤ a := h.elim (h1 a) fun q => Nat.le_trans h2 q
theorem Keep.self (h : Heap) : Keep h h [] := Keep.refl h []
theorem Hp.nil {h : Heap} : Hp F Z h [] := ⟨List.nodup_nil, fun o q => nomatch q⟩
theorem Hp.get {h : Heap} {i : Nat} {o : Ob} (H : Hp F Z h os) (hi : os[i]? = some o) : Oat F Z h o.1 o.2.1 o.2.2 := H.2 o (List.mem_of_getElem? hi)
theorem nodup_at {L : List Addr} (hn : L.Nodup) {i j : Nat} {a : Addr} (hi : L[i]? = some a) (hj : L[j]? = some a) : i = j := by
  obtain ⟨h1, e1⟩ := List.getElem?_eq_some_iff.mp hi
  obtain ⟨h2, e2⟩ := List.getElem?_eq_some_iff.mp hj
  exact (List.getElem_inj hn).mp (e1.trans e2.symm)
theorem Hp.ext {h h' : Heap} (H : Hp F Z h os) (E : Ext h h') : Hp F Z h' os :=
  ⟨H.1, fun o ho => (H.2 o ho).keep ((Keep.refl h []).ext E) (fun q => nomatch q)⟩
theorem Hp.push {h h' : Heap} {t : FieldType} {vs : List Value} (H : Hp F Z h os) (E : Ext h h') (O : Oat F Z h' h.size t vs) : Hp F Z h' (os ++ [(h.size, t, vs)]) := by
  refine ⟨?_, fun o ho => ?_⟩
  · rw [List.map_append, List.nodup_append]
    refine ⟨H.1, by simp, fun a ha b hb => ?_⟩
    obtain ⟨o, ho, rfl⟩ := List.mem_map.mp ha
    have := (H.2 o ho).lt
    simp only [List.map_cons, List.map_nil, List.mem_singleton] at hb
    subst hb
    exact Nat.ne_of_lt this
  · rcases List.mem_append.mp ho with q | q
    · exact (H.ext E).2 o q
    · cases List.mem_singleton.mp q; exact O
/-- one object is written -/
theorem Hp.set {h h' : Heap} {i : Nat} {a : Addr} {t : FieldType} {vs vs' : List Value} (H : Hp F Z h os) (hi : os[i]? = some (a, t, vs)) (K : Keep h h' [a]) (O : Oat F Z h' a t vs') : Hp F Z h' (os.set i (a, t, vs')) := by
  obtain ⟨hlt, he⟩ := List.getElem?_eq_some_iff.mp hi
  have em : (os.set i (a, t, vs')).map (·.1) = os.map (·.1) := by
    rw [List.map_set]
    refine List.ext_getElem? fun j => ?_
    rw [List.getElem?_set]
    split
    · rename_i e; subst e; simp [he, hlt]
    · rfl
  refine ⟨em ▸ H.1, fun o ho => ?_⟩
  obtain ⟨j, hj⟩ := List.mem_iff_getElem?.mp ho
  rw [List.getElem?_set] at hj
  split at hj
  · simp [hlt] at hj; subst hj; exact O
  · rename_i ne
    refine (H.get hj).keep K (fun q => ne ?_)
    have q' : o.1 = a := List.mem_singleton.mp q
    exact (nodup_at H.1 (i := j) (j := i) (a := a) (by rw [List.getElem?_map, hj, ← q']; rfl) (by rw [List.getElem?_map, hi]; rfl)).symm
theorem Hin.mem {h : Heap} {i : Nat} {o : Ob} (H : Hin F Z h0 A h os) (hi : os[i]? = some o) : Okk A h0.size o.1 := H.2.2 o (List.mem_of_getElem? hi)
theorem Hin.push {h h' : Heap} {t : FieldType} {vs : List Value} (H : Hin F Z h0 A h os) (E : Ext h h') (O : Oat F Z h' h.size t vs) : Hin F Z h0 A h' (os ++ [(h.size, t, vs)]) :=
  ⟨H.1.ext E, H.2.1.push E O, fun o ho => (List.mem_append.mp ho).elim (H.2.2 o) fun q => by cases List.mem_singleton.mp q; exact Or.inr H.1.1⟩
theorem Hin.set {h h' : Heap} {i : Nat} {a : Addr} {t : FieldType} {vs vs' : List Value} (H : Hin F Z h0 A h os) (hi : os[i]? = some (a, t, vs)) (K : Keep h h' [a]) (O : Oat F Z h' a t vs') : Hin F Z h0 A h' (os.set i (a, t, vs')) := by
  refine ⟨H.1.trans K fun x hx => by cases List.mem_singleton.mp hx; exact H.mem hi, H.2.1.set hi K O, fun o ho => ?_⟩
  rcases List.mem_or_eq_of_mem_set ho with q | q
  · exact H.2.2 o q
  · subst q; have z := H.mem hi; exact z

/-- the body, entered -/
theorem Con.of {as : Array Value} {loc : List Ob} {P : Option Value → List Ob → Prop} {rm : Room} {ws : List Jvm.Cond} {ls : Array Slot} (hpl : plainFor y = true) (hef : ∀ m, entryFrame m as mL = mkF m 0 ls [])
    (body : ∀ p e h0 s m below meth c T, Here p l e rm s m as below meth c Z F B h0 (loc.map (·.1)) y bytes mL ret T 0 0 loc → Go p e below (Fin1 below s Z F B h0 (loc.map (·.1)) rm.cells rm.slots P) (T.setTop (mkF m 0 ls []))) :
    Con l Z F B y bytes mL ret rm ws as loc P := by
  intro h0 H hA hB
  refine MetFree.of_bodySF hpl hisR ?_
  intro p e s m args below meth c s₁ Bd hml0 hP hK
  obtain ⟨rfl, hZ, hh⟩ := hP
  have X0 : Stand p l e rm s m args below meth c s₁ [] 0 0 := Stand.of_body Bd
  have e0 : s₁.heap = h0 := by rw [← hh, Bd.state]; rfl
  obtain ⟨t, st, hr, v, L, hE, ⟨hL, os', hI, hp⟩, hF⟩ := body p e h0 s m below meth c s₁ ⟨⟨Bd.exec, hZ, Bd.bytes, hml0, findClass_of_methodNamed Bd.named, Bd.returns, Bd.notSynchronized, (name_of_methodNamed Bd.named Bd.method).1⟩, [], X0, ⟨fun y q => (nomatch q), hA, hB⟩, by rw [e0]; exact ⟨Keep.refl _ _, H, fun o ho => Or.inl (List.mem_map.mpr ⟨o, ho, rfl⟩)⟩⟩
  exact ⟨t, _, castTop (hef m) st, hr, hE, v, L, rfl, ⟨hL, os', hI, hp⟩, hF⟩

theorem g_iload_n {j : Fin 4} {v : Int32} (W : Here p l e R s m args below meth c Z F B h0 A y bytes mL ret T k n os) (hd : decode bytes pc = .ok (.iload_n j, 1)) (hl : ls[j.val]? = some (.val (.int v))) (K : Go p e below G (T.setTop (mkF m (pc + 1) ls (.int v :: st)))) : Go p e below G (T.setTop (mkF m pc ls (st))) := by
  obtain ⟨⟨hx, hZ, hby, -⟩, locs, X, -⟩ := W
  exact K.by fun t q => XS.iloadN X.here hx rfl (hb hby hd) hl q
theorem g_iload {j : Nat} {v : Int32} (W : Here p l e R s m args below meth c Z F B h0 A y bytes mL ret T k n os) (hd : decode bytes pc = .ok (.iload j, 2)) (hl : ls[j]? = some (.val (.int v))) (K : Go p e below G (T.setTop (mkF m (pc + 2) ls (.int v :: st)))) : Go p e below G (T.setTop (mkF m pc ls (st))) := by
  obtain ⟨⟨hx, hZ, hby, -⟩, locs, X, -⟩ := W
  exact K.by fun t q => XS.iload X.here hx rfl (hb hby hd) hl q
theorem g_lload_n {j : Fin 4} {v : Int64} (W : Here p l e R s m args below meth c Z F B h0 A y bytes mL ret T k n os) (hd : decode bytes pc = .ok (.lload_n j, 1)) (hl : ls[j.val]? = some (.val (.long v))) (K : Go p e below G (T.setTop (mkF m (pc + 1) ls (.long v :: st)))) : Go p e below G (T.setTop (mkF m pc ls (st))) := by
  obtain ⟨⟨hx, hZ, hby, -⟩, locs, X, -⟩ := W
  exact K.by fun t q => XT.lloadN X.here hx rfl (hb hby hd) hl q
theorem g_lload {j : Nat} {v : Int64} (W : Here p l e R s m args below meth c Z F B h0 A y bytes mL ret T k n os) (hd : decode bytes pc = .ok (.lload j, 2)) (hl : ls[j]? = some (.val (.long v))) (K : Go p e below G (T.setTop (mkF m (pc + 2) ls (.long v :: st)))) : Go p e below G (T.setTop (mkF m pc ls (st))) := by
  obtain ⟨⟨hx, hZ, hby, -⟩, locs, X, -⟩ := W
  exact K.by fun t q => XT.lload X.here hx rfl (hb hby hd) hl q
theorem g_aload_n {j : Fin 4} {v : Value} (W : Here p l e R s m args below meth c Z F B h0 A y bytes mL ret T k n os) (hd : decode bytes pc = .ok (.aload_n j, 1)) (hl : ls[j.val]? = some (.val v)) (hv : v.isRef = true) (K : Go p e below G (T.setTop (mkF m (pc + 1) ls (v :: st)))) : Go p e below G (T.setTop (mkF m pc ls (st))) := by
  obtain ⟨⟨hx, hZ, hby, -⟩, locs, X, -⟩ := W
  exact K.by fun t q => XS.aloadN X.here hx rfl (hb hby hd) hl hv q
theorem g_aload {j : Nat} {v : Value} (W : Here p l e R s m args below meth c Z F B h0 A y bytes mL ret T k n os) (hd : decode bytes pc = .ok (.aload j, 2)) (hl : ls[j]? = some (.val v)) (hv : v.isRef = true) (K : Go p e below G (T.setTop (mkF m (pc + 2) ls (v :: st)))) : Go p e below G (T.setTop (mkF m pc ls (st))) := by
  obtain ⟨⟨hx, hZ, hby, -⟩, locs, X, -⟩ := W
  exact K.by fun t q => XS.aload X.here hx rfl (hb hby hd) hl hv q
theorem g_istore_n {j : Fin 4} {v : Int32} {ls' : Array Slot} (W : Here p l e R s m args below meth c Z F B h0 A y bytes mL ret T k n os) (hd : decode bytes pc = .ok (.istore_n j, 1)) (hl : storeLocals ls j.val (.int v) = some ls') (K : Go p e below G (T.setTop (mkF m (pc + 1) ls' (st)))) : Go p e below G (T.setTop (mkF m pc ls (.int v :: st))) := by
  obtain ⟨⟨hx, hZ, hby, -⟩, locs, X, -⟩ := W
  exact K.by fun t q => XS.istoreN X.here hx rfl (hb hby hd) rfl hl q
theorem g_istore {j : Nat} {v : Int32} {ls' : Array Slot} (W : Here p l e R s m args below meth c Z F B h0 A y bytes mL ret T k n os) (hd : decode bytes pc = .ok (.istore j, 2)) (hl : storeLocals ls j (.int v) = some ls') (K : Go p e below G (T.setTop (mkF m (pc + 2) ls' (st)))) : Go p e below G (T.setTop (mkF m pc ls (.int v :: st))) := by
  obtain ⟨⟨hx, hZ, hby, -⟩, locs, X, -⟩ := W
  exact K.by fun t q => XS.istore X.here hx rfl (hb hby hd) rfl hl q
theorem g_lstore_n {j : Fin 4} {v : Int64} {ls' : Array Slot} (W : Here p l e R s m args below meth c Z F B h0 A y bytes mL ret T k n os) (hd : decode bytes pc = .ok (.lstore_n j, 1)) (hl : storeLocals ls j.val (.long v) = some ls') (K : Go p e below G (T.setTop (mkF m (pc + 1) ls' (st)))) : Go p e below G (T.setTop (mkF m pc ls (.long v :: st))) := by
  obtain ⟨⟨hx, hZ, hby, -⟩, locs, X, -⟩ := W
  exact K.by fun t q => XT.lstoreN X.here hx rfl (hb hby hd) rfl hl q
theorem g_lstore {j : Nat} {v : Int64} {ls' : Array Slot} (W : Here p l e R s m args below meth c Z F B h0 A y bytes mL ret T k n os) (hd : decode bytes pc = .ok (.lstore j, 2)) (hl : storeLocals ls j (.long v) = some ls') (K : Go p e below G (T.setTop (mkF m (pc + 2) ls' (st)))) : Go p e below G (T.setTop (mkF m pc ls (.long v :: st))) := by
  obtain ⟨⟨hx, hZ, hby, -⟩, locs, X, -⟩ := W
  exact K.by fun t q => XT.lstore X.here hx rfl (hb hby hd) rfl hl q
theorem g_astore_n {j : Fin 4} {v : Value} {ls' : Array Slot} (W : Here p l e R s m args below meth c Z F B h0 A y bytes mL ret T k n os) (hd : decode bytes pc = .ok (.astore_n j, 1)) (hv : v.isRef = true) (hl : storeLocals ls j.val v = some ls') (K : Go p e below G (T.setTop (mkF m (pc + 1) ls' (st)))) : Go p e below G (T.setTop (mkF m pc ls (v :: st))) := by
  obtain ⟨⟨hx, hZ, hby, -⟩, locs, X, -⟩ := W
  exact K.by fun t q => XS.astoreN X.here hx rfl (hb hby hd) rfl hv hl q
theorem g_astore {j : Nat} {v : Value} {ls' : Array Slot} (W : Here p l e R s m args below meth c Z F B h0 A y bytes mL ret T k n os) (hd : decode bytes pc = .ok (.astore j, 2)) (hv : v.isRef = true) (hl : storeLocals ls j v = some ls') (K : Go p e below G (T.setTop (mkF m (pc + 2) ls' (st)))) : Go p e below G (T.setTop (mkF m pc ls (v :: st))) := by
  obtain ⟨⟨hx, hZ, hby, -⟩, locs, X, -⟩ := W
  exact K.by fun t q => XS.astore X.here hx rfl (hb hby hd) rfl hv hl q
theorem g_iconst {i : Int} (v : Int32) (hv : Int32.ofInt i = v) (W : Here p l e R s m args below meth c Z F B h0 A y bytes mL ret T k n os) (hd : decode bytes pc = .ok (.iconst i, 1)) (K : Go p e below G (T.setTop (mkF m (pc + 1) ls (.int v :: st)))) : Go p e below G (T.setTop (mkF m pc ls st)) := by
  obtain ⟨⟨hx, hZ, hby, -⟩, locs, X, -⟩ := W
  subst hv
  exact K.by fun t q => XS.iconst X.here hx rfl (hb hby hd) q
theorem g_bipush {i : Int} (v : Int32) (hv : (Int8.ofInt i).toInt32 = v) (W : Here p l e R s m args below meth c Z F B h0 A y bytes mL ret T k n os) (hd : decode bytes pc = .ok (.bipush i, 2)) (K : Go p e below G (T.setTop (mkF m (pc + 2) ls (.int v :: st)))) : Go p e below G (T.setTop (mkF m pc ls st)) := by
  obtain ⟨⟨hx, hZ, hby, -⟩, locs, X, -⟩ := W
  subst hv
  exact K.by fun t q => XS.bipush X.here hx rfl (hb hby hd) q
theorem g_sipush {i : Int} (v : Int32) (hv : (Int16.ofInt i).toInt32 = v) (W : Here p l e R s m args below meth c Z F B h0 A y bytes mL ret T k n os) (hd : decode bytes pc = .ok (.sipush i, 3)) (K : Go p e below G (T.setTop (mkF m (pc + 3) ls (.int v :: st)))) : Go p e below G (T.setTop (mkF m pc ls st)) := by
  obtain ⟨⟨hx, hZ, hby, -⟩, locs, X, -⟩ := W
  subst hv
  exact K.by fun t q => XS.sipush X.here hx rfl (hb hby hd) q
theorem g_lconst {i : Fin 2} (v : Int64) (hv : Int64.ofNat i = v) (W : Here p l e R s m args below meth c Z F B h0 A y bytes mL ret T k n os) (hd : decode bytes pc = .ok (.lconst i, 1)) (K : Go p e below G (T.setTop (mkF m (pc + 1) ls (.long v :: st)))) : Go p e below G (T.setTop (mkF m pc ls st)) := by
  obtain ⟨⟨hx, hZ, hby, -⟩, locs, X, -⟩ := W
  subst hv
  exact K.by fun t q => XT.lconst X.here hx rfl (hb hby hd) q
theorem g_aconst_null  (W : Here p l e R s m args below meth c Z F B h0 A y bytes mL ret T k n os) (hd : decode bytes pc = .ok (.aconst_null, 1)) (K : Go p e below G (T.setTop (mkF m (pc + 1) ls (.null :: st)))) : Go p e below G (T.setTop (mkF m pc ls (st))) := by
  obtain ⟨⟨hx, hZ, hby, -⟩, locs, X, -⟩ := W
  exact K.by fun t q => XS.aconstNull X.here hx rfl (hb hby hd)  q
theorem g_iadd {x z : Int32} (W : Here p l e R s m args below meth c Z F B h0 A y bytes mL ret T k n os) (hd : decode bytes pc = .ok (.iadd, 1)) (K : Go p e below G (T.setTop (mkF m (pc + 1) ls (.int (x + z) :: st)))) : Go p e below G (T.setTop (mkF m pc ls (.int z :: .int x :: st))) := by
  obtain ⟨⟨hx, hZ, hby, -⟩, locs, X, -⟩ := W
  exact K.by fun t q => XS.iadd X.here hx rfl (hb hby hd) rfl q
theorem g_isub {x z : Int32} (W : Here p l e R s m args below meth c Z F B h0 A y bytes mL ret T k n os) (hd : decode bytes pc = .ok (.isub, 1)) (K : Go p e below G (T.setTop (mkF m (pc + 1) ls (.int (x - z) :: st)))) : Go p e below G (T.setTop (mkF m pc ls (.int z :: .int x :: st))) := by
  obtain ⟨⟨hx, hZ, hby, -⟩, locs, X, -⟩ := W
  exact K.by fun t q => XS.isub X.here hx rfl (hb hby hd) rfl q
theorem g_iand {x z : Int32} (W : Here p l e R s m args below meth c Z F B h0 A y bytes mL ret T k n os) (hd : decode bytes pc = .ok (.iand, 1)) (K : Go p e below G (T.setTop (mkF m (pc + 1) ls (.int (x &&& z) :: st)))) : Go p e below G (T.setTop (mkF m pc ls (.int z :: .int x :: st))) := by
  obtain ⟨⟨hx, hZ, hby, -⟩, locs, X, -⟩ := W
  exact K.by fun t q => XS.iand X.here hx rfl (hb hby hd) rfl q
theorem g_imul {x z : Int32} (W : Here p l e R s m args below meth c Z F B h0 A y bytes mL ret T k n os) (hd : decode bytes pc = .ok (.imul, 1)) (K : Go p e below G (T.setTop (mkF m (pc + 1) ls (.int (x * z) :: st)))) : Go p e below G (T.setTop (mkF m pc ls (.int z :: .int x :: st))) := by
  obtain ⟨⟨hx, hZ, hby, -⟩, locs, X, -⟩ := W
  exact K.by fun t q => XS.imul X.here hx rfl (hb hby hd) rfl q
theorem g_ior {x z : Int32} (W : Here p l e R s m args below meth c Z F B h0 A y bytes mL ret T k n os) (hd : decode bytes pc = .ok (.ior, 1)) (K : Go p e below G (T.setTop (mkF m (pc + 1) ls (.int (x ||| z) :: st)))) : Go p e below G (T.setTop (mkF m pc ls (.int z :: .int x :: st))) := by
  obtain ⟨⟨hx, hZ, hby, -⟩, locs, X, -⟩ := W
  exact K.by fun t q => XT.ior X.here hx rfl (hb hby hd) rfl q
theorem g_ixor {x z : Int32} (W : Here p l e R s m args below meth c Z F B h0 A y bytes mL ret T k n os) (hd : decode bytes pc = .ok (.ixor, 1)) (K : Go p e below G (T.setTop (mkF m (pc + 1) ls (.int (x ^^^ z) :: st)))) : Go p e below G (T.setTop (mkF m pc ls (.int z :: .int x :: st))) := by
  obtain ⟨⟨hx, hZ, hby, -⟩, locs, X, -⟩ := W
  exact K.by fun t q => XT.ixor X.here hx rfl (hb hby hd) rfl q
theorem g_ishl {x z : Int32} (W : Here p l e R s m args below meth c Z F B h0 A y bytes mL ret T k n os) (hd : decode bytes pc = .ok (.ishl, 1)) (K : Go p e below G (T.setTop (mkF m (pc + 1) ls (.int (x <<< (z &&& 31)) :: st)))) : Go p e below G (T.setTop (mkF m pc ls (.int z :: .int x :: st))) := by
  obtain ⟨⟨hx, hZ, hby, -⟩, locs, X, -⟩ := W
  exact K.by fun t q => XT.ishl X.here hx rfl (hb hby hd) rfl q
theorem g_ishr {x z : Int32} (W : Here p l e R s m args below meth c Z F B h0 A y bytes mL ret T k n os) (hd : decode bytes pc = .ok (.ishr, 1)) (K : Go p e below G (T.setTop (mkF m (pc + 1) ls (.int (x >>> (z &&& 31)) :: st)))) : Go p e below G (T.setTop (mkF m pc ls (.int z :: .int x :: st))) := by
  obtain ⟨⟨hx, hZ, hby, -⟩, locs, X, -⟩ := W
  exact K.by fun t q => XT.ishr X.here hx rfl (hb hby hd) rfl q
theorem g_iushr {x z : Int32} (W : Here p l e R s m args below meth c Z F B h0 A y bytes mL ret T k n os) (hd : decode bytes pc = .ok (.iushr, 1)) (K : Go p e below G (T.setTop (mkF m (pc + 1) ls (.int (XT.ushr x z) :: st)))) : Go p e below G (T.setTop (mkF m pc ls (.int z :: .int x :: st))) := by
  obtain ⟨⟨hx, hZ, hby, -⟩, locs, X, -⟩ := W
  exact K.by fun t q => XT.iushr X.here hx rfl (hb hby hd) rfl q
theorem g_ladd {x z : Int64} (W : Here p l e R s m args below meth c Z F B h0 A y bytes mL ret T k n os) (hd : decode bytes pc = .ok (.ladd, 1)) (K : Go p e below G (T.setTop (mkF m (pc + 1) ls (.long (x + z) :: st)))) : Go p e below G (T.setTop (mkF m pc ls (.long z :: .long x :: st))) := by
  obtain ⟨⟨hx, hZ, hby, -⟩, locs, X, -⟩ := W
  exact K.by fun t q => XT.ladd X.here hx rfl (hb hby hd) rfl q
theorem g_lsub {x z : Int64} (W : Here p l e R s m args below meth c Z F B h0 A y bytes mL ret T k n os) (hd : decode bytes pc = .ok (.lsub, 1)) (K : Go p e below G (T.setTop (mkF m (pc + 1) ls (.long (x - z) :: st)))) : Go p e below G (T.setTop (mkF m pc ls (.long z :: .long x :: st))) := by
  obtain ⟨⟨hx, hZ, hby, -⟩, locs, X, -⟩ := W
  exact K.by fun t q => XT.lsub X.here hx rfl (hb hby hd) rfl q
theorem g_lmul {x z : Int64} (W : Here p l e R s m args below meth c Z F B h0 A y bytes mL ret T k n os) (hd : decode bytes pc = .ok (.lmul, 1)) (K : Go p e below G (T.setTop (mkF m (pc + 1) ls (.long (x * z) :: st)))) : Go p e below G (T.setTop (mkF m pc ls (.long z :: .long x :: st))) := by
  obtain ⟨⟨hx, hZ, hby, -⟩, locs, X, -⟩ := W
  exact K.by fun t q => XT.lmul X.here hx rfl (hb hby hd) rfl q
theorem g_land {x z : Int64} (W : Here p l e R s m args below meth c Z F B h0 A y bytes mL ret T k n os) (hd : decode bytes pc = .ok (.land, 1)) (K : Go p e below G (T.setTop (mkF m (pc + 1) ls (.long (x &&& z) :: st)))) : Go p e below G (T.setTop (mkF m pc ls (.long z :: .long x :: st))) := by
  obtain ⟨⟨hx, hZ, hby, -⟩, locs, X, -⟩ := W
  exact K.by fun t q => XT.land X.here hx rfl (hb hby hd) rfl q
theorem g_lor {x z : Int64} (W : Here p l e R s m args below meth c Z F B h0 A y bytes mL ret T k n os) (hd : decode bytes pc = .ok (.lor, 1)) (K : Go p e below G (T.setTop (mkF m (pc + 1) ls (.long (x ||| z) :: st)))) : Go p e below G (T.setTop (mkF m pc ls (.long z :: .long x :: st))) := by
  obtain ⟨⟨hx, hZ, hby, -⟩, locs, X, -⟩ := W
  exact K.by fun t q => XT.lor X.here hx rfl (hb hby hd) rfl q
theorem g_lxor {x z : Int64} (W : Here p l e R s m args below meth c Z F B h0 A y bytes mL ret T k n os) (hd : decode bytes pc = .ok (.lxor, 1)) (K : Go p e below G (T.setTop (mkF m (pc + 1) ls (.long (x ^^^ z) :: st)))) : Go p e below G (T.setTop (mkF m pc ls (.long z :: .long x :: st))) := by
  obtain ⟨⟨hx, hZ, hby, -⟩, locs, X, -⟩ := W
  exact K.by fun t q => XT.lxor X.here hx rfl (hb hby hd) rfl q
theorem g_idiv {x z : Int32} (W : Here p l e R s m args below meth c Z F B h0 A y bytes mL ret T k n os) (hd : decode bytes pc = .ok (.idiv, 1)) (hz : z ≠ 0) (K : Go p e below G (T.setTop (mkF m (pc + 1) ls (.int (x / z) :: st)))) : Go p e below G (T.setTop (mkF m pc ls (.int z :: .int x :: st))) := by
  obtain ⟨⟨hx, hZ, hby, -⟩, locs, X, -⟩ := W
  exact K.by fun t q => XS.idiv X.here hx rfl (hb hby hd) rfl hz q
theorem g_irem {x z : Int32} (W : Here p l e R s m args below meth c Z F B h0 A y bytes mL ret T k n os) (hd : decode bytes pc = .ok (.irem, 1)) (hz : z ≠ 0) (K : Go p e below G (T.setTop (mkF m (pc + 1) ls (.int (x % z) :: st)))) : Go p e below G (T.setTop (mkF m pc ls (.int z :: .int x :: st))) := by
  obtain ⟨⟨hx, hZ, hby, -⟩, locs, X, -⟩ := W
  exact K.by fun t q => iremM X hx rfl (hb hby hd) rfl hz q
theorem g_ineg {x : Int32} (W : Here p l e R s m args below meth c Z F B h0 A y bytes mL ret T k n os) (hd : decode bytes pc = .ok (.ineg, 1)) (K : Go p e below G (T.setTop (mkF m (pc + 1) ls (.int (-x) :: st)))) : Go p e below G (T.setTop (mkF m pc ls (.int x :: st))) := by
  obtain ⟨⟨hx, hZ, hby, -⟩, locs, X, -⟩ := W
  exact K.by fun t q => XS.ineg X.here hx rfl (hb hby hd) rfl q
theorem g_lneg {x : Int64} (W : Here p l e R s m args below meth c Z F B h0 A y bytes mL ret T k n os) (hd : decode bytes pc = .ok (.lneg, 1)) (K : Go p e below G (T.setTop (mkF m (pc + 1) ls (.long (-x) :: st)))) : Go p e below G (T.setTop (mkF m pc ls (.long x :: st))) := by
  obtain ⟨⟨hx, hZ, hby, -⟩, locs, X, -⟩ := W
  exact K.by fun t q => XT.lneg X.here hx rfl (hb hby hd) rfl q
theorem g_i2l {x : Int32} (W : Here p l e R s m args below meth c Z F B h0 A y bytes mL ret T k n os) (hd : decode bytes pc = .ok (.i2l, 1)) (K : Go p e below G (T.setTop (mkF m (pc + 1) ls (.long x.toInt64 :: st)))) : Go p e below G (T.setTop (mkF m pc ls (.int x :: st))) := by
  obtain ⟨⟨hx, hZ, hby, -⟩, locs, X, -⟩ := W
  exact K.by fun t q => XT.i2l X.here hx rfl (hb hby hd) rfl q
theorem g_l2i {x : Int64} (W : Here p l e R s m args below meth c Z F B h0 A y bytes mL ret T k n os) (hd : decode bytes pc = .ok (.l2i, 1)) (K : Go p e below G (T.setTop (mkF m (pc + 1) ls (.int x.toInt32 :: st)))) : Go p e below G (T.setTop (mkF m pc ls (.long x :: st))) := by
  obtain ⟨⟨hx, hZ, hby, -⟩, locs, X, -⟩ := W
  exact K.by fun t q => XT.l2i X.here hx rfl (hb hby hd) rfl q
theorem g_i2b {x : Int32} (W : Here p l e R s m args below meth c Z F B h0 A y bytes mL ret T k n os) (hd : decode bytes pc = .ok (.i2b, 1)) (K : Go p e below G (T.setTop (mkF m (pc + 1) ls (.int x.toInt8.toInt32 :: st)))) : Go p e below G (T.setTop (mkF m pc ls (.int x :: st))) := by
  obtain ⟨⟨hx, hZ, hby, -⟩, locs, X, -⟩ := W
  exact K.by fun t q => XT.i2b X.here hx rfl (hb hby hd) rfl q
theorem g_i2c {x : Int32} (W : Here p l e R s m args below meth c Z F B h0 A y bytes mL ret T k n os) (hd : decode bytes pc = .ok (.i2c, 1)) (K : Go p e below G (T.setTop (mkF m (pc + 1) ls (.int x.toUInt32.toUInt16.toUInt32.toInt32 :: st)))) : Go p e below G (T.setTop (mkF m pc ls (.int x :: st))) := by
  obtain ⟨⟨hx, hZ, hby, -⟩, locs, X, -⟩ := W
  exact K.by fun t q => XT.i2c X.here hx rfl (hb hby hd) rfl q
theorem g_i2s {x : Int32} (W : Here p l e R s m args below meth c Z F B h0 A y bytes mL ret T k n os) (hd : decode bytes pc = .ok (.i2s, 1)) (K : Go p e below G (T.setTop (mkF m (pc + 1) ls (.int x.toInt16.toInt32 :: st)))) : Go p e below G (T.setTop (mkF m pc ls (.int x :: st))) := by
  obtain ⟨⟨hx, hZ, hby, -⟩, locs, X, -⟩ := W
  exact K.by fun t q => XT.i2s X.here hx rfl (hb hby hd) rfl q
theorem g_lcmp {x z : Int64} (W : Here p l e R s m args below meth c Z F B h0 A y bytes mL ret T k n os) (hd : decode bytes pc = .ok (.lcmp, 1)) (K : Go p e below G (T.setTop (mkF m (pc + 1) ls (.int (XT.cmpL x z) :: st)))) : Go p e below G (T.setTop (mkF m pc ls (.long z :: .long x :: st))) := by
  obtain ⟨⟨hx, hZ, hby, -⟩, locs, X, -⟩ := W
  exact K.by fun t q => XT.lcmp X.here hx rfl (hb hby hd) rfl q
theorem g_dup {v : Value} (W : Here p l e R s m args below meth c Z F B h0 A y bytes mL ret T k n os) (hd : decode bytes pc = .ok (.dup, 1)) (hv : v.category = 1) (K : Go p e below G (T.setTop (mkF m (pc + 1) ls (v :: v :: st)))) : Go p e below G (T.setTop (mkF m pc ls (v :: st))) := by
  obtain ⟨⟨hx, hZ, hby, -⟩, locs, X, -⟩ := W
  exact K.by fun t q => XS.dup X.here hx rfl (hb hby hd) rfl hv q
theorem g_pop {v : Value} (W : Here p l e R s m args below meth c Z F B h0 A y bytes mL ret T k n os) (hd : decode bytes pc = .ok (.pop, 1)) (hv : v.category = 1) (K : Go p e below G (T.setTop (mkF m (pc + 1) ls (st)))) : Go p e below G (T.setTop (mkF m pc ls (v :: st))) := by
  obtain ⟨⟨hx, hZ, hby, -⟩, locs, X, -⟩ := W
  exact K.by fun t q => XT.pop X.here hx rfl (hb hby hd) rfl hv q
theorem g_dup_x1 {v w : Value} (W : Here p l e R s m args below meth c Z F B h0 A y bytes mL ret T k n os) (hd : decode bytes pc = .ok (.dup_x1, 1)) (hv : v.category = 1) (hw : w.category = 1) (K : Go p e below G (T.setTop (mkF m (pc + 1) ls (v :: w :: v :: st)))) : Go p e below G (T.setTop (mkF m pc ls (v :: w :: st))) := by
  obtain ⟨⟨hx, hZ, hby, -⟩, locs, X, -⟩ := W
  exact K.by fun t q => XT.dupX1 X.here hx rfl (hb hby hd) rfl hv hw q
theorem g_dup2 {v w : Value} (W : Here p l e R s m args below meth c Z F B h0 A y bytes mL ret T k n os) (hd : decode bytes pc = .ok (.dup2, 1)) (hv : v.category = 1) (hw : w.category = 1) (K : Go p e below G (T.setTop (mkF m (pc + 1) ls (v :: w :: v :: w :: st)))) : Go p e below G (T.setTop (mkF m pc ls (v :: w :: st))) := by
  obtain ⟨⟨hx, hZ, hby, -⟩, locs, X, -⟩ := W
  exact K.by fun t q => XT.dup2 X.here hx rfl (hb hby hd) rfl hv hw q
theorem g_iinc {j : Nat} {i : Int} {x : Int32} (v : Int32) (hv : Int32.ofInt i = v) {ls' : Array Slot} (W : Here p l e R s m args below meth c Z F B h0 A y bytes mL ret T k n os) (hd : decode bytes pc = .ok (.iinc j i, 3)) (hl : ls[j]? = some (.val (.int x))) (hl' : storeLocals ls j (.int (x + v)) = some ls') (K : Go p e below G (T.setTop (mkF m (pc + 3) ls' st))) : Go p e below G (T.setTop (mkF m pc ls st)) := by
  obtain ⟨⟨hx, hZ, hby, -⟩, locs, X, -⟩ := W
  subst hv
  exact K.by fun t q => XS.iinc X.here hx rfl (hb hby hd) hl hl' q
theorem g_goto {o : Int} (pc' : Nat) (W : Here p l e R s m args below meth c Z F B h0 A y bytes mL ret T k n os) (hd : decode bytes pc = .ok (.goto o, 3)) (ho : 0 ≤ (pc : Int) + o) (hp : ((pc : Int) + o).toNat = pc') (K : Go p e below G (T.setTop (mkF m pc' ls st))) : Go p e below G (T.setTop (mkF m pc ls st)) := by
  obtain ⟨⟨hx, hZ, hby, -⟩, locs, X, -⟩ := W
  exact K.by fun t q => XS.goto X.here hx rfl rfl (hb hby hd) ho hp q
theorem g_icmpY {cd : ClassFile.Cond} {o : Int} {x z : Int32} (pc' : Nat) (W : Here p l e R s m args below meth c Z F B h0 A y bytes mL ret T k n os) (hd : decode bytes pc = .ok (.if_icmp cd o, 3)) (ho : 0 ≤ (pc : Int) + o) (hp : ((pc : Int) + o).toNat = pc') (hc : if_icmp.holds cd x z = true) (K : Go p e below G (T.setTop (mkF m pc' ls st))) : Go p e below G (T.setTop (mkF m pc ls (.int z :: .int x :: st))) := by
  obtain ⟨⟨hx, hZ, hby, -⟩, locs, X, -⟩ := W
  exact K.by fun t q => XS.icmpYes X.here hx rfl rfl (hb hby hd) rfl hc ho hp q
theorem g_icmpN {cd : ClassFile.Cond} {o : Int} {x z : Int32} (W : Here p l e R s m args below meth c Z F B h0 A y bytes mL ret T k n os) (hd : decode bytes pc = .ok (.if_icmp cd o, 3)) (hc : if_icmp.holds cd x z = false) (K : Go p e below G (T.setTop (mkF m (pc + 3) ls st))) : Go p e below G (T.setTop (mkF m pc ls (.int z :: .int x :: st))) := by
  obtain ⟨⟨hx, hZ, hby, -⟩, locs, X, -⟩ := W
  exact K.by fun t q => XS.icmpNo X.here hx rfl (hb hby hd) rfl hc q
theorem g_ifY {cd : ClassFile.Cond} {o : Int} {x : Int32} (pc' : Nat) (W : Here p l e R s m args below meth c Z F B h0 A y bytes mL ret T k n os) (hd : decode bytes pc = .ok (.ifCond cd o, 3)) (ho : 0 ≤ (pc : Int) + o) (hp : ((pc : Int) + o).toNat = pc') (hc : if_icmp.holds cd x 0 = true) (K : Go p e below G (T.setTop (mkF m pc' ls st))) : Go p e below G (T.setTop (mkF m pc ls (.int x :: st))) := by
  obtain ⟨⟨hx, hZ, hby, -⟩, locs, X, -⟩ := W
  exact K.by fun t q => XS.ifYes X.here hx rfl rfl (hb hby hd) rfl ((if0 _ _).trans hc) ho hp q
theorem g_ifN {cd : ClassFile.Cond} {o : Int} {x : Int32} (W : Here p l e R s m args below meth c Z F B h0 A y bytes mL ret T k n os) (hd : decode bytes pc = .ok (.ifCond cd o, 3)) (hc : if_icmp.holds cd x 0 = false) (K : Go p e below G (T.setTop (mkF m (pc + 3) ls st))) : Go p e below G (T.setTop (mkF m pc ls (.int x :: st))) := by
  obtain ⟨⟨hx, hZ, hby, -⟩, locs, X, -⟩ := W
  exact K.by fun t q => XS.ifNo X.here hx rfl (hb hby hd) rfl ((if0 _ _).trans hc) q
theorem g_icmp_lt {o : Int} {x z : Int32} (pc' : Nat) (W : Here p l e R s m args below meth c Z F B h0 A y bytes mL ret T k n os) (hd : decode bytes pc = .ok (.if_icmp .lt o, 3)) (ho : 0 ≤ (pc : Int) + o) (hp : ((pc : Int) + o).toNat = pc') (Y : x < z → Go p e below G (T.setTop (mkF m pc' ls st))) (N : ¬ (x < z) → Go p e below G (T.setTop (mkF m (pc + 3) ls st))) : Go p e below G (T.setTop (mkF m pc ls (.int z :: .int x :: st))) := by
  by_cases q : x < z
  · exact g_icmpY pc' W hd ho hp (tlt q).1 (Y q)
  · exact g_icmpN W hd (flt q).1 (N q)
theorem g_if_lt {o : Int} {x : Int32} (pc' : Nat) (W : Here p l e R s m args below meth c Z F B h0 A y bytes mL ret T k n os) (hd : decode bytes pc = .ok (.ifCond .lt o, 3)) (ho : 0 ≤ (pc : Int) + o) (hp : ((pc : Int) + o).toNat = pc') (Y : x < 0 → Go p e below G (T.setTop (mkF m pc' ls st))) (N : ¬ (x < 0) → Go p e below G (T.setTop (mkF m (pc + 3) ls st))) : Go p e below G (T.setTop (mkF m pc ls (.int x :: st))) := by
  by_cases q : x < 0
  · exact g_ifY pc' W hd ho hp (tlt q).1 (Y q)
  · exact g_ifN W hd (flt q).1 (N q)
theorem g_icmp_ge {o : Int} {x z : Int32} (pc' : Nat) (W : Here p l e R s m args below meth c Z F B h0 A y bytes mL ret T k n os) (hd : decode bytes pc = .ok (.if_icmp .ge o, 3)) (ho : 0 ≤ (pc : Int) + o) (hp : ((pc : Int) + o).toNat = pc') (Y : ¬ (x < z) → Go p e below G (T.setTop (mkF m pc' ls st))) (N : x < z → Go p e below G (T.setTop (mkF m (pc + 3) ls st))) : Go p e below G (T.setTop (mkF m pc ls (.int z :: .int x :: st))) := by
  by_cases q : x < z
  · exact g_icmpN W hd (tlt q).2.1 (N q)
  · exact g_icmpY pc' W hd ho hp (flt q).2.1 (Y q)
theorem g_if_ge {o : Int} {x : Int32} (pc' : Nat) (W : Here p l e R s m args below meth c Z F B h0 A y bytes mL ret T k n os) (hd : decode bytes pc = .ok (.ifCond .ge o, 3)) (ho : 0 ≤ (pc : Int) + o) (hp : ((pc : Int) + o).toNat = pc') (Y : ¬ (x < 0) → Go p e below G (T.setTop (mkF m pc' ls st))) (N : x < 0 → Go p e below G (T.setTop (mkF m (pc + 3) ls st))) : Go p e below G (T.setTop (mkF m pc ls (.int x :: st))) := by
  by_cases q : x < 0
  · exact g_ifN W hd (tlt q).2.1 (N q)
  · exact g_ifY pc' W hd ho hp (flt q).2.1 (Y q)
theorem g_icmp_gt {o : Int} {x z : Int32} (pc' : Nat) (W : Here p l e R s m args below meth c Z F B h0 A y bytes mL ret T k n os) (hd : decode bytes pc = .ok (.if_icmp .gt o, 3)) (ho : 0 ≤ (pc : Int) + o) (hp : ((pc : Int) + o).toNat = pc') (Y : z < x → Go p e below G (T.setTop (mkF m pc' ls st))) (N : ¬ (z < x) → Go p e below G (T.setTop (mkF m (pc + 3) ls st))) : Go p e below G (T.setTop (mkF m pc ls (.int z :: .int x :: st))) := by
  by_cases q : z < x
  · exact g_icmpY pc' W hd ho hp (tlt q).2.2.1 (Y q)
  · exact g_icmpN W hd (flt q).2.2.1 (N q)
theorem g_if_gt {o : Int} {x : Int32} (pc' : Nat) (W : Here p l e R s m args below meth c Z F B h0 A y bytes mL ret T k n os) (hd : decode bytes pc = .ok (.ifCond .gt o, 3)) (ho : 0 ≤ (pc : Int) + o) (hp : ((pc : Int) + o).toNat = pc') (Y : 0 < x → Go p e below G (T.setTop (mkF m pc' ls st))) (N : ¬ (0 < x) → Go p e below G (T.setTop (mkF m (pc + 3) ls st))) : Go p e below G (T.setTop (mkF m pc ls (.int x :: st))) := by
  by_cases q : 0 < x
  · exact g_ifY pc' W hd ho hp (tlt q).2.2.1 (Y q)
  · exact g_ifN W hd (flt q).2.2.1 (N q)
theorem g_icmp_le {o : Int} {x z : Int32} (pc' : Nat) (W : Here p l e R s m args below meth c Z F B h0 A y bytes mL ret T k n os) (hd : decode bytes pc = .ok (.if_icmp .le o, 3)) (ho : 0 ≤ (pc : Int) + o) (hp : ((pc : Int) + o).toNat = pc') (Y : ¬ (z < x) → Go p e below G (T.setTop (mkF m pc' ls st))) (N : z < x → Go p e below G (T.setTop (mkF m (pc + 3) ls st))) : Go p e below G (T.setTop (mkF m pc ls (.int z :: .int x :: st))) := by
  by_cases q : z < x
  · exact g_icmpN W hd (tlt q).2.2.2 (N q)
  · exact g_icmpY pc' W hd ho hp (flt q).2.2.2 (Y q)
theorem g_if_le {o : Int} {x : Int32} (pc' : Nat) (W : Here p l e R s m args below meth c Z F B h0 A y bytes mL ret T k n os) (hd : decode bytes pc = .ok (.ifCond .le o, 3)) (ho : 0 ≤ (pc : Int) + o) (hp : ((pc : Int) + o).toNat = pc') (Y : ¬ (0 < x) → Go p e below G (T.setTop (mkF m pc' ls st))) (N : 0 < x → Go p e below G (T.setTop (mkF m (pc + 3) ls st))) : Go p e below G (T.setTop (mkF m pc ls (.int x :: st))) := by
  by_cases q : 0 < x
  · exact g_ifN W hd (tlt q).2.2.2 (N q)
  · exact g_ifY pc' W hd ho hp (flt q).2.2.2 (Y q)
theorem g_icmp_eq {o : Int} {x z : Int32} (pc' : Nat) (W : Here p l e R s m args below meth c Z F B h0 A y bytes mL ret T k n os) (hd : decode bytes pc = .ok (.if_icmp .eq o, 3)) (ho : 0 ≤ (pc : Int) + o) (hp : ((pc : Int) + o).toNat = pc') (Y : x = z → Go p e below G (T.setTop (mkF m pc' ls st))) (N : ¬ (x = z) → Go p e below G (T.setTop (mkF m (pc + 3) ls st))) : Go p e below G (T.setTop (mkF m pc ls (.int z :: .int x :: st))) := by
  by_cases q : x = z
  · exact g_icmpY pc' W hd ho hp (teq q).1 (Y q)
  · exact g_icmpN W hd (feq q).1 (N q)
theorem g_if_eq {o : Int} {x : Int32} (pc' : Nat) (W : Here p l e R s m args below meth c Z F B h0 A y bytes mL ret T k n os) (hd : decode bytes pc = .ok (.ifCond .eq o, 3)) (ho : 0 ≤ (pc : Int) + o) (hp : ((pc : Int) + o).toNat = pc') (Y : x = 0 → Go p e below G (T.setTop (mkF m pc' ls st))) (N : ¬ (x = 0) → Go p e below G (T.setTop (mkF m (pc + 3) ls st))) : Go p e below G (T.setTop (mkF m pc ls (.int x :: st))) := by
  by_cases q : x = 0
  · exact g_ifY pc' W hd ho hp (teq q).1 (Y q)
  · exact g_ifN W hd (feq q).1 (N q)
theorem g_icmp_ne {o : Int} {x z : Int32} (pc' : Nat) (W : Here p l e R s m args below meth c Z F B h0 A y bytes mL ret T k n os) (hd : decode bytes pc = .ok (.if_icmp .ne o, 3)) (ho : 0 ≤ (pc : Int) + o) (hp : ((pc : Int) + o).toNat = pc') (Y : ¬ (x = z) → Go p e below G (T.setTop (mkF m pc' ls st))) (N : x = z → Go p e below G (T.setTop (mkF m (pc + 3) ls st))) : Go p e below G (T.setTop (mkF m pc ls (.int z :: .int x :: st))) := by
  by_cases q : x = z
  · exact g_icmpN W hd (teq q).2 (N q)
  · exact g_icmpY pc' W hd ho hp (feq q).2 (Y q)
theorem g_if_ne {o : Int} {x : Int32} (pc' : Nat) (W : Here p l e R s m args below meth c Z F B h0 A y bytes mL ret T k n os) (hd : decode bytes pc = .ok (.ifCond .ne o, 3)) (ho : 0 ≤ (pc : Int) + o) (hp : ((pc : Int) + o).toNat = pc') (Y : ¬ (x = 0) → Go p e below G (T.setTop (mkF m pc' ls st))) (N : x = 0 → Go p e below G (T.setTop (mkF m (pc + 3) ls st))) : Go p e below G (T.setTop (mkF m pc ls (.int x :: st))) := by
  by_cases q : x = 0
  · exact g_ifN W hd (teq q).2 (N q)
  · exact g_ifY pc' W hd ho hp (feq q).2 (Y q)
theorem g_lookup {dfl : Int} {pairs : Array (Int × Int)} {len : Nat} {x : Int32} (W : Here p l e R s m args below meth c Z F B h0 A y bytes mL ret T k n os) (hd : decode bytes pc = .ok (.lookupswitch dfl pairs, len)) (hs : (pairs.toList.zip (pairs.toList.drop 1)).all (fun (a, next) => a.1 < next.1) = true) (ho : ∀ q ∈ pairs.toList, 0 ≤ (pc : Int) + q.2) (ho' : 0 ≤ (pc : Int) + dfl)
    (Y : ∀ a off, (a, off) ∈ pairs.toList → x.toInt = a → Go p e below G (T.setTop (mkF m ((pc : Int) + off).toNat ls st))) (N : (∀ q ∈ pairs.toList, q.1 ≠ x.toInt) → Go p e below G (T.setTop (mkF m ((pc : Int) + dfl).toNat ls st))) : Go p e below G (T.setTop (mkF m pc ls (.int x :: st))) := by
  obtain ⟨⟨hx, hZ, hby, -⟩, locs, X, -⟩ := W
  cases hf : pairs.find? (·.1 == x.toInt) with
  | none =>
    have K := N fun q hq e => by
      rw [Array.find?_eq_none] at hf
      exact hf q (Array.mem_toList_iff.mp hq) (by simp [e])
    exact K.by fun t q => X.lookupswitchMiss hx (g := mkF m pc ls (.int x :: st)) rfl rfl (hb hby hd) hs hf ho' t q
  | some q =>
    obtain ⟨a, off⟩ := q
    have h1 := Array.find?_some hf
    have h2 := Array.mem_toList_iff.mpr (Array.mem_of_find?_eq_some hf)
    have K := Y a off h2 (by simpa using (beq_iff_eq.mp h1).symm)
    exact K.by fun t q => X.lookupswitchHit hx (g := mkF m pc ls (.int x :: st)) rfl rfl (hb hby hd) hs hf (ho _ h2) t q
theorem g_ldc_int {i : Nat} {v : Int32} (W : Here p l e R s m args below meth c Z F B h0 A y bytes mL ret T k n os) (w : (Jvm.Cond.constant y.cls i v).before a0 Z = true) (hd : decode bytes pc = .ok (.ldc i, 2)) (K : Go p e below G (T.setTop (mkF m (pc + 2) ls (.int v :: st)))) : Go p e below G (T.setTop (mkF m pc ls st)) := by
  obtain ⟨⟨hx, hZ, hby, -, hown, -⟩, locs, X, -⟩ := W
  exact K.by fun t q => X.ldcInt hx hown (mvT hZ w) (g := mkF m pc ls st) rfl (hb hby hd) t q
theorem g_ldc2_long {i : Nat} {v : Int64} (W : Here p l e R s m args below meth c Z F B h0 A y bytes mL ret T k n os) (w : (Jvm.Cond.constantLong y.cls i v).before a0 Z = true) (hd : decode bytes pc = .ok (.ldc2_w i, 3)) (K : Go p e below G (T.setTop (mkF m (pc + 3) ls (.long v :: st)))) : Go p e below G (T.setTop (mkF m pc ls st)) := by
  obtain ⟨⟨hx, hZ, hby, -, hown, -⟩, locs, X, -⟩ := W
  exact K.by fun t q => X.ldc2Long hx hown (mvT hZ w) (g := mkF m pc ls st) rfl (hb hby hd) t q
theorem g_ireturn {z : Int32} (hT : ret = some .int) {kc ks : Nat} {P : Option Value → List Ob → Prop} (W : Here p l e R s m args below meth c Z F B h0 A y bytes mL ret T k n os) (hd : decode bytes pc = .ok (.ireturn, 1)) (hk : k ≤ kc) (hn : n ≤ ks) (hp : P (some (.int z)) os) : Go p e below (Fin1 below s Z F B h0 A kc ks P) (T.setTop (mkF m pc ls (.int z :: st))) := by
  obtain ⟨⟨hx, hZ, hby, -, hown, hret, hlk, -⟩, locs, X, hL, hI⟩ := W
  obtain ⟨fs, hr, hrun, hended, hW, hsame⟩ := X.leave (v := some (.int z)) (fun h => by rw [hret, hT] at h; cases h) hlk
  exact ⟨_, retOut X hx (hret.trans hT) rfl (Or.inl ⟨rfl, Or.inl rfl, z, rfl⟩) (hb hby hd) hr, hrun, _, locs, hended, ⟨hL.1, os, hI, hp⟩, ⟨_, rfl⟩, hW, hsame.mono hk hn⟩
theorem g_zreturn {z : Int32} (hT : ret = some .boolean) (hz : z &&& 1 = z) {kc ks : Nat} {P : Option Value → List Ob → Prop} (W : Here p l e R s m args below meth c Z F B h0 A y bytes mL ret T k n os) (hd : decode bytes pc = .ok (.ireturn, 1)) (hk : k ≤ kc) (hn : n ≤ ks) (hp : P (some (.int z)) os) : Go p e below (Fin1 below s Z F B h0 A kc ks P) (T.setTop (mkF m pc ls (.int z :: st))) := by
  obtain ⟨⟨hx, hZ, hby, -, hown, hret, hlk, -⟩, locs, X, hL, hI⟩ := W
  obtain ⟨fs, hr, hrun, hended, hW, hsame⟩ := X.leave (v := some (.int z)) (fun h => by rw [hret, hT] at h; cases h) hlk
  exact ⟨_, retOut (t := .boolean) (w := .int z) X hx (hret.trans hT) (show Value.int (z &&& 1) = .int z by rw [hz]) (Or.inl ⟨rfl, Or.inr (Or.inl rfl), z, rfl⟩) (hb hby hd) hr, hrun, _, locs, hended, ⟨hL.1, os, hI, hp⟩, ⟨_, rfl⟩, hW, hsame.mono hk hn⟩
theorem g_lreturn {z : Int64} (hT : ret = some .long) {kc ks : Nat} {P : Option Value → List Ob → Prop} (W : Here p l e R s m args below meth c Z F B h0 A y bytes mL ret T k n os) (hd : decode bytes pc = .ok (.lreturn, 1)) (hk : k ≤ kc) (hn : n ≤ ks) (hp : P (some (.long z)) os) : Go p e below (Fin1 below s Z F B h0 A kc ks P) (T.setTop (mkF m pc ls (.long z :: st))) := by
  obtain ⟨⟨hx, hZ, hby, -, hown, hret, hlk, -⟩, locs, X, hL, hI⟩ := W
  obtain ⟨fs, hr, hrun, hended, hW, hsame⟩ := X.leave (v := some (.long z)) (fun h => by rw [hret, hT] at h; cases h) hlk
  exact ⟨_, retOut X hx (hret.trans hT) rfl (Or.inr (Or.inl ⟨rfl, rfl, z, rfl⟩)) (hb hby hd) hr, hrun, _, locs, hended, ⟨hL.1, os, hI, hp⟩, ⟨_, rfl⟩, hW, hsame.mono hk hn⟩
theorem g_areturn {z : Addr} {t : FieldType} (hT : ret = some t) (ht : t.isReference = true) {kc ks : Nat} {P : Option Value → List Ob → Prop} (W : Here p l e R s m args below meth c Z F B h0 A y bytes mL ret T k n os) (hd : decode bytes pc = .ok (.areturn, 1)) (hk : k ≤ kc) (hn : n ≤ ks) (hp : P (some (.ref z)) os) : Go p e below (Fin1 below s Z F B h0 A kc ks P) (T.setTop (mkF m pc ls (.ref z :: st))) := by
  obtain ⟨⟨hx, hZ, hby, -, hown, hret, hlk, -⟩, locs, X, hL, hI⟩ := W
  obtain ⟨fs, hr, hrun, hended, hW, hsame⟩ := X.leave (v := some (.ref z)) (fun h => by rw [hret, hT] at h; cases h) hlk
  exact ⟨_, retOut X hx (hret.trans hT) (by cases t <;> first | rfl | simp [FieldType.isReference] at ht) (Or.inr (Or.inr (Or.inr (Or.inr ⟨rfl, ht, rfl⟩)))) (hb hby hd) hr, hrun, _, locs, hended, ⟨hL.1, os, hI, hp⟩, ⟨_, rfl⟩, hW, hsame.mono hk hn⟩
theorem g_return (hT : ret = none) {kc ks : Nat} {P : Option Value → List Ob → Prop} (W : Here p l e R s m args below meth c Z F B h0 A y bytes mL ret T k n os) (hd : decode bytes pc = .ok (.return_, 1)) (hk : k ≤ kc) (hn : n ≤ ks) (hp : P (none) os) : Go p e below (Fin1 below s Z F B h0 A kc ks P) (T.setTop (mkF m pc ls ([]))) := by
  obtain ⟨⟨hx, hZ, hby, -, hown, hret, hlk, -⟩, locs, X, hL, hI⟩ := W
  obtain ⟨fs, hr, hrun, hended, hW, hsame⟩ := X.leave (v := none) (fun _ => rfl) hlk
  exact ⟨_, X.returnOut hx (hret.trans hT) (hb hby hd) hr, hrun, _, locs, hended, ⟨hL.1, os, hI, hp⟩, ⟨_, rfl⟩, hW, hsame.mono hk hn⟩
theorem own_bb (v : Int32) : v.toInt8.toInt32.toInt8.toInt32 = v.toInt8.toInt32 := by rw [Int8.toInt8_toInt32]
theorem g_acmp {cd : ACond} {o : Int} {v w : Value} (pc' : Nat) (same : Bool) (W : Here p l e R s m args below meth c Z F B h0 A y bytes mL ret T k n os) (hd : decode bytes pc = .ok (.if_acmp cd o, 3)) (h1 : v.isRef = true) (h2 : w.isRef = true) (hq : decide (v = w) = same) (ho : 0 ≤ (pc : Int) + o) (hp : pc' = if acV cd same = true then ((pc : Int) + o).toNat else pc + 3) (K : Go p e below G (T.setTop (mkF m pc' ls st))) : Go p e below G (T.setTop (mkF m pc ls (w :: v :: st))) := by
  obtain ⟨⟨hx, hZ, hby, -⟩, locs, X, -⟩ := W
  exact K.by fun t q => Jvm.RoadKit.acmp (g := mkF m pc ls (w :: v :: st)) X hx rfl h1 h2 rfl (hb hby hd) rfl hq ho hp q
theorem Here.re {os' : List Ob} (W : Here p l e R s m args below meth c Z F B h0 A y bytes mL ret T k n os) (h : os = os') : Here p l e R s m args below meth c Z F B h0 A y bytes mL ret T k n os' := h ▸ W
theorem Here.kn {k' n' : Nat} (W : Here p l e R s m args below meth c Z F B h0 A y bytes mL ret T k n os) (h : k = k') (h' : n = n') : Here p l e R s m args below meth c Z F B h0 A y bytes mL ret T k' n' os := by subst h h'; exact W
/-- what the sheet says of a class: its fields are laid, under names of their own -/
def Cls (Z : State) (a0 : Array Value) (F : Fm) (C : String) : Prop := (∀ x ∈ F C, Laid Z a0 C C x.1 x.2 ∧ ∃ t, parseFieldDescriptor x.2 = some t) ∧ ((F C).map (·.1)).Nodup
theorem Cls.ne {C : String} (H : Cls Z a0 F C) {i j : Nat} {x x' : String × String} (hi : (F C)[i]? = some x) (hj : (F C)[j]? = some x') (ne : i ≠ j) : Jvm.RoadKit.slotOf Z C x.1 x.2 ≠ Jvm.RoadKit.slotOf Z C x'.1 x'.2 := by
  obtain ⟨L, t, ht⟩ := H.1 x (List.mem_of_getElem? hi)
  obtain ⟨L', t', ht'⟩ := H.1 x' (List.mem_of_getElem? hj)
  refine slot_ne L L' (fun e => ne ?_) ht ht'
  obtain ⟨h1, e1⟩ := List.getElem?_eq_some_iff.mp hi
  obtain ⟨h2, e2⟩ := List.getElem?_eq_some_iff.mp hj
  refine (List.getElem_inj (xs := (F C).map (·.1)) (h₀ := by simpa using h1) (h₁ := by simpa using h2) H.2).mp ?_
  simp [e1, e2, e]
def dflt (d : String) : Value := ((parseFieldDescriptor d).map defaultValue).getD .null
theorem g_getfield {i index j : Nat} {a : Addr} {C nm d host : String} {vs : List Value} {v : Value} (W : Here p l e R s m args below meth c Z F B h0 A y bytes mL ret T k n os) (w : (Jvm.Cond.fieldLink y.cls index C nm d).before a0 Z = true ∨ (Jvm.Cond.fieldLinkNest y.cls index C nm d host).before a0 Z = true)
    (hi : os[i]? = some (a, .object C, vs)) (hf : (F C)[j]? = some (nm, d)) (hv : vs[j]? = some v) (hd : decode bytes pc = .ok (.getfield index, 3)) (K : ∀ T', Here p l e R s m args below meth c Z F B h0 A y bytes mL ret T' k n os → Go p e below G (T'.setTop (mkF m (pc + 3) ls (v :: st)))) : Go p e below G (T.setTop (mkF m pc ls (.ref a :: st))) := by
  obtain ⟨H0, locs, X, hL, hI⟩ := W
  have O : Oat F Z T.heap a (.object C) vs := hI.2.1.get hi
  obtain ⟨T', X', e', stp⟩ := getF X H0.1 H0.2.1 H0.2.2.2.2.1 w Via.refl rfl (O.2.2 j nm d v hf hv) (g := mkF m pc ls (.ref a :: st)) rfl rfl (hb H0.2.2.1 hd)
  exact (K T' ⟨H0, locs, X', hL, by rw [e']; exact hI⟩).by stp
theorem g_putfield {i index j kk : Nat} {a : Addr} {C nm d host : String} {vs : List Value} {v old : Value} {ty : FieldType} {os' : List Ob} (W : Here p l e R s m args below meth c Z F B h0 A y bytes mL ret T k n os) (w : (Jvm.Cond.fieldLink y.cls index C nm d).before a0 Z = true ∨ (Jvm.Cond.fieldLinkNest y.cls index C nm d host).before a0 Z = true)
    (hC : Cls Z a0 F C) (L : (Jvm.Cond.lays C C nm d).before a0 Z = true ∨ ((Jvm.Cond.laysFinal C C nm d).before a0 Z = true ∧ y.cls = C ∧ y.name = "<init>")) (wi : (Jvm.Cond.instantiable C kk).before a0 Z = true)
    (hi : os[i]? = some (a, .object C, vs)) (hf : (F C)[j]? = some (nm, d)) (hv : vs[j]? = some old) (hty : parseFieldDescriptor d = some ty) (hn : narrow ty v = v) (hfit : fits ty v = true) (ho : os.set i (a, .object C, vs.set j v) = os')
    (hd : decode bytes pc = .ok (.putfield index, 3)) (K : ∀ T', Here p l e R s m args below meth c Z F B h0 A y bytes mL ret T' k n os' → Go p e below G (T'.setTop (mkF m (pc + 3) ls (st)))) : Go p e below G (T.setTop (mkF m pc ls (v :: .ref a :: st))) := by
  obtain ⟨H0, locs, X, hL, hI⟩ := W
  have O : Oat F Z T.heap a (.object C) vs := hI.2.1.get hi
  obtain ⟨E, hlen, hF⟩ := O
  obtain ⟨T', h', X', e', Wr', stp⟩ := putF X H0.1 H0.2.1 H0.2.2.2.2.1 w Via.refl rfl (hF j nm d old hf hv) E (L.imp id fun q => ⟨q.1, q.2.1, H0.2.2.2.2.2.2.2.trans q.2.2⟩) wi hty hn hfit (g := mkF m pc ls (v :: .ref a :: st)) rfl rfl (hb H0.2.2.1 hd)
  refine (K T' ⟨H0, _, X', ⟨fun z hz => ?_, hL.2⟩, ?_⟩).by stp
  · rcases List.mem_append.mp hz with q | q
    · exact hL.1 z q
    · cases List.mem_singleton.mp q; exact (hI.mem hi).ge hL.2.1 hL.2.2
  · rw [e', ← ho]
    refine hI.set hi (Keep.of_wr Wr') ⟨E.wr Wr', by simpa using hlen, fun i' n' d' v' h1 h2 => ?_⟩
    rw [List.getElem?_set] at h2
    split at h2
    · rename_i e1; subst e1
      have : v' = v := by split at h2 <;> simp_all
      cases hf.symm.trans h1
      subst this
      exact (hF j nm d old hf hv).same Wr'
    · rename_i ne
      have q : Jvm.RoadKit.slotOf Z C n' d' ≠ Jvm.RoadKit.slotOf Z C nm d := hC.ne (x := (n', d')) (x' := (nm, d)) h1 hf (Ne.symm ne)
      exact (hF i' n' d' v' h1 h2).other Wr' (Or.inr q)
theorem g_new {index nsl : Nat} {C : String} {vs : List Value} (W : Here p l e R s m args below meth c Z F B h0 A y bytes mL ret T k n os) (w : (Jvm.Cond.classLink y.cls index C).before a0 Z = true) (wi : (Jvm.Cond.instantiable C nsl).before a0 Z = true) (wz : (Jvm.Cond.initialized C).before a0 Z = true) (hC : Cls Z a0 F C) (hvs : (F C).map (fun x => dflt x.2) = vs)
    (hd : decode bytes pc = .ok (.new index, 3)) (hc : k + 1 ≤ R.cells) (hs : n + nsl ≤ R.slots)
    (K : ∀ T' a, Here p l e R s m args below meth c Z F B h0 A y bytes mL ret T' (k + 1) (n + nsl) (os ++ [(a, .object C, vs)]) → Go p e below G (T'.setTop (mkF m (pc + 3) ls (.ref a :: st)))) : Go p e below G (T.setTop (mkF m pc ls st)) := by
  obtain ⟨H0, locs, X, hL, hI⟩ := W
  obtain ⟨T', h', X', e', E', A', D', -, stp⟩ := newO X H0.1 H0.2.1 H0.2.2.2.2.1 w wi wz rfl (g := mkF m pc ls st) rfl (hb H0.2.2.1 hd) hc hs
  refine (K T' T.heap.size ⟨H0, locs, X', hL, ?_⟩).by stp
  rw [e']
  refine hI.push E' ⟨A', by rw [← hvs]; simp, fun i nm d v h1 h2 => ?_⟩
  obtain ⟨La, t, ht⟩ := hC.1 _ (List.mem_of_getElem? h1)
  have q := D' La ht
  rw [← hvs, List.getElem?_map, h1] at h2
  simp only [Option.map_some, dflt, ht, Option.getD_some, Option.some.injEq] at h2
  rw [← h2]; exact q
theorem fits_dflt (aty : ArrayType) : fits (newarray.typeOf aty) (defaultValue (newarray.typeOf aty)) = true := by cases aty <;> rfl
theorem g_newarray {aty : ArrayType} {z : Int32} {ty : FieldType} {vs : List Value} (cap : Nat) (W : Here p l e R s m args below meth c Z F B h0 A y bytes mL ret T k n os) (w : (Jvm.Cond.arrayClass ty).before a0 Z = true) (hty : newarray.typeOf aty = ty) (hz : ¬ z < 0) (hcap : z.toNatClampNeg ≤ cap) (hb8 : cap * 8 ≤ 536870912) (hvs : List.replicate z.toNatClampNeg (defaultValue ty) = vs)
    (hd : decode bytes pc = .ok (.newarray aty, 2)) (hc : k + 1 ≤ R.cells) (hs : n + cap ≤ R.slots)
    (K : ∀ T' a, Here p l e R s m args below meth c Z F B h0 A y bytes mL ret T' (k + 1) (n + cap) (os ++ [(a, .array ty, vs)]) → Go p e below G (T'.setTop (mkF m (pc + 2) ls (.ref a :: st)))) : Go p e below G (T.setTop (mkF m pc ls (.int z :: st))) := by
  obtain ⟨H0, locs, X, hL, hI⟩ := W
  subst hty hvs
  obtain ⟨T', h', cA, X', e', E', A', Ex, stp⟩ := newPE X H0.1 H0.2.1 w rfl (g := mkF m pc ls (.int z :: st)) rfl (hb H0.2.2.1 hd) rfl hz hcap hb8 hc hs rfl
  refine (K T' T.heap.size ⟨H0, locs, X', hL, ?_⟩).by stp
  rw [e']
  refine hI.push E' ⟨Ex, fun v hv => ?_, _, A', by simp [newA]⟩
  rw [(List.mem_replicate.mp hv).2]; exact fits_dflt aty
theorem g_anewarray {index : Nat} {z : Int32} {C : String} {vs : List Value} (cap : Nat) (W : Here p l e R s m args below meth c Z F B h0 A y bytes mL ret T k n os) (w : (Jvm.Cond.classLink y.cls index C).before a0 Z = true) (w2 : (Jvm.Cond.arrayOver (.object C)).before a0 Z = true) (hz : ¬ z < 0) (hcap : z.toNatClampNeg ≤ cap) (hb8 : cap * 8 ≤ 536870912) (hvs : List.replicate z.toNatClampNeg .null = vs)
    (hd : decode bytes pc = .ok (.anewarray index, 3)) (hc : k + 1 ≤ R.cells) (hs : n + cap ≤ R.slots)
    (K : ∀ T' a, Here p l e R s m args below meth c Z F B h0 A y bytes mL ret T' (k + 1) (n + cap) (os ++ [(a, .array (.object C), vs)]) → Go p e below G (T'.setTop (mkF m (pc + 3) ls (.ref a :: st)))) : Go p e below G (T.setTop (mkF m pc ls (.int z :: st))) := by
  obtain ⟨H0, locs, X, hL, hI⟩ := W
  subst hvs
  obtain ⟨T', h', cA, X', e', E', A', Ex, -, stp⟩ := newRE X H0.1 H0.2.1 H0.2.2.2.2.1 w w2 rfl (g := mkF m pc ls (.int z :: st)) rfl (hb H0.2.2.1 hd) rfl hz hcap hb8 hc hs rfl
  refine (K T' T.heap.size ⟨H0, locs, X', hL, ?_⟩).by stp
  rw [e']
  refine hI.push E' ⟨Ex, fun v hv => ?_, _, A', by simp [newA, defaultValue]⟩
  rw [(List.mem_replicate.mp hv).2]; rfl
theorem inb_list {cl : Cell} {vs : List Value} {z : Int32} {v : Value} (S : cl.slots = vs.toArray) (hz : ¬ z < 0) (hv : vs[z.toNatClampNeg]? = some v) : ¬ (z < 0 ∨ cl.slots.size ≤ z.toNatClampNeg) ∧ cl.slots[z.toNatClampNeg]? = some v := by
  have h1 := (List.getElem?_eq_some_iff.mp hv).1
  refine ⟨fun q => q.elim hz fun q => ?_, by rw [S]; simpa using hv⟩
  rw [S] at q; simp at q; omega
theorem g_iaload {i : Nat} {a : Addr} {z : Int32} {vs : List Value} {v : Value} (W : Here p l e R s m args below meth c Z F B h0 A y bytes mL ret T k n os) (hi : os[i]? = some (a, .array .int, vs)) (hz : ¬ z < 0) (hv : vs[z.toNatClampNeg]? = some v) (hd : decode bytes pc = .ok (.iaload, 1)) (K : Go p e below G (T.setTop (mkF m (pc + 1) ls (v :: st)))) : Go p e below G (T.setTop (mkF m pc ls (.int z :: .ref a :: st))) := by
  obtain ⟨H0, locs, X, hL, hI⟩ := W
  have O : Oat F Z T.heap a (.array .int) vs := hI.2.1.get hi
  obtain ⟨E, -, cl, Ar, S⟩ := O
  obtain ⟨h1, h2⟩ := inb_list S hz hv
  exact K.by fun t q => X.iaload H0.1 (j := z) (v := v) Ar.1 (State.isArrayOf_alike H0.2.1.alike Ar.2.1) Ar.2.2 h1 h2 (g := mkF m pc ls (.int z :: .ref a :: st)) rfl rfl (hb H0.2.2.1 hd) t q
theorem g_laload {i : Nat} {a : Addr} {z : Int32} {vs : List Value} {v : Value} (W : Here p l e R s m args below meth c Z F B h0 A y bytes mL ret T k n os) (hi : os[i]? = some (a, .array .long, vs)) (hz : ¬ z < 0) (hv : vs[z.toNatClampNeg]? = some v) (hd : decode bytes pc = .ok (.laload, 1)) (K : Go p e below G (T.setTop (mkF m (pc + 1) ls (v :: st)))) : Go p e below G (T.setTop (mkF m pc ls (.int z :: .ref a :: st))) := by
  obtain ⟨H0, locs, X, hL, hI⟩ := W
  have O : Oat F Z T.heap a (.array .long) vs := hI.2.1.get hi
  obtain ⟨E, -, cl, Ar, S⟩ := O
  obtain ⟨h1, h2⟩ := inb_list S hz hv
  exact K.by fun t q => X.laload H0.1 (j := z) (v := v) Ar.1 (State.isArrayOf_alike H0.2.1.alike Ar.2.1) Ar.2.2 h1 h2 (g := mkF m pc ls (.int z :: .ref a :: st)) rfl rfl (hb H0.2.2.1 hd) t q
theorem g_baload {i : Nat} {a : Addr} {z : Int32} {vs : List Value} {v : Value} (W : Here p l e R s m args below meth c Z F B h0 A y bytes mL ret T k n os) (hi : os[i]? = some (a, .array .byte, vs)) (hz : ¬ z < 0) (hv : vs[z.toNatClampNeg]? = some v) (hd : decode bytes pc = .ok (.baload, 1)) (K : Go p e below G (T.setTop (mkF m (pc + 1) ls (v :: st)))) : Go p e below G (T.setTop (mkF m pc ls (.int z :: .ref a :: st))) := by
  obtain ⟨H0, locs, X, hL, hI⟩ := W
  have O : Oat F Z T.heap a (.array .byte) vs := hI.2.1.get hi
  obtain ⟨E, -, cl, Ar, S⟩ := O
  obtain ⟨h1, h2⟩ := inb_list S hz hv
  exact K.by fun t q => X.baloadBytes H0.1 (j := z) (v := v) Ar.1 (State.isArrayOf_alike H0.2.1.alike Ar.2.1) Ar.2.2 h1 h2 (g := mkF m pc ls (.int z :: .ref a :: st)) rfl rfl (hb H0.2.2.1 hd) t q
theorem g_arraylength {i : Nat} {a : Addr} {ty : FieldType} {vs : List Value} (N : Int32) (W : Here p l e R s m args below meth c Z F B h0 A y bytes mL ret T k n os) (hi : os[i]? = some (a, .array ty, vs)) (hN : vs.length.toInt32 = N) (hd : decode bytes pc = .ok (.arraylength, 1)) (K : Go p e below G (T.setTop (mkF m (pc + 1) ls (.int N :: st)))) : Go p e below G (T.setTop (mkF m pc ls (.ref a :: st))) := by
  obtain ⟨H0, locs, X, hL, hI⟩ := W
  have O : Oat F Z T.heap a (.array ty) vs := hI.2.1.get hi
  obtain ⟨E, -, cl, Ar, S⟩ := O
  have q2 : cl.slots.size.toInt32 = N := by rw [S, ← hN]; simp
  subst q2
  exact K.by fun t q => X.arraylength H0.1 Ar.1 (State.isArrayOf_alike H0.2.1.alike Ar.2.1) (g := mkF m pc ls (.ref a :: st)) rfl rfl (hb H0.2.2.1 hd) t q
theorem Oat.put {h h' : Heap} {a : Addr} {ty : FieldType} {vs : List Value} {cl : Cell} {v : Value} {j : Nat} (O : Oat F Z h a (.array ty) vs) (Ar : Arr Z h a cl ty) (S : cl.slots = vs.toArray) (hf : fits ty v = true) (Wr' : Wr h h' a j v) : Oat F Z h' a (.array ty) (vs.set j v) := by
  obtain ⟨E, f, -⟩ := O
  refine ⟨E.wr Wr', fun u hu => ?_, cl.setSlot j v, Ar.same Wr', by simp [Cell.setSlot, S]⟩
  rcases List.mem_or_eq_of_mem_set hu with q | q
  · exact f u q
  · rw [q]; exact hf
theorem g_iastore {i : Nat} {a : Addr} {z : Int32} {x : Int32} {vs : List Value} {os' : List Ob} (j : Nat) (W : Here p l e R s m args below meth c Z F B h0 A y bytes mL ret T k n os) (hi : os[i]? = some (a, .array .int, vs)) (hz : ¬ z < 0) (hj : z.toNatClampNeg = j) (hlt : j < vs.length) (ho : os.set i (a, .array .int, vs.set j (.int x)) = os')
    (hd : decode bytes pc = .ok (.iastore, 1)) (K : ∀ T', Here p l e R s m args below meth c Z F B h0 A y bytes mL ret T' k n os' → Go p e below G (T'.setTop (mkF m (pc + 1) ls (st)))) : Go p e below G (T.setTop (mkF m pc ls (.int x :: .int z :: .ref a :: st))) := by
  obtain ⟨H0, locs, X, hL, hI⟩ := W
  have O : Oat F Z T.heap a (.array .int) vs := hI.2.1.get hi
  obtain ⟨E, -, cl, Ar, S⟩ := id O
  have hin : ¬ (z < 0 ∨ cl.slots.size ≤ z.toNatClampNeg) := fun q => q.elim hz fun q => by rw [S] at q; simp at q; omega
  obtain ⟨T', h', X', e', Wr', stp⟩ := stI X H0.1 H0.2.1 rfl Ar (j := z) hin (g := mkF m pc ls (.int x :: .int z :: .ref a :: st)) rfl rfl (hb H0.2.2.1 hd)
  subst hj
  refine (K T' ⟨H0, _, X', ⟨fun z hz => ?_, hL.2⟩, ?_⟩).by stp
  · rcases List.mem_append.mp hz with q | q
    · exact hL.1 z q
    · cases List.mem_singleton.mp q; exact (hI.mem hi).ge hL.2.1 hL.2.2
  · rw [e', ← ho]
    exact hI.set hi (Keep.of_wr Wr') (O.put Ar S rfl Wr')
theorem g_lastore {i : Nat} {a : Addr} {z : Int32} {x : Int64} {vs : List Value} {os' : List Ob} (j : Nat) (W : Here p l e R s m args below meth c Z F B h0 A y bytes mL ret T k n os) (hi : os[i]? = some (a, .array .long, vs)) (hz : ¬ z < 0) (hj : z.toNatClampNeg = j) (hlt : j < vs.length) (ho : os.set i (a, .array .long, vs.set j (.long x)) = os')
    (hd : decode bytes pc = .ok (.lastore, 1)) (K : ∀ T', Here p l e R s m args below meth c Z F B h0 A y bytes mL ret T' k n os' → Go p e below G (T'.setTop (mkF m (pc + 1) ls (st)))) : Go p e below G (T.setTop (mkF m pc ls (.long x :: .int z :: .ref a :: st))) := by
  obtain ⟨H0, locs, X, hL, hI⟩ := W
  have O : Oat F Z T.heap a (.array .long) vs := hI.2.1.get hi
  obtain ⟨E, -, cl, Ar, S⟩ := id O
  have hin : ¬ (z < 0 ∨ cl.slots.size ≤ z.toNatClampNeg) := fun q => q.elim hz fun q => by rw [S] at q; simp at q; omega
  obtain ⟨T', h', X', e', Wr', stp⟩ := stJ X H0.1 H0.2.1 rfl Ar (j := z) hin (g := mkF m pc ls (.long x :: .int z :: .ref a :: st)) rfl rfl (hb H0.2.2.1 hd)
  subst hj
  refine (K T' ⟨H0, _, X', ⟨fun z hz => ?_, hL.2⟩, ?_⟩).by stp
  · rcases List.mem_append.mp hz with q | q
    · exact hL.1 z q
    · cases List.mem_singleton.mp q; exact (hI.mem hi).ge hL.2.1 hL.2.2
  · rw [e', ← ho]
    exact hI.set hi (Keep.of_wr Wr') (O.put Ar S rfl Wr')
theorem g_bastore {i : Nat} {a : Addr} {z : Int32} {x : Int32} {x' : Int32} (hx' : x.toInt8.toInt32 = x') {vs : List Value} {os' : List Ob} (j : Nat) (W : Here p l e R s m args below meth c Z F B h0 A y bytes mL ret T k n os) (hi : os[i]? = some (a, .array .byte, vs)) (hz : ¬ z < 0) (hj : z.toNatClampNeg = j) (hlt : j < vs.length) (ho : os.set i (a, .array .byte, vs.set j (.int x')) = os')
    (hd : decode bytes pc = .ok (.bastore, 1)) (K : ∀ T', Here p l e R s m args below meth c Z F B h0 A y bytes mL ret T' k n os' → Go p e below G (T'.setTop (mkF m (pc + 1) ls (st)))) : Go p e below G (T.setTop (mkF m pc ls (.int x :: .int z :: .ref a :: st))) := by
  obtain ⟨H0, locs, X, hL, hI⟩ := W
  have O : Oat F Z T.heap a (.array .byte) vs := hI.2.1.get hi
  obtain ⟨E, -, cl, Ar, S⟩ := id O
  have hin : ¬ (z < 0 ∨ cl.slots.size ≤ z.toNatClampNeg) := fun q => q.elim hz fun q => by rw [S] at q; simp at q; omega
  obtain ⟨T', h', X', e', Wr', stp⟩ := stB X H0.1 H0.2.1 rfl Ar (j := z) hin (g := mkF m pc ls (.int x :: .int z :: .ref a :: st)) rfl rfl (hb H0.2.2.1 hd)
  subst hj
  subst hx'
  refine (K T' ⟨H0, _, X', ⟨fun z hz => ?_, hL.2⟩, ?_⟩).by stp
  · rcases List.mem_append.mp hz with q | q
    · exact hL.1 z q
    · cases List.mem_singleton.mp q; exact (hI.mem hi).ge hL.2.1 hL.2.2
  · rw [e', ← ho]
    exact hI.set hi (Keep.of_wr Wr') (O.put Ar S (fits_nar_byte x) Wr')
theorem g_zastore {i : Nat} {a : Addr} {z : Int32} {x : Int32} {x' : Int32} (hx' : x &&& 1 = x') {vs : List Value} {os' : List Ob} (j : Nat) (W : Here p l e R s m args below meth c Z F B h0 A y bytes mL ret T k n os) (hi : os[i]? = some (a, .array .boolean, vs)) (hz : ¬ z < 0) (hj : z.toNatClampNeg = j) (hlt : j < vs.length) (ho : os.set i (a, .array .boolean, vs.set j (.int x')) = os')
    (hd : decode bytes pc = .ok (.bastore, 1)) (K : ∀ T', Here p l e R s m args below meth c Z F B h0 A y bytes mL ret T' k n os' → Go p e below G (T'.setTop (mkF m (pc + 1) ls (st)))) : Go p e below G (T.setTop (mkF m pc ls (.int x :: .int z :: .ref a :: st))) := by
  obtain ⟨H0, locs, X, hL, hI⟩ := W
  have O : Oat F Z T.heap a (.array .boolean) vs := hI.2.1.get hi
  obtain ⟨E, -, cl, Ar, S⟩ := id O
  have hin : ¬ (z < 0 ∨ cl.slots.size ≤ z.toNatClampNeg) := fun q => q.elim hz fun q => by rw [S] at q; simp at q; omega
  obtain ⟨T', h', X', e', Wr', stp⟩ := stZ X H0.1 H0.2.1 rfl Ar (j := z) hin (g := mkF m pc ls (.int x :: .int z :: .ref a :: st)) rfl rfl (hb H0.2.2.1 hd)
  subst hj
  subst hx'
  refine (K T' ⟨H0, _, X', ⟨fun z hz => ?_, hL.2⟩, ?_⟩).by stp
  · rcases List.mem_append.mp hz with q | q
    · exact hL.1 z q
    · cases List.mem_singleton.mp q; exact (hI.mem hi).ge hL.2.1 hL.2.2
  · rw [e', ← ho]
    exact hI.set hi (Keep.of_wr Wr') (O.put Ar S (fits_nar_bool x) Wr')
/-- os is loc and rst, in another order -/
def Spl (os loc rst : List Ob) : Prop := ∃ pm : List Nat, pm.Nodup ∧ (loc ++ rst).map some = pm.map (fun i => os[i]?)
theorem Spl.none : Spl os [] os := ⟨List.range os.length, List.nodup_range, by
  refine List.ext_getElem? fun i => ?_
  simp only [List.nil_append, List.getElem?_map]
  by_cases h : i < os.length
  · simp [h]
  · simp [h]⟩
theorem Spl.all : Spl os os [] := by obtain ⟨pm, h1, h2⟩ := Spl.none (os := os); exact ⟨pm, h1, by simpa using h2⟩
theorem Spl.mem {loc rst : List Ob} (S : Spl os loc rst) {o : Ob} (ho : o ∈ loc ++ rst) : o ∈ os := by
  obtain ⟨pm, -, h2⟩ := S
  have q : some o ∈ pm.map (fun i => os[i]?) := h2 ▸ List.mem_map.mpr ⟨o, ho, rfl⟩
  obtain ⟨i, -, hi⟩ := List.mem_map.mp q
  exact List.mem_of_getElem? hi
theorem Spl.nodup {loc rst : List Ob} (S : Spl os loc rst) (hn : (os.map (·.1)).Nodup) : ((loc ++ rst).map (·.1)).Nodup := by
  obtain ⟨pm, h1, h2⟩ := S
  generalize loc ++ rst = L at h2
  have key : ∀ i, (L[i]?).map some = (pm[i]?).map (fun j => os[j]?) := fun i => by rw [← List.getElem?_map, h2, List.getElem?_map]
  have key2 : ∀ i o, L[i]? = some o → ∃ j, pm[i]? = some j ∧ os[j]? = some o := fun i o ho => by
    have q := key i
    rw [ho] at q
    cases hp : pm[i]? with
    | none => simp [hp] at q
    | some j => simp [hp] at q; exact ⟨j, hp, q.symm⟩
  rw [List.nodup_iff_pairwise_ne, List.pairwise_iff_getElem]
  intro i j hi hj hij e
  simp only [List.length_map] at hi hj
  obtain ⟨oj, hoj⟩ : ∃ o, L[j]? = some o := ⟨L[j], List.getElem?_eq_getElem hj⟩
  obtain ⟨oi, hoi⟩ : ∃ o, L[i]? = some o := ⟨L[i], List.getElem?_eq_getElem hi⟩
  have e : oi.1 = oj.1 := by
    simp only [List.getElem_map] at e
    rw [List.getElem?_eq_getElem hi] at hoi
    rw [List.getElem?_eq_getElem hj] at hoj
    rw [← Option.some.inj hoi, ← Option.some.inj hoj]; exact e
  obtain ⟨i', p1, q1⟩ := key2 i oi hoi
  obtain ⟨j', p2, q2⟩ := key2 j oj hoj
  have e2 := nodup_at hn (i := i') (j := j') (a := oi.1) (by rw [List.getElem?_map, q1]; rfl) (by rw [List.getElem?_map, q2, e]; rfl)
  subst e2
  obtain ⟨u1, u2⟩ := List.getElem?_eq_some_iff.mp p1
  obtain ⟨u3, u4⟩ := List.getElem?_eq_some_iff.mp p2
  exact absurd ((List.getElem_inj h1).mp (u2.trans u4.symm)) (Nat.ne_of_lt hij)
theorem Spl.loc {loc rst : List Ob} {h : Heap} (S : Spl os loc rst) (H : Hp F Z h os) : Hp F Z h loc :=
  ⟨by have q := S.nodup H.1; rw [List.map_append] at q; exact (List.nodup_append.mp q).1, fun o ho => H.2 o (S.mem (List.mem_append_left _ ho))⟩
theorem Spl.after {loc rst os' : List Ob} {h h' : Heap} (S : Spl os loc rst) (I : Hin F Z h0 A h os) (I' : Hin F Z h (loc.map (·.1)) h' os') : Hin F Z h0 A h' (os' ++ rst) := by
  have nd := S.nodup I.2.1.1
  rw [List.map_append] at nd
  obtain ⟨n1, n2, n3⟩ := List.nodup_append.mp nd
  have hloc : ∀ x ∈ loc.map (·.1), Okk A h0.size x := fun x hx => by
    obtain ⟨o, ho, rfl⟩ := List.mem_map.mp hx
    exact I.2.2 o (S.mem (List.mem_append_left _ ho))
  refine ⟨I.1.trans I'.1 hloc, ⟨?_, fun o ho => ?_⟩, fun o ho => ?_⟩
  · rw [List.map_append, List.nodup_append]
    refine ⟨I'.2.1.1, n2, fun a ha b hb e => ?_⟩
    subst e
    obtain ⟨o, ho, rfl⟩ := List.mem_map.mp ha
    rcases I'.2.2 o ho with q | q
    · exact n3 _ q _ hb rfl
    · obtain ⟨o2, ho2, e2⟩ := List.mem_map.mp hb
      have := (I.2.1.2 o2 (S.mem (List.mem_append_right _ ho2))).lt
      rw [e2] at this
      exact absurd this (Nat.not_lt.mpr q)
  · rcases List.mem_append.mp ho with q | q
    · exact I'.2.1.2 o q
    · exact (I.2.1.2 o (S.mem (List.mem_append_right _ q))).keep I'.1 (fun z => n3 _ z _ (List.mem_map.mpr ⟨o, q, rfl⟩) rfl)
  · rcases List.mem_append.mp ho with q | q
    · rcases I'.2.2 o q with z | z
      · exact hloc _ z
      · exact Or.inr (Nat.le_trans I.1.1 z)
    · exact I.2.2 o (S.mem (List.mem_append_right _ q))
theorem Spl.locs {locs L : List Loc} (hL : (∀ y ∈ locs, B ≤ y.base) ∧ (∀ a ∈ A, B ≤ a) ∧ B ≤ h0.size) (hL' : ∀ y ∈ L, B ≤ y.base) : (∀ y ∈ locs ++ L, B ≤ y.base) ∧ (∀ a ∈ A, B ≤ a) ∧ B ≤ h0.size :=
  ⟨fun y hy => (List.mem_append.mp hy).elim (hL.1 y) (hL' y), hL.2⟩
theorem Spl.ge {loc rst : List Ob} {h : Heap} {locs : List Loc} (S : Spl os loc rst) (I : Hin F Z h0 A h os) (hL : (∀ y ∈ locs, B ≤ y.base) ∧ (∀ a ∈ A, B ≤ a) ∧ B ≤ h0.size) : ∀ a ∈ loc.map (·.1), B ≤ a := fun a ha => by
  obtain ⟨o, ho, e⟩ := List.mem_map.mp ha
  rw [← e]; exact (I.2.2 o (S.mem (List.mem_append_left _ ho))).ge hL.2.1 hL.2.2
theorem g_static {index Wt : Nat} {y' : MethodName} {bytes' : ByteArray} {mL' : Nat} {ret' : Option FieldType} {rm : Room} {as : Array Value} {loc rst : List Ob} {P : Option Value → List Ob → Prop} {argsL rest : List Value} {ps : List FieldType} {r : Option FieldType} (W : Here p l e R s m args below meth c Z F B h0 A y bytes mL ret T k n os) (w1 : (Jvm.Cond.methodLink y.cls index y').before a0 Z = true) (w2 : (Jvm.Cond.static y').before a0 Z = true) (w3 : (Jvm.Cond.initialized y'.cls).before a0 Z = true) (w4 : (Jvm.Cond.code y' bytes' mL' ret').before a0 Z = true)
    (hy : y'.cls ≠ "java/lang/invoke/MethodHandle" ∧ y'.cls ≠ "java/lang/invoke/VarHandle") (C : Con l Z F B y' bytes' mL' ret' rm [] as loc P) (S : Spl os loc rst) (has : as = argsL.toArray) (hpd : parseMethodDescriptor y'.desc = some ⟨ps, r⟩) (hpl : argsL.length = ps.length)
    (hst : st = argsL.reverse ++ rest) (hsz : ls.size = mL) (hW : (rest.map fun v => v.category).sum ≤ Wt) (hfr : rm.frames + 1 ≤ R.frames) (hlo : Wt + (mL' + 11) + rm.locals ≤ R.locals) (hc : k + rm.cells ≤ R.cells) (hs : n + rm.slots ≤ R.slots) (hd : decode bytes pc = .ok (.invokestatic index, 3)) (K : ∀ T' v os', P v os' → Here p l e R s m args below meth c Z F B h0 A y bytes mL ret T' (k + rm.cells) (n + rm.slots) (os' ++ rst) → Go p e below G (T'.setTop (mkF m (pc + 3) ls (v.toList ++ rest)))) : Go p e below G (T.setTop (mkF m pc ls st)) := by
  obtain ⟨H0, locs, X, hL, hI⟩ := W
  subst has hst
  obtain ⟨v, _, ⟨T', L', k', n'⟩, -, X', ⟨Lc, hQ, l1, y1, z1⟩, stp⟩ := Jvm.LawKit.callS X H0.1 (y := y') H0.2.2.2.2.1 (mvT H0.2.1 w1) (mvT H0.2.1 w2) (mvT H0.2.1 w3) (mvT H0.2.1 w4) hy (backOf (W := Wt) (C T.heap (S.loc hI.2.1) (S.ge hI hL) (Nat.le_trans hL.2.2 hI.1.1)) H0.2.1 w4 w3 hfr hlo) (g := mkF m pc ls (argsL.reverse ++ rest)) rfl (hsz.trans H0.2.2.2.1.symm) (argsL := argsL) (rest := rest) (lenOf hpd hpl) rfl (by show 2 * 0 + _ ≤ _; omega) (hb H0.2.2.1 hd) (fun _ _ => ⟨rfl, rfl, hc, hs⟩)
  dsimp only [Pt.U, Pt.locs, Pt.cells, Pt.slots] at X' l1 y1 z1 stp hQ
  subst l1 y1 z1
  obtain ⟨hLc, os', hI', hp⟩ := hQ
  exact (K T' v os' hp ⟨H0, _, X', Spl.locs hL hLc, S.after hI hI'⟩).by stp
theorem Go.to {S S' : State} (h : Steps p.tables e below S S') (g : Go p e below G S') : Go p e below G S := by
  obtain ⟨t, h', g⟩ := g; exact ⟨t, h.trans h', g⟩
theorem g_init {index Wt : Nat} {y' : MethodName} {bytes' : ByteArray} {mL' : Nat} {rm : Room} {as : Array Value} {loc rst : List Ob} {P : Option Value → List Ob → Prop} {argsL rest : List Value} {ps : List FieldType} {r : Option FieldType} {a : Addr} (W : Here p l e R s m args below meth c Z F B h0 A y bytes mL ret T k n os) (hy1 : y'.name = "<init>") (w1 : (Jvm.Cond.methodLink y.cls index y').before a0 Z = true) (w2 : (Jvm.Cond.instanceMethod y').before a0 Z = true) (w3 : (Jvm.Cond.initialized y'.cls).before a0 Z = true) (w4 : (Jvm.Cond.code y' bytes' mL' none).before a0 Z = true)
    (hy : y'.cls ≠ "java/lang/invoke/MethodHandle" ∧ y'.cls ≠ "java/lang/invoke/VarHandle") (C : Con l Z F B y' bytes' mL' none rm [] as loc P) (S : Spl os loc rst) (has : as = (.ref a :: argsL).toArray) (hpd : parseMethodDescriptor y'.desc = some ⟨ps, r⟩) (hpl : argsL.length = ps.length)
    (hst : st = argsL.reverse ++ .ref a :: rest) (hsz : ls.size = mL) (hW : (rest.map fun v => v.category).sum ≤ Wt) (hfr : rm.frames + 1 ≤ R.frames) (hlo : Wt + (mL' + 11) + rm.locals ≤ R.locals) (hc : k + rm.cells ≤ R.cells) (hs : n + rm.slots ≤ R.slots) (hd : decode bytes pc = .ok (.invokespecial index, 3)) (K : ∀ T' v os', P v os' → Here p l e R s m args below meth c Z F B h0 A y bytes mL ret T' (k + rm.cells) (n + rm.slots) (os' ++ rst) → Go p e below G (T'.setTop (mkF m (pc + 3) ls (v.toList ++ rest)))) : Go p e below G (T.setTop (mkF m pc ls st)) := by
  obtain ⟨H0, locs, X, hL, hI⟩ := W
  subst has hst
  obtain ⟨v, _, ⟨T', L', k', n'⟩, -, X', ⟨Lc, hQ, l1, y1, z1⟩, stp⟩ := X.specialBack H0.1 (y := y') hy1 H0.2.2.2.2.1 (mvT H0.2.1 w1) (mvT H0.2.1 w2) (mvT H0.2.1 w4) hy (backOf (W := Wt) (C T.heap (S.loc hI.2.1) (S.ge hI hL) (Nat.le_trans hL.2.2 hI.1.1)) H0.2.1 w4 w3 hfr hlo) (g := mkF m pc ls (argsL.reverse ++ .ref a :: rest)) rfl (hsz.trans H0.2.2.2.1.symm) (Steps.refl _) (a := a) (argsL := argsL) (rest := rest) (lenOf hpd hpl) rfl (by show 2 * 0 + _ ≤ _; omega) (hb H0.2.2.1 hd) (fun _ _ => ⟨rfl, rfl, hc, hs⟩)
  dsimp only [Pt.U, Pt.locs, Pt.cells, Pt.slots] at X' l1 y1 z1 stp hQ
  subst l1 y1 z1
  obtain ⟨hLc, os', hI', hp⟩ := hQ
  exact (K T' v os' hp ⟨H0, _, X', Spl.locs hL hLc, S.after hI hI'⟩).to stp
theorem g_virtual {index Wt : Nat} {y' : MethodName} {bytes' : ByteArray} {mL' : Nat} {ret' : Option FieldType} {rm : Room} {as : Array Value} {loc rst : List Ob} {P : Option Value → List Ob → Prop} {argsL rest : List Value} {ps : List FieldType} {r : Option FieldType} {a : Addr} {i : Nat} {vs : List Value} (W : Here p l e R s m args below meth c Z F B h0 A y bytes mL ret T k n os) (w1 : (Jvm.Cond.methodLink y.cls index y').before a0 Z = true) (w2 : (Jvm.Cond.instanceMethod y').before a0 Z = true) (w3 : (Jvm.Cond.initialized y'.cls).before a0 Z = true) (w4 : (Jvm.Cond.code y' bytes' mL' ret').before a0 Z = true)
    (w5 : (Jvm.Cond.declares y').before a0 Z = true) (w6 : (Jvm.Cond.selects y'.cls y' y').before a0 Z = true) (hi : os[i]? = some (a, .object y'.cls, vs))
    (hy : y'.cls ≠ "java/lang/invoke/MethodHandle" ∧ y'.cls ≠ "java/lang/invoke/VarHandle") (C : Con l Z F B y' bytes' mL' ret' rm [] as loc P) (S : Spl os loc rst) (has : as = (.ref a :: argsL).toArray) (hpd : parseMethodDescriptor y'.desc = some ⟨ps, r⟩) (hpl : argsL.length = ps.length)
    (hst : st = argsL.reverse ++ .ref a :: rest) (hsz : ls.size = mL) (hW : (rest.map fun v => v.category).sum ≤ Wt) (hfr : rm.frames + 1 ≤ R.frames) (hlo : Wt + (mL' + 11) + rm.locals ≤ R.locals) (hc : k + rm.cells ≤ R.cells) (hs : n + rm.slots ≤ R.slots) (hd : decode bytes pc = .ok (.invokevirtual index, 3)) (K : ∀ T' v os', P v os' → Here p l e R s m args below meth c Z F B h0 A y bytes mL ret T' (k + rm.cells) (n + rm.slots) (os' ++ rst) → Go p e below G (T'.setTop (mkF m (pc + 3) ls (v.toList ++ rest)))) : Go p e below G (T.setTop (mkF m pc ls st)) := by
  obtain ⟨H0, locs, X, hL, hI⟩ := W
  subst has hst
  have O : Oat F Z T.heap a (.object y'.cls) vs := hI.2.1.get hi
  obtain ⟨cq, kq, qa, qb, qc⟩ := isOf H0.2.1 rfl O.1
  obtain ⟨v, _, ⟨T', L', k', n'⟩, -, X', ⟨Lc, hQ, l1, y1, z1⟩, stp⟩ := X.virtualBack H0.1 (y := y') (z := y') H0.2.2.2.2.1 (mvT H0.2.1 w1) (mvT H0.2.1 w5) (notFace_of_selects (args := #[]) (mvT H0.2.1 w6)) (mvT H0.2.1 w6) (mvT H0.2.1 w2) hy (backOf (W := Wt) (C T.heap (S.loc hI.2.1) (S.ge hI hL) (Nat.le_trans hL.2.2 hI.1.1)) H0.2.1 w4 w3 hfr hlo) qa qc (g := mkF m pc ls (argsL.reverse ++ .ref a :: rest)) rfl (hsz.trans H0.2.2.2.1.symm) (Steps.refl _) (argsL := argsL) (rest := rest) (lenOf hpd hpl) rfl (by show 2 * 0 + _ ≤ _; omega) (hb H0.2.2.1 hd) (fun _ _ => ⟨rfl, rfl, hc, hs⟩)
  dsimp only [Pt.U, Pt.locs, Pt.cells, Pt.slots] at X' l1 y1 z1 stp hQ
  subst l1 y1 z1
  obtain ⟨hLc, os', hI', hp⟩ := hQ
  exact (K T' v os' hp ⟨H0, _, X', Spl.locs hL hLc, S.after hI hI'⟩).to stp
theorem g_object {index : Nat} {a : Addr} (Wt : Nat) (W : Here p l e R s m args below meth c Z F B h0 A y bytes mL ret T k n os) (w1 : (Jvm.Cond.methodLink y.cls index Lib.objectInit).before a0 Z = true) (w2 : (Jvm.Cond.instanceMethod Lib.objectInit).before a0 Z = true) (w3 : (Jvm.Cond.code Lib.objectInit ⟨#[0xb1]⟩ 1 none).before a0 Z = true)
    (hsz : ls.size = mL) (hW : (st.map fun v => v.category).sum ≤ Wt) (hfr : 1 ≤ R.frames) (hlo : Wt + 12 ≤ R.locals) (hd : decode bytes pc = .ok (.invokespecial index, 3)) (K : ∀ T', Here p l e R s m args below meth c Z F B h0 A y bytes mL ret T' k n os → Go p e below G (T'.setTop (mkF m (pc + 3) ls (st)))) : Go p e below G (T.setTop (mkF m pc ls (.ref a :: st))) := by
  obtain ⟨H0, locs, X, hL, hI⟩ := W
  obtain ⟨T', X', e', stp⟩ := initO X H0.1 H0.2.1 H0.2.2.2.2.1 w1 w2 w3 rfl (g := mkF m pc ls (.ref a :: st)) rfl (hsz.trans H0.2.2.2.1.symm) rfl (hb H0.2.2.1 hd) hfr (W := Wt) (by show 2 * 0 + _ ≤ _; omega) hlo
  exact (K T' ⟨H0, locs, X', hL, by rw [e']; exact hI⟩).by stp
theorem g_clone {index i Wt : Nat} {a : Addr} {ty : FieldType} {vs : List Value} {ad : String} (cap : Nat) (W : Here p l e R s m args below meth c Z F B h0 A y bytes mL ret T k n os) (w1 : (Jvm.Cond.methodLink y.cls index ⟨ad, "clone", "()Ljava/lang/Object;"⟩).before a0 Z = true) (w2 : (Jvm.Cond.sameMethod ad "java/lang/Object" "clone" "()Ljava/lang/Object;").before a0 Z = true) (w3 : (Jvm.Cond.native ⟨"java/lang/Object", "clone", "()Ljava/lang/Object;"⟩).before a0 Z = true)
    (w4 : (Jvm.Cond.instanceMethod ⟨"java/lang/Object", "clone", "()Ljava/lang/Object;"⟩).before a0 Z = true) (w5 : (Jvm.Cond.selects ad ⟨ad, "clone", "()Ljava/lang/Object;"⟩ ⟨"java/lang/Object", "clone", "()Ljava/lang/Object;"⟩).before a0 Z = true) (w6 : (Jvm.Cond.castable ad "java/lang/Cloneable").before a0 Z = true)
    (had : "[" ++ ty.toString = ad) (hi : os[i]? = some (a, .array ty, vs)) (hsz : ls.size = mL) (hW : (st.map fun v => v.category).sum ≤ Wt) (hfr : 1 ≤ R.frames) (hlo : Wt + 14 ≤ R.locals) (hcap : vs.length ≤ cap) (hc : k + 1 ≤ R.cells) (hs : n + cap ≤ R.slots) (hd : decode bytes pc = .ok (.invokevirtual index, 3))
    (K : ∀ T' b, Here p l e R s m args below meth c Z F B h0 A y bytes mL ret T' (k + 1) (n + cap) (os ++ [(b, .array ty, vs)]) → Go p e below G (T'.setTop (mkF m (pc + 3) ls (.ref b :: st)))) : Go p e below G (T.setTop (mkF m pc ls (.ref a :: st))) := by
  obtain ⟨H0, locs, X, hL, hI⟩ := W
  subst had
  have O : Oat F Z T.heap a (.array ty) vs := hI.2.1.get hi
  obtain ⟨E, f, cl, Ar, S⟩ := O
  have FC : FitC Z cl := fitC_of Ar fun i hi v hv => f v (by rw [S] at hv; exact List.mem_of_getElem? (by simpa using hv))
  obtain ⟨T', h', X', e', E', A', Ex, stp⟩ := cloneA X H0.1 H0.2.1 H0.2.2.2.2.1 w1 w2 w3 w4 w5 w6 rfl Ar E FC (g := mkF m pc ls (.ref a :: st)) rfl (hsz.trans H0.2.2.2.1.symm) rfl (hb H0.2.2.1 hd) hfr (W := Wt) (cap := cap) (by show 2 * 0 + _ ≤ _; omega) hlo (by rw [S]; simpa using hcap) hc hs
  refine (K T' T.heap.size ⟨H0, locs, X', hL, ?_⟩).by stp
  rw [e']
  exact hI.push E' ⟨Ex, f, _, A', S⟩
theorem g_castarr {index i : Nat} {a : Addr} {ty : FieldType} {vs : List Value} {ad : String} (W : Here p l e R s m args below meth c Z F B h0 A y bytes mL ret T k n os) (w : (Jvm.Cond.classLink y.cls index ad).before a0 Z = true) (had : "[" ++ ty.toString = ad) (hi : os[i]? = some (a, .array ty, vs)) (hd : decode bytes pc = .ok (.checkcast index, 3)) (K : ∀ T', Here p l e R s m args below meth c Z F B h0 A y bytes mL ret T' k n os → Go p e below G (T'.setTop (mkF m (pc + 3) ls (.ref a :: st)))) : Go p e below G (T.setTop (mkF m pc ls (.ref a :: st))) := by
  obtain ⟨H0, locs, X, hL, hI⟩ := W
  subst had
  have O : Oat F Z T.heap a (.array ty) vs := hI.2.1.get hi
  obtain ⟨T', X', e', stp⟩ := castY X H0.1 H0.2.1 H0.2.2.2.2.1 w rfl (Ins.self O.1) (g := mkF m pc ls (.ref a :: st)) rfl rfl (hb H0.2.2.1 hd)
  exact (K T' ⟨H0, locs, X', hL, by rw [e']; exact hI⟩).by stp
theorem Oat.arv {h : Heap} {a : Addr} {ty : FieldType} {vs : List Value} (O : Oat F Z h a (.array ty) vs) (hl : vs.length < 2 ^ 31) (d : Value) : ∃ kk, Arv Z h a kk ty vs.length.toInt32 vs d := by
  obtain ⟨E, f, cl, Ar, S⟩ := O
  have e1 : vs.length.toInt32.toInt = vs.length := len_toInt hl
  have e2 : vs.length.toInt32.toNatClampNeg = vs.length := by simp only [Int32.toNatClampNeg, e1]; omega
  have sz : cl.slots.size = vs.length := by rw [S]; simp
  have gd : ∀ i, i < vs.length → vs.getD i d = vs.getD i d ∧ vs[i]? = some (vs.getD i d) := fun i hi => ⟨rfl, by simp [List.getD_eq_getElem?_getD, List.getElem?_eq_getElem hi]⟩
  refine ⟨cl.cls, cl, Ar, rfl, by rw [e2, sz], by rw [Int32.lt_iff_toInt_lt, e1]; simp only [Int32.reduceToInt]; omega, fun i hi => ?_, fun i hi => ?_⟩
  · rw [S]; simpa using (gd i (sz ▸ hi)).2
  · exact f _ (List.mem_of_getElem? (gd i (sz ▸ hi)).2)
theorem Oat.of_arv {h h' : Heap} {a : Addr} {ty : FieldType} {vs vs' : List Value} {kk : ClassId} {z : Int32} {d : Value} (O : Oat F Z h a (.array ty) vs) {ws : List Addr} (K : Keep h h' ws) (V : Arv Z h' a kk ty z vs' d) (hz : z.toNatClampNeg = vs'.length) : Oat F Z h' a (.array ty) vs' := by
  obtain ⟨E, f, -⟩ := O
  obtain ⟨cl, Ar, -, S, -, H, G⟩ := V
  have key : ∀ i, i < vs'.length → vs'[i]? = some (vs'.getD i d) := fun i hi => by simp [List.getD_eq_getElem?_getD, List.getElem?_eq_getElem hi]
  refine ⟨E.keep K, fun v hv => ?_, cl, Ar, ?_⟩
  · obtain ⟨i, hi⟩ := List.mem_iff_getElem?.mp hv
    have hlt := (List.getElem?_eq_some_iff.mp hi).1
    have q := G i (by rw [S, hz]; exact hlt)
    rw [key i hlt] at hi
    rw [← Option.some.inj hi]; exact q
  · refine Array.ext_getElem? fun i => ?_
    by_cases hi : i < vs'.length
    · rw [H i (by rw [S, hz]; exact hi)]; simpa using (key i hi).symm
    · rw [Array.getElem?_eq_none (by rw [S, hz]; omega), Array.getElem?_eq_none (by simpa using hi)]
theorem g_arraycopy {index i j Wt : Nat} {a b : Addr} {ty : FieldType} {vs vd vd' : List Value} {sp dp nn : Int32} {os' : List Ob} (W : Here p l e R s m args below meth c Z F B h0 A y bytes mL ret T k n os) (w1 : (Jvm.Cond.methodLink y.cls index Jvm.Stand.acN).before a0 Z = true) (w2 : (Jvm.Cond.native Jvm.Stand.acN).before a0 Z = true) (w3 : (Jvm.Cond.static Jvm.Stand.acN).before a0 Z = true) (w4 : (Jvm.Cond.initialized "java/lang/System").before a0 Z = true)
    (hi : os[i]? = some (a, .array ty, vs)) (hj : os[j]? = some (b, .array ty, vd)) (hr : refKind ty = false) (h1 : ¬ sp < 0) (h2 : ¬ dp < 0) (h3 : ¬ nn < 0) (l1 : vs.length < 2 ^ 31) (l2 : vd.length < 2 ^ 31) (h4 : sp.toNatClampNeg + nn.toNatClampNeg ≤ vs.length) (h5 : dp.toNatClampNeg + nn.toNatClampNeg ≤ vd.length)
    (hv : vd.take dp.toNatClampNeg ++ ((List.range nn.toNatClampNeg).map fun i => vs.getD (sp.toNatClampNeg + i) .null) ++ vd.drop (dp.toNatClampNeg + nn.toNatClampNeg) = vd') (ho : os.set j (b, .array ty, vd') = os')
    (hsz : ls.size = mL) (hW : (st.map fun v => v.category).sum ≤ Wt) (hfr : 1 ≤ R.frames) (hlo : Wt + (nativeFrameWords "java/lang/System" "arraycopy" 5 + 11) ≤ R.locals) (hd : decode bytes pc = .ok (.invokestatic index, 3)) (K : ∀ T', Here p l e R s m args below meth c Z F B h0 A y bytes mL ret T' k n os' → Go p e below G (T'.setTop (mkF m (pc + 3) ls (st)))) : Go p e below G (T.setTop (mkF m pc ls (.int nn :: .int dp :: .ref b :: .int sp :: .ref a :: st))) := by
  obtain ⟨H0, locs, X, hL, hI⟩ := W
  have Oa : Oat F Z T.heap a (.array ty) vs := hI.2.1.get hi
  have Ob' : Oat F Z T.heap b (.array ty) vd := hI.2.1.get hj
  obtain ⟨ka, Va⟩ := Oa.arv l1 .null
  obtain ⟨kb, Vb⟩ := Ob'.arv l2 .null
  have ez : ∀ (L : List Value), L.length < 2 ^ 31 → L.length.toInt32.toNatClampNeg = L.length := fun L hl => by
    have e1 : L.length.toInt32.toInt = L.length := len_toInt hl
    simp only [Int32.toNatClampNeg, e1]; omega
  obtain ⟨T', h', L', X', e', N', Kp, V', stp⟩ := cpA X H0.1 H0.2.1 H0.2.2.2.2.1 w1 w2 w3 w4 rfl Va Vb (Or.inl ⟨rfl, hr⟩) h1 h2 h3 (by rw [ez _ l1]; exact h4) (by rw [ez _ l2]; exact h5) rfl h5 (n0 := B) hL.1 ((hI.mem hj).ge hL.2.1 hL.2.2) (g := mkF m pc ls (.int nn :: .int dp :: .ref b :: .int sp :: .ref a :: st)) rfl (hsz.trans H0.2.2.2.1.symm) rfl (hb H0.2.2.1 hd) hfr (W := Wt) (by show 2 * 0 + _ ≤ _; omega) hlo
  refine (K T' ⟨H0, L', X', ⟨N', hL.2⟩, ?_⟩).by stp
  rw [e', ← ho]
  rw [hv] at V'
  refine hI.set hj Kp (Ob'.of_arv Kp V' ?_)
  rw [ez _ l2, ← hv]
  simp only [List.length_append, List.length_take, List.length_map, List.length_range, List.length_drop]
  omega
/-- the end: what a law's own contract gives -/
theorem Con.frame {y : MethodName} {as : Array Value} {P : Option Value → List Ob → Prop} {rm : Room} {h : Heap} {v : Option Value} {hh : Heap} {L : List Loc} (Q : Qc F Z B [] h P v hh L) : ∀ y ∈ L, B ≤ y.base := Q.1
end Own
def FM : Fm := fun c => []
theorem pd_JIJJJ__J : parseMethodDescriptor "(JIJJJ)J" = some ⟨[.long, .int, .long, .long, .long], some .long⟩ := by decide +kernel
theorem pd_JJ__J : parseMethodDescriptor "(JJ)J" = some ⟨[.long, .long], some .long⟩ := by decide +kernel
theorem pd_JJJJI__I : parseMethodDescriptor "(JJJJI)I" = some ⟨[.long, .long, .long, .long, .int], some .int⟩ := by decide +kernel
theorem pd_JJJJJI__Z : parseMethodDescriptor "(JJJJJI)Z" = some ⟨[.long, .long, .long, .long, .long, .int], some .boolean⟩ := by decide +kernel
theorem pd_AJAJ__AI : parseMethodDescriptor "([J[J)[I" = some ⟨[(.array .long), (.array .long)], some (.array .int)⟩ := by decide +kernel
def mnL (a b : Int64) : Int64 := if 0 < XT.cmpL a b then b else a
def mxL (a b : Int64) : Int64 := if XT.cmpL a b < 0 then b else a
def pck (v : Int64) (k : Int32) (x0 x1 x2 : Int64) : Int64 := if k = 1 then x0 else if k = 2 then x1 else if k = 3 then x2 else v
def ex0 (v x0 x1 x2 : Int64) : Int32 := -1
def ex1 (v x0 x1 x2 : Int64) : Int32 := if XT.cmpL v x0 = 0 then 0 else -1
def ex2 (v x0 x1 x2 : Int64) : Int32 := if XT.cmpL v x0 = 0 then 0 else if XT.cmpL v x1 = 0 then 1 else -1
def ex3 (v x0 x1 x2 : Int64) : Int32 := if XT.cmpL v x0 = 0 then 0 else if XT.cmpL v x1 = 0 then 1 else if XT.cmpL v x2 = 0 then 2 else -1
theorem cl_lt (x y : Int64) : XT.cmpL x y < 0 ↔ x < y := lw_lt x y
theorem cl_gt (x y : Int64) : 0 < XT.cmpL x y ↔ y < x := lw_gt x y
theorem cl_eq (x y : Int64) : XT.cmpL x y = 0 ↔ x = y := lw_eq x y
theorem mn_le (a b : Int64) : (mnL a b).toInt = min a.toInt b.toInt := by
  unfold mnL; simp only [cl_gt, Int64.lt_iff_toInt_lt]; split <;> omega
theorem mx_le (a b : Int64) : (mxL a b).toInt = max a.toInt b.toInt := by
  unfold mxL; simp only [cl_lt, Int64.lt_iff_toInt_lt]; split <;> omega
theorem own_sort (a b c : Int64) : (mnL a (mnL b c)).toInt ≤ (mxL (mnL a b) (mnL (mxL a b) c)).toInt ∧ (mxL (mnL a b) (mnL (mxL a b) c)).toInt ≤ (mxL a (mxL b c)).toInt := by
  simp only [mn_le, mx_le]; omega
theorem own_lohi (a b : Int64) : (mnL a b).toInt ≤ (mxL a b).toInt := by simp only [mn_le, mx_le]; omega
theorem own_is {x y : Int32} {k : Int} (h : x.toInt = k) (e : y.toInt = k) : x = y := Int32.toInt_inj.mp (h.trans e.symm)
theorem own_p (a : Int32) : a &&& 3 = 0 ∨ a &&& 3 = 1 ∨ a &&& 3 = 2 ∨ a &&& 3 = 3 := by
  have e : (a &&& 3).toInt = a.toInt % 2 ^ 2 := Jvm.Kit.i32_mask a 3 (k := 2) (by decide) (by decide)
  rcases (by omega : (a &&& 3).toInt = 0 ∨ (a &&& 3).toInt = 1 ∨ (a &&& 3).toInt = 2 ∨ (a &&& 3).toInt = 3) with h | h | h | h
  · exact Or.inl (own_is h (by decide))
  · exact Or.inr (Or.inl (own_is h (by decide)))
  · exact Or.inr (Or.inr (Or.inl (own_is h (by decide))))
  · exact Or.inr (Or.inr (Or.inr (own_is h (by decide))))
theorem own_q (a : Int32) : (a &&& 3) % 3 = 0 ∨ (a &&& 3) % 3 = 1 ∨ (a &&& 3) % 3 = 2 := by
  rcases own_p a with h | h | h | h <;> rw [h] <;> decide
theorem d_c_min_0 : decode jdk_29_method_70_code 0 = .ok (.lload_n 0, 1) := by decide +kernel
theorem d_c_min_1 : decode jdk_29_method_70_code 1 = .ok (.lload_n 2, 1) := by decide +kernel
theorem d_c_min_2 : decode jdk_29_method_70_code 2 = .ok (.lcmp, 1) := by decide +kernel
theorem d_c_min_3 : decode jdk_29_method_70_code 3 = .ok (.ifCond .gt 7, 3) := by decide +kernel
theorem d_c_min_6 : decode jdk_29_method_70_code 6 = .ok (.lload_n 0, 1) := by decide +kernel
theorem d_c_min_7 : decode jdk_29_method_70_code 7 = .ok (.goto 4, 3) := by decide +kernel
theorem d_c_min_10 : decode jdk_29_method_70_code 10 = .ok (.lload_n 2, 1) := by decide +kernel
theorem d_c_min_11 : decode jdk_29_method_70_code 11 = .ok (.lreturn, 1) := by decide +kernel
set_option maxRecDepth 65536 in
set_option maxHeartbeats 40000000 in
theorem c_min (l : Launch) (Z : State) (a0 : Array Value) (hw : ∀ d ∈ tables_1, d.before a0 Z = true) {B : Nat} (u : Int64) (v : Int64) :
    Con l Z FM B (⟨"java/lang/Math", "min", "(JJ)J"⟩ : MethodName) jdk_29_method_70_code 4 (some .long) ({ frames := 0, cells := 0, slots := 0, locals := 0 } : Room) [] #[.long u, .long v] [] (fun rr os => rr = some (.long (mnL u v)) ∧ os = []) := by
  refine Con.of (JP.mathPlain rfl (by decide +kernel)) (ls := #[.val (.long u), .second, .val (.long v), .second]) (fun m => by first | (simp [entryFrame, mkF, argsToLocals, Value.category]; done) | rfl) ?_
  intro p_ e_ h_ s_ m_ bl_ me_ c_ T0 W0
  refine g_lload_n (pc := 0) W0 d_c_min_0 rfl ?_
  refine g_lload_n (pc := 1) W0 d_c_min_1 rfl ?_
  refine g_lcmp (pc := 2) W0 d_c_min_2 ?_
  refine g_if_gt 10 (pc := 3) W0 d_c_min_3 (by decide) (by decide) (fun c1 => ?_) (fun c1 => ?_)
  · refine g_lload_n (pc := 10) W0 d_c_min_10 rfl ?_
    exact g_lreturn (pc := 11) rfl W0 d_c_min_11 (by decide) (by decide) ⟨by simp only [mnL, if_pos c1], rfl⟩
  · refine g_lload_n (pc := 6) W0 d_c_min_6 rfl ?_
    refine g_goto 11 (pc := 7) W0 d_c_min_7 (by decide) (by decide) ?_
    exact g_lreturn (pc := 11) rfl W0 d_c_min_11 (by decide) (by decide) ⟨by simp only [mnL, if_neg c1], rfl⟩
theorem d_c_max_0 : decode jdk_29_method_66_code 0 = .ok (.lload_n 0, 1) := by decide +kernel
theorem d_c_max_1 : decode jdk_29_method_66_code 1 = .ok (.lload_n 2, 1) := by decide +kernel
theorem d_c_max_2 : decode jdk_29_method_66_code 2 = .ok (.lcmp, 1) := by decide +kernel
theorem d_c_max_3 : decode jdk_29_method_66_code 3 = .ok (.ifCond .lt 7, 3) := by decide +kernel
theorem d_c_max_6 : decode jdk_29_method_66_code 6 = .ok (.lload_n 0, 1) := by decide +kernel
theorem d_c_max_7 : decode jdk_29_method_66_code 7 = .ok (.goto 4, 3) := by decide +kernel
theorem d_c_max_10 : decode jdk_29_method_66_code 10 = .ok (.lload_n 2, 1) := by decide +kernel
theorem d_c_max_11 : decode jdk_29_method_66_code 11 = .ok (.lreturn, 1) := by decide +kernel
set_option maxRecDepth 65536 in
set_option maxHeartbeats 40000000 in
theorem c_max (l : Launch) (Z : State) (a0 : Array Value) (hw : ∀ d ∈ tables_1, d.before a0 Z = true) {B : Nat} (u : Int64) (v : Int64) :
    Con l Z FM B (⟨"java/lang/Math", "max", "(JJ)J"⟩ : MethodName) jdk_29_method_66_code 4 (some .long) ({ frames := 0, cells := 0, slots := 0, locals := 0 } : Room) [] #[.long u, .long v] [] (fun rr os => rr = some (.long (mxL u v)) ∧ os = []) := by
  refine Con.of (JP.mathPlain rfl (by decide +kernel)) (ls := #[.val (.long u), .second, .val (.long v), .second]) (fun m => by first | (simp [entryFrame, mkF, argsToLocals, Value.category]; done) | rfl) ?_
  intro p_ e_ h_ s_ m_ bl_ me_ c_ T0 W0
  refine g_lload_n (pc := 0) W0 d_c_max_0 rfl ?_
  refine g_lload_n (pc := 1) W0 d_c_max_1 rfl ?_
  refine g_lcmp (pc := 2) W0 d_c_max_2 ?_
  refine g_if_lt 10 (pc := 3) W0 d_c_max_3 (by decide) (by decide) (fun c1 => ?_) (fun c1 => ?_)
  · refine g_lload_n (pc := 10) W0 d_c_max_10 rfl ?_
    exact g_lreturn (pc := 11) rfl W0 d_c_max_11 (by decide) (by decide) ⟨by simp only [mxL, if_pos c1], rfl⟩
  · refine g_lload_n (pc := 6) W0 d_c_max_6 rfl ?_
    refine g_goto 11 (pc := 7) W0 d_c_max_7 (by decide) (by decide) ?_
    exact g_lreturn (pc := 11) rfl W0 d_c_max_11 (by decide) (by decide) ⟨by simp only [mxL, if_neg c1], rfl⟩
theorem d_c_pck_0 : decode method_3_code 0 = .ok (.iload_n 2, 1) := by decide +kernel
theorem d_c_pck_1 : decode method_3_code 1 = .ok (.iconst 1, 1) := by decide +kernel
theorem d_c_pck_2 : decode method_3_code 2 = .ok (.if_icmp .ne 5, 3) := by decide +kernel
theorem d_c_pck_5 : decode method_3_code 5 = .ok (.lload_n 3, 1) := by decide +kernel
theorem d_c_pck_6 : decode method_3_code 6 = .ok (.lreturn, 1) := by decide +kernel
theorem d_c_pck_7 : decode method_3_code 7 = .ok (.iload_n 2, 1) := by decide +kernel
theorem d_c_pck_8 : decode method_3_code 8 = .ok (.iconst 2, 1) := by decide +kernel
theorem d_c_pck_9 : decode method_3_code 9 = .ok (.if_icmp .ne 6, 3) := by decide +kernel
theorem d_c_pck_12 : decode method_3_code 12 = .ok (.lload 5, 2) := by decide +kernel
theorem d_c_pck_14 : decode method_3_code 14 = .ok (.lreturn, 1) := by decide +kernel
theorem d_c_pck_15 : decode method_3_code 15 = .ok (.iload_n 2, 1) := by decide +kernel
theorem d_c_pck_16 : decode method_3_code 16 = .ok (.iconst 3, 1) := by decide +kernel
theorem d_c_pck_17 : decode method_3_code 17 = .ok (.if_icmp .ne 6, 3) := by decide +kernel
theorem d_c_pck_20 : decode method_3_code 20 = .ok (.lload 7, 2) := by decide +kernel
theorem d_c_pck_22 : decode method_3_code 22 = .ok (.lreturn, 1) := by decide +kernel
theorem d_c_pck_23 : decode method_3_code 23 = .ok (.lload_n 0, 1) := by decide +kernel
theorem d_c_pck_24 : decode method_3_code 24 = .ok (.lreturn, 1) := by decide +kernel
set_option maxRecDepth 65536 in
set_option maxHeartbeats 40000000 in
theorem c_pck (l : Launch) (Z : State) (a0 : Array Value) (hw : ∀ d ∈ tables_1, d.before a0 Z = true) {B : Nat} (v : Int64) (k : Int32) (x0 : Int64) (x1 : Int64) (x2 : Int64) :
    Con l Z FM B (⟨"com/example/rover/rover/broker/IdsPositionsPinLaw", "pick", "(JIJJJ)J"⟩ : MethodName) method_3_code 9 (some .long) ({ frames := 0, cells := 0, slots := 0, locals := 0 } : Room) [] #[.long v, .int k, .long x0, .long x1, .long x2] [] (fun rr os => rr = some (.long (pck v k x0 x1 x2)) ∧ os = []) := by
  refine Con.of (plainFor_of_name (by first | (simp [plainName, overriddenIn]; done) | decide +kernel)) (ls := #[.val (.long v), .second, .val (.int k), .val (.long x0), .second, .val (.long x1), .second, .val (.long x2), .second]) (fun m => by first | (simp [entryFrame, mkF, argsToLocals, Value.category]; done) | rfl) ?_
  intro p_ e_ h_ s_ m_ bl_ me_ c_ T0 W0
  refine g_iload_n (pc := 0) W0 d_c_pck_0 rfl ?_
  refine g_iconst (pc := 1) (1 : Int32) (by decide) W0 d_c_pck_1 ?_
  refine g_icmp_ne 7 (pc := 2) W0 d_c_pck_2 (by decide) (by decide) (fun c1 => ?_) (fun c1 => ?_)
  · refine g_iload_n (pc := 7) W0 d_c_pck_7 rfl ?_
    refine g_iconst (pc := 8) (2 : Int32) (by decide) W0 d_c_pck_8 ?_
    refine g_icmp_ne 15 (pc := 9) W0 d_c_pck_9 (by decide) (by decide) (fun c2 => ?_) (fun c2 => ?_)
    · refine g_iload_n (pc := 15) W0 d_c_pck_15 rfl ?_
      refine g_iconst (pc := 16) (3 : Int32) (by decide) W0 d_c_pck_16 ?_
      refine g_icmp_ne 23 (pc := 17) W0 d_c_pck_17 (by decide) (by decide) (fun c3 => ?_) (fun c3 => ?_)
      · refine g_lload_n (pc := 23) W0 d_c_pck_23 rfl ?_
        exact g_lreturn (pc := 24) rfl W0 d_c_pck_24 (by decide) (by decide) ⟨by simp only [pck, if_neg c1, if_neg c2, if_neg c3], rfl⟩
      · refine g_lload (pc := 20) W0 d_c_pck_20 rfl ?_
        exact g_lreturn (pc := 22) rfl W0 d_c_pck_22 (by decide) (by decide) ⟨by simp only [pck, if_neg c1, if_neg c2, if_pos c3], rfl⟩
    · refine g_lload (pc := 12) W0 d_c_pck_12 rfl ?_
      exact g_lreturn (pc := 14) rfl W0 d_c_pck_14 (by decide) (by decide) ⟨by simp only [pck, if_neg c1, if_pos c2], rfl⟩
  · refine g_lload_n (pc := 5) W0 d_c_pck_5 rfl ?_
    exact g_lreturn (pc := 6) rfl W0 d_c_pck_6 (by decide) (by decide) ⟨by simp only [pck, if_pos c1], rfl⟩
theorem d_c_exp0_0 : decode method_4_code 0 = .ok (.iload 8, 2) := by decide +kernel
theorem d_c_exp0_2 : decode method_4_code 2 = .ok (.ifCond .le 11, 3) := by decide +kernel
theorem d_c_exp0_13 : decode method_4_code 13 = .ok (.iload 8, 2) := by decide +kernel
theorem d_c_exp0_15 : decode method_4_code 15 = .ok (.iconst 1, 1) := by decide +kernel
theorem d_c_exp0_16 : decode method_4_code 16 = .ok (.if_icmp .le 12, 3) := by decide +kernel
theorem d_c_exp0_28 : decode method_4_code 28 = .ok (.iload 8, 2) := by decide +kernel
theorem d_c_exp0_30 : decode method_4_code 30 = .ok (.iconst 2, 1) := by decide +kernel
theorem d_c_exp0_31 : decode method_4_code 31 = .ok (.if_icmp .le 12, 3) := by decide +kernel
theorem d_c_exp0_43 : decode method_4_code 43 = .ok (.iconst (-1), 1) := by decide +kernel
theorem d_c_exp0_44 : decode method_4_code 44 = .ok (.ireturn, 1) := by decide +kernel
set_option maxRecDepth 65536 in
set_option maxHeartbeats 40000000 in
theorem c_exp0 (l : Launch) (Z : State) (a0 : Array Value) (hw : ∀ d ∈ tables_1, d.before a0 Z = true) {B : Nat} (v x0 x1 x2 : Int64) :
    Con l Z FM B (⟨"com/example/rover/rover/broker/IdsPositionsPinLaw", "expect", "(JJJJI)I"⟩ : MethodName) method_4_code 9 (some .int) ({ frames := 0, cells := 0, slots := 0, locals := 0 } : Room) [] #[.long v, .long x0, .long x1, .long x2, .int (0 : Int32)] [] (fun v' os => v' = some (.int (ex0 v x0 x1 x2)) ∧ os = []) := by
  refine Con.of (plainFor_of_name (by first | (simp [plainName, overriddenIn]; done) | decide +kernel)) (ls := #[.val (.long v), .second, .val (.long x0), .second, .val (.long x1), .second, .val (.long x2), .second, .val (.int (0 : Int32))]) (fun m => by first | (simp [entryFrame, mkF, argsToLocals, Value.category]; done) | rfl) ?_
  intro p_ e_ h_ s_ m_ bl_ me_ c_ T0 W0
  refine g_iload (pc := 0) W0 d_c_exp0_0 rfl ?_
  refine g_ifY 13 (pc := 2) W0 d_c_exp0_2 (by decide) (by decide) (by decide) ?_
  refine g_iload (pc := 13) W0 d_c_exp0_13 rfl ?_
  refine g_iconst (pc := 15) (1 : Int32) (by decide) W0 d_c_exp0_15 ?_
  refine g_icmpY 28 (pc := 16) W0 d_c_exp0_16 (by decide) (by decide) (by decide) ?_
  refine g_iload (pc := 28) W0 d_c_exp0_28 rfl ?_
  refine g_iconst (pc := 30) (2 : Int32) (by decide) W0 d_c_exp0_30 ?_
  refine g_icmpY 43 (pc := 31) W0 d_c_exp0_31 (by decide) (by decide) (by decide) ?_
  refine g_iconst (pc := 43) (-1 : Int32) (by decide) W0 d_c_exp0_43 ?_
  exact g_ireturn (pc := 44) rfl W0 d_c_exp0_44 (by decide) (by decide) ⟨by simp only [ex0], rfl⟩
theorem d_c_exp1_0 : decode method_4_code 0 = .ok (.iload 8, 2) := by decide +kernel
theorem d_c_exp1_2 : decode method_4_code 2 = .ok (.ifCond .le 11, 3) := by decide +kernel
theorem d_c_exp1_5 : decode method_4_code 5 = .ok (.lload_n 0, 1) := by decide +kernel
theorem d_c_exp1_6 : decode method_4_code 6 = .ok (.lload_n 2, 1) := by decide +kernel
theorem d_c_exp1_7 : decode method_4_code 7 = .ok (.lcmp, 1) := by decide +kernel
theorem d_c_exp1_8 : decode method_4_code 8 = .ok (.ifCond .ne 5, 3) := by decide +kernel
theorem d_c_exp1_11 : decode method_4_code 11 = .ok (.iconst 0, 1) := by decide +kernel
theorem d_c_exp1_12 : decode method_4_code 12 = .ok (.ireturn, 1) := by decide +kernel
theorem d_c_exp1_13 : decode method_4_code 13 = .ok (.iload 8, 2) := by decide +kernel
theorem d_c_exp1_15 : decode method_4_code 15 = .ok (.iconst 1, 1) := by decide +kernel
theorem d_c_exp1_16 : decode method_4_code 16 = .ok (.if_icmp .le 12, 3) := by decide +kernel
theorem d_c_exp1_28 : decode method_4_code 28 = .ok (.iload 8, 2) := by decide +kernel
theorem d_c_exp1_30 : decode method_4_code 30 = .ok (.iconst 2, 1) := by decide +kernel
theorem d_c_exp1_31 : decode method_4_code 31 = .ok (.if_icmp .le 12, 3) := by decide +kernel
theorem d_c_exp1_43 : decode method_4_code 43 = .ok (.iconst (-1), 1) := by decide +kernel
theorem d_c_exp1_44 : decode method_4_code 44 = .ok (.ireturn, 1) := by decide +kernel
set_option maxRecDepth 65536 in
set_option maxHeartbeats 40000000 in
theorem c_exp1 (l : Launch) (Z : State) (a0 : Array Value) (hw : ∀ d ∈ tables_1, d.before a0 Z = true) {B : Nat} (v x0 x1 x2 : Int64) :
    Con l Z FM B (⟨"com/example/rover/rover/broker/IdsPositionsPinLaw", "expect", "(JJJJI)I"⟩ : MethodName) method_4_code 9 (some .int) ({ frames := 0, cells := 0, slots := 0, locals := 0 } : Room) [] #[.long v, .long x0, .long x1, .long x2, .int (1 : Int32)] [] (fun v' os => v' = some (.int (ex1 v x0 x1 x2)) ∧ os = []) := by
  refine Con.of (plainFor_of_name (by first | (simp [plainName, overriddenIn]; done) | decide +kernel)) (ls := #[.val (.long v), .second, .val (.long x0), .second, .val (.long x1), .second, .val (.long x2), .second, .val (.int (1 : Int32))]) (fun m => by first | (simp [entryFrame, mkF, argsToLocals, Value.category]; done) | rfl) ?_
  intro p_ e_ h_ s_ m_ bl_ me_ c_ T0 W0
  refine g_iload (pc := 0) W0 d_c_exp1_0 rfl ?_
  refine g_ifN (pc := 2) W0 d_c_exp1_2 (by decide) ?_
  refine g_lload_n (pc := 5) W0 d_c_exp1_5 rfl ?_
  refine g_lload_n (pc := 6) W0 d_c_exp1_6 rfl ?_
  refine g_lcmp (pc := 7) W0 d_c_exp1_7 ?_
  refine g_if_ne 13 (pc := 8) W0 d_c_exp1_8 (by decide) (by decide) (fun c1 => ?_) (fun c1 => ?_)
  · refine g_iload (pc := 13) W0 d_c_exp1_13 rfl ?_
    refine g_iconst (pc := 15) (1 : Int32) (by decide) W0 d_c_exp1_15 ?_
    refine g_icmpY 28 (pc := 16) W0 d_c_exp1_16 (by decide) (by decide) (by decide) ?_
    refine g_iload (pc := 28) W0 d_c_exp1_28 rfl ?_
    refine g_iconst (pc := 30) (2 : Int32) (by decide) W0 d_c_exp1_30 ?_
    refine g_icmpY 43 (pc := 31) W0 d_c_exp1_31 (by decide) (by decide) (by decide) ?_
    refine g_iconst (pc := 43) (-1 : Int32) (by decide) W0 d_c_exp1_43 ?_
    exact g_ireturn (pc := 44) rfl W0 d_c_exp1_44 (by decide) (by decide) ⟨by simp only [ex1, if_neg c1], rfl⟩
  · refine g_iconst (pc := 11) (0 : Int32) (by decide) W0 d_c_exp1_11 ?_
    exact g_ireturn (pc := 12) rfl W0 d_c_exp1_12 (by decide) (by decide) ⟨by simp only [ex1, if_pos c1], rfl⟩
theorem d_c_exp2_0 : decode method_4_code 0 = .ok (.iload 8, 2) := by decide +kernel
theorem d_c_exp2_2 : decode method_4_code 2 = .ok (.ifCond .le 11, 3) := by decide +kernel
theorem d_c_exp2_5 : decode method_4_code 5 = .ok (.lload_n 0, 1) := by decide +kernel
theorem d_c_exp2_6 : decode method_4_code 6 = .ok (.lload_n 2, 1) := by decide +kernel
theorem d_c_exp2_7 : decode method_4_code 7 = .ok (.lcmp, 1) := by decide +kernel
theorem d_c_exp2_8 : decode method_4_code 8 = .ok (.ifCond .ne 5, 3) := by decide +kernel
theorem d_c_exp2_11 : decode method_4_code 11 = .ok (.iconst 0, 1) := by decide +kernel
theorem d_c_exp2_12 : decode method_4_code 12 = .ok (.ireturn, 1) := by decide +kernel
theorem d_c_exp2_13 : decode method_4_code 13 = .ok (.iload 8, 2) := by decide +kernel
theorem d_c_exp2_15 : decode method_4_code 15 = .ok (.iconst 1, 1) := by decide +kernel
theorem d_c_exp2_16 : decode method_4_code 16 = .ok (.if_icmp .le 12, 3) := by decide +kernel
theorem d_c_exp2_19 : decode method_4_code 19 = .ok (.lload_n 0, 1) := by decide +kernel
theorem d_c_exp2_20 : decode method_4_code 20 = .ok (.lload 4, 2) := by decide +kernel
theorem d_c_exp2_22 : decode method_4_code 22 = .ok (.lcmp, 1) := by decide +kernel
theorem d_c_exp2_23 : decode method_4_code 23 = .ok (.ifCond .ne 5, 3) := by decide +kernel
theorem d_c_exp2_26 : decode method_4_code 26 = .ok (.iconst 1, 1) := by decide +kernel
theorem d_c_exp2_27 : decode method_4_code 27 = .ok (.ireturn, 1) := by decide +kernel
theorem d_c_exp2_28 : decode method_4_code 28 = .ok (.iload 8, 2) := by decide +kernel
theorem d_c_exp2_30 : decode method_4_code 30 = .ok (.iconst 2, 1) := by decide +kernel
theorem d_c_exp2_31 : decode method_4_code 31 = .ok (.if_icmp .le 12, 3) := by decide +kernel
theorem d_c_exp2_43 : decode method_4_code 43 = .ok (.iconst (-1), 1) := by decide +kernel
theorem d_c_exp2_44 : decode method_4_code 44 = .ok (.ireturn, 1) := by decide +kernel
set_option maxRecDepth 65536 in
set_option maxHeartbeats 40000000 in
theorem c_exp2 (l : Launch) (Z : State) (a0 : Array Value) (hw : ∀ d ∈ tables_1, d.before a0 Z = true) {B : Nat} (v x0 x1 x2 : Int64) :
    Con l Z FM B (⟨"com/example/rover/rover/broker/IdsPositionsPinLaw", "expect", "(JJJJI)I"⟩ : MethodName) method_4_code 9 (some .int) ({ frames := 0, cells := 0, slots := 0, locals := 0 } : Room) [] #[.long v, .long x0, .long x1, .long x2, .int (2 : Int32)] [] (fun v' os => v' = some (.int (ex2 v x0 x1 x2)) ∧ os = []) := by
  refine Con.of (plainFor_of_name (by first | (simp [plainName, overriddenIn]; done) | decide +kernel)) (ls := #[.val (.long v), .second, .val (.long x0), .second, .val (.long x1), .second, .val (.long x2), .second, .val (.int (2 : Int32))]) (fun m => by first | (simp [entryFrame, mkF, argsToLocals, Value.category]; done) | rfl) ?_
  intro p_ e_ h_ s_ m_ bl_ me_ c_ T0 W0
  refine g_iload (pc := 0) W0 d_c_exp2_0 rfl ?_
  refine g_ifN (pc := 2) W0 d_c_exp2_2 (by decide) ?_
  refine g_lload_n (pc := 5) W0 d_c_exp2_5 rfl ?_
  refine g_lload_n (pc := 6) W0 d_c_exp2_6 rfl ?_
  refine g_lcmp (pc := 7) W0 d_c_exp2_7 ?_
  refine g_if_ne 13 (pc := 8) W0 d_c_exp2_8 (by decide) (by decide) (fun c1 => ?_) (fun c1 => ?_)
  · refine g_iload (pc := 13) W0 d_c_exp2_13 rfl ?_
    refine g_iconst (pc := 15) (1 : Int32) (by decide) W0 d_c_exp2_15 ?_
    refine g_icmpN (pc := 16) W0 d_c_exp2_16 (by decide) ?_
    refine g_lload_n (pc := 19) W0 d_c_exp2_19 rfl ?_
    refine g_lload (pc := 20) W0 d_c_exp2_20 rfl ?_
    refine g_lcmp (pc := 22) W0 d_c_exp2_22 ?_
    refine g_if_ne 28 (pc := 23) W0 d_c_exp2_23 (by decide) (by decide) (fun c2 => ?_) (fun c2 => ?_)
    · refine g_iload (pc := 28) W0 d_c_exp2_28 rfl ?_
      refine g_iconst (pc := 30) (2 : Int32) (by decide) W0 d_c_exp2_30 ?_
      refine g_icmpY 43 (pc := 31) W0 d_c_exp2_31 (by decide) (by decide) (by decide) ?_
      refine g_iconst (pc := 43) (-1 : Int32) (by decide) W0 d_c_exp2_43 ?_
      exact g_ireturn (pc := 44) rfl W0 d_c_exp2_44 (by decide) (by decide) ⟨by simp only [ex2, if_neg c1, if_neg c2], rfl⟩
    · refine g_iconst (pc := 26) (1 : Int32) (by decide) W0 d_c_exp2_26 ?_
      exact g_ireturn (pc := 27) rfl W0 d_c_exp2_27 (by decide) (by decide) ⟨by simp only [ex2, if_neg c1, if_pos c2], rfl⟩
  · refine g_iconst (pc := 11) (0 : Int32) (by decide) W0 d_c_exp2_11 ?_
    exact g_ireturn (pc := 12) rfl W0 d_c_exp2_12 (by decide) (by decide) ⟨by simp only [ex2, if_pos c1], rfl⟩
theorem d_c_exp3_0 : decode method_4_code 0 = .ok (.iload 8, 2) := by decide +kernel
theorem d_c_exp3_2 : decode method_4_code 2 = .ok (.ifCond .le 11, 3) := by decide +kernel
theorem d_c_exp3_5 : decode method_4_code 5 = .ok (.lload_n 0, 1) := by decide +kernel
theorem d_c_exp3_6 : decode method_4_code 6 = .ok (.lload_n 2, 1) := by decide +kernel
theorem d_c_exp3_7 : decode method_4_code 7 = .ok (.lcmp, 1) := by decide +kernel
theorem d_c_exp3_8 : decode method_4_code 8 = .ok (.ifCond .ne 5, 3) := by decide +kernel
theorem d_c_exp3_11 : decode method_4_code 11 = .ok (.iconst 0, 1) := by decide +kernel
theorem d_c_exp3_12 : decode method_4_code 12 = .ok (.ireturn, 1) := by decide +kernel
theorem d_c_exp3_13 : decode method_4_code 13 = .ok (.iload 8, 2) := by decide +kernel
theorem d_c_exp3_15 : decode method_4_code 15 = .ok (.iconst 1, 1) := by decide +kernel
theorem d_c_exp3_16 : decode method_4_code 16 = .ok (.if_icmp .le 12, 3) := by decide +kernel
theorem d_c_exp3_19 : decode method_4_code 19 = .ok (.lload_n 0, 1) := by decide +kernel
theorem d_c_exp3_20 : decode method_4_code 20 = .ok (.lload 4, 2) := by decide +kernel
theorem d_c_exp3_22 : decode method_4_code 22 = .ok (.lcmp, 1) := by decide +kernel
theorem d_c_exp3_23 : decode method_4_code 23 = .ok (.ifCond .ne 5, 3) := by decide +kernel
theorem d_c_exp3_26 : decode method_4_code 26 = .ok (.iconst 1, 1) := by decide +kernel
theorem d_c_exp3_27 : decode method_4_code 27 = .ok (.ireturn, 1) := by decide +kernel
theorem d_c_exp3_28 : decode method_4_code 28 = .ok (.iload 8, 2) := by decide +kernel
theorem d_c_exp3_30 : decode method_4_code 30 = .ok (.iconst 2, 1) := by decide +kernel
theorem d_c_exp3_31 : decode method_4_code 31 = .ok (.if_icmp .le 12, 3) := by decide +kernel
theorem d_c_exp3_34 : decode method_4_code 34 = .ok (.lload_n 0, 1) := by decide +kernel
theorem d_c_exp3_35 : decode method_4_code 35 = .ok (.lload 6, 2) := by decide +kernel
theorem d_c_exp3_37 : decode method_4_code 37 = .ok (.lcmp, 1) := by decide +kernel
theorem d_c_exp3_38 : decode method_4_code 38 = .ok (.ifCond .ne 5, 3) := by decide +kernel
theorem d_c_exp3_41 : decode method_4_code 41 = .ok (.iconst 2, 1) := by decide +kernel
theorem d_c_exp3_42 : decode method_4_code 42 = .ok (.ireturn, 1) := by decide +kernel
theorem d_c_exp3_43 : decode method_4_code 43 = .ok (.iconst (-1), 1) := by decide +kernel
theorem d_c_exp3_44 : decode method_4_code 44 = .ok (.ireturn, 1) := by decide +kernel
set_option maxRecDepth 65536 in
set_option maxHeartbeats 40000000 in
theorem c_exp3 (l : Launch) (Z : State) (a0 : Array Value) (hw : ∀ d ∈ tables_1, d.before a0 Z = true) {B : Nat} (v x0 x1 x2 : Int64) :
    Con l Z FM B (⟨"com/example/rover/rover/broker/IdsPositionsPinLaw", "expect", "(JJJJI)I"⟩ : MethodName) method_4_code 9 (some .int) ({ frames := 0, cells := 0, slots := 0, locals := 0 } : Room) [] #[.long v, .long x0, .long x1, .long x2, .int (3 : Int32)] [] (fun v' os => v' = some (.int (ex3 v x0 x1 x2)) ∧ os = []) := by
  refine Con.of (plainFor_of_name (by first | (simp [plainName, overriddenIn]; done) | decide +kernel)) (ls := #[.val (.long v), .second, .val (.long x0), .second, .val (.long x1), .second, .val (.long x2), .second, .val (.int (3 : Int32))]) (fun m => by first | (simp [entryFrame, mkF, argsToLocals, Value.category]; done) | rfl) ?_
  intro p_ e_ h_ s_ m_ bl_ me_ c_ T0 W0
  refine g_iload (pc := 0) W0 d_c_exp3_0 rfl ?_
  refine g_ifN (pc := 2) W0 d_c_exp3_2 (by decide) ?_
  refine g_lload_n (pc := 5) W0 d_c_exp3_5 rfl ?_
  refine g_lload_n (pc := 6) W0 d_c_exp3_6 rfl ?_
  refine g_lcmp (pc := 7) W0 d_c_exp3_7 ?_
  refine g_if_ne 13 (pc := 8) W0 d_c_exp3_8 (by decide) (by decide) (fun c1 => ?_) (fun c1 => ?_)
  · refine g_iload (pc := 13) W0 d_c_exp3_13 rfl ?_
    refine g_iconst (pc := 15) (1 : Int32) (by decide) W0 d_c_exp3_15 ?_
    refine g_icmpN (pc := 16) W0 d_c_exp3_16 (by decide) ?_
    refine g_lload_n (pc := 19) W0 d_c_exp3_19 rfl ?_
    refine g_lload (pc := 20) W0 d_c_exp3_20 rfl ?_
    refine g_lcmp (pc := 22) W0 d_c_exp3_22 ?_
    refine g_if_ne 28 (pc := 23) W0 d_c_exp3_23 (by decide) (by decide) (fun c2 => ?_) (fun c2 => ?_)
    · refine g_iload (pc := 28) W0 d_c_exp3_28 rfl ?_
      refine g_iconst (pc := 30) (2 : Int32) (by decide) W0 d_c_exp3_30 ?_
      refine g_icmpN (pc := 31) W0 d_c_exp3_31 (by decide) ?_
      refine g_lload_n (pc := 34) W0 d_c_exp3_34 rfl ?_
      refine g_lload (pc := 35) W0 d_c_exp3_35 rfl ?_
      refine g_lcmp (pc := 37) W0 d_c_exp3_37 ?_
      refine g_if_ne 43 (pc := 38) W0 d_c_exp3_38 (by decide) (by decide) (fun c3 => ?_) (fun c3 => ?_)
      · refine g_iconst (pc := 43) (-1 : Int32) (by decide) W0 d_c_exp3_43 ?_
        exact g_ireturn (pc := 44) rfl W0 d_c_exp3_44 (by decide) (by decide) ⟨by simp only [ex3, if_neg c1, if_neg c2, if_neg c3], rfl⟩
      · refine g_iconst (pc := 41) (2 : Int32) (by decide) W0 d_c_exp3_41 ?_
        exact g_ireturn (pc := 42) rfl W0 d_c_exp3_42 (by decide) (by decide) ⟨by simp only [ex3, if_neg c1, if_neg c2, if_pos c3], rfl⟩
    · refine g_iconst (pc := 26) (1 : Int32) (by decide) W0 d_c_exp3_26 ?_
      exact g_ireturn (pc := 27) rfl W0 d_c_exp3_27 (by decide) (by decide) ⟨by simp only [ex3, if_neg c1, if_pos c2], rfl⟩
  · refine g_iconst (pc := 11) (0 : Int32) (by decide) W0 d_c_exp3_11 ?_
    exact g_ireturn (pc := 12) rfl W0 d_c_exp3_12 (by decide) (by decide) ⟨by simp only [ex3, if_pos c1], rfl⟩
theorem d_c_pos00_0 : decode prog_15_method_2_code 0 = .ok (.aload_n 0, 1) := by decide +kernel
theorem d_c_pos00_1 : decode prog_15_method_2_code 1 = .ok (.arraylength, 1) := by decide +kernel
theorem d_c_pos00_2 : decode prog_15_method_2_code 2 = .ok (.newarray .int, 2) := by decide +kernel
theorem d_c_pos00_4 : decode prog_15_method_2_code 4 = .ok (.astore_n 2, 1) := by decide +kernel
theorem d_c_pos00_5 : decode prog_15_method_2_code 5 = .ok (.iconst 0, 1) := by decide +kernel
theorem d_c_pos00_6 : decode prog_15_method_2_code 6 = .ok (.istore_n 3, 1) := by decide +kernel
theorem d_c_pos00_7 : decode prog_15_method_2_code 7 = .ok (.iconst 0, 1) := by decide +kernel
theorem d_c_pos00_8 : decode prog_15_method_2_code 8 = .ok (.istore 4, 2) := by decide +kernel
theorem d_c_pos00_10 : decode prog_15_method_2_code 10 = .ok (.iload 4, 2) := by decide +kernel
theorem d_c_pos00_12 : decode prog_15_method_2_code 12 = .ok (.aload_n 0, 1) := by decide +kernel
theorem d_c_pos00_13 : decode prog_15_method_2_code 13 = .ok (.arraylength, 1) := by decide +kernel
theorem d_c_pos00_14 : decode prog_15_method_2_code 14 = .ok (.if_icmp .ge 58, 3) := by decide +kernel
theorem d_c_pos00_72 : decode prog_15_method_2_code 72 = .ok (.aload_n 2, 1) := by decide +kernel
theorem d_c_pos00_73 : decode prog_15_method_2_code 73 = .ok (.areturn, 1) := by decide +kernel
set_option maxRecDepth 65536 in
set_option maxHeartbeats 40000000 in
theorem c_pos00 (l : Launch) (Z : State) (a0 : Array Value) (hw : ∀ d ∈ tables_1, d.before a0 Z = true) {B : Nat} (a b : Addr) (x0 x1 x2 : Int64)  :
    Con l Z FM B (⟨"com/example/rover/rover/broker/Ids", "positions", "([J[J)[I"⟩ : MethodName) prog_15_method_2_code 5 (some (.array .int)) ({ frames := 0, cells := 1, slots := 0, locals := 0 } : Room) [] #[.ref a, .ref b] [(a, (.array .long), []), (b, (.array .long), [])] (fun v os => ∃ r, v = some (.ref r) ∧ os = [(a, (.array .long), []), (b, (.array .long), []), (r, .array .int, [])]) := by
  refine Con.of (plainFor_of_name (by first | (simp [plainName, overriddenIn]; done) | decide +kernel)) (ls := #[.val (.ref a), .val (.ref b), .unset, .unset, .unset]) (fun m => by first | (simp [entryFrame, mkF, argsToLocals, Value.category]; done) | rfl) ?_
  intro p_ e_ h_ s_ m_ bl_ me_ c_ T0 W0
  refine g_aload_n (pc := 0) W0 d_c_pos00_0 rfl rfl ?_
  refine g_arraylength (pc := 1) (i := 0) (0 : Int32) W0 rfl rfl d_c_pos00_1 ?_
  refine g_newarray (pc := 2) (ty := .int) (vs := []) 0 W0 (hw _ (List.mem_of_getElem? (i := 16) rfl)) rfl (by decide) (by decide) (by decide) rfl d_c_pos00_2 (by decide) (by decide) (fun T2 b1 W3 => ?_)
  have W4 := W3.re (os' := [(a, (.array .long), []), (b, (.array .long), []), (b1, (.array .int), [])]) rfl
  refine g_astore_n (pc := 4) (ls' := #[.val (.ref a), .val (.ref b), .val (.ref b1), .unset, .unset]) W4 d_c_pos00_4 rfl rfl ?_
  refine g_iconst (pc := 5) (0 : Int32) (by decide) W4 d_c_pos00_5 ?_
  refine g_istore_n (pc := 6) (ls' := #[.val (.ref a), .val (.ref b), .val (.ref b1), .val (.int (0 : Int32)), .unset]) W4 d_c_pos00_6 rfl ?_
  refine g_iconst (pc := 7) (0 : Int32) (by decide) W4 d_c_pos00_7 ?_
  refine g_istore (pc := 8) (ls' := #[.val (.ref a), .val (.ref b), .val (.ref b1), .val (.int (0 : Int32)), .val (.int (0 : Int32))]) W4 d_c_pos00_8 rfl ?_
  refine g_iload (pc := 10) W4 d_c_pos00_10 rfl ?_
  refine g_aload_n (pc := 12) W4 d_c_pos00_12 rfl rfl ?_
  refine g_arraylength (pc := 13) (i := 0) (0 : Int32) W4 rfl rfl d_c_pos00_13 ?_
  refine g_icmpY 72 (pc := 14) W4 d_c_pos00_14 (by decide) (by decide) (by decide) ?_
  refine g_aload_n (pc := 72) W4 d_c_pos00_72 rfl rfl ?_
  exact g_areturn (pc := 73) rfl rfl W4 d_c_pos00_73 (by decide) (by decide) ⟨b1, rfl, by rfl⟩
theorem d_c_pos01_0 : decode prog_15_method_2_code 0 = .ok (.aload_n 0, 1) := by decide +kernel
theorem d_c_pos01_1 : decode prog_15_method_2_code 1 = .ok (.arraylength, 1) := by decide +kernel
theorem d_c_pos01_2 : decode prog_15_method_2_code 2 = .ok (.newarray .int, 2) := by decide +kernel
theorem d_c_pos01_4 : decode prog_15_method_2_code 4 = .ok (.astore_n 2, 1) := by decide +kernel
theorem d_c_pos01_5 : decode prog_15_method_2_code 5 = .ok (.iconst 0, 1) := by decide +kernel
theorem d_c_pos01_6 : decode prog_15_method_2_code 6 = .ok (.istore_n 3, 1) := by decide +kernel
theorem d_c_pos01_7 : decode prog_15_method_2_code 7 = .ok (.iconst 0, 1) := by decide +kernel
theorem d_c_pos01_8 : decode prog_15_method_2_code 8 = .ok (.istore 4, 2) := by decide +kernel
theorem d_c_pos01_10 : decode prog_15_method_2_code 10 = .ok (.iload 4, 2) := by decide +kernel
theorem d_c_pos01_12 : decode prog_15_method_2_code 12 = .ok (.aload_n 0, 1) := by decide +kernel
theorem d_c_pos01_13 : decode prog_15_method_2_code 13 = .ok (.arraylength, 1) := by decide +kernel
theorem d_c_pos01_14 : decode prog_15_method_2_code 14 = .ok (.if_icmp .ge 58, 3) := by decide +kernel
theorem d_c_pos01_72 : decode prog_15_method_2_code 72 = .ok (.aload_n 2, 1) := by decide +kernel
theorem d_c_pos01_73 : decode prog_15_method_2_code 73 = .ok (.areturn, 1) := by decide +kernel
set_option maxRecDepth 65536 in
set_option maxHeartbeats 40000000 in
theorem c_pos01 (l : Launch) (Z : State) (a0 : Array Value) (hw : ∀ d ∈ tables_1, d.before a0 Z = true) {B : Nat} (a b : Addr) (x0 x1 x2 : Int64)  :
    Con l Z FM B (⟨"com/example/rover/rover/broker/Ids", "positions", "([J[J)[I"⟩ : MethodName) prog_15_method_2_code 5 (some (.array .int)) ({ frames := 0, cells := 1, slots := 0, locals := 0 } : Room) [] #[.ref a, .ref b] [(a, (.array .long), []), (b, (.array .long), [.long x0])] (fun v os => ∃ r, v = some (.ref r) ∧ os = [(a, (.array .long), []), (b, (.array .long), [.long x0]), (r, .array .int, [])]) := by
  refine Con.of (plainFor_of_name (by first | (simp [plainName, overriddenIn]; done) | decide +kernel)) (ls := #[.val (.ref a), .val (.ref b), .unset, .unset, .unset]) (fun m => by first | (simp [entryFrame, mkF, argsToLocals, Value.category]; done) | rfl) ?_
  intro p_ e_ h_ s_ m_ bl_ me_ c_ T0 W0
  refine g_aload_n (pc := 0) W0 d_c_pos01_0 rfl rfl ?_
  refine g_arraylength (pc := 1) (i := 0) (0 : Int32) W0 rfl rfl d_c_pos01_1 ?_
  refine g_newarray (pc := 2) (ty := .int) (vs := []) 0 W0 (hw _ (List.mem_of_getElem? (i := 16) rfl)) rfl (by decide) (by decide) (by decide) rfl d_c_pos01_2 (by decide) (by decide) (fun T2 b1 W3 => ?_)
  have W4 := W3.re (os' := [(a, (.array .long), []), (b, (.array .long), [.long x0]), (b1, (.array .int), [])]) rfl
  refine g_astore_n (pc := 4) (ls' := #[.val (.ref a), .val (.ref b), .val (.ref b1), .unset, .unset]) W4 d_c_pos01_4 rfl rfl ?_
  refine g_iconst (pc := 5) (0 : Int32) (by decide) W4 d_c_pos01_5 ?_
  refine g_istore_n (pc := 6) (ls' := #[.val (.ref a), .val (.ref b), .val (.ref b1), .val (.int (0 : Int32)), .unset]) W4 d_c_pos01_6 rfl ?_
  refine g_iconst (pc := 7) (0 : Int32) (by decide) W4 d_c_pos01_7 ?_
  refine g_istore (pc := 8) (ls' := #[.val (.ref a), .val (.ref b), .val (.ref b1), .val (.int (0 : Int32)), .val (.int (0 : Int32))]) W4 d_c_pos01_8 rfl ?_
  refine g_iload (pc := 10) W4 d_c_pos01_10 rfl ?_
  refine g_aload_n (pc := 12) W4 d_c_pos01_12 rfl rfl ?_
  refine g_arraylength (pc := 13) (i := 0) (0 : Int32) W4 rfl rfl d_c_pos01_13 ?_
  refine g_icmpY 72 (pc := 14) W4 d_c_pos01_14 (by decide) (by decide) (by decide) ?_
  refine g_aload_n (pc := 72) W4 d_c_pos01_72 rfl rfl ?_
  exact g_areturn (pc := 73) rfl rfl W4 d_c_pos01_73 (by decide) (by decide) ⟨b1, rfl, by rfl⟩
theorem d_c_pos02_0 : decode prog_15_method_2_code 0 = .ok (.aload_n 0, 1) := by decide +kernel
theorem d_c_pos02_1 : decode prog_15_method_2_code 1 = .ok (.arraylength, 1) := by decide +kernel
theorem d_c_pos02_2 : decode prog_15_method_2_code 2 = .ok (.newarray .int, 2) := by decide +kernel
theorem d_c_pos02_4 : decode prog_15_method_2_code 4 = .ok (.astore_n 2, 1) := by decide +kernel
theorem d_c_pos02_5 : decode prog_15_method_2_code 5 = .ok (.iconst 0, 1) := by decide +kernel
theorem d_c_pos02_6 : decode prog_15_method_2_code 6 = .ok (.istore_n 3, 1) := by decide +kernel
theorem d_c_pos02_7 : decode prog_15_method_2_code 7 = .ok (.iconst 0, 1) := by decide +kernel
theorem d_c_pos02_8 : decode prog_15_method_2_code 8 = .ok (.istore 4, 2) := by decide +kernel
theorem d_c_pos02_10 : decode prog_15_method_2_code 10 = .ok (.iload 4, 2) := by decide +kernel
theorem d_c_pos02_12 : decode prog_15_method_2_code 12 = .ok (.aload_n 0, 1) := by decide +kernel
theorem d_c_pos02_13 : decode prog_15_method_2_code 13 = .ok (.arraylength, 1) := by decide +kernel
theorem d_c_pos02_14 : decode prog_15_method_2_code 14 = .ok (.if_icmp .ge 58, 3) := by decide +kernel
theorem d_c_pos02_72 : decode prog_15_method_2_code 72 = .ok (.aload_n 2, 1) := by decide +kernel
theorem d_c_pos02_73 : decode prog_15_method_2_code 73 = .ok (.areturn, 1) := by decide +kernel
set_option maxRecDepth 65536 in
set_option maxHeartbeats 40000000 in
theorem c_pos02 (l : Launch) (Z : State) (a0 : Array Value) (hw : ∀ d ∈ tables_1, d.before a0 Z = true) {B : Nat} (a b : Addr) (x0 x1 x2 : Int64) (hx0 : x0.toInt < x1.toInt) :
    Con l Z FM B (⟨"com/example/rover/rover/broker/Ids", "positions", "([J[J)[I"⟩ : MethodName) prog_15_method_2_code 5 (some (.array .int)) ({ frames := 0, cells := 1, slots := 0, locals := 0 } : Room) [] #[.ref a, .ref b] [(a, (.array .long), []), (b, (.array .long), [.long x0, .long x1])] (fun v os => ∃ r, v = some (.ref r) ∧ os = [(a, (.array .long), []), (b, (.array .long), [.long x0, .long x1]), (r, .array .int, [])]) := by
  refine Con.of (plainFor_of_name (by first | (simp [plainName, overriddenIn]; done) | decide +kernel)) (ls := #[.val (.ref a), .val (.ref b), .unset, .unset, .unset]) (fun m => by first | (simp [entryFrame, mkF, argsToLocals, Value.category]; done) | rfl) ?_
  intro p_ e_ h_ s_ m_ bl_ me_ c_ T0 W0
  refine g_aload_n (pc := 0) W0 d_c_pos02_0 rfl rfl ?_
  refine g_arraylength (pc := 1) (i := 0) (0 : Int32) W0 rfl rfl d_c_pos02_1 ?_
  refine g_newarray (pc := 2) (ty := .int) (vs := []) 0 W0 (hw _ (List.mem_of_getElem? (i := 16) rfl)) rfl (by decide) (by decide) (by decide) rfl d_c_pos02_2 (by decide) (by decide) (fun T2 b1 W3 => ?_)
  have W4 := W3.re (os' := [(a, (.array .long), []), (b, (.array .long), [.long x0, .long x1]), (b1, (.array .int), [])]) rfl
  refine g_astore_n (pc := 4) (ls' := #[.val (.ref a), .val (.ref b), .val (.ref b1), .unset, .unset]) W4 d_c_pos02_4 rfl rfl ?_
  refine g_iconst (pc := 5) (0 : Int32) (by decide) W4 d_c_pos02_5 ?_
  refine g_istore_n (pc := 6) (ls' := #[.val (.ref a), .val (.ref b), .val (.ref b1), .val (.int (0 : Int32)), .unset]) W4 d_c_pos02_6 rfl ?_
  refine g_iconst (pc := 7) (0 : Int32) (by decide) W4 d_c_pos02_7 ?_
  refine g_istore (pc := 8) (ls' := #[.val (.ref a), .val (.ref b), .val (.ref b1), .val (.int (0 : Int32)), .val (.int (0 : Int32))]) W4 d_c_pos02_8 rfl ?_
  refine g_iload (pc := 10) W4 d_c_pos02_10 rfl ?_
  refine g_aload_n (pc := 12) W4 d_c_pos02_12 rfl rfl ?_
  refine g_arraylength (pc := 13) (i := 0) (0 : Int32) W4 rfl rfl d_c_pos02_13 ?_
  refine g_icmpY 72 (pc := 14) W4 d_c_pos02_14 (by decide) (by decide) (by decide) ?_
  refine g_aload_n (pc := 72) W4 d_c_pos02_72 rfl rfl ?_
  exact g_areturn (pc := 73) rfl rfl W4 d_c_pos02_73 (by decide) (by decide) ⟨b1, rfl, by rfl⟩
theorem d_c_pos03_0 : decode prog_15_method_2_code 0 = .ok (.aload_n 0, 1) := by decide +kernel
theorem d_c_pos03_1 : decode prog_15_method_2_code 1 = .ok (.arraylength, 1) := by decide +kernel
theorem d_c_pos03_2 : decode prog_15_method_2_code 2 = .ok (.newarray .int, 2) := by decide +kernel
theorem d_c_pos03_4 : decode prog_15_method_2_code 4 = .ok (.astore_n 2, 1) := by decide +kernel
theorem d_c_pos03_5 : decode prog_15_method_2_code 5 = .ok (.iconst 0, 1) := by decide +kernel
theorem d_c_pos03_6 : decode prog_15_method_2_code 6 = .ok (.istore_n 3, 1) := by decide +kernel
theorem d_c_pos03_7 : decode prog_15_method_2_code 7 = .ok (.iconst 0, 1) := by decide +kernel
theorem d_c_pos03_8 : decode prog_15_method_2_code 8 = .ok (.istore 4, 2) := by decide +kernel
theorem d_c_pos03_10 : decode prog_15_method_2_code 10 = .ok (.iload 4, 2) := by decide +kernel
theorem d_c_pos03_12 : decode prog_15_method_2_code 12 = .ok (.aload_n 0, 1) := by decide +kernel
theorem d_c_pos03_13 : decode prog_15_method_2_code 13 = .ok (.arraylength, 1) := by decide +kernel
theorem d_c_pos03_14 : decode prog_15_method_2_code 14 = .ok (.if_icmp .ge 58, 3) := by decide +kernel
theorem d_c_pos03_72 : decode prog_15_method_2_code 72 = .ok (.aload_n 2, 1) := by decide +kernel
theorem d_c_pos03_73 : decode prog_15_method_2_code 73 = .ok (.areturn, 1) := by decide +kernel
set_option maxRecDepth 65536 in
set_option maxHeartbeats 40000000 in
theorem c_pos03 (l : Launch) (Z : State) (a0 : Array Value) (hw : ∀ d ∈ tables_1, d.before a0 Z = true) {B : Nat} (a b : Addr) (x0 x1 x2 : Int64) (hx0 : x0.toInt < x1.toInt) (hx1 : x1.toInt < x2.toInt) :
    Con l Z FM B (⟨"com/example/rover/rover/broker/Ids", "positions", "([J[J)[I"⟩ : MethodName) prog_15_method_2_code 5 (some (.array .int)) ({ frames := 0, cells := 1, slots := 0, locals := 0 } : Room) [] #[.ref a, .ref b] [(a, (.array .long), []), (b, (.array .long), [.long x0, .long x1, .long x2])] (fun v os => ∃ r, v = some (.ref r) ∧ os = [(a, (.array .long), []), (b, (.array .long), [.long x0, .long x1, .long x2]), (r, .array .int, [])]) := by
  refine Con.of (plainFor_of_name (by first | (simp [plainName, overriddenIn]; done) | decide +kernel)) (ls := #[.val (.ref a), .val (.ref b), .unset, .unset, .unset]) (fun m => by first | (simp [entryFrame, mkF, argsToLocals, Value.category]; done) | rfl) ?_
  intro p_ e_ h_ s_ m_ bl_ me_ c_ T0 W0
  refine g_aload_n (pc := 0) W0 d_c_pos03_0 rfl rfl ?_
  refine g_arraylength (pc := 1) (i := 0) (0 : Int32) W0 rfl rfl d_c_pos03_1 ?_
  refine g_newarray (pc := 2) (ty := .int) (vs := []) 0 W0 (hw _ (List.mem_of_getElem? (i := 16) rfl)) rfl (by decide) (by decide) (by decide) rfl d_c_pos03_2 (by decide) (by decide) (fun T2 b1 W3 => ?_)
  have W4 := W3.re (os' := [(a, (.array .long), []), (b, (.array .long), [.long x0, .long x1, .long x2]), (b1, (.array .int), [])]) rfl
  refine g_astore_n (pc := 4) (ls' := #[.val (.ref a), .val (.ref b), .val (.ref b1), .unset, .unset]) W4 d_c_pos03_4 rfl rfl ?_
  refine g_iconst (pc := 5) (0 : Int32) (by decide) W4 d_c_pos03_5 ?_
  refine g_istore_n (pc := 6) (ls' := #[.val (.ref a), .val (.ref b), .val (.ref b1), .val (.int (0 : Int32)), .unset]) W4 d_c_pos03_6 rfl ?_
  refine g_iconst (pc := 7) (0 : Int32) (by decide) W4 d_c_pos03_7 ?_
  refine g_istore (pc := 8) (ls' := #[.val (.ref a), .val (.ref b), .val (.ref b1), .val (.int (0 : Int32)), .val (.int (0 : Int32))]) W4 d_c_pos03_8 rfl ?_
  refine g_iload (pc := 10) W4 d_c_pos03_10 rfl ?_
  refine g_aload_n (pc := 12) W4 d_c_pos03_12 rfl rfl ?_
  refine g_arraylength (pc := 13) (i := 0) (0 : Int32) W4 rfl rfl d_c_pos03_13 ?_
  refine g_icmpY 72 (pc := 14) W4 d_c_pos03_14 (by decide) (by decide) (by decide) ?_
  refine g_aload_n (pc := 72) W4 d_c_pos03_72 rfl rfl ?_
  exact g_areturn (pc := 73) rfl rfl W4 d_c_pos03_73 (by decide) (by decide) ⟨b1, rfl, by rfl⟩
theorem d_c_pos10_0 : decode prog_15_method_2_code 0 = .ok (.aload_n 0, 1) := by decide +kernel
theorem d_c_pos10_1 : decode prog_15_method_2_code 1 = .ok (.arraylength, 1) := by decide +kernel
theorem d_c_pos10_2 : decode prog_15_method_2_code 2 = .ok (.newarray .int, 2) := by decide +kernel
theorem d_c_pos10_4 : decode prog_15_method_2_code 4 = .ok (.astore_n 2, 1) := by decide +kernel
theorem d_c_pos10_5 : decode prog_15_method_2_code 5 = .ok (.iconst 0, 1) := by decide +kernel
theorem d_c_pos10_6 : decode prog_15_method_2_code 6 = .ok (.istore_n 3, 1) := by decide +kernel
theorem d_c_pos10_7 : decode prog_15_method_2_code 7 = .ok (.iconst 0, 1) := by decide +kernel
theorem d_c_pos10_8 : decode prog_15_method_2_code 8 = .ok (.istore 4, 2) := by decide +kernel
theorem d_c_pos10_10 : decode prog_15_method_2_code 10 = .ok (.iload 4, 2) := by decide +kernel
theorem d_c_pos10_12 : decode prog_15_method_2_code 12 = .ok (.aload_n 0, 1) := by decide +kernel
theorem d_c_pos10_13 : decode prog_15_method_2_code 13 = .ok (.arraylength, 1) := by decide +kernel
theorem d_c_pos10_14 : decode prog_15_method_2_code 14 = .ok (.if_icmp .ge 58, 3) := by decide +kernel
theorem d_c_pos10_17 : decode prog_15_method_2_code 17 = .ok (.iload_n 3, 1) := by decide +kernel
theorem d_c_pos10_18 : decode prog_15_method_2_code 18 = .ok (.aload_n 1, 1) := by decide +kernel
theorem d_c_pos10_19 : decode prog_15_method_2_code 19 = .ok (.arraylength, 1) := by decide +kernel
theorem d_c_pos10_20 : decode prog_15_method_2_code 20 = .ok (.if_icmp .ge 20, 3) := by decide +kernel
theorem d_c_pos10_40 : decode prog_15_method_2_code 40 = .ok (.aload_n 2, 1) := by decide +kernel
theorem d_c_pos10_41 : decode prog_15_method_2_code 41 = .ok (.iload 4, 2) := by decide +kernel
theorem d_c_pos10_43 : decode prog_15_method_2_code 43 = .ok (.iload_n 3, 1) := by decide +kernel
theorem d_c_pos10_44 : decode prog_15_method_2_code 44 = .ok (.aload_n 1, 1) := by decide +kernel
theorem d_c_pos10_45 : decode prog_15_method_2_code 45 = .ok (.arraylength, 1) := by decide +kernel
theorem d_c_pos10_46 : decode prog_15_method_2_code 46 = .ok (.if_icmp .ge 18, 3) := by decide +kernel
theorem d_c_pos10_64 : decode prog_15_method_2_code 64 = .ok (.iconst (-1), 1) := by decide +kernel
theorem d_c_pos10_65 : decode prog_15_method_2_code 65 = .ok (.iastore, 1) := by decide +kernel
theorem d_c_pos10_66 : decode prog_15_method_2_code 66 = .ok (.iinc 4 1, 3) := by decide +kernel
theorem d_c_pos10_69 : decode prog_15_method_2_code 69 = .ok (.goto (-59), 3) := by decide +kernel
theorem d_c_pos10_72 : decode prog_15_method_2_code 72 = .ok (.aload_n 2, 1) := by decide +kernel
theorem d_c_pos10_73 : decode prog_15_method_2_code 73 = .ok (.areturn, 1) := by decide +kernel
set_option maxRecDepth 65536 in
set_option maxHeartbeats 40000000 in
theorem c_pos10 (l : Launch) (Z : State) (a0 : Array Value) (hw : ∀ d ∈ tables_1, d.before a0 Z = true) {B : Nat} (a b : Addr) (y0 x0 x1 x2 : Int64)  :
    Con l Z FM B (⟨"com/example/rover/rover/broker/Ids", "positions", "([J[J)[I"⟩ : MethodName) prog_15_method_2_code 5 (some (.array .int)) ({ frames := 0, cells := 1, slots := 1, locals := 0 } : Room) [] #[.ref a, .ref b] [(a, (.array .long), [.long y0]), (b, (.array .long), [])] (fun v os => ∃ r, v = some (.ref r) ∧ os = [(a, (.array .long), [.long y0]), (b, (.array .long), []), (r, .array .int, [.int (ex0 y0 x0 x1 x2)])]) := by
  refine Con.of (plainFor_of_name (by first | (simp [plainName, overriddenIn]; done) | decide +kernel)) (ls := #[.val (.ref a), .val (.ref b), .unset, .unset, .unset]) (fun m => by first | (simp [entryFrame, mkF, argsToLocals, Value.category]; done) | rfl) ?_
  intro p_ e_ h_ s_ m_ bl_ me_ c_ T0 W0
  refine g_aload_n (pc := 0) W0 d_c_pos10_0 rfl rfl ?_
  refine g_arraylength (pc := 1) (i := 0) (1 : Int32) W0 rfl rfl d_c_pos10_1 ?_
  refine g_newarray (pc := 2) (ty := .int) (vs := [.int (0 : Int32)]) 1 W0 (hw _ (List.mem_of_getElem? (i := 16) rfl)) rfl (by decide) (by decide) (by decide) rfl d_c_pos10_2 (by decide) (by decide) (fun T2 b1 W3 => ?_)
  have W4 := W3.re (os' := [(a, (.array .long), [.long y0]), (b, (.array .long), []), (b1, (.array .int), [.int (0 : Int32)])]) rfl
  refine g_astore_n (pc := 4) (ls' := #[.val (.ref a), .val (.ref b), .val (.ref b1), .unset, .unset]) W4 d_c_pos10_4 rfl rfl ?_
  refine g_iconst (pc := 5) (0 : Int32) (by decide) W4 d_c_pos10_5 ?_
  refine g_istore_n (pc := 6) (ls' := #[.val (.ref a), .val (.ref b), .val (.ref b1), .val (.int (0 : Int32)), .unset]) W4 d_c_pos10_6 rfl ?_
  refine g_iconst (pc := 7) (0 : Int32) (by decide) W4 d_c_pos10_7 ?_
  refine g_istore (pc := 8) (ls' := #[.val (.ref a), .val (.ref b), .val (.ref b1), .val (.int (0 : Int32)), .val (.int (0 : Int32))]) W4 d_c_pos10_8 rfl ?_
  refine g_iload (pc := 10) W4 d_c_pos10_10 rfl ?_
  refine g_aload_n (pc := 12) W4 d_c_pos10_12 rfl rfl ?_
  refine g_arraylength (pc := 13) (i := 0) (1 : Int32) W4 rfl rfl d_c_pos10_13 ?_
  refine g_icmpN (pc := 14) W4 d_c_pos10_14 (by decide) ?_
  refine g_iload_n (pc := 17) W4 d_c_pos10_17 rfl ?_
  refine g_aload_n (pc := 18) W4 d_c_pos10_18 rfl rfl ?_
  refine g_arraylength (pc := 19) (i := 1) (0 : Int32) W4 rfl rfl d_c_pos10_19 ?_
  refine g_icmpY 40 (pc := 20) W4 d_c_pos10_20 (by decide) (by decide) (by decide) ?_
  refine g_aload_n (pc := 40) W4 d_c_pos10_40 rfl rfl ?_
  refine g_iload (pc := 41) W4 d_c_pos10_41 rfl ?_
  refine g_iload_n (pc := 43) W4 d_c_pos10_43 rfl ?_
  refine g_aload_n (pc := 44) W4 d_c_pos10_44 rfl rfl ?_
  refine g_arraylength (pc := 45) (i := 1) (0 : Int32) W4 rfl rfl d_c_pos10_45 ?_
  refine g_icmpY 64 (pc := 46) W4 d_c_pos10_46 (by decide) (by decide) (by decide) ?_
  refine g_iconst (pc := 64) (-1 : Int32) (by decide) W4 d_c_pos10_64 ?_
  refine g_iastore (pc := 65) (i := 2) (os' := [(a, (.array .long), [.long y0]), (b, (.array .long), []), (b1, (.array .int), [.int (-1 : Int32)])]) 0 W4 rfl (by decide) (by decide) (Nat.le_of_ble_eq_true rfl) rfl d_c_pos10_65 (fun T5 W6 => ?_)
  refine g_iinc (pc := 66) (ls' := #[.val (.ref a), .val (.ref b), .val (.ref b1), .val (.int (0 : Int32)), .val (.int (1 : Int32))]) (1 : Int32) (by decide) W6 d_c_pos10_66 rfl rfl ?_
  refine g_goto 10 (pc := 69) W6 d_c_pos10_69 (by decide) (by decide) ?_
  refine g_iload (pc := 10) W6 d_c_pos10_10 rfl ?_
  refine g_aload_n (pc := 12) W6 d_c_pos10_12 rfl rfl ?_
  refine g_arraylength (pc := 13) (i := 0) (1 : Int32) W6 rfl rfl d_c_pos10_13 ?_
  refine g_icmpY 72 (pc := 14) W6 d_c_pos10_14 (by decide) (by decide) (by decide) ?_
  refine g_aload_n (pc := 72) W6 d_c_pos10_72 rfl rfl ?_
  exact g_areturn (pc := 73) rfl rfl W6 d_c_pos10_73 (by decide) (by decide) ⟨b1, rfl, by have e0 : ex0 y0 x0 x1 x2 = (-1 : Int32) := rfl; rw [e0]⟩
theorem d_c_pos11_0 : decode prog_15_method_2_code 0 = .ok (.aload_n 0, 1) := by decide +kernel
theorem d_c_pos11_1 : decode prog_15_method_2_code 1 = .ok (.arraylength, 1) := by decide +kernel
theorem d_c_pos11_2 : decode prog_15_method_2_code 2 = .ok (.newarray .int, 2) := by decide +kernel
theorem d_c_pos11_4 : decode prog_15_method_2_code 4 = .ok (.astore_n 2, 1) := by decide +kernel
theorem d_c_pos11_5 : decode prog_15_method_2_code 5 = .ok (.iconst 0, 1) := by decide +kernel
theorem d_c_pos11_6 : decode prog_15_method_2_code 6 = .ok (.istore_n 3, 1) := by decide +kernel
theorem d_c_pos11_7 : decode prog_15_method_2_code 7 = .ok (.iconst 0, 1) := by decide +kernel
theorem d_c_pos11_8 : decode prog_15_method_2_code 8 = .ok (.istore 4, 2) := by decide +kernel
theorem d_c_pos11_10 : decode prog_15_method_2_code 10 = .ok (.iload 4, 2) := by decide +kernel
theorem d_c_pos11_12 : decode prog_15_method_2_code 12 = .ok (.aload_n 0, 1) := by decide +kernel
theorem d_c_pos11_13 : decode prog_15_method_2_code 13 = .ok (.arraylength, 1) := by decide +kernel
theorem d_c_pos11_14 : decode prog_15_method_2_code 14 = .ok (.if_icmp .ge 58, 3) := by decide +kernel
theorem d_c_pos11_17 : decode prog_15_method_2_code 17 = .ok (.iload_n 3, 1) := by decide +kernel
theorem d_c_pos11_18 : decode prog_15_method_2_code 18 = .ok (.aload_n 1, 1) := by decide +kernel
theorem d_c_pos11_19 : decode prog_15_method_2_code 19 = .ok (.arraylength, 1) := by decide +kernel
theorem d_c_pos11_20 : decode prog_15_method_2_code 20 = .ok (.if_icmp .ge 20, 3) := by decide +kernel
theorem d_c_pos11_23 : decode prog_15_method_2_code 23 = .ok (.aload_n 1, 1) := by decide +kernel
theorem d_c_pos11_24 : decode prog_15_method_2_code 24 = .ok (.iload_n 3, 1) := by decide +kernel
theorem d_c_pos11_25 : decode prog_15_method_2_code 25 = .ok (.laload, 1) := by decide +kernel
theorem d_c_pos11_26 : decode prog_15_method_2_code 26 = .ok (.aload_n 0, 1) := by decide +kernel
theorem d_c_pos11_27 : decode prog_15_method_2_code 27 = .ok (.iload 4, 2) := by decide +kernel
theorem d_c_pos11_29 : decode prog_15_method_2_code 29 = .ok (.laload, 1) := by decide +kernel
theorem d_c_pos11_30 : decode prog_15_method_2_code 30 = .ok (.lcmp, 1) := by decide +kernel
theorem d_c_pos11_31 : decode prog_15_method_2_code 31 = .ok (.ifCond .ge 9, 3) := by decide +kernel
theorem d_c_pos11_34 : decode prog_15_method_2_code 34 = .ok (.iinc 3 1, 3) := by decide +kernel
theorem d_c_pos11_37 : decode prog_15_method_2_code 37 = .ok (.goto (-20), 3) := by decide +kernel
theorem d_c_pos11_40 : decode prog_15_method_2_code 40 = .ok (.aload_n 2, 1) := by decide +kernel
theorem d_c_pos11_41 : decode prog_15_method_2_code 41 = .ok (.iload 4, 2) := by decide +kernel
theorem d_c_pos11_43 : decode prog_15_method_2_code 43 = .ok (.iload_n 3, 1) := by decide +kernel
theorem d_c_pos11_44 : decode prog_15_method_2_code 44 = .ok (.aload_n 1, 1) := by decide +kernel
theorem d_c_pos11_45 : decode prog_15_method_2_code 45 = .ok (.arraylength, 1) := by decide +kernel
theorem d_c_pos11_46 : decode prog_15_method_2_code 46 = .ok (.if_icmp .ge 18, 3) := by decide +kernel
theorem d_c_pos11_49 : decode prog_15_method_2_code 49 = .ok (.aload_n 1, 1) := by decide +kernel
theorem d_c_pos11_50 : decode prog_15_method_2_code 50 = .ok (.iload_n 3, 1) := by decide +kernel
theorem d_c_pos11_51 : decode prog_15_method_2_code 51 = .ok (.laload, 1) := by decide +kernel
theorem d_c_pos11_52 : decode prog_15_method_2_code 52 = .ok (.aload_n 0, 1) := by decide +kernel
theorem d_c_pos11_53 : decode prog_15_method_2_code 53 = .ok (.iload 4, 2) := by decide +kernel
theorem d_c_pos11_55 : decode prog_15_method_2_code 55 = .ok (.laload, 1) := by decide +kernel
theorem d_c_pos11_56 : decode prog_15_method_2_code 56 = .ok (.lcmp, 1) := by decide +kernel
theorem d_c_pos11_57 : decode prog_15_method_2_code 57 = .ok (.ifCond .ne 7, 3) := by decide +kernel
theorem d_c_pos11_60 : decode prog_15_method_2_code 60 = .ok (.iload_n 3, 1) := by decide +kernel
theorem d_c_pos11_61 : decode prog_15_method_2_code 61 = .ok (.goto 4, 3) := by decide +kernel
theorem d_c_pos11_64 : decode prog_15_method_2_code 64 = .ok (.iconst (-1), 1) := by decide +kernel
theorem d_c_pos11_65 : decode prog_15_method_2_code 65 = .ok (.iastore, 1) := by decide +kernel
theorem d_c_pos11_66 : decode prog_15_method_2_code 66 = .ok (.iinc 4 1, 3) := by decide +kernel
theorem d_c_pos11_69 : decode prog_15_method_2_code 69 = .ok (.goto (-59), 3) := by decide +kernel
theorem d_c_pos11_72 : decode prog_15_method_2_code 72 = .ok (.aload_n 2, 1) := by decide +kernel
theorem d_c_pos11_73 : decode prog_15_method_2_code 73 = .ok (.areturn, 1) := by decide +kernel
set_option maxRecDepth 65536 in
set_option maxHeartbeats 40000000 in
theorem c_pos11 (l : Launch) (Z : State) (a0 : Array Value) (hw : ∀ d ∈ tables_1, d.before a0 Z = true) {B : Nat} (a b : Addr) (y0 x0 x1 x2 : Int64)  :
    Con l Z FM B (⟨"com/example/rover/rover/broker/Ids", "positions", "([J[J)[I"⟩ : MethodName) prog_15_method_2_code 5 (some (.array .int)) ({ frames := 0, cells := 1, slots := 1, locals := 0 } : Room) [] #[.ref a, .ref b] [(a, (.array .long), [.long y0]), (b, (.array .long), [.long x0])] (fun v os => ∃ r, v = some (.ref r) ∧ os = [(a, (.array .long), [.long y0]), (b, (.array .long), [.long x0]), (r, .array .int, [.int (ex1 y0 x0 x1 x2)])]) := by
  refine Con.of (plainFor_of_name (by first | (simp [plainName, overriddenIn]; done) | decide +kernel)) (ls := #[.val (.ref a), .val (.ref b), .unset, .unset, .unset]) (fun m => by first | (simp [entryFrame, mkF, argsToLocals, Value.category]; done) | rfl) ?_
  intro p_ e_ h_ s_ m_ bl_ me_ c_ T0 W0
  refine g_aload_n (pc := 0) W0 d_c_pos11_0 rfl rfl ?_
  refine g_arraylength (pc := 1) (i := 0) (1 : Int32) W0 rfl rfl d_c_pos11_1 ?_
  refine g_newarray (pc := 2) (ty := .int) (vs := [.int (0 : Int32)]) 1 W0 (hw _ (List.mem_of_getElem? (i := 16) rfl)) rfl (by decide) (by decide) (by decide) rfl d_c_pos11_2 (by decide) (by decide) (fun T2 b1 W3 => ?_)
  have W4 := W3.re (os' := [(a, (.array .long), [.long y0]), (b, (.array .long), [.long x0]), (b1, (.array .int), [.int (0 : Int32)])]) rfl
  refine g_astore_n (pc := 4) (ls' := #[.val (.ref a), .val (.ref b), .val (.ref b1), .unset, .unset]) W4 d_c_pos11_4 rfl rfl ?_
  refine g_iconst (pc := 5) (0 : Int32) (by decide) W4 d_c_pos11_5 ?_
  refine g_istore_n (pc := 6) (ls' := #[.val (.ref a), .val (.ref b), .val (.ref b1), .val (.int (0 : Int32)), .unset]) W4 d_c_pos11_6 rfl ?_
  refine g_iconst (pc := 7) (0 : Int32) (by decide) W4 d_c_pos11_7 ?_
  refine g_istore (pc := 8) (ls' := #[.val (.ref a), .val (.ref b), .val (.ref b1), .val (.int (0 : Int32)), .val (.int (0 : Int32))]) W4 d_c_pos11_8 rfl ?_
  refine g_iload (pc := 10) W4 d_c_pos11_10 rfl ?_
  refine g_aload_n (pc := 12) W4 d_c_pos11_12 rfl rfl ?_
  refine g_arraylength (pc := 13) (i := 0) (1 : Int32) W4 rfl rfl d_c_pos11_13 ?_
  refine g_icmpN (pc := 14) W4 d_c_pos11_14 (by decide) ?_
  refine g_iload_n (pc := 17) W4 d_c_pos11_17 rfl ?_
  refine g_aload_n (pc := 18) W4 d_c_pos11_18 rfl rfl ?_
  refine g_arraylength (pc := 19) (i := 1) (1 : Int32) W4 rfl rfl d_c_pos11_19 ?_
  refine g_icmpN (pc := 20) W4 d_c_pos11_20 (by decide) ?_
  refine g_aload_n (pc := 23) W4 d_c_pos11_23 rfl rfl ?_
  refine g_iload_n (pc := 24) W4 d_c_pos11_24 rfl ?_
  refine g_laload (pc := 25) (i := 1) (v := .long x0) W4 rfl (by decide) rfl d_c_pos11_25 ?_
  refine g_aload_n (pc := 26) W4 d_c_pos11_26 rfl rfl ?_
  refine g_iload (pc := 27) W4 d_c_pos11_27 rfl ?_
  refine g_laload (pc := 29) (i := 0) (v := .long y0) W4 rfl (by decide) rfl d_c_pos11_29 ?_
  refine g_lcmp (pc := 30) W4 d_c_pos11_30 ?_
  refine g_if_ge 40 (pc := 31) W4 d_c_pos11_31 (by decide) (by decide) (fun c5 => ?_) (fun c5 => ?_)
  · refine g_aload_n (pc := 40) W4 d_c_pos11_40 rfl rfl ?_
    refine g_iload (pc := 41) W4 d_c_pos11_41 rfl ?_
    refine g_iload_n (pc := 43) W4 d_c_pos11_43 rfl ?_
    refine g_aload_n (pc := 44) W4 d_c_pos11_44 rfl rfl ?_
    refine g_arraylength (pc := 45) (i := 1) (1 : Int32) W4 rfl rfl d_c_pos11_45 ?_
    refine g_icmpN (pc := 46) W4 d_c_pos11_46 (by decide) ?_
    refine g_aload_n (pc := 49) W4 d_c_pos11_49 rfl rfl ?_
    refine g_iload_n (pc := 50) W4 d_c_pos11_50 rfl ?_
    refine g_laload (pc := 51) (i := 1) (v := .long x0) W4 rfl (by decide) rfl d_c_pos11_51 ?_
    refine g_aload_n (pc := 52) W4 d_c_pos11_52 rfl rfl ?_
    refine g_iload (pc := 53) W4 d_c_pos11_53 rfl ?_
    refine g_laload (pc := 55) (i := 0) (v := .long y0) W4 rfl (by decide) rfl d_c_pos11_55 ?_
    refine g_lcmp (pc := 56) W4 d_c_pos11_56 ?_
    refine g_if_ne 64 (pc := 57) W4 d_c_pos11_57 (by decide) (by decide) (fun c6 => ?_) (fun c6 => ?_)
    · refine g_iconst (pc := 64) (-1 : Int32) (by decide) W4 d_c_pos11_64 ?_
      refine g_iastore (pc := 65) (i := 2) (os' := [(a, (.array .long), [.long y0]), (b, (.array .long), [.long x0]), (b1, (.array .int), [.int (-1 : Int32)])]) 0 W4 rfl (by decide) (by decide) (Nat.le_of_ble_eq_true rfl) rfl d_c_pos11_65 (fun T7 W8 => ?_)
      refine g_iinc (pc := 66) (ls' := #[.val (.ref a), .val (.ref b), .val (.ref b1), .val (.int (0 : Int32)), .val (.int (1 : Int32))]) (1 : Int32) (by decide) W8 d_c_pos11_66 rfl rfl ?_
      refine g_goto 10 (pc := 69) W8 d_c_pos11_69 (by decide) (by decide) ?_
      refine g_iload (pc := 10) W8 d_c_pos11_10 rfl ?_
      refine g_aload_n (pc := 12) W8 d_c_pos11_12 rfl rfl ?_
      refine g_arraylength (pc := 13) (i := 0) (1 : Int32) W8 rfl rfl d_c_pos11_13 ?_
      refine g_icmpY 72 (pc := 14) W8 d_c_pos11_14 (by decide) (by decide) (by decide) ?_
      refine g_aload_n (pc := 72) W8 d_c_pos11_72 rfl rfl ?_
      exact g_areturn (pc := 73) rfl rfl W8 d_c_pos11_73 (by decide) (by decide) ⟨b1, rfl, by simp only [cl_lt, cl_eq, Int64.lt_iff_toInt_lt, ← Int64.toInt_inj] at c5 c6; have e0 : ex1 y0 x0 x1 x2 = (-1 : Int32) := (by simp only [ex1, cl_eq, ← Int64.toInt_inj]; (repeat' split) <;> first | rfl | (exfalso; omega)); rw [e0]⟩
    · refine g_iload_n (pc := 60) W4 d_c_pos11_60 rfl ?_
      refine g_goto 65 (pc := 61) W4 d_c_pos11_61 (by decide) (by decide) ?_
      refine g_iastore (pc := 65) (i := 2) (os' := [(a, (.array .long), [.long y0]), (b, (.array .long), [.long x0]), (b1, (.array .int), [.int (0 : Int32)])]) 0 W4 rfl (by decide) (by decide) (Nat.le_of_ble_eq_true rfl) rfl d_c_pos11_65 (fun T9 W10 => ?_)
      refine g_iinc (pc := 66) (ls' := #[.val (.ref a), .val (.ref b), .val (.ref b1), .val (.int (0 : Int32)), .val (.int (1 : Int32))]) (1 : Int32) (by decide) W10 d_c_pos11_66 rfl rfl ?_
      refine g_goto 10 (pc := 69) W10 d_c_pos11_69 (by decide) (by decide) ?_
      refine g_iload (pc := 10) W10 d_c_pos11_10 rfl ?_
      refine g_aload_n (pc := 12) W10 d_c_pos11_12 rfl rfl ?_
      refine g_arraylength (pc := 13) (i := 0) (1 : Int32) W10 rfl rfl d_c_pos11_13 ?_
      refine g_icmpY 72 (pc := 14) W10 d_c_pos11_14 (by decide) (by decide) (by decide) ?_
      refine g_aload_n (pc := 72) W10 d_c_pos11_72 rfl rfl ?_
      exact g_areturn (pc := 73) rfl rfl W10 d_c_pos11_73 (by decide) (by decide) ⟨b1, rfl, by simp only [cl_lt, cl_eq, Int64.lt_iff_toInt_lt, ← Int64.toInt_inj] at c5 c6; have e0 : ex1 y0 x0 x1 x2 = (0 : Int32) := (by simp only [ex1, cl_eq, ← Int64.toInt_inj]; (repeat' split) <;> first | rfl | (exfalso; omega)); rw [e0]⟩
  · refine g_iinc (pc := 34) (ls' := #[.val (.ref a), .val (.ref b), .val (.ref b1), .val (.int (1 : Int32)), .val (.int (0 : Int32))]) (1 : Int32) (by decide) W4 d_c_pos11_34 rfl rfl ?_
    refine g_goto 17 (pc := 37) W4 d_c_pos11_37 (by decide) (by decide) ?_
    refine g_iload_n (pc := 17) W4 d_c_pos11_17 rfl ?_
    refine g_aload_n (pc := 18) W4 d_c_pos11_18 rfl rfl ?_
    refine g_arraylength (pc := 19) (i := 1) (1 : Int32) W4 rfl rfl d_c_pos11_19 ?_
    refine g_icmpY 40 (pc := 20) W4 d_c_pos11_20 (by decide) (by decide) (by decide) ?_
    refine g_aload_n (pc := 40) W4 d_c_pos11_40 rfl rfl ?_
    refine g_iload (pc := 41) W4 d_c_pos11_41 rfl ?_
    refine g_iload_n (pc := 43) W4 d_c_pos11_43 rfl ?_
    refine g_aload_n (pc := 44) W4 d_c_pos11_44 rfl rfl ?_
    refine g_arraylength (pc := 45) (i := 1) (1 : Int32) W4 rfl rfl d_c_pos11_45 ?_
    refine g_icmpY 64 (pc := 46) W4 d_c_pos11_46 (by decide) (by decide) (by decide) ?_
    refine g_iconst (pc := 64) (-1 : Int32) (by decide) W4 d_c_pos11_64 ?_
    refine g_iastore (pc := 65) (i := 2) (os' := [(a, (.array .long), [.long y0]), (b, (.array .long), [.long x0]), (b1, (.array .int), [.int (-1 : Int32)])]) 0 W4 rfl (by decide) (by decide) (Nat.le_of_ble_eq_true rfl) rfl d_c_pos11_65 (fun T11 W12 => ?_)
    refine g_iinc (pc := 66) (ls' := #[.val (.ref a), .val (.ref b), .val (.ref b1), .val (.int (1 : Int32)), .val (.int (1 : Int32))]) (1 : Int32) (by decide) W12 d_c_pos11_66 rfl rfl ?_
    refine g_goto 10 (pc := 69) W12 d_c_pos11_69 (by decide) (by decide) ?_
    refine g_iload (pc := 10) W12 d_c_pos11_10 rfl ?_
    refine g_aload_n (pc := 12) W12 d_c_pos11_12 rfl rfl ?_
    refine g_arraylength (pc := 13) (i := 0) (1 : Int32) W12 rfl rfl d_c_pos11_13 ?_
    refine g_icmpY 72 (pc := 14) W12 d_c_pos11_14 (by decide) (by decide) (by decide) ?_
    refine g_aload_n (pc := 72) W12 d_c_pos11_72 rfl rfl ?_
    exact g_areturn (pc := 73) rfl rfl W12 d_c_pos11_73 (by decide) (by decide) ⟨b1, rfl, by simp only [cl_lt, cl_eq, Int64.lt_iff_toInt_lt, ← Int64.toInt_inj] at c5; have e0 : ex1 y0 x0 x1 x2 = (-1 : Int32) := (by simp only [ex1, cl_eq, ← Int64.toInt_inj]; (repeat' split) <;> first | rfl | (exfalso; omega)); rw [e0]⟩
theorem d_c_pos12_0 : decode prog_15_method_2_code 0 = .ok (.aload_n 0, 1) := by decide +kernel
theorem d_c_pos12_1 : decode prog_15_method_2_code 1 = .ok (.arraylength, 1) := by decide +kernel
theorem d_c_pos12_2 : decode prog_15_method_2_code 2 = .ok (.newarray .int, 2) := by decide +kernel
theorem d_c_pos12_4 : decode prog_15_method_2_code 4 = .ok (.astore_n 2, 1) := by decide +kernel
theorem d_c_pos12_5 : decode prog_15_method_2_code 5 = .ok (.iconst 0, 1) := by decide +kernel
theorem d_c_pos12_6 : decode prog_15_method_2_code 6 = .ok (.istore_n 3, 1) := by decide +kernel
theorem d_c_pos12_7 : decode prog_15_method_2_code 7 = .ok (.iconst 0, 1) := by decide +kernel
theorem d_c_pos12_8 : decode prog_15_method_2_code 8 = .ok (.istore 4, 2) := by decide +kernel
theorem d_c_pos12_10 : decode prog_15_method_2_code 10 = .ok (.iload 4, 2) := by decide +kernel
theorem d_c_pos12_12 : decode prog_15_method_2_code 12 = .ok (.aload_n 0, 1) := by decide +kernel
theorem d_c_pos12_13 : decode prog_15_method_2_code 13 = .ok (.arraylength, 1) := by decide +kernel
theorem d_c_pos12_14 : decode prog_15_method_2_code 14 = .ok (.if_icmp .ge 58, 3) := by decide +kernel
theorem d_c_pos12_17 : decode prog_15_method_2_code 17 = .ok (.iload_n 3, 1) := by decide +kernel
theorem d_c_pos12_18 : decode prog_15_method_2_code 18 = .ok (.aload_n 1, 1) := by decide +kernel
theorem d_c_pos12_19 : decode prog_15_method_2_code 19 = .ok (.arraylength, 1) := by decide +kernel
theorem d_c_pos12_20 : decode prog_15_method_2_code 20 = .ok (.if_icmp .ge 20, 3) := by decide +kernel
theorem d_c_pos12_23 : decode prog_15_method_2_code 23 = .ok (.aload_n 1, 1) := by decide +kernel
theorem d_c_pos12_24 : decode prog_15_method_2_code 24 = .ok (.iload_n 3, 1) := by decide +kernel
theorem d_c_pos12_25 : decode prog_15_method_2_code 25 = .ok (.laload, 1) := by decide +kernel
theorem d_c_pos12_26 : decode prog_15_method_2_code 26 = .ok (.aload_n 0, 1) := by decide +kernel
theorem d_c_pos12_27 : decode prog_15_method_2_code 27 = .ok (.iload 4, 2) := by decide +kernel
theorem d_c_pos12_29 : decode prog_15_method_2_code 29 = .ok (.laload, 1) := by decide +kernel
theorem d_c_pos12_30 : decode prog_15_method_2_code 30 = .ok (.lcmp, 1) := by decide +kernel
theorem d_c_pos12_31 : decode prog_15_method_2_code 31 = .ok (.ifCond .ge 9, 3) := by decide +kernel
theorem d_c_pos12_34 : decode prog_15_method_2_code 34 = .ok (.iinc 3 1, 3) := by decide +kernel
theorem d_c_pos12_37 : decode prog_15_method_2_code 37 = .ok (.goto (-20), 3) := by decide +kernel
theorem d_c_pos12_40 : decode prog_15_method_2_code 40 = .ok (.aload_n 2, 1) := by decide +kernel
theorem d_c_pos12_41 : decode prog_15_method_2_code 41 = .ok (.iload 4, 2) := by decide +kernel
theorem d_c_pos12_43 : decode prog_15_method_2_code 43 = .ok (.iload_n 3, 1) := by decide +kernel
theorem d_c_pos12_44 : decode prog_15_method_2_code 44 = .ok (.aload_n 1, 1) := by decide +kernel
theorem d_c_pos12_45 : decode prog_15_method_2_code 45 = .ok (.arraylength, 1) := by decide +kernel
theorem d_c_pos12_46 : decode prog_15_method_2_code 46 = .ok (.if_icmp .ge 18, 3) := by decide +kernel
theorem d_c_pos12_49 : decode prog_15_method_2_code 49 = .ok (.aload_n 1, 1) := by decide +kernel
theorem d_c_pos12_50 : decode prog_15_method_2_code 50 = .ok (.iload_n 3, 1) := by decide +kernel
theorem d_c_pos12_51 : decode prog_15_method_2_code 51 = .ok (.laload, 1) := by decide +kernel
theorem d_c_pos12_52 : decode prog_15_method_2_code 52 = .ok (.aload_n 0, 1) := by decide +kernel
theorem d_c_pos12_53 : decode prog_15_method_2_code 53 = .ok (.iload 4, 2) := by decide +kernel
theorem d_c_pos12_55 : decode prog_15_method_2_code 55 = .ok (.laload, 1) := by decide +kernel
theorem d_c_pos12_56 : decode prog_15_method_2_code 56 = .ok (.lcmp, 1) := by decide +kernel
theorem d_c_pos12_57 : decode prog_15_method_2_code 57 = .ok (.ifCond .ne 7, 3) := by decide +kernel
theorem d_c_pos12_60 : decode prog_15_method_2_code 60 = .ok (.iload_n 3, 1) := by decide +kernel
theorem d_c_pos12_61 : decode prog_15_method_2_code 61 = .ok (.goto 4, 3) := by decide +kernel
theorem d_c_pos12_64 : decode prog_15_method_2_code 64 = .ok (.iconst (-1), 1) := by decide +kernel
theorem d_c_pos12_65 : decode prog_15_method_2_code 65 = .ok (.iastore, 1) := by decide +kernel
theorem d_c_pos12_66 : decode prog_15_method_2_code 66 = .ok (.iinc 4 1, 3) := by decide +kernel
theorem d_c_pos12_69 : decode prog_15_method_2_code 69 = .ok (.goto (-59), 3) := by decide +kernel
theorem d_c_pos12_72 : decode prog_15_method_2_code 72 = .ok (.aload_n 2, 1) := by decide +kernel
theorem d_c_pos12_73 : decode prog_15_method_2_code 73 = .ok (.areturn, 1) := by decide +kernel
set_option maxRecDepth 65536 in
set_option maxHeartbeats 40000000 in
theorem c_pos12 (l : Launch) (Z : State) (a0 : Array Value) (hw : ∀ d ∈ tables_1, d.before a0 Z = true) {B : Nat} (a b : Addr) (y0 x0 x1 x2 : Int64) (hx0 : x0.toInt < x1.toInt) :
    Con l Z FM B (⟨"com/example/rover/rover/broker/Ids", "positions", "([J[J)[I"⟩ : MethodName) prog_15_method_2_code 5 (some (.array .int)) ({ frames := 0, cells := 1, slots := 1, locals := 0 } : Room) [] #[.ref a, .ref b] [(a, (.array .long), [.long y0]), (b, (.array .long), [.long x0, .long x1])] (fun v os => ∃ r, v = some (.ref r) ∧ os = [(a, (.array .long), [.long y0]), (b, (.array .long), [.long x0, .long x1]), (r, .array .int, [.int (ex2 y0 x0 x1 x2)])]) := by
  refine Con.of (plainFor_of_name (by first | (simp [plainName, overriddenIn]; done) | decide +kernel)) (ls := #[.val (.ref a), .val (.ref b), .unset, .unset, .unset]) (fun m => by first | (simp [entryFrame, mkF, argsToLocals, Value.category]; done) | rfl) ?_
  intro p_ e_ h_ s_ m_ bl_ me_ c_ T0 W0
  refine g_aload_n (pc := 0) W0 d_c_pos12_0 rfl rfl ?_
  refine g_arraylength (pc := 1) (i := 0) (1 : Int32) W0 rfl rfl d_c_pos12_1 ?_
  refine g_newarray (pc := 2) (ty := .int) (vs := [.int (0 : Int32)]) 1 W0 (hw _ (List.mem_of_getElem? (i := 16) rfl)) rfl (by decide) (by decide) (by decide) rfl d_c_pos12_2 (by decide) (by decide) (fun T2 b1 W3 => ?_)
  have W4 := W3.re (os' := [(a, (.array .long), [.long y0]), (b, (.array .long), [.long x0, .long x1]), (b1, (.array .int), [.int (0 : Int32)])]) rfl
  refine g_astore_n (pc := 4) (ls' := #[.val (.ref a), .val (.ref b), .val (.ref b1), .unset, .unset]) W4 d_c_pos12_4 rfl rfl ?_
  refine g_iconst (pc := 5) (0 : Int32) (by decide) W4 d_c_pos12_5 ?_
  refine g_istore_n (pc := 6) (ls' := #[.val (.ref a), .val (.ref b), .val (.ref b1), .val (.int (0 : Int32)), .unset]) W4 d_c_pos12_6 rfl ?_
  refine g_iconst (pc := 7) (0 : Int32) (by decide) W4 d_c_pos12_7 ?_
  refine g_istore (pc := 8) (ls' := #[.val (.ref a), .val (.ref b), .val (.ref b1), .val (.int (0 : Int32)), .val (.int (0 : Int32))]) W4 d_c_pos12_8 rfl ?_
  refine g_iload (pc := 10) W4 d_c_pos12_10 rfl ?_
  refine g_aload_n (pc := 12) W4 d_c_pos12_12 rfl rfl ?_
  refine g_arraylength (pc := 13) (i := 0) (1 : Int32) W4 rfl rfl d_c_pos12_13 ?_
  refine g_icmpN (pc := 14) W4 d_c_pos12_14 (by decide) ?_
  refine g_iload_n (pc := 17) W4 d_c_pos12_17 rfl ?_
  refine g_aload_n (pc := 18) W4 d_c_pos12_18 rfl rfl ?_
  refine g_arraylength (pc := 19) (i := 1) (2 : Int32) W4 rfl rfl d_c_pos12_19 ?_
  refine g_icmpN (pc := 20) W4 d_c_pos12_20 (by decide) ?_
  refine g_aload_n (pc := 23) W4 d_c_pos12_23 rfl rfl ?_
  refine g_iload_n (pc := 24) W4 d_c_pos12_24 rfl ?_
  refine g_laload (pc := 25) (i := 1) (v := .long x0) W4 rfl (by decide) rfl d_c_pos12_25 ?_
  refine g_aload_n (pc := 26) W4 d_c_pos12_26 rfl rfl ?_
  refine g_iload (pc := 27) W4 d_c_pos12_27 rfl ?_
  refine g_laload (pc := 29) (i := 0) (v := .long y0) W4 rfl (by decide) rfl d_c_pos12_29 ?_
  refine g_lcmp (pc := 30) W4 d_c_pos12_30 ?_
  refine g_if_ge 40 (pc := 31) W4 d_c_pos12_31 (by decide) (by decide) (fun c5 => ?_) (fun c5 => ?_)
  · refine g_aload_n (pc := 40) W4 d_c_pos12_40 rfl rfl ?_
    refine g_iload (pc := 41) W4 d_c_pos12_41 rfl ?_
    refine g_iload_n (pc := 43) W4 d_c_pos12_43 rfl ?_
    refine g_aload_n (pc := 44) W4 d_c_pos12_44 rfl rfl ?_
    refine g_arraylength (pc := 45) (i := 1) (2 : Int32) W4 rfl rfl d_c_pos12_45 ?_
    refine g_icmpN (pc := 46) W4 d_c_pos12_46 (by decide) ?_
    refine g_aload_n (pc := 49) W4 d_c_pos12_49 rfl rfl ?_
    refine g_iload_n (pc := 50) W4 d_c_pos12_50 rfl ?_
    refine g_laload (pc := 51) (i := 1) (v := .long x0) W4 rfl (by decide) rfl d_c_pos12_51 ?_
    refine g_aload_n (pc := 52) W4 d_c_pos12_52 rfl rfl ?_
    refine g_iload (pc := 53) W4 d_c_pos12_53 rfl ?_
    refine g_laload (pc := 55) (i := 0) (v := .long y0) W4 rfl (by decide) rfl d_c_pos12_55 ?_
    refine g_lcmp (pc := 56) W4 d_c_pos12_56 ?_
    refine g_if_ne 64 (pc := 57) W4 d_c_pos12_57 (by decide) (by decide) (fun c6 => ?_) (fun c6 => ?_)
    · refine g_iconst (pc := 64) (-1 : Int32) (by decide) W4 d_c_pos12_64 ?_
      refine g_iastore (pc := 65) (i := 2) (os' := [(a, (.array .long), [.long y0]), (b, (.array .long), [.long x0, .long x1]), (b1, (.array .int), [.int (-1 : Int32)])]) 0 W4 rfl (by decide) (by decide) (Nat.le_of_ble_eq_true rfl) rfl d_c_pos12_65 (fun T7 W8 => ?_)
      refine g_iinc (pc := 66) (ls' := #[.val (.ref a), .val (.ref b), .val (.ref b1), .val (.int (0 : Int32)), .val (.int (1 : Int32))]) (1 : Int32) (by decide) W8 d_c_pos12_66 rfl rfl ?_
      refine g_goto 10 (pc := 69) W8 d_c_pos12_69 (by decide) (by decide) ?_
      refine g_iload (pc := 10) W8 d_c_pos12_10 rfl ?_
      refine g_aload_n (pc := 12) W8 d_c_pos12_12 rfl rfl ?_
      refine g_arraylength (pc := 13) (i := 0) (1 : Int32) W8 rfl rfl d_c_pos12_13 ?_
      refine g_icmpY 72 (pc := 14) W8 d_c_pos12_14 (by decide) (by decide) (by decide) ?_
      refine g_aload_n (pc := 72) W8 d_c_pos12_72 rfl rfl ?_
      exact g_areturn (pc := 73) rfl rfl W8 d_c_pos12_73 (by decide) (by decide) ⟨b1, rfl, by simp only [cl_lt, cl_eq, Int64.lt_iff_toInt_lt, ← Int64.toInt_inj] at c5 c6; have e0 : ex2 y0 x0 x1 x2 = (-1 : Int32) := (by simp only [ex2, cl_eq, ← Int64.toInt_inj]; (repeat' split) <;> first | rfl | (exfalso; omega)); rw [e0]⟩
    · refine g_iload_n (pc := 60) W4 d_c_pos12_60 rfl ?_
      refine g_goto 65 (pc := 61) W4 d_c_pos12_61 (by decide) (by decide) ?_
      refine g_iastore (pc := 65) (i := 2) (os' := [(a, (.array .long), [.long y0]), (b, (.array .long), [.long x0, .long x1]), (b1, (.array .int), [.int (0 : Int32)])]) 0 W4 rfl (by decide) (by decide) (Nat.le_of_ble_eq_true rfl) rfl d_c_pos12_65 (fun T9 W10 => ?_)
      refine g_iinc (pc := 66) (ls' := #[.val (.ref a), .val (.ref b), .val (.ref b1), .val (.int (0 : Int32)), .val (.int (1 : Int32))]) (1 : Int32) (by decide) W10 d_c_pos12_66 rfl rfl ?_
      refine g_goto 10 (pc := 69) W10 d_c_pos12_69 (by decide) (by decide) ?_
      refine g_iload (pc := 10) W10 d_c_pos12_10 rfl ?_
      refine g_aload_n (pc := 12) W10 d_c_pos12_12 rfl rfl ?_
      refine g_arraylength (pc := 13) (i := 0) (1 : Int32) W10 rfl rfl d_c_pos12_13 ?_
      refine g_icmpY 72 (pc := 14) W10 d_c_pos12_14 (by decide) (by decide) (by decide) ?_
      refine g_aload_n (pc := 72) W10 d_c_pos12_72 rfl rfl ?_
      exact g_areturn (pc := 73) rfl rfl W10 d_c_pos12_73 (by decide) (by decide) ⟨b1, rfl, by simp only [cl_lt, cl_eq, Int64.lt_iff_toInt_lt, ← Int64.toInt_inj] at c5 c6; have e0 : ex2 y0 x0 x1 x2 = (0 : Int32) := (by simp only [ex2, cl_eq, ← Int64.toInt_inj]; (repeat' split) <;> first | rfl | (exfalso; omega)); rw [e0]⟩
  · refine g_iinc (pc := 34) (ls' := #[.val (.ref a), .val (.ref b), .val (.ref b1), .val (.int (1 : Int32)), .val (.int (0 : Int32))]) (1 : Int32) (by decide) W4 d_c_pos12_34 rfl rfl ?_
    refine g_goto 17 (pc := 37) W4 d_c_pos12_37 (by decide) (by decide) ?_
    refine g_iload_n (pc := 17) W4 d_c_pos12_17 rfl ?_
    refine g_aload_n (pc := 18) W4 d_c_pos12_18 rfl rfl ?_
    refine g_arraylength (pc := 19) (i := 1) (2 : Int32) W4 rfl rfl d_c_pos12_19 ?_
    refine g_icmpN (pc := 20) W4 d_c_pos12_20 (by decide) ?_
    refine g_aload_n (pc := 23) W4 d_c_pos12_23 rfl rfl ?_
    refine g_iload_n (pc := 24) W4 d_c_pos12_24 rfl ?_
    refine g_laload (pc := 25) (i := 1) (v := .long x1) W4 rfl (by decide) rfl d_c_pos12_25 ?_
    refine g_aload_n (pc := 26) W4 d_c_pos12_26 rfl rfl ?_
    refine g_iload (pc := 27) W4 d_c_pos12_27 rfl ?_
    refine g_laload (pc := 29) (i := 0) (v := .long y0) W4 rfl (by decide) rfl d_c_pos12_29 ?_
    refine g_lcmp (pc := 30) W4 d_c_pos12_30 ?_
    refine g_if_ge 40 (pc := 31) W4 d_c_pos12_31 (by decide) (by decide) (fun c11 => ?_) (fun c11 => ?_)
    · refine g_aload_n (pc := 40) W4 d_c_pos12_40 rfl rfl ?_
      refine g_iload (pc := 41) W4 d_c_pos12_41 rfl ?_
      refine g_iload_n (pc := 43) W4 d_c_pos12_43 rfl ?_
      refine g_aload_n (pc := 44) W4 d_c_pos12_44 rfl rfl ?_
      refine g_arraylength (pc := 45) (i := 1) (2 : Int32) W4 rfl rfl d_c_pos12_45 ?_
      refine g_icmpN (pc := 46) W4 d_c_pos12_46 (by decide) ?_
      refine g_aload_n (pc := 49) W4 d_c_pos12_49 rfl rfl ?_
      refine g_iload_n (pc := 50) W4 d_c_pos12_50 rfl ?_
      refine g_laload (pc := 51) (i := 1) (v := .long x1) W4 rfl (by decide) rfl d_c_pos12_51 ?_
      refine g_aload_n (pc := 52) W4 d_c_pos12_52 rfl rfl ?_
      refine g_iload (pc := 53) W4 d_c_pos12_53 rfl ?_
      refine g_laload (pc := 55) (i := 0) (v := .long y0) W4 rfl (by decide) rfl d_c_pos12_55 ?_
      refine g_lcmp (pc := 56) W4 d_c_pos12_56 ?_
      refine g_if_ne 64 (pc := 57) W4 d_c_pos12_57 (by decide) (by decide) (fun c12 => ?_) (fun c12 => ?_)
      · refine g_iconst (pc := 64) (-1 : Int32) (by decide) W4 d_c_pos12_64 ?_
        refine g_iastore (pc := 65) (i := 2) (os' := [(a, (.array .long), [.long y0]), (b, (.array .long), [.long x0, .long x1]), (b1, (.array .int), [.int (-1 : Int32)])]) 0 W4 rfl (by decide) (by decide) (Nat.le_of_ble_eq_true rfl) rfl d_c_pos12_65 (fun T13 W14 => ?_)
        refine g_iinc (pc := 66) (ls' := #[.val (.ref a), .val (.ref b), .val (.ref b1), .val (.int (1 : Int32)), .val (.int (1 : Int32))]) (1 : Int32) (by decide) W14 d_c_pos12_66 rfl rfl ?_
        refine g_goto 10 (pc := 69) W14 d_c_pos12_69 (by decide) (by decide) ?_
        refine g_iload (pc := 10) W14 d_c_pos12_10 rfl ?_
        refine g_aload_n (pc := 12) W14 d_c_pos12_12 rfl rfl ?_
        refine g_arraylength (pc := 13) (i := 0) (1 : Int32) W14 rfl rfl d_c_pos12_13 ?_
        refine g_icmpY 72 (pc := 14) W14 d_c_pos12_14 (by decide) (by decide) (by decide) ?_
        refine g_aload_n (pc := 72) W14 d_c_pos12_72 rfl rfl ?_
        exact g_areturn (pc := 73) rfl rfl W14 d_c_pos12_73 (by decide) (by decide) ⟨b1, rfl, by simp only [cl_lt, cl_eq, Int64.lt_iff_toInt_lt, ← Int64.toInt_inj] at c5 c11 c12; have e0 : ex2 y0 x0 x1 x2 = (-1 : Int32) := (by simp only [ex2, cl_eq, ← Int64.toInt_inj]; (repeat' split) <;> first | rfl | (exfalso; omega)); rw [e0]⟩
      · refine g_iload_n (pc := 60) W4 d_c_pos12_60 rfl ?_
        refine g_goto 65 (pc := 61) W4 d_c_pos12_61 (by decide) (by decide) ?_
        refine g_iastore (pc := 65) (i := 2) (os' := [(a, (.array .long), [.long y0]), (b, (.array .long), [.long x0, .long x1]), (b1, (.array .int), [.int (1 : Int32)])]) 0 W4 rfl (by decide) (by decide) (Nat.le_of_ble_eq_true rfl) rfl d_c_pos12_65 (fun T15 W16 => ?_)
        refine g_iinc (pc := 66) (ls' := #[.val (.ref a), .val (.ref b), .val (.ref b1), .val (.int (1 : Int32)), .val (.int (1 : Int32))]) (1 : Int32) (by decide) W16 d_c_pos12_66 rfl rfl ?_
        refine g_goto 10 (pc := 69) W16 d_c_pos12_69 (by decide) (by decide) ?_
        refine g_iload (pc := 10) W16 d_c_pos12_10 rfl ?_
        refine g_aload_n (pc := 12) W16 d_c_pos12_12 rfl rfl ?_
        refine g_arraylength (pc := 13) (i := 0) (1 : Int32) W16 rfl rfl d_c_pos12_13 ?_
        refine g_icmpY 72 (pc := 14) W16 d_c_pos12_14 (by decide) (by decide) (by decide) ?_
        refine g_aload_n (pc := 72) W16 d_c_pos12_72 rfl rfl ?_
        exact g_areturn (pc := 73) rfl rfl W16 d_c_pos12_73 (by decide) (by decide) ⟨b1, rfl, by simp only [cl_lt, cl_eq, Int64.lt_iff_toInt_lt, ← Int64.toInt_inj] at c5 c11 c12; have e0 : ex2 y0 x0 x1 x2 = (1 : Int32) := (by simp only [ex2, cl_eq, ← Int64.toInt_inj]; (repeat' split) <;> first | rfl | (exfalso; omega)); rw [e0]⟩
    · refine g_iinc (pc := 34) (ls' := #[.val (.ref a), .val (.ref b), .val (.ref b1), .val (.int (2 : Int32)), .val (.int (0 : Int32))]) (1 : Int32) (by decide) W4 d_c_pos12_34 rfl rfl ?_
      refine g_goto 17 (pc := 37) W4 d_c_pos12_37 (by decide) (by decide) ?_
      refine g_iload_n (pc := 17) W4 d_c_pos12_17 rfl ?_
      refine g_aload_n (pc := 18) W4 d_c_pos12_18 rfl rfl ?_
      refine g_arraylength (pc := 19) (i := 1) (2 : Int32) W4 rfl rfl d_c_pos12_19 ?_
      refine g_icmpY 40 (pc := 20) W4 d_c_pos12_20 (by decide) (by decide) (by decide) ?_
      refine g_aload_n (pc := 40) W4 d_c_pos12_40 rfl rfl ?_
      refine g_iload (pc := 41) W4 d_c_pos12_41 rfl ?_
      refine g_iload_n (pc := 43) W4 d_c_pos12_43 rfl ?_
      refine g_aload_n (pc := 44) W4 d_c_pos12_44 rfl rfl ?_
      refine g_arraylength (pc := 45) (i := 1) (2 : Int32) W4 rfl rfl d_c_pos12_45 ?_
      refine g_icmpY 64 (pc := 46) W4 d_c_pos12_46 (by decide) (by decide) (by decide) ?_
      refine g_iconst (pc := 64) (-1 : Int32) (by decide) W4 d_c_pos12_64 ?_
      refine g_iastore (pc := 65) (i := 2) (os' := [(a, (.array .long), [.long y0]), (b, (.array .long), [.long x0, .long x1]), (b1, (.array .int), [.int (-1 : Int32)])]) 0 W4 rfl (by decide) (by decide) (Nat.le_of_ble_eq_true rfl) rfl d_c_pos12_65 (fun T17 W18 => ?_)
      refine g_iinc (pc := 66) (ls' := #[.val (.ref a), .val (.ref b), .val (.ref b1), .val (.int (2 : Int32)), .val (.int (1 : Int32))]) (1 : Int32) (by decide) W18 d_c_pos12_66 rfl rfl ?_
      refine g_goto 10 (pc := 69) W18 d_c_pos12_69 (by decide) (by decide) ?_
      refine g_iload (pc := 10) W18 d_c_pos12_10 rfl ?_
      refine g_aload_n (pc := 12) W18 d_c_pos12_12 rfl rfl ?_
      refine g_arraylength (pc := 13) (i := 0) (1 : Int32) W18 rfl rfl d_c_pos12_13 ?_
      refine g_icmpY 72 (pc := 14) W18 d_c_pos12_14 (by decide) (by decide) (by decide) ?_
      refine g_aload_n (pc := 72) W18 d_c_pos12_72 rfl rfl ?_
      exact g_areturn (pc := 73) rfl rfl W18 d_c_pos12_73 (by decide) (by decide) ⟨b1, rfl, by simp only [cl_lt, cl_eq, Int64.lt_iff_toInt_lt, ← Int64.toInt_inj] at c5 c11; have e0 : ex2 y0 x0 x1 x2 = (-1 : Int32) := (by simp only [ex2, cl_eq, ← Int64.toInt_inj]; (repeat' split) <;> first | rfl | (exfalso; omega)); rw [e0]⟩
theorem d_c_pos13_0 : decode prog_15_method_2_code 0 = .ok (.aload_n 0, 1) := by decide +kernel
theorem d_c_pos13_1 : decode prog_15_method_2_code 1 = .ok (.arraylength, 1) := by decide +kernel
theorem d_c_pos13_2 : decode prog_15_method_2_code 2 = .ok (.newarray .int, 2) := by decide +kernel
theorem d_c_pos13_4 : decode prog_15_method_2_code 4 = .ok (.astore_n 2, 1) := by decide +kernel
theorem d_c_pos13_5 : decode prog_15_method_2_code 5 = .ok (.iconst 0, 1) := by decide +kernel
theorem d_c_pos13_6 : decode prog_15_method_2_code 6 = .ok (.istore_n 3, 1) := by decide +kernel
theorem d_c_pos13_7 : decode prog_15_method_2_code 7 = .ok (.iconst 0, 1) := by decide +kernel
theorem d_c_pos13_8 : decode prog_15_method_2_code 8 = .ok (.istore 4, 2) := by decide +kernel
theorem d_c_pos13_10 : decode prog_15_method_2_code 10 = .ok (.iload 4, 2) := by decide +kernel
theorem d_c_pos13_12 : decode prog_15_method_2_code 12 = .ok (.aload_n 0, 1) := by decide +kernel
theorem d_c_pos13_13 : decode prog_15_method_2_code 13 = .ok (.arraylength, 1) := by decide +kernel
theorem d_c_pos13_14 : decode prog_15_method_2_code 14 = .ok (.if_icmp .ge 58, 3) := by decide +kernel
theorem d_c_pos13_17 : decode prog_15_method_2_code 17 = .ok (.iload_n 3, 1) := by decide +kernel
theorem d_c_pos13_18 : decode prog_15_method_2_code 18 = .ok (.aload_n 1, 1) := by decide +kernel
theorem d_c_pos13_19 : decode prog_15_method_2_code 19 = .ok (.arraylength, 1) := by decide +kernel
theorem d_c_pos13_20 : decode prog_15_method_2_code 20 = .ok (.if_icmp .ge 20, 3) := by decide +kernel
theorem d_c_pos13_23 : decode prog_15_method_2_code 23 = .ok (.aload_n 1, 1) := by decide +kernel
theorem d_c_pos13_24 : decode prog_15_method_2_code 24 = .ok (.iload_n 3, 1) := by decide +kernel
theorem d_c_pos13_25 : decode prog_15_method_2_code 25 = .ok (.laload, 1) := by decide +kernel
theorem d_c_pos13_26 : decode prog_15_method_2_code 26 = .ok (.aload_n 0, 1) := by decide +kernel
theorem d_c_pos13_27 : decode prog_15_method_2_code 27 = .ok (.iload 4, 2) := by decide +kernel
theorem d_c_pos13_29 : decode prog_15_method_2_code 29 = .ok (.laload, 1) := by decide +kernel
theorem d_c_pos13_30 : decode prog_15_method_2_code 30 = .ok (.lcmp, 1) := by decide +kernel
theorem d_c_pos13_31 : decode prog_15_method_2_code 31 = .ok (.ifCond .ge 9, 3) := by decide +kernel
theorem d_c_pos13_34 : decode prog_15_method_2_code 34 = .ok (.iinc 3 1, 3) := by decide +kernel
theorem d_c_pos13_37 : decode prog_15_method_2_code 37 = .ok (.goto (-20), 3) := by decide +kernel
theorem d_c_pos13_40 : decode prog_15_method_2_code 40 = .ok (.aload_n 2, 1) := by decide +kernel
theorem d_c_pos13_41 : decode prog_15_method_2_code 41 = .ok (.iload 4, 2) := by decide +kernel
theorem d_c_pos13_43 : decode prog_15_method_2_code 43 = .ok (.iload_n 3, 1) := by decide +kernel
theorem d_c_pos13_44 : decode prog_15_method_2_code 44 = .ok (.aload_n 1, 1) := by decide +kernel
theorem d_c_pos13_45 : decode prog_15_method_2_code 45 = .ok (.arraylength, 1) := by decide +kernel
theorem d_c_pos13_46 : decode prog_15_method_2_code 46 = .ok (.if_icmp .ge 18, 3) := by decide +kernel
theorem d_c_pos13_49 : decode prog_15_method_2_code 49 = .ok (.aload_n 1, 1) := by decide +kernel
theorem d_c_pos13_50 : decode prog_15_method_2_code 50 = .ok (.iload_n 3, 1) := by decide +kernel
theorem d_c_pos13_51 : decode prog_15_method_2_code 51 = .ok (.laload, 1) := by decide +kernel
theorem d_c_pos13_52 : decode prog_15_method_2_code 52 = .ok (.aload_n 0, 1) := by decide +kernel
theorem d_c_pos13_53 : decode prog_15_method_2_code 53 = .ok (.iload 4, 2) := by decide +kernel
theorem d_c_pos13_55 : decode prog_15_method_2_code 55 = .ok (.laload, 1) := by decide +kernel
theorem d_c_pos13_56 : decode prog_15_method_2_code 56 = .ok (.lcmp, 1) := by decide +kernel
theorem d_c_pos13_57 : decode prog_15_method_2_code 57 = .ok (.ifCond .ne 7, 3) := by decide +kernel
theorem d_c_pos13_60 : decode prog_15_method_2_code 60 = .ok (.iload_n 3, 1) := by decide +kernel
theorem d_c_pos13_61 : decode prog_15_method_2_code 61 = .ok (.goto 4, 3) := by decide +kernel
theorem d_c_pos13_64 : decode prog_15_method_2_code 64 = .ok (.iconst (-1), 1) := by decide +kernel
theorem d_c_pos13_65 : decode prog_15_method_2_code 65 = .ok (.iastore, 1) := by decide +kernel
theorem d_c_pos13_66 : decode prog_15_method_2_code 66 = .ok (.iinc 4 1, 3) := by decide +kernel
theorem d_c_pos13_69 : decode prog_15_method_2_code 69 = .ok (.goto (-59), 3) := by decide +kernel
theorem d_c_pos13_72 : decode prog_15_method_2_code 72 = .ok (.aload_n 2, 1) := by decide +kernel
theorem d_c_pos13_73 : decode prog_15_method_2_code 73 = .ok (.areturn, 1) := by decide +kernel
set_option maxRecDepth 65536 in
set_option maxHeartbeats 40000000 in
theorem c_pos13 (l : Launch) (Z : State) (a0 : Array Value) (hw : ∀ d ∈ tables_1, d.before a0 Z = true) {B : Nat} (a b : Addr) (y0 x0 x1 x2 : Int64) (hx0 : x0.toInt < x1.toInt) (hx1 : x1.toInt < x2.toInt) :
    Con l Z FM B (⟨"com/example/rover/rover/broker/Ids", "positions", "([J[J)[I"⟩ : MethodName) prog_15_method_2_code 5 (some (.array .int)) ({ frames := 0, cells := 1, slots := 1, locals := 0 } : Room) [] #[.ref a, .ref b] [(a, (.array .long), [.long y0]), (b, (.array .long), [.long x0, .long x1, .long x2])] (fun v os => ∃ r, v = some (.ref r) ∧ os = [(a, (.array .long), [.long y0]), (b, (.array .long), [.long x0, .long x1, .long x2]), (r, .array .int, [.int (ex3 y0 x0 x1 x2)])]) := by
  refine Con.of (plainFor_of_name (by first | (simp [plainName, overriddenIn]; done) | decide +kernel)) (ls := #[.val (.ref a), .val (.ref b), .unset, .unset, .unset]) (fun m => by first | (simp [entryFrame, mkF, argsToLocals, Value.category]; done) | rfl) ?_
  intro p_ e_ h_ s_ m_ bl_ me_ c_ T0 W0
  refine g_aload_n (pc := 0) W0 d_c_pos13_0 rfl rfl ?_
  refine g_arraylength (pc := 1) (i := 0) (1 : Int32) W0 rfl rfl d_c_pos13_1 ?_
  refine g_newarray (pc := 2) (ty := .int) (vs := [.int (0 : Int32)]) 1 W0 (hw _ (List.mem_of_getElem? (i := 16) rfl)) rfl (by decide) (by decide) (by decide) rfl d_c_pos13_2 (by decide) (by decide) (fun T2 b1 W3 => ?_)
  have W4 := W3.re (os' := [(a, (.array .long), [.long y0]), (b, (.array .long), [.long x0, .long x1, .long x2]), (b1, (.array .int), [.int (0 : Int32)])]) rfl
  refine g_astore_n (pc := 4) (ls' := #[.val (.ref a), .val (.ref b), .val (.ref b1), .unset, .unset]) W4 d_c_pos13_4 rfl rfl ?_
  refine g_iconst (pc := 5) (0 : Int32) (by decide) W4 d_c_pos13_5 ?_
  refine g_istore_n (pc := 6) (ls' := #[.val (.ref a), .val (.ref b), .val (.ref b1), .val (.int (0 : Int32)), .unset]) W4 d_c_pos13_6 rfl ?_
  refine g_iconst (pc := 7) (0 : Int32) (by decide) W4 d_c_pos13_7 ?_
  refine g_istore (pc := 8) (ls' := #[.val (.ref a), .val (.ref b), .val (.ref b1), .val (.int (0 : Int32)), .val (.int (0 : Int32))]) W4 d_c_pos13_8 rfl ?_
  refine g_iload (pc := 10) W4 d_c_pos13_10 rfl ?_
  refine g_aload_n (pc := 12) W4 d_c_pos13_12 rfl rfl ?_
  refine g_arraylength (pc := 13) (i := 0) (1 : Int32) W4 rfl rfl d_c_pos13_13 ?_
  refine g_icmpN (pc := 14) W4 d_c_pos13_14 (by decide) ?_
  refine g_iload_n (pc := 17) W4 d_c_pos13_17 rfl ?_
  refine g_aload_n (pc := 18) W4 d_c_pos13_18 rfl rfl ?_
  refine g_arraylength (pc := 19) (i := 1) (3 : Int32) W4 rfl rfl d_c_pos13_19 ?_
  refine g_icmpN (pc := 20) W4 d_c_pos13_20 (by decide) ?_
  refine g_aload_n (pc := 23) W4 d_c_pos13_23 rfl rfl ?_
  refine g_iload_n (pc := 24) W4 d_c_pos13_24 rfl ?_
  refine g_laload (pc := 25) (i := 1) (v := .long x0) W4 rfl (by decide) rfl d_c_pos13_25 ?_
  refine g_aload_n (pc := 26) W4 d_c_pos13_26 rfl rfl ?_
  refine g_iload (pc := 27) W4 d_c_pos13_27 rfl ?_
  refine g_laload (pc := 29) (i := 0) (v := .long y0) W4 rfl (by decide) rfl d_c_pos13_29 ?_
  refine g_lcmp (pc := 30) W4 d_c_pos13_30 ?_
  refine g_if_ge 40 (pc := 31) W4 d_c_pos13_31 (by decide) (by decide) (fun c5 => ?_) (fun c5 => ?_)
  · refine g_aload_n (pc := 40) W4 d_c_pos13_40 rfl rfl ?_
    refine g_iload (pc := 41) W4 d_c_pos13_41 rfl ?_
    refine g_iload_n (pc := 43) W4 d_c_pos13_43 rfl ?_
    refine g_aload_n (pc := 44) W4 d_c_pos13_44 rfl rfl ?_
    refine g_arraylength (pc := 45) (i := 1) (3 : Int32) W4 rfl rfl d_c_pos13_45 ?_
    refine g_icmpN (pc := 46) W4 d_c_pos13_46 (by decide) ?_
    refine g_aload_n (pc := 49) W4 d_c_pos13_49 rfl rfl ?_
    refine g_iload_n (pc := 50) W4 d_c_pos13_50 rfl ?_
    refine g_laload (pc := 51) (i := 1) (v := .long x0) W4 rfl (by decide) rfl d_c_pos13_51 ?_
    refine g_aload_n (pc := 52) W4 d_c_pos13_52 rfl rfl ?_
    refine g_iload (pc := 53) W4 d_c_pos13_53 rfl ?_
    refine g_laload (pc := 55) (i := 0) (v := .long y0) W4 rfl (by decide) rfl d_c_pos13_55 ?_
    refine g_lcmp (pc := 56) W4 d_c_pos13_56 ?_
    refine g_if_ne 64 (pc := 57) W4 d_c_pos13_57 (by decide) (by decide) (fun c6 => ?_) (fun c6 => ?_)
    · refine g_iconst (pc := 64) (-1 : Int32) (by decide) W4 d_c_pos13_64 ?_
      refine g_iastore (pc := 65) (i := 2) (os' := [(a, (.array .long), [.long y0]), (b, (.array .long), [.long x0, .long x1, .long x2]), (b1, (.array .int), [.int (-1 : Int32)])]) 0 W4 rfl (by decide) (by decide) (Nat.le_of_ble_eq_true rfl) rfl d_c_pos13_65 (fun T7 W8 => ?_)
      refine g_iinc (pc := 66) (ls' := #[.val (.ref a), .val (.ref b), .val (.ref b1), .val (.int (0 : Int32)), .val (.int (1 : Int32))]) (1 : Int32) (by decide) W8 d_c_pos13_66 rfl rfl ?_
      refine g_goto 10 (pc := 69) W8 d_c_pos13_69 (by decide) (by decide) ?_
      refine g_iload (pc := 10) W8 d_c_pos13_10 rfl ?_
      refine g_aload_n (pc := 12) W8 d_c_pos13_12 rfl rfl ?_
      refine g_arraylength (pc := 13) (i := 0) (1 : Int32) W8 rfl rfl d_c_pos13_13 ?_
      refine g_icmpY 72 (pc := 14) W8 d_c_pos13_14 (by decide) (by decide) (by decide) ?_
      refine g_aload_n (pc := 72) W8 d_c_pos13_72 rfl rfl ?_
      exact g_areturn (pc := 73) rfl rfl W8 d_c_pos13_73 (by decide) (by decide) ⟨b1, rfl, by simp only [cl_lt, cl_eq, Int64.lt_iff_toInt_lt, ← Int64.toInt_inj] at c5 c6; have e0 : ex3 y0 x0 x1 x2 = (-1 : Int32) := (by simp only [ex3, cl_eq, ← Int64.toInt_inj]; (repeat' split) <;> first | rfl | (exfalso; omega)); rw [e0]⟩
    · refine g_iload_n (pc := 60) W4 d_c_pos13_60 rfl ?_
      refine g_goto 65 (pc := 61) W4 d_c_pos13_61 (by decide) (by decide) ?_
      refine g_iastore (pc := 65) (i := 2) (os' := [(a, (.array .long), [.long y0]), (b, (.array .long), [.long x0, .long x1, .long x2]), (b1, (.array .int), [.int (0 : Int32)])]) 0 W4 rfl (by decide) (by decide) (Nat.le_of_ble_eq_true rfl) rfl d_c_pos13_65 (fun T9 W10 => ?_)
      refine g_iinc (pc := 66) (ls' := #[.val (.ref a), .val (.ref b), .val (.ref b1), .val (.int (0 : Int32)), .val (.int (1 : Int32))]) (1 : Int32) (by decide) W10 d_c_pos13_66 rfl rfl ?_
      refine g_goto 10 (pc := 69) W10 d_c_pos13_69 (by decide) (by decide) ?_
      refine g_iload (pc := 10) W10 d_c_pos13_10 rfl ?_
      refine g_aload_n (pc := 12) W10 d_c_pos13_12 rfl rfl ?_
      refine g_arraylength (pc := 13) (i := 0) (1 : Int32) W10 rfl rfl d_c_pos13_13 ?_
      refine g_icmpY 72 (pc := 14) W10 d_c_pos13_14 (by decide) (by decide) (by decide) ?_
      refine g_aload_n (pc := 72) W10 d_c_pos13_72 rfl rfl ?_
      exact g_areturn (pc := 73) rfl rfl W10 d_c_pos13_73 (by decide) (by decide) ⟨b1, rfl, by simp only [cl_lt, cl_eq, Int64.lt_iff_toInt_lt, ← Int64.toInt_inj] at c5 c6; have e0 : ex3 y0 x0 x1 x2 = (0 : Int32) := (by simp only [ex3, cl_eq, ← Int64.toInt_inj]; (repeat' split) <;> first | rfl | (exfalso; omega)); rw [e0]⟩
  · refine g_iinc (pc := 34) (ls' := #[.val (.ref a), .val (.ref b), .val (.ref b1), .val (.int (1 : Int32)), .val (.int (0 : Int32))]) (1 : Int32) (by decide) W4 d_c_pos13_34 rfl rfl ?_
    refine g_goto 17 (pc := 37) W4 d_c_pos13_37 (by decide) (by decide) ?_
    refine g_iload_n (pc := 17) W4 d_c_pos13_17 rfl ?_
    refine g_aload_n (pc := 18) W4 d_c_pos13_18 rfl rfl ?_
    refine g_arraylength (pc := 19) (i := 1) (3 : Int32) W4 rfl rfl d_c_pos13_19 ?_
    refine g_icmpN (pc := 20) W4 d_c_pos13_20 (by decide) ?_
    refine g_aload_n (pc := 23) W4 d_c_pos13_23 rfl rfl ?_
    refine g_iload_n (pc := 24) W4 d_c_pos13_24 rfl ?_
    refine g_laload (pc := 25) (i := 1) (v := .long x1) W4 rfl (by decide) rfl d_c_pos13_25 ?_
    refine g_aload_n (pc := 26) W4 d_c_pos13_26 rfl rfl ?_
    refine g_iload (pc := 27) W4 d_c_pos13_27 rfl ?_
    refine g_laload (pc := 29) (i := 0) (v := .long y0) W4 rfl (by decide) rfl d_c_pos13_29 ?_
    refine g_lcmp (pc := 30) W4 d_c_pos13_30 ?_
    refine g_if_ge 40 (pc := 31) W4 d_c_pos13_31 (by decide) (by decide) (fun c11 => ?_) (fun c11 => ?_)
    · refine g_aload_n (pc := 40) W4 d_c_pos13_40 rfl rfl ?_
      refine g_iload (pc := 41) W4 d_c_pos13_41 rfl ?_
      refine g_iload_n (pc := 43) W4 d_c_pos13_43 rfl ?_
      refine g_aload_n (pc := 44) W4 d_c_pos13_44 rfl rfl ?_
      refine g_arraylength (pc := 45) (i := 1) (3 : Int32) W4 rfl rfl d_c_pos13_45 ?_
      refine g_icmpN (pc := 46) W4 d_c_pos13_46 (by decide) ?_
      refine g_aload_n (pc := 49) W4 d_c_pos13_49 rfl rfl ?_
      refine g_iload_n (pc := 50) W4 d_c_pos13_50 rfl ?_
      refine g_laload (pc := 51) (i := 1) (v := .long x1) W4 rfl (by decide) rfl d_c_pos13_51 ?_
      refine g_aload_n (pc := 52) W4 d_c_pos13_52 rfl rfl ?_
      refine g_iload (pc := 53) W4 d_c_pos13_53 rfl ?_
      refine g_laload (pc := 55) (i := 0) (v := .long y0) W4 rfl (by decide) rfl d_c_pos13_55 ?_
      refine g_lcmp (pc := 56) W4 d_c_pos13_56 ?_
      refine g_if_ne 64 (pc := 57) W4 d_c_pos13_57 (by decide) (by decide) (fun c12 => ?_) (fun c12 => ?_)
      · refine g_iconst (pc := 64) (-1 : Int32) (by decide) W4 d_c_pos13_64 ?_
        refine g_iastore (pc := 65) (i := 2) (os' := [(a, (.array .long), [.long y0]), (b, (.array .long), [.long x0, .long x1, .long x2]), (b1, (.array .int), [.int (-1 : Int32)])]) 0 W4 rfl (by decide) (by decide) (Nat.le_of_ble_eq_true rfl) rfl d_c_pos13_65 (fun T13 W14 => ?_)
        refine g_iinc (pc := 66) (ls' := #[.val (.ref a), .val (.ref b), .val (.ref b1), .val (.int (1 : Int32)), .val (.int (1 : Int32))]) (1 : Int32) (by decide) W14 d_c_pos13_66 rfl rfl ?_
        refine g_goto 10 (pc := 69) W14 d_c_pos13_69 (by decide) (by decide) ?_
        refine g_iload (pc := 10) W14 d_c_pos13_10 rfl ?_
        refine g_aload_n (pc := 12) W14 d_c_pos13_12 rfl rfl ?_
        refine g_arraylength (pc := 13) (i := 0) (1 : Int32) W14 rfl rfl d_c_pos13_13 ?_
        refine g_icmpY 72 (pc := 14) W14 d_c_pos13_14 (by decide) (by decide) (by decide) ?_
        refine g_aload_n (pc := 72) W14 d_c_pos13_72 rfl rfl ?_
        exact g_areturn (pc := 73) rfl rfl W14 d_c_pos13_73 (by decide) (by decide) ⟨b1, rfl, by simp only [cl_lt, cl_eq, Int64.lt_iff_toInt_lt, ← Int64.toInt_inj] at c5 c11 c12; have e0 : ex3 y0 x0 x1 x2 = (-1 : Int32) := (by simp only [ex3, cl_eq, ← Int64.toInt_inj]; (repeat' split) <;> first | rfl | (exfalso; omega)); rw [e0]⟩
      · refine g_iload_n (pc := 60) W4 d_c_pos13_60 rfl ?_
        refine g_goto 65 (pc := 61) W4 d_c_pos13_61 (by decide) (by decide) ?_
        refine g_iastore (pc := 65) (i := 2) (os' := [(a, (.array .long), [.long y0]), (b, (.array .long), [.long x0, .long x1, .long x2]), (b1, (.array .int), [.int (1 : Int32)])]) 0 W4 rfl (by decide) (by decide) (Nat.le_of_ble_eq_true rfl) rfl d_c_pos13_65 (fun T15 W16 => ?_)
        refine g_iinc (pc := 66) (ls' := #[.val (.ref a), .val (.ref b), .val (.ref b1), .val (.int (1 : Int32)), .val (.int (1 : Int32))]) (1 : Int32) (by decide) W16 d_c_pos13_66 rfl rfl ?_
        refine g_goto 10 (pc := 69) W16 d_c_pos13_69 (by decide) (by decide) ?_
        refine g_iload (pc := 10) W16 d_c_pos13_10 rfl ?_
        refine g_aload_n (pc := 12) W16 d_c_pos13_12 rfl rfl ?_
        refine g_arraylength (pc := 13) (i := 0) (1 : Int32) W16 rfl rfl d_c_pos13_13 ?_
        refine g_icmpY 72 (pc := 14) W16 d_c_pos13_14 (by decide) (by decide) (by decide) ?_
        refine g_aload_n (pc := 72) W16 d_c_pos13_72 rfl rfl ?_
        exact g_areturn (pc := 73) rfl rfl W16 d_c_pos13_73 (by decide) (by decide) ⟨b1, rfl, by simp only [cl_lt, cl_eq, Int64.lt_iff_toInt_lt, ← Int64.toInt_inj] at c5 c11 c12; have e0 : ex3 y0 x0 x1 x2 = (1 : Int32) := (by simp only [ex3, cl_eq, ← Int64.toInt_inj]; (repeat' split) <;> first | rfl | (exfalso; omega)); rw [e0]⟩
    · refine g_iinc (pc := 34) (ls' := #[.val (.ref a), .val (.ref b), .val (.ref b1), .val (.int (2 : Int32)), .val (.int (0 : Int32))]) (1 : Int32) (by decide) W4 d_c_pos13_34 rfl rfl ?_
      refine g_goto 17 (pc := 37) W4 d_c_pos13_37 (by decide) (by decide) ?_
      refine g_iload_n (pc := 17) W4 d_c_pos13_17 rfl ?_
      refine g_aload_n (pc := 18) W4 d_c_pos13_18 rfl rfl ?_
      refine g_arraylength (pc := 19) (i := 1) (3 : Int32) W4 rfl rfl d_c_pos13_19 ?_
      refine g_icmpN (pc := 20) W4 d_c_pos13_20 (by decide) ?_
      refine g_aload_n (pc := 23) W4 d_c_pos13_23 rfl rfl ?_
      refine g_iload_n (pc := 24) W4 d_c_pos13_24 rfl ?_
      refine g_laload (pc := 25) (i := 1) (v := .long x2) W4 rfl (by decide) rfl d_c_pos13_25 ?_
      refine g_aload_n (pc := 26) W4 d_c_pos13_26 rfl rfl ?_
      refine g_iload (pc := 27) W4 d_c_pos13_27 rfl ?_
      refine g_laload (pc := 29) (i := 0) (v := .long y0) W4 rfl (by decide) rfl d_c_pos13_29 ?_
      refine g_lcmp (pc := 30) W4 d_c_pos13_30 ?_
      refine g_if_ge 40 (pc := 31) W4 d_c_pos13_31 (by decide) (by decide) (fun c17 => ?_) (fun c17 => ?_)
      · refine g_aload_n (pc := 40) W4 d_c_pos13_40 rfl rfl ?_
        refine g_iload (pc := 41) W4 d_c_pos13_41 rfl ?_
        refine g_iload_n (pc := 43) W4 d_c_pos13_43 rfl ?_
        refine g_aload_n (pc := 44) W4 d_c_pos13_44 rfl rfl ?_
        refine g_arraylength (pc := 45) (i := 1) (3 : Int32) W4 rfl rfl d_c_pos13_45 ?_
        refine g_icmpN (pc := 46) W4 d_c_pos13_46 (by decide) ?_
        refine g_aload_n (pc := 49) W4 d_c_pos13_49 rfl rfl ?_
        refine g_iload_n (pc := 50) W4 d_c_pos13_50 rfl ?_
        refine g_laload (pc := 51) (i := 1) (v := .long x2) W4 rfl (by decide) rfl d_c_pos13_51 ?_
        refine g_aload_n (pc := 52) W4 d_c_pos13_52 rfl rfl ?_
        refine g_iload (pc := 53) W4 d_c_pos13_53 rfl ?_
        refine g_laload (pc := 55) (i := 0) (v := .long y0) W4 rfl (by decide) rfl d_c_pos13_55 ?_
        refine g_lcmp (pc := 56) W4 d_c_pos13_56 ?_
        refine g_if_ne 64 (pc := 57) W4 d_c_pos13_57 (by decide) (by decide) (fun c18 => ?_) (fun c18 => ?_)
        · refine g_iconst (pc := 64) (-1 : Int32) (by decide) W4 d_c_pos13_64 ?_
          refine g_iastore (pc := 65) (i := 2) (os' := [(a, (.array .long), [.long y0]), (b, (.array .long), [.long x0, .long x1, .long x2]), (b1, (.array .int), [.int (-1 : Int32)])]) 0 W4 rfl (by decide) (by decide) (Nat.le_of_ble_eq_true rfl) rfl d_c_pos13_65 (fun T19 W20 => ?_)
          refine g_iinc (pc := 66) (ls' := #[.val (.ref a), .val (.ref b), .val (.ref b1), .val (.int (2 : Int32)), .val (.int (1 : Int32))]) (1 : Int32) (by decide) W20 d_c_pos13_66 rfl rfl ?_
          refine g_goto 10 (pc := 69) W20 d_c_pos13_69 (by decide) (by decide) ?_
          refine g_iload (pc := 10) W20 d_c_pos13_10 rfl ?_
          refine g_aload_n (pc := 12) W20 d_c_pos13_12 rfl rfl ?_
          refine g_arraylength (pc := 13) (i := 0) (1 : Int32) W20 rfl rfl d_c_pos13_13 ?_
          refine g_icmpY 72 (pc := 14) W20 d_c_pos13_14 (by decide) (by decide) (by decide) ?_
          refine g_aload_n (pc := 72) W20 d_c_pos13_72 rfl rfl ?_
          exact g_areturn (pc := 73) rfl rfl W20 d_c_pos13_73 (by decide) (by decide) ⟨b1, rfl, by simp only [cl_lt, cl_eq, Int64.lt_iff_toInt_lt, ← Int64.toInt_inj] at c5 c11 c17 c18; have e0 : ex3 y0 x0 x1 x2 = (-1 : Int32) := (by simp only [ex3, cl_eq, ← Int64.toInt_inj]; (repeat' split) <;> first | rfl | (exfalso; omega)); rw [e0]⟩
        · refine g_iload_n (pc := 60) W4 d_c_pos13_60 rfl ?_
          refine g_goto 65 (pc := 61) W4 d_c_pos13_61 (by decide) (by decide) ?_
          refine g_iastore (pc := 65) (i := 2) (os' := [(a, (.array .long), [.long y0]), (b, (.array .long), [.long x0, .long x1, .long x2]), (b1, (.array .int), [.int (2 : Int32)])]) 0 W4 rfl (by decide) (by decide) (Nat.le_of_ble_eq_true rfl) rfl d_c_pos13_65 (fun T21 W22 => ?_)
          refine g_iinc (pc := 66) (ls' := #[.val (.ref a), .val (.ref b), .val (.ref b1), .val (.int (2 : Int32)), .val (.int (1 : Int32))]) (1 : Int32) (by decide) W22 d_c_pos13_66 rfl rfl ?_
          refine g_goto 10 (pc := 69) W22 d_c_pos13_69 (by decide) (by decide) ?_
          refine g_iload (pc := 10) W22 d_c_pos13_10 rfl ?_
          refine g_aload_n (pc := 12) W22 d_c_pos13_12 rfl rfl ?_
          refine g_arraylength (pc := 13) (i := 0) (1 : Int32) W22 rfl rfl d_c_pos13_13 ?_
          refine g_icmpY 72 (pc := 14) W22 d_c_pos13_14 (by decide) (by decide) (by decide) ?_
          refine g_aload_n (pc := 72) W22 d_c_pos13_72 rfl rfl ?_
          exact g_areturn (pc := 73) rfl rfl W22 d_c_pos13_73 (by decide) (by decide) ⟨b1, rfl, by simp only [cl_lt, cl_eq, Int64.lt_iff_toInt_lt, ← Int64.toInt_inj] at c5 c11 c17 c18; have e0 : ex3 y0 x0 x1 x2 = (2 : Int32) := (by simp only [ex3, cl_eq, ← Int64.toInt_inj]; (repeat' split) <;> first | rfl | (exfalso; omega)); rw [e0]⟩
      · refine g_iinc (pc := 34) (ls' := #[.val (.ref a), .val (.ref b), .val (.ref b1), .val (.int (3 : Int32)), .val (.int (0 : Int32))]) (1 : Int32) (by decide) W4 d_c_pos13_34 rfl rfl ?_
        refine g_goto 17 (pc := 37) W4 d_c_pos13_37 (by decide) (by decide) ?_
        refine g_iload_n (pc := 17) W4 d_c_pos13_17 rfl ?_
        refine g_aload_n (pc := 18) W4 d_c_pos13_18 rfl rfl ?_
        refine g_arraylength (pc := 19) (i := 1) (3 : Int32) W4 rfl rfl d_c_pos13_19 ?_
        refine g_icmpY 40 (pc := 20) W4 d_c_pos13_20 (by decide) (by decide) (by decide) ?_
        refine g_aload_n (pc := 40) W4 d_c_pos13_40 rfl rfl ?_
        refine g_iload (pc := 41) W4 d_c_pos13_41 rfl ?_
        refine g_iload_n (pc := 43) W4 d_c_pos13_43 rfl ?_
        refine g_aload_n (pc := 44) W4 d_c_pos13_44 rfl rfl ?_
        refine g_arraylength (pc := 45) (i := 1) (3 : Int32) W4 rfl rfl d_c_pos13_45 ?_
        refine g_icmpY 64 (pc := 46) W4 d_c_pos13_46 (by decide) (by decide) (by decide) ?_
        refine g_iconst (pc := 64) (-1 : Int32) (by decide) W4 d_c_pos13_64 ?_
        refine g_iastore (pc := 65) (i := 2) (os' := [(a, (.array .long), [.long y0]), (b, (.array .long), [.long x0, .long x1, .long x2]), (b1, (.array .int), [.int (-1 : Int32)])]) 0 W4 rfl (by decide) (by decide) (Nat.le_of_ble_eq_true rfl) rfl d_c_pos13_65 (fun T23 W24 => ?_)
        refine g_iinc (pc := 66) (ls' := #[.val (.ref a), .val (.ref b), .val (.ref b1), .val (.int (3 : Int32)), .val (.int (1 : Int32))]) (1 : Int32) (by decide) W24 d_c_pos13_66 rfl rfl ?_
        refine g_goto 10 (pc := 69) W24 d_c_pos13_69 (by decide) (by decide) ?_
        refine g_iload (pc := 10) W24 d_c_pos13_10 rfl ?_
        refine g_aload_n (pc := 12) W24 d_c_pos13_12 rfl rfl ?_
        refine g_arraylength (pc := 13) (i := 0) (1 : Int32) W24 rfl rfl d_c_pos13_13 ?_
        refine g_icmpY 72 (pc := 14) W24 d_c_pos13_14 (by decide) (by decide) (by decide) ?_
        refine g_aload_n (pc := 72) W24 d_c_pos13_72 rfl rfl ?_
        exact g_areturn (pc := 73) rfl rfl W24 d_c_pos13_73 (by decide) (by decide) ⟨b1, rfl, by simp only [cl_lt, cl_eq, Int64.lt_iff_toInt_lt, ← Int64.toInt_inj] at c5 c11 c17; have e0 : ex3 y0 x0 x1 x2 = (-1 : Int32) := (by simp only [ex3, cl_eq, ← Int64.toInt_inj]; (repeat' split) <;> first | rfl | (exfalso; omega)); rw [e0]⟩
theorem d_c_pos20_0 : decode prog_15_method_2_code 0 = .ok (.aload_n 0, 1) := by decide +kernel
theorem d_c_pos20_1 : decode prog_15_method_2_code 1 = .ok (.arraylength, 1) := by decide +kernel
theorem d_c_pos20_2 : decode prog_15_method_2_code 2 = .ok (.newarray .int, 2) := by decide +kernel
theorem d_c_pos20_4 : decode prog_15_method_2_code 4 = .ok (.astore_n 2, 1) := by decide +kernel
theorem d_c_pos20_5 : decode prog_15_method_2_code 5 = .ok (.iconst 0, 1) := by decide +kernel
theorem d_c_pos20_6 : decode prog_15_method_2_code 6 = .ok (.istore_n 3, 1) := by decide +kernel
theorem d_c_pos20_7 : decode prog_15_method_2_code 7 = .ok (.iconst 0, 1) := by decide +kernel
theorem d_c_pos20_8 : decode prog_15_method_2_code 8 = .ok (.istore 4, 2) := by decide +kernel
theorem d_c_pos20_10 : decode prog_15_method_2_code 10 = .ok (.iload 4, 2) := by decide +kernel
theorem d_c_pos20_12 : decode prog_15_method_2_code 12 = .ok (.aload_n 0, 1) := by decide +kernel
theorem d_c_pos20_13 : decode prog_15_method_2_code 13 = .ok (.arraylength, 1) := by decide +kernel
theorem d_c_pos20_14 : decode prog_15_method_2_code 14 = .ok (.if_icmp .ge 58, 3) := by decide +kernel
theorem d_c_pos20_17 : decode prog_15_method_2_code 17 = .ok (.iload_n 3, 1) := by decide +kernel
theorem d_c_pos20_18 : decode prog_15_method_2_code 18 = .ok (.aload_n 1, 1) := by decide +kernel
theorem d_c_pos20_19 : decode prog_15_method_2_code 19 = .ok (.arraylength, 1) := by decide +kernel
theorem d_c_pos20_20 : decode prog_15_method_2_code 20 = .ok (.if_icmp .ge 20, 3) := by decide +kernel
theorem d_c_pos20_40 : decode prog_15_method_2_code 40 = .ok (.aload_n 2, 1) := by decide +kernel
theorem d_c_pos20_41 : decode prog_15_method_2_code 41 = .ok (.iload 4, 2) := by decide +kernel
theorem d_c_pos20_43 : decode prog_15_method_2_code 43 = .ok (.iload_n 3, 1) := by decide +kernel
theorem d_c_pos20_44 : decode prog_15_method_2_code 44 = .ok (.aload_n 1, 1) := by decide +kernel
theorem d_c_pos20_45 : decode prog_15_method_2_code 45 = .ok (.arraylength, 1) := by decide +kernel
theorem d_c_pos20_46 : decode prog_15_method_2_code 46 = .ok (.if_icmp .ge 18, 3) := by decide +kernel
theorem d_c_pos20_64 : decode prog_15_method_2_code 64 = .ok (.iconst (-1), 1) := by decide +kernel
theorem d_c_pos20_65 : decode prog_15_method_2_code 65 = .ok (.iastore, 1) := by decide +kernel
theorem d_c_pos20_66 : decode prog_15_method_2_code 66 = .ok (.iinc 4 1, 3) := by decide +kernel
theorem d_c_pos20_69 : decode prog_15_method_2_code 69 = .ok (.goto (-59), 3) := by decide +kernel
theorem d_c_pos20_72 : decode prog_15_method_2_code 72 = .ok (.aload_n 2, 1) := by decide +kernel
theorem d_c_pos20_73 : decode prog_15_method_2_code 73 = .ok (.areturn, 1) := by decide +kernel
set_option maxRecDepth 65536 in
set_option maxHeartbeats 40000000 in
theorem c_pos20 (l : Launch) (Z : State) (a0 : Array Value) (hw : ∀ d ∈ tables_1, d.before a0 Z = true) {B : Nat} (a b : Addr) (y0 y1 x0 x1 x2 : Int64) (hy : y0.toInt < y1.toInt) :
    Con l Z FM B (⟨"com/example/rover/rover/broker/Ids", "positions", "([J[J)[I"⟩ : MethodName) prog_15_method_2_code 5 (some (.array .int)) ({ frames := 0, cells := 1, slots := 2, locals := 0 } : Room) [] #[.ref a, .ref b] [(a, (.array .long), [.long y0, .long y1]), (b, (.array .long), [])] (fun v os => ∃ r, v = some (.ref r) ∧ os = [(a, (.array .long), [.long y0, .long y1]), (b, (.array .long), []), (r, .array .int, [.int (ex0 y0 x0 x1 x2), .int (ex0 y1 x0 x1 x2)])]) := by
  refine Con.of (plainFor_of_name (by first | (simp [plainName, overriddenIn]; done) | decide +kernel)) (ls := #[.val (.ref a), .val (.ref b), .unset, .unset, .unset]) (fun m => by first | (simp [entryFrame, mkF, argsToLocals, Value.category]; done) | rfl) ?_
  intro p_ e_ h_ s_ m_ bl_ me_ c_ T0 W0
  refine g_aload_n (pc := 0) W0 d_c_pos20_0 rfl rfl ?_
  refine g_arraylength (pc := 1) (i := 0) (2 : Int32) W0 rfl rfl d_c_pos20_1 ?_
  refine g_newarray (pc := 2) (ty := .int) (vs := [.int (0 : Int32), .int (0 : Int32)]) 2 W0 (hw _ (List.mem_of_getElem? (i := 16) rfl)) rfl (by decide) (by decide) (by decide) rfl d_c_pos20_2 (by decide) (by decide) (fun T2 b1 W3 => ?_)
  have W4 := W3.re (os' := [(a, (.array .long), [.long y0, .long y1]), (b, (.array .long), []), (b1, (.array .int), [.int (0 : Int32), .int (0 : Int32)])]) rfl
  refine g_astore_n (pc := 4) (ls' := #[.val (.ref a), .val (.ref b), .val (.ref b1), .unset, .unset]) W4 d_c_pos20_4 rfl rfl ?_
  refine g_iconst (pc := 5) (0 : Int32) (by decide) W4 d_c_pos20_5 ?_
  refine g_istore_n (pc := 6) (ls' := #[.val (.ref a), .val (.ref b), .val (.ref b1), .val (.int (0 : Int32)), .unset]) W4 d_c_pos20_6 rfl ?_
  refine g_iconst (pc := 7) (0 : Int32) (by decide) W4 d_c_pos20_7 ?_
  refine g_istore (pc := 8) (ls' := #[.val (.ref a), .val (.ref b), .val (.ref b1), .val (.int (0 : Int32)), .val (.int (0 : Int32))]) W4 d_c_pos20_8 rfl ?_
  refine g_iload (pc := 10) W4 d_c_pos20_10 rfl ?_
  refine g_aload_n (pc := 12) W4 d_c_pos20_12 rfl rfl ?_
  refine g_arraylength (pc := 13) (i := 0) (2 : Int32) W4 rfl rfl d_c_pos20_13 ?_
  refine g_icmpN (pc := 14) W4 d_c_pos20_14 (by decide) ?_
  refine g_iload_n (pc := 17) W4 d_c_pos20_17 rfl ?_
  refine g_aload_n (pc := 18) W4 d_c_pos20_18 rfl rfl ?_
  refine g_arraylength (pc := 19) (i := 1) (0 : Int32) W4 rfl rfl d_c_pos20_19 ?_
  refine g_icmpY 40 (pc := 20) W4 d_c_pos20_20 (by decide) (by decide) (by decide) ?_
  refine g_aload_n (pc := 40) W4 d_c_pos20_40 rfl rfl ?_
  refine g_iload (pc := 41) W4 d_c_pos20_41 rfl ?_
  refine g_iload_n (pc := 43) W4 d_c_pos20_43 rfl ?_
  refine g_aload_n (pc := 44) W4 d_c_pos20_44 rfl rfl ?_
  refine g_arraylength (pc := 45) (i := 1) (0 : Int32) W4 rfl rfl d_c_pos20_45 ?_
  refine g_icmpY 64 (pc := 46) W4 d_c_pos20_46 (by decide) (by decide) (by decide) ?_
  refine g_iconst (pc := 64) (-1 : Int32) (by decide) W4 d_c_pos20_64 ?_
  refine g_iastore (pc := 65) (i := 2) (os' := [(a, (.array .long), [.long y0, .long y1]), (b, (.array .long), []), (b1, (.array .int), [.int (-1 : Int32), .int (0 : Int32)])]) 0 W4 rfl (by decide) (by decide) (Nat.le_of_ble_eq_true rfl) rfl d_c_pos20_65 (fun T5 W6 => ?_)
  refine g_iinc (pc := 66) (ls' := #[.val (.ref a), .val (.ref b), .val (.ref b1), .val (.int (0 : Int32)), .val (.int (1 : Int32))]) (1 : Int32) (by decide) W6 d_c_pos20_66 rfl rfl ?_
  refine g_goto 10 (pc := 69) W6 d_c_pos20_69 (by decide) (by decide) ?_
  refine g_iload (pc := 10) W6 d_c_pos20_10 rfl ?_
  refine g_aload_n (pc := 12) W6 d_c_pos20_12 rfl rfl ?_
  refine g_arraylength (pc := 13) (i := 0) (2 : Int32) W6 rfl rfl d_c_pos20_13 ?_
  refine g_icmpN (pc := 14) W6 d_c_pos20_14 (by decide) ?_
  refine g_iload_n (pc := 17) W6 d_c_pos20_17 rfl ?_
  refine g_aload_n (pc := 18) W6 d_c_pos20_18 rfl rfl ?_
  refine g_arraylength (pc := 19) (i := 1) (0 : Int32) W6 rfl rfl d_c_pos20_19 ?_
  refine g_icmpY 40 (pc := 20) W6 d_c_pos20_20 (by decide) (by decide) (by decide) ?_
  refine g_aload_n (pc := 40) W6 d_c_pos20_40 rfl rfl ?_
  refine g_iload (pc := 41) W6 d_c_pos20_41 rfl ?_
  refine g_iload_n (pc := 43) W6 d_c_pos20_43 rfl ?_
  refine g_aload_n (pc := 44) W6 d_c_pos20_44 rfl rfl ?_
  refine g_arraylength (pc := 45) (i := 1) (0 : Int32) W6 rfl rfl d_c_pos20_45 ?_
  refine g_icmpY 64 (pc := 46) W6 d_c_pos20_46 (by decide) (by decide) (by decide) ?_
  refine g_iconst (pc := 64) (-1 : Int32) (by decide) W6 d_c_pos20_64 ?_
  refine g_iastore (pc := 65) (i := 2) (os' := [(a, (.array .long), [.long y0, .long y1]), (b, (.array .long), []), (b1, (.array .int), [.int (-1 : Int32), .int (-1 : Int32)])]) 1 W6 rfl (by decide) (by decide) (Nat.le_of_ble_eq_true rfl) rfl d_c_pos20_65 (fun T7 W8 => ?_)
  refine g_iinc (pc := 66) (ls' := #[.val (.ref a), .val (.ref b), .val (.ref b1), .val (.int (0 : Int32)), .val (.int (2 : Int32))]) (1 : Int32) (by decide) W8 d_c_pos20_66 rfl rfl ?_
  refine g_goto 10 (pc := 69) W8 d_c_pos20_69 (by decide) (by decide) ?_
  refine g_iload (pc := 10) W8 d_c_pos20_10 rfl ?_
  refine g_aload_n (pc := 12) W8 d_c_pos20_12 rfl rfl ?_
  refine g_arraylength (pc := 13) (i := 0) (2 : Int32) W8 rfl rfl d_c_pos20_13 ?_
  refine g_icmpY 72 (pc := 14) W8 d_c_pos20_14 (by decide) (by decide) (by decide) ?_
  refine g_aload_n (pc := 72) W8 d_c_pos20_72 rfl rfl ?_
  exact g_areturn (pc := 73) rfl rfl W8 d_c_pos20_73 (by decide) (by decide) ⟨b1, rfl, by have e0 : ex0 y0 x0 x1 x2 = (-1 : Int32) := rfl; have e1 : ex0 y1 x0 x1 x2 = (-1 : Int32) := rfl; rw [e0, e1]⟩
theorem d_c_pos21_0 : decode prog_15_method_2_code 0 = .ok (.aload_n 0, 1) := by decide +kernel
theorem d_c_pos21_1 : decode prog_15_method_2_code 1 = .ok (.arraylength, 1) := by decide +kernel
theorem d_c_pos21_2 : decode prog_15_method_2_code 2 = .ok (.newarray .int, 2) := by decide +kernel
theorem d_c_pos21_4 : decode prog_15_method_2_code 4 = .ok (.astore_n 2, 1) := by decide +kernel
theorem d_c_pos21_5 : decode prog_15_method_2_code 5 = .ok (.iconst 0, 1) := by decide +kernel
theorem d_c_pos21_6 : decode prog_15_method_2_code 6 = .ok (.istore_n 3, 1) := by decide +kernel
theorem d_c_pos21_7 : decode prog_15_method_2_code 7 = .ok (.iconst 0, 1) := by decide +kernel
theorem d_c_pos21_8 : decode prog_15_method_2_code 8 = .ok (.istore 4, 2) := by decide +kernel
theorem d_c_pos21_10 : decode prog_15_method_2_code 10 = .ok (.iload 4, 2) := by decide +kernel
theorem d_c_pos21_12 : decode prog_15_method_2_code 12 = .ok (.aload_n 0, 1) := by decide +kernel
theorem d_c_pos21_13 : decode prog_15_method_2_code 13 = .ok (.arraylength, 1) := by decide +kernel
theorem d_c_pos21_14 : decode prog_15_method_2_code 14 = .ok (.if_icmp .ge 58, 3) := by decide +kernel
theorem d_c_pos21_17 : decode prog_15_method_2_code 17 = .ok (.iload_n 3, 1) := by decide +kernel
theorem d_c_pos21_18 : decode prog_15_method_2_code 18 = .ok (.aload_n 1, 1) := by decide +kernel
theorem d_c_pos21_19 : decode prog_15_method_2_code 19 = .ok (.arraylength, 1) := by decide +kernel
theorem d_c_pos21_20 : decode prog_15_method_2_code 20 = .ok (.if_icmp .ge 20, 3) := by decide +kernel
theorem d_c_pos21_23 : decode prog_15_method_2_code 23 = .ok (.aload_n 1, 1) := by decide +kernel
theorem d_c_pos21_24 : decode prog_15_method_2_code 24 = .ok (.iload_n 3, 1) := by decide +kernel
theorem d_c_pos21_25 : decode prog_15_method_2_code 25 = .ok (.laload, 1) := by decide +kernel
theorem d_c_pos21_26 : decode prog_15_method_2_code 26 = .ok (.aload_n 0, 1) := by decide +kernel
theorem d_c_pos21_27 : decode prog_15_method_2_code 27 = .ok (.iload 4, 2) := by decide +kernel
theorem d_c_pos21_29 : decode prog_15_method_2_code 29 = .ok (.laload, 1) := by decide +kernel
theorem d_c_pos21_30 : decode prog_15_method_2_code 30 = .ok (.lcmp, 1) := by decide +kernel
theorem d_c_pos21_31 : decode prog_15_method_2_code 31 = .ok (.ifCond .ge 9, 3) := by decide +kernel
theorem d_c_pos21_34 : decode prog_15_method_2_code 34 = .ok (.iinc 3 1, 3) := by decide +kernel
theorem d_c_pos21_37 : decode prog_15_method_2_code 37 = .ok (.goto (-20), 3) := by decide +kernel
theorem d_c_pos21_40 : decode prog_15_method_2_code 40 = .ok (.aload_n 2, 1) := by decide +kernel
theorem d_c_pos21_41 : decode prog_15_method_2_code 41 = .ok (.iload 4, 2) := by decide +kernel
theorem d_c_pos21_43 : decode prog_15_method_2_code 43 = .ok (.iload_n 3, 1) := by decide +kernel
theorem d_c_pos21_44 : decode prog_15_method_2_code 44 = .ok (.aload_n 1, 1) := by decide +kernel
theorem d_c_pos21_45 : decode prog_15_method_2_code 45 = .ok (.arraylength, 1) := by decide +kernel
theorem d_c_pos21_46 : decode prog_15_method_2_code 46 = .ok (.if_icmp .ge 18, 3) := by decide +kernel
theorem d_c_pos21_49 : decode prog_15_method_2_code 49 = .ok (.aload_n 1, 1) := by decide +kernel
theorem d_c_pos21_50 : decode prog_15_method_2_code 50 = .ok (.iload_n 3, 1) := by decide +kernel
theorem d_c_pos21_51 : decode prog_15_method_2_code 51 = .ok (.laload, 1) := by decide +kernel
theorem d_c_pos21_52 : decode prog_15_method_2_code 52 = .ok (.aload_n 0, 1) := by decide +kernel
theorem d_c_pos21_53 : decode prog_15_method_2_code 53 = .ok (.iload 4, 2) := by decide +kernel
theorem d_c_pos21_55 : decode prog_15_method_2_code 55 = .ok (.laload, 1) := by decide +kernel
theorem d_c_pos21_56 : decode prog_15_method_2_code 56 = .ok (.lcmp, 1) := by decide +kernel
theorem d_c_pos21_57 : decode prog_15_method_2_code 57 = .ok (.ifCond .ne 7, 3) := by decide +kernel
theorem d_c_pos21_60 : decode prog_15_method_2_code 60 = .ok (.iload_n 3, 1) := by decide +kernel
theorem d_c_pos21_61 : decode prog_15_method_2_code 61 = .ok (.goto 4, 3) := by decide +kernel
theorem d_c_pos21_64 : decode prog_15_method_2_code 64 = .ok (.iconst (-1), 1) := by decide +kernel
theorem d_c_pos21_65 : decode prog_15_method_2_code 65 = .ok (.iastore, 1) := by decide +kernel
theorem d_c_pos21_66 : decode prog_15_method_2_code 66 = .ok (.iinc 4 1, 3) := by decide +kernel
theorem d_c_pos21_69 : decode prog_15_method_2_code 69 = .ok (.goto (-59), 3) := by decide +kernel
theorem d_c_pos21_72 : decode prog_15_method_2_code 72 = .ok (.aload_n 2, 1) := by decide +kernel
theorem d_c_pos21_73 : decode prog_15_method_2_code 73 = .ok (.areturn, 1) := by decide +kernel
set_option maxRecDepth 65536 in
set_option maxHeartbeats 40000000 in
theorem c_pos21 (l : Launch) (Z : State) (a0 : Array Value) (hw : ∀ d ∈ tables_1, d.before a0 Z = true) {B : Nat} (a b : Addr) (y0 y1 x0 x1 x2 : Int64) (hy : y0.toInt < y1.toInt) :
    Con l Z FM B (⟨"com/example/rover/rover/broker/Ids", "positions", "([J[J)[I"⟩ : MethodName) prog_15_method_2_code 5 (some (.array .int)) ({ frames := 0, cells := 1, slots := 2, locals := 0 } : Room) [] #[.ref a, .ref b] [(a, (.array .long), [.long y0, .long y1]), (b, (.array .long), [.long x0])] (fun v os => ∃ r, v = some (.ref r) ∧ os = [(a, (.array .long), [.long y0, .long y1]), (b, (.array .long), [.long x0]), (r, .array .int, [.int (ex1 y0 x0 x1 x2), .int (ex1 y1 x0 x1 x2)])]) := by
  refine Con.of (plainFor_of_name (by first | (simp [plainName, overriddenIn]; done) | decide +kernel)) (ls := #[.val (.ref a), .val (.ref b), .unset, .unset, .unset]) (fun m => by first | (simp [entryFrame, mkF, argsToLocals, Value.category]; done) | rfl) ?_
  intro p_ e_ h_ s_ m_ bl_ me_ c_ T0 W0
  refine g_aload_n (pc := 0) W0 d_c_pos21_0 rfl rfl ?_
  refine g_arraylength (pc := 1) (i := 0) (2 : Int32) W0 rfl rfl d_c_pos21_1 ?_
  refine g_newarray (pc := 2) (ty := .int) (vs := [.int (0 : Int32), .int (0 : Int32)]) 2 W0 (hw _ (List.mem_of_getElem? (i := 16) rfl)) rfl (by decide) (by decide) (by decide) rfl d_c_pos21_2 (by decide) (by decide) (fun T2 b1 W3 => ?_)
  have W4 := W3.re (os' := [(a, (.array .long), [.long y0, .long y1]), (b, (.array .long), [.long x0]), (b1, (.array .int), [.int (0 : Int32), .int (0 : Int32)])]) rfl
  refine g_astore_n (pc := 4) (ls' := #[.val (.ref a), .val (.ref b), .val (.ref b1), .unset, .unset]) W4 d_c_pos21_4 rfl rfl ?_
  refine g_iconst (pc := 5) (0 : Int32) (by decide) W4 d_c_pos21_5 ?_
  refine g_istore_n (pc := 6) (ls' := #[.val (.ref a), .val (.ref b), .val (.ref b1), .val (.int (0 : Int32)), .unset]) W4 d_c_pos21_6 rfl ?_
  refine g_iconst (pc := 7) (0 : Int32) (by decide) W4 d_c_pos21_7 ?_
  refine g_istore (pc := 8) (ls' := #[.val (.ref a), .val (.ref b), .val (.ref b1), .val (.int (0 : Int32)), .val (.int (0 : Int32))]) W4 d_c_pos21_8 rfl ?_
  refine g_iload (pc := 10) W4 d_c_pos21_10 rfl ?_
  refine g_aload_n (pc := 12) W4 d_c_pos21_12 rfl rfl ?_
  refine g_arraylength (pc := 13) (i := 0) (2 : Int32) W4 rfl rfl d_c_pos21_13 ?_
  refine g_icmpN (pc := 14) W4 d_c_pos21_14 (by decide) ?_
  refine g_iload_n (pc := 17) W4 d_c_pos21_17 rfl ?_
  refine g_aload_n (pc := 18) W4 d_c_pos21_18 rfl rfl ?_
  refine g_arraylength (pc := 19) (i := 1) (1 : Int32) W4 rfl rfl d_c_pos21_19 ?_
  refine g_icmpN (pc := 20) W4 d_c_pos21_20 (by decide) ?_
  refine g_aload_n (pc := 23) W4 d_c_pos21_23 rfl rfl ?_
  refine g_iload_n (pc := 24) W4 d_c_pos21_24 rfl ?_
  refine g_laload (pc := 25) (i := 1) (v := .long x0) W4 rfl (by decide) rfl d_c_pos21_25 ?_
  refine g_aload_n (pc := 26) W4 d_c_pos21_26 rfl rfl ?_
  refine g_iload (pc := 27) W4 d_c_pos21_27 rfl ?_
  refine g_laload (pc := 29) (i := 0) (v := .long y0) W4 rfl (by decide) rfl d_c_pos21_29 ?_
  refine g_lcmp (pc := 30) W4 d_c_pos21_30 ?_
  refine g_if_ge 40 (pc := 31) W4 d_c_pos21_31 (by decide) (by decide) (fun c5 => ?_) (fun c5 => ?_)
  · refine g_aload_n (pc := 40) W4 d_c_pos21_40 rfl rfl ?_
    refine g_iload (pc := 41) W4 d_c_pos21_41 rfl ?_
    refine g_iload_n (pc := 43) W4 d_c_pos21_43 rfl ?_
    refine g_aload_n (pc := 44) W4 d_c_pos21_44 rfl rfl ?_
    refine g_arraylength (pc := 45) (i := 1) (1 : Int32) W4 rfl rfl d_c_pos21_45 ?_
    refine g_icmpN (pc := 46) W4 d_c_pos21_46 (by decide) ?_
    refine g_aload_n (pc := 49) W4 d_c_pos21_49 rfl rfl ?_
    refine g_iload_n (pc := 50) W4 d_c_pos21_50 rfl ?_
    refine g_laload (pc := 51) (i := 1) (v := .long x0) W4 rfl (by decide) rfl d_c_pos21_51 ?_
    refine g_aload_n (pc := 52) W4 d_c_pos21_52 rfl rfl ?_
    refine g_iload (pc := 53) W4 d_c_pos21_53 rfl ?_
    refine g_laload (pc := 55) (i := 0) (v := .long y0) W4 rfl (by decide) rfl d_c_pos21_55 ?_
    refine g_lcmp (pc := 56) W4 d_c_pos21_56 ?_
    refine g_if_ne 64 (pc := 57) W4 d_c_pos21_57 (by decide) (by decide) (fun c6 => ?_) (fun c6 => ?_)
    · refine g_iconst (pc := 64) (-1 : Int32) (by decide) W4 d_c_pos21_64 ?_
      refine g_iastore (pc := 65) (i := 2) (os' := [(a, (.array .long), [.long y0, .long y1]), (b, (.array .long), [.long x0]), (b1, (.array .int), [.int (-1 : Int32), .int (0 : Int32)])]) 0 W4 rfl (by decide) (by decide) (Nat.le_of_ble_eq_true rfl) rfl d_c_pos21_65 (fun T7 W8 => ?_)
      refine g_iinc (pc := 66) (ls' := #[.val (.ref a), .val (.ref b), .val (.ref b1), .val (.int (0 : Int32)), .val (.int (1 : Int32))]) (1 : Int32) (by decide) W8 d_c_pos21_66 rfl rfl ?_
      refine g_goto 10 (pc := 69) W8 d_c_pos21_69 (by decide) (by decide) ?_
      refine g_iload (pc := 10) W8 d_c_pos21_10 rfl ?_
      refine g_aload_n (pc := 12) W8 d_c_pos21_12 rfl rfl ?_
      refine g_arraylength (pc := 13) (i := 0) (2 : Int32) W8 rfl rfl d_c_pos21_13 ?_
      refine g_icmpN (pc := 14) W8 d_c_pos21_14 (by decide) ?_
      refine g_iload_n (pc := 17) W8 d_c_pos21_17 rfl ?_
      refine g_aload_n (pc := 18) W8 d_c_pos21_18 rfl rfl ?_
      refine g_arraylength (pc := 19) (i := 1) (1 : Int32) W8 rfl rfl d_c_pos21_19 ?_
      refine g_icmpN (pc := 20) W8 d_c_pos21_20 (by decide) ?_
      refine g_aload_n (pc := 23) W8 d_c_pos21_23 rfl rfl ?_
      refine g_iload_n (pc := 24) W8 d_c_pos21_24 rfl ?_
      refine g_laload (pc := 25) (i := 1) (v := .long x0) W8 rfl (by decide) rfl d_c_pos21_25 ?_
      refine g_aload_n (pc := 26) W8 d_c_pos21_26 rfl rfl ?_
      refine g_iload (pc := 27) W8 d_c_pos21_27 rfl ?_
      refine g_laload (pc := 29) (i := 0) (v := .long y1) W8 rfl (by decide) rfl d_c_pos21_29 ?_
      refine g_lcmp (pc := 30) W8 d_c_pos21_30 ?_
      refine g_if_ge 40 (pc := 31) W8 d_c_pos21_31 (by decide) (by decide) (fun c9 => ?_) (fun c9 => ?_)
      · refine g_aload_n (pc := 40) W8 d_c_pos21_40 rfl rfl ?_
        refine g_iload (pc := 41) W8 d_c_pos21_41 rfl ?_
        refine g_iload_n (pc := 43) W8 d_c_pos21_43 rfl ?_
        refine g_aload_n (pc := 44) W8 d_c_pos21_44 rfl rfl ?_
        refine g_arraylength (pc := 45) (i := 1) (1 : Int32) W8 rfl rfl d_c_pos21_45 ?_
        refine g_icmpN (pc := 46) W8 d_c_pos21_46 (by decide) ?_
        refine g_aload_n (pc := 49) W8 d_c_pos21_49 rfl rfl ?_
        refine g_iload_n (pc := 50) W8 d_c_pos21_50 rfl ?_
        refine g_laload (pc := 51) (i := 1) (v := .long x0) W8 rfl (by decide) rfl d_c_pos21_51 ?_
        refine g_aload_n (pc := 52) W8 d_c_pos21_52 rfl rfl ?_
        refine g_iload (pc := 53) W8 d_c_pos21_53 rfl ?_
        refine g_laload (pc := 55) (i := 0) (v := .long y1) W8 rfl (by decide) rfl d_c_pos21_55 ?_
        refine g_lcmp (pc := 56) W8 d_c_pos21_56 ?_
        refine g_if_ne 64 (pc := 57) W8 d_c_pos21_57 (by decide) (by decide) (fun c10 => ?_) (fun c10 => ?_)
        · refine g_iconst (pc := 64) (-1 : Int32) (by decide) W8 d_c_pos21_64 ?_
          refine g_iastore (pc := 65) (i := 2) (os' := [(a, (.array .long), [.long y0, .long y1]), (b, (.array .long), [.long x0]), (b1, (.array .int), [.int (-1 : Int32), .int (-1 : Int32)])]) 1 W8 rfl (by decide) (by decide) (Nat.le_of_ble_eq_true rfl) rfl d_c_pos21_65 (fun T11 W12 => ?_)
          refine g_iinc (pc := 66) (ls' := #[.val (.ref a), .val (.ref b), .val (.ref b1), .val (.int (0 : Int32)), .val (.int (2 : Int32))]) (1 : Int32) (by decide) W12 d_c_pos21_66 rfl rfl ?_
          refine g_goto 10 (pc := 69) W12 d_c_pos21_69 (by decide) (by decide) ?_
          refine g_iload (pc := 10) W12 d_c_pos21_10 rfl ?_
          refine g_aload_n (pc := 12) W12 d_c_pos21_12 rfl rfl ?_
          refine g_arraylength (pc := 13) (i := 0) (2 : Int32) W12 rfl rfl d_c_pos21_13 ?_
          refine g_icmpY 72 (pc := 14) W12 d_c_pos21_14 (by decide) (by decide) (by decide) ?_
          refine g_aload_n (pc := 72) W12 d_c_pos21_72 rfl rfl ?_
          exact g_areturn (pc := 73) rfl rfl W12 d_c_pos21_73 (by decide) (by decide) ⟨b1, rfl, by simp only [cl_lt, cl_eq, Int64.lt_iff_toInt_lt, ← Int64.toInt_inj] at c5 c6 c9 c10; have e0 : ex1 y0 x0 x1 x2 = (-1 : Int32) := (by simp only [ex1, cl_eq, ← Int64.toInt_inj]; (repeat' split) <;> first | rfl | (exfalso; omega)); have e1 : ex1 y1 x0 x1 x2 = (-1 : Int32) := (by simp only [ex1, cl_eq, ← Int64.toInt_inj]; (repeat' split) <;> first | rfl | (exfalso; omega)); rw [e0, e1]⟩
        · refine g_iload_n (pc := 60) W8 d_c_pos21_60 rfl ?_
          refine g_goto 65 (pc := 61) W8 d_c_pos21_61 (by decide) (by decide) ?_
          refine g_iastore (pc := 65) (i := 2) (os' := [(a, (.array .long), [.long y0, .long y1]), (b, (.array .long), [.long x0]), (b1, (.array .int), [.int (-1 : Int32), .int (0 : Int32)])]) 1 W8 rfl (by decide) (by decide) (Nat.le_of_ble_eq_true rfl) rfl d_c_pos21_65 (fun T13 W14 => ?_)
          refine g_iinc (pc := 66) (ls' := #[.val (.ref a), .val (.ref b), .val (.ref b1), .val (.int (0 : Int32)), .val (.int (2 : Int32))]) (1 : Int32) (by decide) W14 d_c_pos21_66 rfl rfl ?_
          refine g_goto 10 (pc := 69) W14 d_c_pos21_69 (by decide) (by decide) ?_
          refine g_iload (pc := 10) W14 d_c_pos21_10 rfl ?_
          refine g_aload_n (pc := 12) W14 d_c_pos21_12 rfl rfl ?_
          refine g_arraylength (pc := 13) (i := 0) (2 : Int32) W14 rfl rfl d_c_pos21_13 ?_
          refine g_icmpY 72 (pc := 14) W14 d_c_pos21_14 (by decide) (by decide) (by decide) ?_
          refine g_aload_n (pc := 72) W14 d_c_pos21_72 rfl rfl ?_
          exact g_areturn (pc := 73) rfl rfl W14 d_c_pos21_73 (by decide) (by decide) ⟨b1, rfl, by simp only [cl_lt, cl_eq, Int64.lt_iff_toInt_lt, ← Int64.toInt_inj] at c5 c6 c9 c10; have e0 : ex1 y0 x0 x1 x2 = (-1 : Int32) := (by simp only [ex1, cl_eq, ← Int64.toInt_inj]; (repeat' split) <;> first | rfl | (exfalso; omega)); have e1 : ex1 y1 x0 x1 x2 = (0 : Int32) := (by simp only [ex1, cl_eq, ← Int64.toInt_inj]; (repeat' split) <;> first | rfl | (exfalso; omega)); rw [e0, e1]⟩
      · refine g_iinc (pc := 34) (ls' := #[.val (.ref a), .val (.ref b), .val (.ref b1), .val (.int (1 : Int32)), .val (.int (1 : Int32))]) (1 : Int32) (by decide) W8 d_c_pos21_34 rfl rfl ?_
        refine g_goto 17 (pc := 37) W8 d_c_pos21_37 (by decide) (by decide) ?_
        refine g_iload_n (pc := 17) W8 d_c_pos21_17 rfl ?_
        refine g_aload_n (pc := 18) W8 d_c_pos21_18 rfl rfl ?_
        refine g_arraylength (pc := 19) (i := 1) (1 : Int32) W8 rfl rfl d_c_pos21_19 ?_
        refine g_icmpY 40 (pc := 20) W8 d_c_pos21_20 (by decide) (by decide) (by decide) ?_
        refine g_aload_n (pc := 40) W8 d_c_pos21_40 rfl rfl ?_
        refine g_iload (pc := 41) W8 d_c_pos21_41 rfl ?_
        refine g_iload_n (pc := 43) W8 d_c_pos21_43 rfl ?_
        refine g_aload_n (pc := 44) W8 d_c_pos21_44 rfl rfl ?_
        refine g_arraylength (pc := 45) (i := 1) (1 : Int32) W8 rfl rfl d_c_pos21_45 ?_
        refine g_icmpY 64 (pc := 46) W8 d_c_pos21_46 (by decide) (by decide) (by decide) ?_
        refine g_iconst (pc := 64) (-1 : Int32) (by decide) W8 d_c_pos21_64 ?_
        refine g_iastore (pc := 65) (i := 2) (os' := [(a, (.array .long), [.long y0, .long y1]), (b, (.array .long), [.long x0]), (b1, (.array .int), [.int (-1 : Int32), .int (-1 : Int32)])]) 1 W8 rfl (by decide) (by decide) (Nat.le_of_ble_eq_true rfl) rfl d_c_pos21_65 (fun T15 W16 => ?_)
        refine g_iinc (pc := 66) (ls' := #[.val (.ref a), .val (.ref b), .val (.ref b1), .val (.int (1 : Int32)), .val (.int (2 : Int32))]) (1 : Int32) (by decide) W16 d_c_pos21_66 rfl rfl ?_
        refine g_goto 10 (pc := 69) W16 d_c_pos21_69 (by decide) (by decide) ?_
        refine g_iload (pc := 10) W16 d_c_pos21_10 rfl ?_
        refine g_aload_n (pc := 12) W16 d_c_pos21_12 rfl rfl ?_
        refine g_arraylength (pc := 13) (i := 0) (2 : Int32) W16 rfl rfl d_c_pos21_13 ?_
        refine g_icmpY 72 (pc := 14) W16 d_c_pos21_14 (by decide) (by decide) (by decide) ?_
        refine g_aload_n (pc := 72) W16 d_c_pos21_72 rfl rfl ?_
        exact g_areturn (pc := 73) rfl rfl W16 d_c_pos21_73 (by decide) (by decide) ⟨b1, rfl, by simp only [cl_lt, cl_eq, Int64.lt_iff_toInt_lt, ← Int64.toInt_inj] at c5 c6 c9; have e0 : ex1 y0 x0 x1 x2 = (-1 : Int32) := (by simp only [ex1, cl_eq, ← Int64.toInt_inj]; (repeat' split) <;> first | rfl | (exfalso; omega)); have e1 : ex1 y1 x0 x1 x2 = (-1 : Int32) := (by simp only [ex1, cl_eq, ← Int64.toInt_inj]; (repeat' split) <;> first | rfl | (exfalso; omega)); rw [e0, e1]⟩
    · refine g_iload_n (pc := 60) W4 d_c_pos21_60 rfl ?_
      refine g_goto 65 (pc := 61) W4 d_c_pos21_61 (by decide) (by decide) ?_
      refine g_iastore (pc := 65) (i := 2) (os' := [(a, (.array .long), [.long y0, .long y1]), (b, (.array .long), [.long x0]), (b1, (.array .int), [.int (0 : Int32), .int (0 : Int32)])]) 0 W4 rfl (by decide) (by decide) (Nat.le_of_ble_eq_true rfl) rfl d_c_pos21_65 (fun T17 W18 => ?_)
      refine g_iinc (pc := 66) (ls' := #[.val (.ref a), .val (.ref b), .val (.ref b1), .val (.int (0 : Int32)), .val (.int (1 : Int32))]) (1 : Int32) (by decide) W18 d_c_pos21_66 rfl rfl ?_
      refine g_goto 10 (pc := 69) W18 d_c_pos21_69 (by decide) (by decide) ?_
      refine g_iload (pc := 10) W18 d_c_pos21_10 rfl ?_
      refine g_aload_n (pc := 12) W18 d_c_pos21_12 rfl rfl ?_
      refine g_arraylength (pc := 13) (i := 0) (2 : Int32) W18 rfl rfl d_c_pos21_13 ?_
      refine g_icmpN (pc := 14) W18 d_c_pos21_14 (by decide) ?_
      refine g_iload_n (pc := 17) W18 d_c_pos21_17 rfl ?_
      refine g_aload_n (pc := 18) W18 d_c_pos21_18 rfl rfl ?_
      refine g_arraylength (pc := 19) (i := 1) (1 : Int32) W18 rfl rfl d_c_pos21_19 ?_
      refine g_icmpN (pc := 20) W18 d_c_pos21_20 (by decide) ?_
      refine g_aload_n (pc := 23) W18 d_c_pos21_23 rfl rfl ?_
      refine g_iload_n (pc := 24) W18 d_c_pos21_24 rfl ?_
      refine g_laload (pc := 25) (i := 1) (v := .long x0) W18 rfl (by decide) rfl d_c_pos21_25 ?_
      refine g_aload_n (pc := 26) W18 d_c_pos21_26 rfl rfl ?_
      refine g_iload (pc := 27) W18 d_c_pos21_27 rfl ?_
      refine g_laload (pc := 29) (i := 0) (v := .long y1) W18 rfl (by decide) rfl d_c_pos21_29 ?_
      refine g_lcmp (pc := 30) W18 d_c_pos21_30 ?_
      refine g_if_ge 40 (pc := 31) W18 d_c_pos21_31 (by decide) (by decide) (fun c19 => ?_) (fun c19 => ?_)
      · refine g_aload_n (pc := 40) W18 d_c_pos21_40 rfl rfl ?_
        refine g_iload (pc := 41) W18 d_c_pos21_41 rfl ?_
        refine g_iload_n (pc := 43) W18 d_c_pos21_43 rfl ?_
        refine g_aload_n (pc := 44) W18 d_c_pos21_44 rfl rfl ?_
        refine g_arraylength (pc := 45) (i := 1) (1 : Int32) W18 rfl rfl d_c_pos21_45 ?_
        refine g_icmpN (pc := 46) W18 d_c_pos21_46 (by decide) ?_
        refine g_aload_n (pc := 49) W18 d_c_pos21_49 rfl rfl ?_
        refine g_iload_n (pc := 50) W18 d_c_pos21_50 rfl ?_
        refine g_laload (pc := 51) (i := 1) (v := .long x0) W18 rfl (by decide) rfl d_c_pos21_51 ?_
        refine g_aload_n (pc := 52) W18 d_c_pos21_52 rfl rfl ?_
        refine g_iload (pc := 53) W18 d_c_pos21_53 rfl ?_
        refine g_laload (pc := 55) (i := 0) (v := .long y1) W18 rfl (by decide) rfl d_c_pos21_55 ?_
        refine g_lcmp (pc := 56) W18 d_c_pos21_56 ?_
        refine g_if_ne 64 (pc := 57) W18 d_c_pos21_57 (by decide) (by decide) (fun c20 => ?_) (fun c20 => ?_)
        · refine g_iconst (pc := 64) (-1 : Int32) (by decide) W18 d_c_pos21_64 ?_
          refine g_iastore (pc := 65) (i := 2) (os' := [(a, (.array .long), [.long y0, .long y1]), (b, (.array .long), [.long x0]), (b1, (.array .int), [.int (0 : Int32), .int (-1 : Int32)])]) 1 W18 rfl (by decide) (by decide) (Nat.le_of_ble_eq_true rfl) rfl d_c_pos21_65 (fun T21 W22 => ?_)
          refine g_iinc (pc := 66) (ls' := #[.val (.ref a), .val (.ref b), .val (.ref b1), .val (.int (0 : Int32)), .val (.int (2 : Int32))]) (1 : Int32) (by decide) W22 d_c_pos21_66 rfl rfl ?_
          refine g_goto 10 (pc := 69) W22 d_c_pos21_69 (by decide) (by decide) ?_
          refine g_iload (pc := 10) W22 d_c_pos21_10 rfl ?_
          refine g_aload_n (pc := 12) W22 d_c_pos21_12 rfl rfl ?_
          refine g_arraylength (pc := 13) (i := 0) (2 : Int32) W22 rfl rfl d_c_pos21_13 ?_
          refine g_icmpY 72 (pc := 14) W22 d_c_pos21_14 (by decide) (by decide) (by decide) ?_
          refine g_aload_n (pc := 72) W22 d_c_pos21_72 rfl rfl ?_
          exact g_areturn (pc := 73) rfl rfl W22 d_c_pos21_73 (by decide) (by decide) ⟨b1, rfl, by simp only [cl_lt, cl_eq, Int64.lt_iff_toInt_lt, ← Int64.toInt_inj] at c5 c6 c19 c20; have e0 : ex1 y0 x0 x1 x2 = (0 : Int32) := (by simp only [ex1, cl_eq, ← Int64.toInt_inj]; (repeat' split) <;> first | rfl | (exfalso; omega)); have e1 : ex1 y1 x0 x1 x2 = (-1 : Int32) := (by simp only [ex1, cl_eq, ← Int64.toInt_inj]; (repeat' split) <;> first | rfl | (exfalso; omega)); rw [e0, e1]⟩
        · refine g_iload_n (pc := 60) W18 d_c_pos21_60 rfl ?_
          refine g_goto 65 (pc := 61) W18 d_c_pos21_61 (by decide) (by decide) ?_
          refine g_iastore (pc := 65) (i := 2) (os' := [(a, (.array .long), [.long y0, .long y1]), (b, (.array .long), [.long x0]), (b1, (.array .int), [.int (0 : Int32), .int (0 : Int32)])]) 1 W18 rfl (by decide) (by decide) (Nat.le_of_ble_eq_true rfl) rfl d_c_pos21_65 (fun T23 W24 => ?_)
          refine g_iinc (pc := 66) (ls' := #[.val (.ref a), .val (.ref b), .val (.ref b1), .val (.int (0 : Int32)), .val (.int (2 : Int32))]) (1 : Int32) (by decide) W24 d_c_pos21_66 rfl rfl ?_
          refine g_goto 10 (pc := 69) W24 d_c_pos21_69 (by decide) (by decide) ?_
          refine g_iload (pc := 10) W24 d_c_pos21_10 rfl ?_
          refine g_aload_n (pc := 12) W24 d_c_pos21_12 rfl rfl ?_
          refine g_arraylength (pc := 13) (i := 0) (2 : Int32) W24 rfl rfl d_c_pos21_13 ?_
          refine g_icmpY 72 (pc := 14) W24 d_c_pos21_14 (by decide) (by decide) (by decide) ?_
          refine g_aload_n (pc := 72) W24 d_c_pos21_72 rfl rfl ?_
          exact g_areturn (pc := 73) rfl rfl W24 d_c_pos21_73 (by decide) (by decide) ⟨b1, rfl, by simp only [cl_lt, cl_eq, Int64.lt_iff_toInt_lt, ← Int64.toInt_inj] at c5 c6 c19 c20; have e0 : ex1 y0 x0 x1 x2 = (0 : Int32) := (by simp only [ex1, cl_eq, ← Int64.toInt_inj]; (repeat' split) <;> first | rfl | (exfalso; omega)); have e1 : ex1 y1 x0 x1 x2 = (0 : Int32) := (by simp only [ex1, cl_eq, ← Int64.toInt_inj]; (repeat' split) <;> first | rfl | (exfalso; omega)); rw [e0, e1]⟩
      · refine g_iinc (pc := 34) (ls' := #[.val (.ref a), .val (.ref b), .val (.ref b1), .val (.int (1 : Int32)), .val (.int (1 : Int32))]) (1 : Int32) (by decide) W18 d_c_pos21_34 rfl rfl ?_
        refine g_goto 17 (pc := 37) W18 d_c_pos21_37 (by decide) (by decide) ?_
        refine g_iload_n (pc := 17) W18 d_c_pos21_17 rfl ?_
        refine g_aload_n (pc := 18) W18 d_c_pos21_18 rfl rfl ?_
        refine g_arraylength (pc := 19) (i := 1) (1 : Int32) W18 rfl rfl d_c_pos21_19 ?_
        refine g_icmpY 40 (pc := 20) W18 d_c_pos21_20 (by decide) (by decide) (by decide) ?_
        refine g_aload_n (pc := 40) W18 d_c_pos21_40 rfl rfl ?_
        refine g_iload (pc := 41) W18 d_c_pos21_41 rfl ?_
        refine g_iload_n (pc := 43) W18 d_c_pos21_43 rfl ?_
        refine g_aload_n (pc := 44) W18 d_c_pos21_44 rfl rfl ?_
        refine g_arraylength (pc := 45) (i := 1) (1 : Int32) W18 rfl rfl d_c_pos21_45 ?_
        refine g_icmpY 64 (pc := 46) W18 d_c_pos21_46 (by decide) (by decide) (by decide) ?_
        refine g_iconst (pc := 64) (-1 : Int32) (by decide) W18 d_c_pos21_64 ?_
        refine g_iastore (pc := 65) (i := 2) (os' := [(a, (.array .long), [.long y0, .long y1]), (b, (.array .long), [.long x0]), (b1, (.array .int), [.int (0 : Int32), .int (-1 : Int32)])]) 1 W18 rfl (by decide) (by decide) (Nat.le_of_ble_eq_true rfl) rfl d_c_pos21_65 (fun T25 W26 => ?_)
        refine g_iinc (pc := 66) (ls' := #[.val (.ref a), .val (.ref b), .val (.ref b1), .val (.int (1 : Int32)), .val (.int (2 : Int32))]) (1 : Int32) (by decide) W26 d_c_pos21_66 rfl rfl ?_
        refine g_goto 10 (pc := 69) W26 d_c_pos21_69 (by decide) (by decide) ?_
        refine g_iload (pc := 10) W26 d_c_pos21_10 rfl ?_
        refine g_aload_n (pc := 12) W26 d_c_pos21_12 rfl rfl ?_
        refine g_arraylength (pc := 13) (i := 0) (2 : Int32) W26 rfl rfl d_c_pos21_13 ?_
        refine g_icmpY 72 (pc := 14) W26 d_c_pos21_14 (by decide) (by decide) (by decide) ?_
        refine g_aload_n (pc := 72) W26 d_c_pos21_72 rfl rfl ?_
        exact g_areturn (pc := 73) rfl rfl W26 d_c_pos21_73 (by decide) (by decide) ⟨b1, rfl, by simp only [cl_lt, cl_eq, Int64.lt_iff_toInt_lt, ← Int64.toInt_inj] at c5 c6 c19; have e0 : ex1 y0 x0 x1 x2 = (0 : Int32) := (by simp only [ex1, cl_eq, ← Int64.toInt_inj]; (repeat' split) <;> first | rfl | (exfalso; omega)); have e1 : ex1 y1 x0 x1 x2 = (-1 : Int32) := (by simp only [ex1, cl_eq, ← Int64.toInt_inj]; (repeat' split) <;> first | rfl | (exfalso; omega)); rw [e0, e1]⟩
  · refine g_iinc (pc := 34) (ls' := #[.val (.ref a), .val (.ref b), .val (.ref b1), .val (.int (1 : Int32)), .val (.int (0 : Int32))]) (1 : Int32) (by decide) W4 d_c_pos21_34 rfl rfl ?_
    refine g_goto 17 (pc := 37) W4 d_c_pos21_37 (by decide) (by decide) ?_
    refine g_iload_n (pc := 17) W4 d_c_pos21_17 rfl ?_
    refine g_aload_n (pc := 18) W4 d_c_pos21_18 rfl rfl ?_
    refine g_arraylength (pc := 19) (i := 1) (1 : Int32) W4 rfl rfl d_c_pos21_19 ?_
    refine g_icmpY 40 (pc := 20) W4 d_c_pos21_20 (by decide) (by decide) (by decide) ?_
    refine g_aload_n (pc := 40) W4 d_c_pos21_40 rfl rfl ?_
    refine g_iload (pc := 41) W4 d_c_pos21_41 rfl ?_
    refine g_iload_n (pc := 43) W4 d_c_pos21_43 rfl ?_
    refine g_aload_n (pc := 44) W4 d_c_pos21_44 rfl rfl ?_
    refine g_arraylength (pc := 45) (i := 1) (1 : Int32) W4 rfl rfl d_c_pos21_45 ?_
    refine g_icmpY 64 (pc := 46) W4 d_c_pos21_46 (by decide) (by decide) (by decide) ?_
    refine g_iconst (pc := 64) (-1 : Int32) (by decide) W4 d_c_pos21_64 ?_
    refine g_iastore (pc := 65) (i := 2) (os' := [(a, (.array .long), [.long y0, .long y1]), (b, (.array .long), [.long x0]), (b1, (.array .int), [.int (-1 : Int32), .int (0 : Int32)])]) 0 W4 rfl (by decide) (by decide) (Nat.le_of_ble_eq_true rfl) rfl d_c_pos21_65 (fun T27 W28 => ?_)
    refine g_iinc (pc := 66) (ls' := #[.val (.ref a), .val (.ref b), .val (.ref b1), .val (.int (1 : Int32)), .val (.int (1 : Int32))]) (1 : Int32) (by decide) W28 d_c_pos21_66 rfl rfl ?_
    refine g_goto 10 (pc := 69) W28 d_c_pos21_69 (by decide) (by decide) ?_
    refine g_iload (pc := 10) W28 d_c_pos21_10 rfl ?_
    refine g_aload_n (pc := 12) W28 d_c_pos21_12 rfl rfl ?_
    refine g_arraylength (pc := 13) (i := 0) (2 : Int32) W28 rfl rfl d_c_pos21_13 ?_
    refine g_icmpN (pc := 14) W28 d_c_pos21_14 (by decide) ?_
    refine g_iload_n (pc := 17) W28 d_c_pos21_17 rfl ?_
    refine g_aload_n (pc := 18) W28 d_c_pos21_18 rfl rfl ?_
    refine g_arraylength (pc := 19) (i := 1) (1 : Int32) W28 rfl rfl d_c_pos21_19 ?_
    refine g_icmpY 40 (pc := 20) W28 d_c_pos21_20 (by decide) (by decide) (by decide) ?_
    refine g_aload_n (pc := 40) W28 d_c_pos21_40 rfl rfl ?_
    refine g_iload (pc := 41) W28 d_c_pos21_41 rfl ?_
    refine g_iload_n (pc := 43) W28 d_c_pos21_43 rfl ?_
    refine g_aload_n (pc := 44) W28 d_c_pos21_44 rfl rfl ?_
    refine g_arraylength (pc := 45) (i := 1) (1 : Int32) W28 rfl rfl d_c_pos21_45 ?_
    refine g_icmpY 64 (pc := 46) W28 d_c_pos21_46 (by decide) (by decide) (by decide) ?_
    refine g_iconst (pc := 64) (-1 : Int32) (by decide) W28 d_c_pos21_64 ?_
    refine g_iastore (pc := 65) (i := 2) (os' := [(a, (.array .long), [.long y0, .long y1]), (b, (.array .long), [.long x0]), (b1, (.array .int), [.int (-1 : Int32), .int (-1 : Int32)])]) 1 W28 rfl (by decide) (by decide) (Nat.le_of_ble_eq_true rfl) rfl d_c_pos21_65 (fun T29 W30 => ?_)
    refine g_iinc (pc := 66) (ls' := #[.val (.ref a), .val (.ref b), .val (.ref b1), .val (.int (1 : Int32)), .val (.int (2 : Int32))]) (1 : Int32) (by decide) W30 d_c_pos21_66 rfl rfl ?_
    refine g_goto 10 (pc := 69) W30 d_c_pos21_69 (by decide) (by decide) ?_
    refine g_iload (pc := 10) W30 d_c_pos21_10 rfl ?_
    refine g_aload_n (pc := 12) W30 d_c_pos21_12 rfl rfl ?_
    refine g_arraylength (pc := 13) (i := 0) (2 : Int32) W30 rfl rfl d_c_pos21_13 ?_
    refine g_icmpY 72 (pc := 14) W30 d_c_pos21_14 (by decide) (by decide) (by decide) ?_
    refine g_aload_n (pc := 72) W30 d_c_pos21_72 rfl rfl ?_
    exact g_areturn (pc := 73) rfl rfl W30 d_c_pos21_73 (by decide) (by decide) ⟨b1, rfl, by simp only [cl_lt, cl_eq, Int64.lt_iff_toInt_lt, ← Int64.toInt_inj] at c5; have e0 : ex1 y0 x0 x1 x2 = (-1 : Int32) := (by simp only [ex1, cl_eq, ← Int64.toInt_inj]; (repeat' split) <;> first | rfl | (exfalso; omega)); have e1 : ex1 y1 x0 x1 x2 = (-1 : Int32) := (by simp only [ex1, cl_eq, ← Int64.toInt_inj]; (repeat' split) <;> first | rfl | (exfalso; omega)); rw [e0, e1]⟩
theorem d_c_pos22_0 : decode prog_15_method_2_code 0 = .ok (.aload_n 0, 1) := by decide +kernel
theorem d_c_pos22_1 : decode prog_15_method_2_code 1 = .ok (.arraylength, 1) := by decide +kernel
theorem d_c_pos22_2 : decode prog_15_method_2_code 2 = .ok (.newarray .int, 2) := by decide +kernel
theorem d_c_pos22_4 : decode prog_15_method_2_code 4 = .ok (.astore_n 2, 1) := by decide +kernel
theorem d_c_pos22_5 : decode prog_15_method_2_code 5 = .ok (.iconst 0, 1) := by decide +kernel
theorem d_c_pos22_6 : decode prog_15_method_2_code 6 = .ok (.istore_n 3, 1) := by decide +kernel
theorem d_c_pos22_7 : decode prog_15_method_2_code 7 = .ok (.iconst 0, 1) := by decide +kernel
theorem d_c_pos22_8 : decode prog_15_method_2_code 8 = .ok (.istore 4, 2) := by decide +kernel
theorem d_c_pos22_10 : decode prog_15_method_2_code 10 = .ok (.iload 4, 2) := by decide +kernel
theorem d_c_pos22_12 : decode prog_15_method_2_code 12 = .ok (.aload_n 0, 1) := by decide +kernel
theorem d_c_pos22_13 : decode prog_15_method_2_code 13 = .ok (.arraylength, 1) := by decide +kernel
theorem d_c_pos22_14 : decode prog_15_method_2_code 14 = .ok (.if_icmp .ge 58, 3) := by decide +kernel
theorem d_c_pos22_17 : decode prog_15_method_2_code 17 = .ok (.iload_n 3, 1) := by decide +kernel
theorem d_c_pos22_18 : decode prog_15_method_2_code 18 = .ok (.aload_n 1, 1) := by decide +kernel
theorem d_c_pos22_19 : decode prog_15_method_2_code 19 = .ok (.arraylength, 1) := by decide +kernel
theorem d_c_pos22_20 : decode prog_15_method_2_code 20 = .ok (.if_icmp .ge 20, 3) := by decide +kernel
theorem d_c_pos22_23 : decode prog_15_method_2_code 23 = .ok (.aload_n 1, 1) := by decide +kernel
theorem d_c_pos22_24 : decode prog_15_method_2_code 24 = .ok (.iload_n 3, 1) := by decide +kernel
theorem d_c_pos22_25 : decode prog_15_method_2_code 25 = .ok (.laload, 1) := by decide +kernel
theorem d_c_pos22_26 : decode prog_15_method_2_code 26 = .ok (.aload_n 0, 1) := by decide +kernel
theorem d_c_pos22_27 : decode prog_15_method_2_code 27 = .ok (.iload 4, 2) := by decide +kernel
theorem d_c_pos22_29 : decode prog_15_method_2_code 29 = .ok (.laload, 1) := by decide +kernel
theorem d_c_pos22_30 : decode prog_15_method_2_code 30 = .ok (.lcmp, 1) := by decide +kernel
theorem d_c_pos22_31 : decode prog_15_method_2_code 31 = .ok (.ifCond .ge 9, 3) := by decide +kernel
theorem d_c_pos22_34 : decode prog_15_method_2_code 34 = .ok (.iinc 3 1, 3) := by decide +kernel
theorem d_c_pos22_37 : decode prog_15_method_2_code 37 = .ok (.goto (-20), 3) := by decide +kernel
theorem d_c_pos22_40 : decode prog_15_method_2_code 40 = .ok (.aload_n 2, 1) := by decide +kernel
theorem d_c_pos22_41 : decode prog_15_method_2_code 41 = .ok (.iload 4, 2) := by decide +kernel
theorem d_c_pos22_43 : decode prog_15_method_2_code 43 = .ok (.iload_n 3, 1) := by decide +kernel
theorem d_c_pos22_44 : decode prog_15_method_2_code 44 = .ok (.aload_n 1, 1) := by decide +kernel
theorem d_c_pos22_45 : decode prog_15_method_2_code 45 = .ok (.arraylength, 1) := by decide +kernel
theorem d_c_pos22_46 : decode prog_15_method_2_code 46 = .ok (.if_icmp .ge 18, 3) := by decide +kernel
theorem d_c_pos22_49 : decode prog_15_method_2_code 49 = .ok (.aload_n 1, 1) := by decide +kernel
theorem d_c_pos22_50 : decode prog_15_method_2_code 50 = .ok (.iload_n 3, 1) := by decide +kernel
theorem d_c_pos22_51 : decode prog_15_method_2_code 51 = .ok (.laload, 1) := by decide +kernel
theorem d_c_pos22_52 : decode prog_15_method_2_code 52 = .ok (.aload_n 0, 1) := by decide +kernel
theorem d_c_pos22_53 : decode prog_15_method_2_code 53 = .ok (.iload 4, 2) := by decide +kernel
theorem d_c_pos22_55 : decode prog_15_method_2_code 55 = .ok (.laload, 1) := by decide +kernel
theorem d_c_pos22_56 : decode prog_15_method_2_code 56 = .ok (.lcmp, 1) := by decide +kernel
theorem d_c_pos22_57 : decode prog_15_method_2_code 57 = .ok (.ifCond .ne 7, 3) := by decide +kernel
theorem d_c_pos22_60 : decode prog_15_method_2_code 60 = .ok (.iload_n 3, 1) := by decide +kernel
theorem d_c_pos22_61 : decode prog_15_method_2_code 61 = .ok (.goto 4, 3) := by decide +kernel
theorem d_c_pos22_64 : decode prog_15_method_2_code 64 = .ok (.iconst (-1), 1) := by decide +kernel
theorem d_c_pos22_65 : decode prog_15_method_2_code 65 = .ok (.iastore, 1) := by decide +kernel
theorem d_c_pos22_66 : decode prog_15_method_2_code 66 = .ok (.iinc 4 1, 3) := by decide +kernel
theorem d_c_pos22_69 : decode prog_15_method_2_code 69 = .ok (.goto (-59), 3) := by decide +kernel
theorem d_c_pos22_72 : decode prog_15_method_2_code 72 = .ok (.aload_n 2, 1) := by decide +kernel
theorem d_c_pos22_73 : decode prog_15_method_2_code 73 = .ok (.areturn, 1) := by decide +kernel
set_option maxRecDepth 65536 in
set_option maxHeartbeats 40000000 in
theorem c_pos22 (l : Launch) (Z : State) (a0 : Array Value) (hw : ∀ d ∈ tables_1, d.before a0 Z = true) {B : Nat} (a b : Addr) (y0 y1 x0 x1 x2 : Int64) (hx0 : x0.toInt < x1.toInt) (hy : y0.toInt < y1.toInt) :
    Con l Z FM B (⟨"com/example/rover/rover/broker/Ids", "positions", "([J[J)[I"⟩ : MethodName) prog_15_method_2_code 5 (some (.array .int)) ({ frames := 0, cells := 1, slots := 2, locals := 0 } : Room) [] #[.ref a, .ref b] [(a, (.array .long), [.long y0, .long y1]), (b, (.array .long), [.long x0, .long x1])] (fun v os => ∃ r, v = some (.ref r) ∧ os = [(a, (.array .long), [.long y0, .long y1]), (b, (.array .long), [.long x0, .long x1]), (r, .array .int, [.int (ex2 y0 x0 x1 x2), .int (ex2 y1 x0 x1 x2)])]) := by
  refine Con.of (plainFor_of_name (by first | (simp [plainName, overriddenIn]; done) | decide +kernel)) (ls := #[.val (.ref a), .val (.ref b), .unset, .unset, .unset]) (fun m => by first | (simp [entryFrame, mkF, argsToLocals, Value.category]; done) | rfl) ?_
  intro p_ e_ h_ s_ m_ bl_ me_ c_ T0 W0
  refine g_aload_n (pc := 0) W0 d_c_pos22_0 rfl rfl ?_
  refine g_arraylength (pc := 1) (i := 0) (2 : Int32) W0 rfl rfl d_c_pos22_1 ?_
  refine g_newarray (pc := 2) (ty := .int) (vs := [.int (0 : Int32), .int (0 : Int32)]) 2 W0 (hw _ (List.mem_of_getElem? (i := 16) rfl)) rfl (by decide) (by decide) (by decide) rfl d_c_pos22_2 (by decide) (by decide) (fun T2 b1 W3 => ?_)
  have W4 := W3.re (os' := [(a, (.array .long), [.long y0, .long y1]), (b, (.array .long), [.long x0, .long x1]), (b1, (.array .int), [.int (0 : Int32), .int (0 : Int32)])]) rfl
  refine g_astore_n (pc := 4) (ls' := #[.val (.ref a), .val (.ref b), .val (.ref b1), .unset, .unset]) W4 d_c_pos22_4 rfl rfl ?_
  refine g_iconst (pc := 5) (0 : Int32) (by decide) W4 d_c_pos22_5 ?_
  refine g_istore_n (pc := 6) (ls' := #[.val (.ref a), .val (.ref b), .val (.ref b1), .val (.int (0 : Int32)), .unset]) W4 d_c_pos22_6 rfl ?_
  refine g_iconst (pc := 7) (0 : Int32) (by decide) W4 d_c_pos22_7 ?_
  refine g_istore (pc := 8) (ls' := #[.val (.ref a), .val (.ref b), .val (.ref b1), .val (.int (0 : Int32)), .val (.int (0 : Int32))]) W4 d_c_pos22_8 rfl ?_
  refine g_iload (pc := 10) W4 d_c_pos22_10 rfl ?_
  refine g_aload_n (pc := 12) W4 d_c_pos22_12 rfl rfl ?_
  refine g_arraylength (pc := 13) (i := 0) (2 : Int32) W4 rfl rfl d_c_pos22_13 ?_
  refine g_icmpN (pc := 14) W4 d_c_pos22_14 (by decide) ?_
  refine g_iload_n (pc := 17) W4 d_c_pos22_17 rfl ?_
  refine g_aload_n (pc := 18) W4 d_c_pos22_18 rfl rfl ?_
  refine g_arraylength (pc := 19) (i := 1) (2 : Int32) W4 rfl rfl d_c_pos22_19 ?_
  refine g_icmpN (pc := 20) W4 d_c_pos22_20 (by decide) ?_
  refine g_aload_n (pc := 23) W4 d_c_pos22_23 rfl rfl ?_
  refine g_iload_n (pc := 24) W4 d_c_pos22_24 rfl ?_
  refine g_laload (pc := 25) (i := 1) (v := .long x0) W4 rfl (by decide) rfl d_c_pos22_25 ?_
  refine g_aload_n (pc := 26) W4 d_c_pos22_26 rfl rfl ?_
  refine g_iload (pc := 27) W4 d_c_pos22_27 rfl ?_
  refine g_laload (pc := 29) (i := 0) (v := .long y0) W4 rfl (by decide) rfl d_c_pos22_29 ?_
  refine g_lcmp (pc := 30) W4 d_c_pos22_30 ?_
  refine g_if_ge 40 (pc := 31) W4 d_c_pos22_31 (by decide) (by decide) (fun c5 => ?_) (fun c5 => ?_)
  · refine g_aload_n (pc := 40) W4 d_c_pos22_40 rfl rfl ?_
    refine g_iload (pc := 41) W4 d_c_pos22_41 rfl ?_
    refine g_iload_n (pc := 43) W4 d_c_pos22_43 rfl ?_
    refine g_aload_n (pc := 44) W4 d_c_pos22_44 rfl rfl ?_
    refine g_arraylength (pc := 45) (i := 1) (2 : Int32) W4 rfl rfl d_c_pos22_45 ?_
    refine g_icmpN (pc := 46) W4 d_c_pos22_46 (by decide) ?_
    refine g_aload_n (pc := 49) W4 d_c_pos22_49 rfl rfl ?_
    refine g_iload_n (pc := 50) W4 d_c_pos22_50 rfl ?_
    refine g_laload (pc := 51) (i := 1) (v := .long x0) W4 rfl (by decide) rfl d_c_pos22_51 ?_
    refine g_aload_n (pc := 52) W4 d_c_pos22_52 rfl rfl ?_
    refine g_iload (pc := 53) W4 d_c_pos22_53 rfl ?_
    refine g_laload (pc := 55) (i := 0) (v := .long y0) W4 rfl (by decide) rfl d_c_pos22_55 ?_
    refine g_lcmp (pc := 56) W4 d_c_pos22_56 ?_
    refine g_if_ne 64 (pc := 57) W4 d_c_pos22_57 (by decide) (by decide) (fun c6 => ?_) (fun c6 => ?_)
    · refine g_iconst (pc := 64) (-1 : Int32) (by decide) W4 d_c_pos22_64 ?_
      refine g_iastore (pc := 65) (i := 2) (os' := [(a, (.array .long), [.long y0, .long y1]), (b, (.array .long), [.long x0, .long x1]), (b1, (.array .int), [.int (-1 : Int32), .int (0 : Int32)])]) 0 W4 rfl (by decide) (by decide) (Nat.le_of_ble_eq_true rfl) rfl d_c_pos22_65 (fun T7 W8 => ?_)
      refine g_iinc (pc := 66) (ls' := #[.val (.ref a), .val (.ref b), .val (.ref b1), .val (.int (0 : Int32)), .val (.int (1 : Int32))]) (1 : Int32) (by decide) W8 d_c_pos22_66 rfl rfl ?_
      refine g_goto 10 (pc := 69) W8 d_c_pos22_69 (by decide) (by decide) ?_
      refine g_iload (pc := 10) W8 d_c_pos22_10 rfl ?_
      refine g_aload_n (pc := 12) W8 d_c_pos22_12 rfl rfl ?_
      refine g_arraylength (pc := 13) (i := 0) (2 : Int32) W8 rfl rfl d_c_pos22_13 ?_
      refine g_icmpN (pc := 14) W8 d_c_pos22_14 (by decide) ?_
      refine g_iload_n (pc := 17) W8 d_c_pos22_17 rfl ?_
      refine g_aload_n (pc := 18) W8 d_c_pos22_18 rfl rfl ?_
      refine g_arraylength (pc := 19) (i := 1) (2 : Int32) W8 rfl rfl d_c_pos22_19 ?_
      refine g_icmpN (pc := 20) W8 d_c_pos22_20 (by decide) ?_
      refine g_aload_n (pc := 23) W8 d_c_pos22_23 rfl rfl ?_
      refine g_iload_n (pc := 24) W8 d_c_pos22_24 rfl ?_
      refine g_laload (pc := 25) (i := 1) (v := .long x0) W8 rfl (by decide) rfl d_c_pos22_25 ?_
      refine g_aload_n (pc := 26) W8 d_c_pos22_26 rfl rfl ?_
      refine g_iload (pc := 27) W8 d_c_pos22_27 rfl ?_
      refine g_laload (pc := 29) (i := 0) (v := .long y1) W8 rfl (by decide) rfl d_c_pos22_29 ?_
      refine g_lcmp (pc := 30) W8 d_c_pos22_30 ?_
      refine g_if_ge 40 (pc := 31) W8 d_c_pos22_31 (by decide) (by decide) (fun c9 => ?_) (fun c9 => ?_)
      · refine g_aload_n (pc := 40) W8 d_c_pos22_40 rfl rfl ?_
        refine g_iload (pc := 41) W8 d_c_pos22_41 rfl ?_
        refine g_iload_n (pc := 43) W8 d_c_pos22_43 rfl ?_
        refine g_aload_n (pc := 44) W8 d_c_pos22_44 rfl rfl ?_
        refine g_arraylength (pc := 45) (i := 1) (2 : Int32) W8 rfl rfl d_c_pos22_45 ?_
        refine g_icmpN (pc := 46) W8 d_c_pos22_46 (by decide) ?_
        refine g_aload_n (pc := 49) W8 d_c_pos22_49 rfl rfl ?_
        refine g_iload_n (pc := 50) W8 d_c_pos22_50 rfl ?_
        refine g_laload (pc := 51) (i := 1) (v := .long x0) W8 rfl (by decide) rfl d_c_pos22_51 ?_
        refine g_aload_n (pc := 52) W8 d_c_pos22_52 rfl rfl ?_
        refine g_iload (pc := 53) W8 d_c_pos22_53 rfl ?_
        refine g_laload (pc := 55) (i := 0) (v := .long y1) W8 rfl (by decide) rfl d_c_pos22_55 ?_
        refine g_lcmp (pc := 56) W8 d_c_pos22_56 ?_
        refine g_if_ne 64 (pc := 57) W8 d_c_pos22_57 (by decide) (by decide) (fun c10 => ?_) (fun c10 => ?_)
        · refine g_iconst (pc := 64) (-1 : Int32) (by decide) W8 d_c_pos22_64 ?_
          refine g_iastore (pc := 65) (i := 2) (os' := [(a, (.array .long), [.long y0, .long y1]), (b, (.array .long), [.long x0, .long x1]), (b1, (.array .int), [.int (-1 : Int32), .int (-1 : Int32)])]) 1 W8 rfl (by decide) (by decide) (Nat.le_of_ble_eq_true rfl) rfl d_c_pos22_65 (fun T11 W12 => ?_)
          refine g_iinc (pc := 66) (ls' := #[.val (.ref a), .val (.ref b), .val (.ref b1), .val (.int (0 : Int32)), .val (.int (2 : Int32))]) (1 : Int32) (by decide) W12 d_c_pos22_66 rfl rfl ?_
          refine g_goto 10 (pc := 69) W12 d_c_pos22_69 (by decide) (by decide) ?_
          refine g_iload (pc := 10) W12 d_c_pos22_10 rfl ?_
          refine g_aload_n (pc := 12) W12 d_c_pos22_12 rfl rfl ?_
          refine g_arraylength (pc := 13) (i := 0) (2 : Int32) W12 rfl rfl d_c_pos22_13 ?_
          refine g_icmpY 72 (pc := 14) W12 d_c_pos22_14 (by decide) (by decide) (by decide) ?_
          refine g_aload_n (pc := 72) W12 d_c_pos22_72 rfl rfl ?_
          exact g_areturn (pc := 73) rfl rfl W12 d_c_pos22_73 (by decide) (by decide) ⟨b1, rfl, by simp only [cl_lt, cl_eq, Int64.lt_iff_toInt_lt, ← Int64.toInt_inj] at c5 c6 c9 c10; have e0 : ex2 y0 x0 x1 x2 = (-1 : Int32) := (by simp only [ex2, cl_eq, ← Int64.toInt_inj]; (repeat' split) <;> first | rfl | (exfalso; omega)); have e1 : ex2 y1 x0 x1 x2 = (-1 : Int32) := (by simp only [ex2, cl_eq, ← Int64.toInt_inj]; (repeat' split) <;> first | rfl | (exfalso; omega)); rw [e0, e1]⟩
        · refine g_iload_n (pc := 60) W8 d_c_pos22_60 rfl ?_
          refine g_goto 65 (pc := 61) W8 d_c_pos22_61 (by decide) (by decide) ?_
          refine g_iastore (pc := 65) (i := 2) (os' := [(a, (.array .long), [.long y0, .long y1]), (b, (.array .long), [.long x0, .long x1]), (b1, (.array .int), [.int (-1 : Int32), .int (0 : Int32)])]) 1 W8 rfl (by decide) (by decide) (Nat.le_of_ble_eq_true rfl) rfl d_c_pos22_65 (fun T13 W14 => ?_)
          refine g_iinc (pc := 66) (ls' := #[.val (.ref a), .val (.ref b), .val (.ref b1), .val (.int (0 : Int32)), .val (.int (2 : Int32))]) (1 : Int32) (by decide) W14 d_c_pos22_66 rfl rfl ?_
          refine g_goto 10 (pc := 69) W14 d_c_pos22_69 (by decide) (by decide) ?_
          refine g_iload (pc := 10) W14 d_c_pos22_10 rfl ?_
          refine g_aload_n (pc := 12) W14 d_c_pos22_12 rfl rfl ?_
          refine g_arraylength (pc := 13) (i := 0) (2 : Int32) W14 rfl rfl d_c_pos22_13 ?_
          refine g_icmpY 72 (pc := 14) W14 d_c_pos22_14 (by decide) (by decide) (by decide) ?_
          refine g_aload_n (pc := 72) W14 d_c_pos22_72 rfl rfl ?_
          exact g_areturn (pc := 73) rfl rfl W14 d_c_pos22_73 (by decide) (by decide) ⟨b1, rfl, by simp only [cl_lt, cl_eq, Int64.lt_iff_toInt_lt, ← Int64.toInt_inj] at c5 c6 c9 c10; have e0 : ex2 y0 x0 x1 x2 = (-1 : Int32) := (by simp only [ex2, cl_eq, ← Int64.toInt_inj]; (repeat' split) <;> first | rfl | (exfalso; omega)); have e1 : ex2 y1 x0 x1 x2 = (0 : Int32) := (by simp only [ex2, cl_eq, ← Int64.toInt_inj]; (repeat' split) <;> first | rfl | (exfalso; omega)); rw [e0, e1]⟩
      · refine g_iinc (pc := 34) (ls' := #[.val (.ref a), .val (.ref b), .val (.ref b1), .val (.int (1 : Int32)), .val (.int (1 : Int32))]) (1 : Int32) (by decide) W8 d_c_pos22_34 rfl rfl ?_
        refine g_goto 17 (pc := 37) W8 d_c_pos22_37 (by decide) (by decide) ?_
        refine g_iload_n (pc := 17) W8 d_c_pos22_17 rfl ?_
        refine g_aload_n (pc := 18) W8 d_c_pos22_18 rfl rfl ?_
        refine g_arraylength (pc := 19) (i := 1) (2 : Int32) W8 rfl rfl d_c_pos22_19 ?_
        refine g_icmpN (pc := 20) W8 d_c_pos22_20 (by decide) ?_
        refine g_aload_n (pc := 23) W8 d_c_pos22_23 rfl rfl ?_
        refine g_iload_n (pc := 24) W8 d_c_pos22_24 rfl ?_
        refine g_laload (pc := 25) (i := 1) (v := .long x1) W8 rfl (by decide) rfl d_c_pos22_25 ?_
        refine g_aload_n (pc := 26) W8 d_c_pos22_26 rfl rfl ?_
        refine g_iload (pc := 27) W8 d_c_pos22_27 rfl ?_
        refine g_laload (pc := 29) (i := 0) (v := .long y1) W8 rfl (by decide) rfl d_c_pos22_29 ?_
        refine g_lcmp (pc := 30) W8 d_c_pos22_30 ?_
        refine g_if_ge 40 (pc := 31) W8 d_c_pos22_31 (by decide) (by decide) (fun c15 => ?_) (fun c15 => ?_)
        · refine g_aload_n (pc := 40) W8 d_c_pos22_40 rfl rfl ?_
          refine g_iload (pc := 41) W8 d_c_pos22_41 rfl ?_
          refine g_iload_n (pc := 43) W8 d_c_pos22_43 rfl ?_
          refine g_aload_n (pc := 44) W8 d_c_pos22_44 rfl rfl ?_
          refine g_arraylength (pc := 45) (i := 1) (2 : Int32) W8 rfl rfl d_c_pos22_45 ?_
          refine g_icmpN (pc := 46) W8 d_c_pos22_46 (by decide) ?_
          refine g_aload_n (pc := 49) W8 d_c_pos22_49 rfl rfl ?_
          refine g_iload_n (pc := 50) W8 d_c_pos22_50 rfl ?_
          refine g_laload (pc := 51) (i := 1) (v := .long x1) W8 rfl (by decide) rfl d_c_pos22_51 ?_
          refine g_aload_n (pc := 52) W8 d_c_pos22_52 rfl rfl ?_
          refine g_iload (pc := 53) W8 d_c_pos22_53 rfl ?_
          refine g_laload (pc := 55) (i := 0) (v := .long y1) W8 rfl (by decide) rfl d_c_pos22_55 ?_
          refine g_lcmp (pc := 56) W8 d_c_pos22_56 ?_
          refine g_if_ne 64 (pc := 57) W8 d_c_pos22_57 (by decide) (by decide) (fun c16 => ?_) (fun c16 => ?_)
          · refine g_iconst (pc := 64) (-1 : Int32) (by decide) W8 d_c_pos22_64 ?_
            refine g_iastore (pc := 65) (i := 2) (os' := [(a, (.array .long), [.long y0, .long y1]), (b, (.array .long), [.long x0, .long x1]), (b1, (.array .int), [.int (-1 : Int32), .int (-1 : Int32)])]) 1 W8 rfl (by decide) (by decide) (Nat.le_of_ble_eq_true rfl) rfl d_c_pos22_65 (fun T17 W18 => ?_)
            refine g_iinc (pc := 66) (ls' := #[.val (.ref a), .val (.ref b), .val (.ref b1), .val (.int (1 : Int32)), .val (.int (2 : Int32))]) (1 : Int32) (by decide) W18 d_c_pos22_66 rfl rfl ?_
            refine g_goto 10 (pc := 69) W18 d_c_pos22_69 (by decide) (by decide) ?_
            refine g_iload (pc := 10) W18 d_c_pos22_10 rfl ?_
            refine g_aload_n (pc := 12) W18 d_c_pos22_12 rfl rfl ?_
            refine g_arraylength (pc := 13) (i := 0) (2 : Int32) W18 rfl rfl d_c_pos22_13 ?_
            refine g_icmpY 72 (pc := 14) W18 d_c_pos22_14 (by decide) (by decide) (by decide) ?_
            refine g_aload_n (pc := 72) W18 d_c_pos22_72 rfl rfl ?_
            exact g_areturn (pc := 73) rfl rfl W18 d_c_pos22_73 (by decide) (by decide) ⟨b1, rfl, by simp only [cl_lt, cl_eq, Int64.lt_iff_toInt_lt, ← Int64.toInt_inj] at c5 c6 c9 c15 c16; have e0 : ex2 y0 x0 x1 x2 = (-1 : Int32) := (by simp only [ex2, cl_eq, ← Int64.toInt_inj]; (repeat' split) <;> first | rfl | (exfalso; omega)); have e1 : ex2 y1 x0 x1 x2 = (-1 : Int32) := (by simp only [ex2, cl_eq, ← Int64.toInt_inj]; (repeat' split) <;> first | rfl | (exfalso; omega)); rw [e0, e1]⟩
          · refine g_iload_n (pc := 60) W8 d_c_pos22_60 rfl ?_
            refine g_goto 65 (pc := 61) W8 d_c_pos22_61 (by decide) (by decide) ?_
            refine g_iastore (pc := 65) (i := 2) (os' := [(a, (.array .long), [.long y0, .long y1]), (b, (.array .long), [.long x0, .long x1]), (b1, (.array .int), [.int (-1 : Int32), .int (1 : Int32)])]) 1 W8 rfl (by decide) (by decide) (Nat.le_of_ble_eq_true rfl) rfl d_c_pos22_65 (fun T19 W20 => ?_)
            refine g_iinc (pc := 66) (ls' := #[.val (.ref a), .val (.ref b), .val (.ref b1), .val (.int (1 : Int32)), .val (.int (2 : Int32))]) (1 : Int32) (by decide) W20 d_c_pos22_66 rfl rfl ?_
            refine g_goto 10 (pc := 69) W20 d_c_pos22_69 (by decide) (by decide) ?_
            refine g_iload (pc := 10) W20 d_c_pos22_10 rfl ?_
            refine g_aload_n (pc := 12) W20 d_c_pos22_12 rfl rfl ?_
            refine g_arraylength (pc := 13) (i := 0) (2 : Int32) W20 rfl rfl d_c_pos22_13 ?_
            refine g_icmpY 72 (pc := 14) W20 d_c_pos22_14 (by decide) (by decide) (by decide) ?_
            refine g_aload_n (pc := 72) W20 d_c_pos22_72 rfl rfl ?_
            exact g_areturn (pc := 73) rfl rfl W20 d_c_pos22_73 (by decide) (by decide) ⟨b1, rfl, by simp only [cl_lt, cl_eq, Int64.lt_iff_toInt_lt, ← Int64.toInt_inj] at c5 c6 c9 c15 c16; have e0 : ex2 y0 x0 x1 x2 = (-1 : Int32) := (by simp only [ex2, cl_eq, ← Int64.toInt_inj]; (repeat' split) <;> first | rfl | (exfalso; omega)); have e1 : ex2 y1 x0 x1 x2 = (1 : Int32) := (by simp only [ex2, cl_eq, ← Int64.toInt_inj]; (repeat' split) <;> first | rfl | (exfalso; omega)); rw [e0, e1]⟩
        · refine g_iinc (pc := 34) (ls' := #[.val (.ref a), .val (.ref b), .val (.ref b1), .val (.int (2 : Int32)), .val (.int (1 : Int32))]) (1 : Int32) (by decide) W8 d_c_pos22_34 rfl rfl ?_
          refine g_goto 17 (pc := 37) W8 d_c_pos22_37 (by decide) (by decide) ?_
          refine g_iload_n (pc := 17) W8 d_c_pos22_17 rfl ?_
          refine g_aload_n (pc := 18) W8 d_c_pos22_18 rfl rfl ?_
          refine g_arraylength (pc := 19) (i := 1) (2 : Int32) W8 rfl rfl d_c_pos22_19 ?_
          refine g_icmpY 40 (pc := 20) W8 d_c_pos22_20 (by decide) (by decide) (by decide) ?_
          refine g_aload_n (pc := 40) W8 d_c_pos22_40 rfl rfl ?_
          refine g_iload (pc := 41) W8 d_c_pos22_41 rfl ?_
          refine g_iload_n (pc := 43) W8 d_c_pos22_43 rfl ?_
          refine g_aload_n (pc := 44) W8 d_c_pos22_44 rfl rfl ?_
          refine g_arraylength (pc := 45) (i := 1) (2 : Int32) W8 rfl rfl d_c_pos22_45 ?_
          refine g_icmpY 64 (pc := 46) W8 d_c_pos22_46 (by decide) (by decide) (by decide) ?_
          refine g_iconst (pc := 64) (-1 : Int32) (by decide) W8 d_c_pos22_64 ?_
          refine g_iastore (pc := 65) (i := 2) (os' := [(a, (.array .long), [.long y0, .long y1]), (b, (.array .long), [.long x0, .long x1]), (b1, (.array .int), [.int (-1 : Int32), .int (-1 : Int32)])]) 1 W8 rfl (by decide) (by decide) (Nat.le_of_ble_eq_true rfl) rfl d_c_pos22_65 (fun T21 W22 => ?_)
          refine g_iinc (pc := 66) (ls' := #[.val (.ref a), .val (.ref b), .val (.ref b1), .val (.int (2 : Int32)), .val (.int (2 : Int32))]) (1 : Int32) (by decide) W22 d_c_pos22_66 rfl rfl ?_
          refine g_goto 10 (pc := 69) W22 d_c_pos22_69 (by decide) (by decide) ?_
          refine g_iload (pc := 10) W22 d_c_pos22_10 rfl ?_
          refine g_aload_n (pc := 12) W22 d_c_pos22_12 rfl rfl ?_
          refine g_arraylength (pc := 13) (i := 0) (2 : Int32) W22 rfl rfl d_c_pos22_13 ?_
          refine g_icmpY 72 (pc := 14) W22 d_c_pos22_14 (by decide) (by decide) (by decide) ?_
          refine g_aload_n (pc := 72) W22 d_c_pos22_72 rfl rfl ?_
          exact g_areturn (pc := 73) rfl rfl W22 d_c_pos22_73 (by decide) (by decide) ⟨b1, rfl, by simp only [cl_lt, cl_eq, Int64.lt_iff_toInt_lt, ← Int64.toInt_inj] at c5 c6 c9 c15; have e0 : ex2 y0 x0 x1 x2 = (-1 : Int32) := (by simp only [ex2, cl_eq, ← Int64.toInt_inj]; (repeat' split) <;> first | rfl | (exfalso; omega)); have e1 : ex2 y1 x0 x1 x2 = (-1 : Int32) := (by simp only [ex2, cl_eq, ← Int64.toInt_inj]; (repeat' split) <;> first | rfl | (exfalso; omega)); rw [e0, e1]⟩
    · refine g_iload_n (pc := 60) W4 d_c_pos22_60 rfl ?_
      refine g_goto 65 (pc := 61) W4 d_c_pos22_61 (by decide) (by decide) ?_
      refine g_iastore (pc := 65) (i := 2) (os' := [(a, (.array .long), [.long y0, .long y1]), (b, (.array .long), [.long x0, .long x1]), (b1, (.array .int), [.int (0 : Int32), .int (0 : Int32)])]) 0 W4 rfl (by decide) (by decide) (Nat.le_of_ble_eq_true rfl) rfl d_c_pos22_65 (fun T23 W24 => ?_)
      refine g_iinc (pc := 66) (ls' := #[.val (.ref a), .val (.ref b), .val (.ref b1), .val (.int (0 : Int32)), .val (.int (1 : Int32))]) (1 : Int32) (by decide) W24 d_c_pos22_66 rfl rfl ?_
      refine g_goto 10 (pc := 69) W24 d_c_pos22_69 (by decide) (by decide) ?_
      refine g_iload (pc := 10) W24 d_c_pos22_10 rfl ?_
      refine g_aload_n (pc := 12) W24 d_c_pos22_12 rfl rfl ?_
      refine g_arraylength (pc := 13) (i := 0) (2 : Int32) W24 rfl rfl d_c_pos22_13 ?_
      refine g_icmpN (pc := 14) W24 d_c_pos22_14 (by decide) ?_
      refine g_iload_n (pc := 17) W24 d_c_pos22_17 rfl ?_
      refine g_aload_n (pc := 18) W24 d_c_pos22_18 rfl rfl ?_
      refine g_arraylength (pc := 19) (i := 1) (2 : Int32) W24 rfl rfl d_c_pos22_19 ?_
      refine g_icmpN (pc := 20) W24 d_c_pos22_20 (by decide) ?_
      refine g_aload_n (pc := 23) W24 d_c_pos22_23 rfl rfl ?_
      refine g_iload_n (pc := 24) W24 d_c_pos22_24 rfl ?_
      refine g_laload (pc := 25) (i := 1) (v := .long x0) W24 rfl (by decide) rfl d_c_pos22_25 ?_
      refine g_aload_n (pc := 26) W24 d_c_pos22_26 rfl rfl ?_
      refine g_iload (pc := 27) W24 d_c_pos22_27 rfl ?_
      refine g_laload (pc := 29) (i := 0) (v := .long y1) W24 rfl (by decide) rfl d_c_pos22_29 ?_
      refine g_lcmp (pc := 30) W24 d_c_pos22_30 ?_
      refine g_if_ge 40 (pc := 31) W24 d_c_pos22_31 (by decide) (by decide) (fun c25 => ?_) (fun c25 => ?_)
      · refine g_aload_n (pc := 40) W24 d_c_pos22_40 rfl rfl ?_
        refine g_iload (pc := 41) W24 d_c_pos22_41 rfl ?_
        refine g_iload_n (pc := 43) W24 d_c_pos22_43 rfl ?_
        refine g_aload_n (pc := 44) W24 d_c_pos22_44 rfl rfl ?_
        refine g_arraylength (pc := 45) (i := 1) (2 : Int32) W24 rfl rfl d_c_pos22_45 ?_
        refine g_icmpN (pc := 46) W24 d_c_pos22_46 (by decide) ?_
        refine g_aload_n (pc := 49) W24 d_c_pos22_49 rfl rfl ?_
        refine g_iload_n (pc := 50) W24 d_c_pos22_50 rfl ?_
        refine g_laload (pc := 51) (i := 1) (v := .long x0) W24 rfl (by decide) rfl d_c_pos22_51 ?_
        refine g_aload_n (pc := 52) W24 d_c_pos22_52 rfl rfl ?_
        refine g_iload (pc := 53) W24 d_c_pos22_53 rfl ?_
        refine g_laload (pc := 55) (i := 0) (v := .long y1) W24 rfl (by decide) rfl d_c_pos22_55 ?_
        refine g_lcmp (pc := 56) W24 d_c_pos22_56 ?_
        refine g_if_ne 64 (pc := 57) W24 d_c_pos22_57 (by decide) (by decide) (fun c26 => ?_) (fun c26 => ?_)
        · refine g_iconst (pc := 64) (-1 : Int32) (by decide) W24 d_c_pos22_64 ?_
          refine g_iastore (pc := 65) (i := 2) (os' := [(a, (.array .long), [.long y0, .long y1]), (b, (.array .long), [.long x0, .long x1]), (b1, (.array .int), [.int (0 : Int32), .int (-1 : Int32)])]) 1 W24 rfl (by decide) (by decide) (Nat.le_of_ble_eq_true rfl) rfl d_c_pos22_65 (fun T27 W28 => ?_)
          refine g_iinc (pc := 66) (ls' := #[.val (.ref a), .val (.ref b), .val (.ref b1), .val (.int (0 : Int32)), .val (.int (2 : Int32))]) (1 : Int32) (by decide) W28 d_c_pos22_66 rfl rfl ?_
          refine g_goto 10 (pc := 69) W28 d_c_pos22_69 (by decide) (by decide) ?_
          refine g_iload (pc := 10) W28 d_c_pos22_10 rfl ?_
          refine g_aload_n (pc := 12) W28 d_c_pos22_12 rfl rfl ?_
          refine g_arraylength (pc := 13) (i := 0) (2 : Int32) W28 rfl rfl d_c_pos22_13 ?_
          refine g_icmpY 72 (pc := 14) W28 d_c_pos22_14 (by decide) (by decide) (by decide) ?_
          refine g_aload_n (pc := 72) W28 d_c_pos22_72 rfl rfl ?_
          exact g_areturn (pc := 73) rfl rfl W28 d_c_pos22_73 (by decide) (by decide) ⟨b1, rfl, by simp only [cl_lt, cl_eq, Int64.lt_iff_toInt_lt, ← Int64.toInt_inj] at c5 c6 c25 c26; have e0 : ex2 y0 x0 x1 x2 = (0 : Int32) := (by simp only [ex2, cl_eq, ← Int64.toInt_inj]; (repeat' split) <;> first | rfl | (exfalso; omega)); have e1 : ex2 y1 x0 x1 x2 = (-1 : Int32) := (by simp only [ex2, cl_eq, ← Int64.toInt_inj]; (repeat' split) <;> first | rfl | (exfalso; omega)); rw [e0, e1]⟩
        · refine g_iload_n (pc := 60) W24 d_c_pos22_60 rfl ?_
          refine g_goto 65 (pc := 61) W24 d_c_pos22_61 (by decide) (by decide) ?_
          refine g_iastore (pc := 65) (i := 2) (os' := [(a, (.array .long), [.long y0, .long y1]), (b, (.array .long), [.long x0, .long x1]), (b1, (.array .int), [.int (0 : Int32), .int (0 : Int32)])]) 1 W24 rfl (by decide) (by decide) (Nat.le_of_ble_eq_true rfl) rfl d_c_pos22_65 (fun T29 W30 => ?_)
          refine g_iinc (pc := 66) (ls' := #[.val (.ref a), .val (.ref b), .val (.ref b1), .val (.int (0 : Int32)), .val (.int (2 : Int32))]) (1 : Int32) (by decide) W30 d_c_pos22_66 rfl rfl ?_
          refine g_goto 10 (pc := 69) W30 d_c_pos22_69 (by decide) (by decide) ?_
          refine g_iload (pc := 10) W30 d_c_pos22_10 rfl ?_
          refine g_aload_n (pc := 12) W30 d_c_pos22_12 rfl rfl ?_
          refine g_arraylength (pc := 13) (i := 0) (2 : Int32) W30 rfl rfl d_c_pos22_13 ?_
          refine g_icmpY 72 (pc := 14) W30 d_c_pos22_14 (by decide) (by decide) (by decide) ?_
          refine g_aload_n (pc := 72) W30 d_c_pos22_72 rfl rfl ?_
          exact g_areturn (pc := 73) rfl rfl W30 d_c_pos22_73 (by decide) (by decide) ⟨b1, rfl, by simp only [cl_lt, cl_eq, Int64.lt_iff_toInt_lt, ← Int64.toInt_inj] at c5 c6 c25 c26; have e0 : ex2 y0 x0 x1 x2 = (0 : Int32) := (by simp only [ex2, cl_eq, ← Int64.toInt_inj]; (repeat' split) <;> first | rfl | (exfalso; omega)); have e1 : ex2 y1 x0 x1 x2 = (0 : Int32) := (by simp only [ex2, cl_eq, ← Int64.toInt_inj]; (repeat' split) <;> first | rfl | (exfalso; omega)); rw [e0, e1]⟩
      · refine g_iinc (pc := 34) (ls' := #[.val (.ref a), .val (.ref b), .val (.ref b1), .val (.int (1 : Int32)), .val (.int (1 : Int32))]) (1 : Int32) (by decide) W24 d_c_pos22_34 rfl rfl ?_
        refine g_goto 17 (pc := 37) W24 d_c_pos22_37 (by decide) (by decide) ?_
        refine g_iload_n (pc := 17) W24 d_c_pos22_17 rfl ?_
        refine g_aload_n (pc := 18) W24 d_c_pos22_18 rfl rfl ?_
        refine g_arraylength (pc := 19) (i := 1) (2 : Int32) W24 rfl rfl d_c_pos22_19 ?_
        refine g_icmpN (pc := 20) W24 d_c_pos22_20 (by decide) ?_
        refine g_aload_n (pc := 23) W24 d_c_pos22_23 rfl rfl ?_
        refine g_iload_n (pc := 24) W24 d_c_pos22_24 rfl ?_
        refine g_laload (pc := 25) (i := 1) (v := .long x1) W24 rfl (by decide) rfl d_c_pos22_25 ?_
        refine g_aload_n (pc := 26) W24 d_c_pos22_26 rfl rfl ?_
        refine g_iload (pc := 27) W24 d_c_pos22_27 rfl ?_
        refine g_laload (pc := 29) (i := 0) (v := .long y1) W24 rfl (by decide) rfl d_c_pos22_29 ?_
        refine g_lcmp (pc := 30) W24 d_c_pos22_30 ?_
        refine g_if_ge 40 (pc := 31) W24 d_c_pos22_31 (by decide) (by decide) (fun c31 => ?_) (fun c31 => ?_)
        · refine g_aload_n (pc := 40) W24 d_c_pos22_40 rfl rfl ?_
          refine g_iload (pc := 41) W24 d_c_pos22_41 rfl ?_
          refine g_iload_n (pc := 43) W24 d_c_pos22_43 rfl ?_
          refine g_aload_n (pc := 44) W24 d_c_pos22_44 rfl rfl ?_
          refine g_arraylength (pc := 45) (i := 1) (2 : Int32) W24 rfl rfl d_c_pos22_45 ?_
          refine g_icmpN (pc := 46) W24 d_c_pos22_46 (by decide) ?_
          refine g_aload_n (pc := 49) W24 d_c_pos22_49 rfl rfl ?_
          refine g_iload_n (pc := 50) W24 d_c_pos22_50 rfl ?_
          refine g_laload (pc := 51) (i := 1) (v := .long x1) W24 rfl (by decide) rfl d_c_pos22_51 ?_
          refine g_aload_n (pc := 52) W24 d_c_pos22_52 rfl rfl ?_
          refine g_iload (pc := 53) W24 d_c_pos22_53 rfl ?_
          refine g_laload (pc := 55) (i := 0) (v := .long y1) W24 rfl (by decide) rfl d_c_pos22_55 ?_
          refine g_lcmp (pc := 56) W24 d_c_pos22_56 ?_
          refine g_if_ne 64 (pc := 57) W24 d_c_pos22_57 (by decide) (by decide) (fun c32 => ?_) (fun c32 => ?_)
          · refine g_iconst (pc := 64) (-1 : Int32) (by decide) W24 d_c_pos22_64 ?_
            refine g_iastore (pc := 65) (i := 2) (os' := [(a, (.array .long), [.long y0, .long y1]), (b, (.array .long), [.long x0, .long x1]), (b1, (.array .int), [.int (0 : Int32), .int (-1 : Int32)])]) 1 W24 rfl (by decide) (by decide) (Nat.le_of_ble_eq_true rfl) rfl d_c_pos22_65 (fun T33 W34 => ?_)
            refine g_iinc (pc := 66) (ls' := #[.val (.ref a), .val (.ref b), .val (.ref b1), .val (.int (1 : Int32)), .val (.int (2 : Int32))]) (1 : Int32) (by decide) W34 d_c_pos22_66 rfl rfl ?_
            refine g_goto 10 (pc := 69) W34 d_c_pos22_69 (by decide) (by decide) ?_
            refine g_iload (pc := 10) W34 d_c_pos22_10 rfl ?_
            refine g_aload_n (pc := 12) W34 d_c_pos22_12 rfl rfl ?_
            refine g_arraylength (pc := 13) (i := 0) (2 : Int32) W34 rfl rfl d_c_pos22_13 ?_
            refine g_icmpY 72 (pc := 14) W34 d_c_pos22_14 (by decide) (by decide) (by decide) ?_
            refine g_aload_n (pc := 72) W34 d_c_pos22_72 rfl rfl ?_
            exact g_areturn (pc := 73) rfl rfl W34 d_c_pos22_73 (by decide) (by decide) ⟨b1, rfl, by simp only [cl_lt, cl_eq, Int64.lt_iff_toInt_lt, ← Int64.toInt_inj] at c5 c6 c25 c31 c32; have e0 : ex2 y0 x0 x1 x2 = (0 : Int32) := (by simp only [ex2, cl_eq, ← Int64.toInt_inj]; (repeat' split) <;> first | rfl | (exfalso; omega)); have e1 : ex2 y1 x0 x1 x2 = (-1 : Int32) := (by simp only [ex2, cl_eq, ← Int64.toInt_inj]; (repeat' split) <;> first | rfl | (exfalso; omega)); rw [e0, e1]⟩
          · refine g_iload_n (pc := 60) W24 d_c_pos22_60 rfl ?_
            refine g_goto 65 (pc := 61) W24 d_c_pos22_61 (by decide) (by decide) ?_
            refine g_iastore (pc := 65) (i := 2) (os' := [(a, (.array .long), [.long y0, .long y1]), (b, (.array .long), [.long x0, .long x1]), (b1, (.array .int), [.int (0 : Int32), .int (1 : Int32)])]) 1 W24 rfl (by decide) (by decide) (Nat.le_of_ble_eq_true rfl) rfl d_c_pos22_65 (fun T35 W36 => ?_)
            refine g_iinc (pc := 66) (ls' := #[.val (.ref a), .val (.ref b), .val (.ref b1), .val (.int (1 : Int32)), .val (.int (2 : Int32))]) (1 : Int32) (by decide) W36 d_c_pos22_66 rfl rfl ?_
            refine g_goto 10 (pc := 69) W36 d_c_pos22_69 (by decide) (by decide) ?_
            refine g_iload (pc := 10) W36 d_c_pos22_10 rfl ?_
            refine g_aload_n (pc := 12) W36 d_c_pos22_12 rfl rfl ?_
            refine g_arraylength (pc := 13) (i := 0) (2 : Int32) W36 rfl rfl d_c_pos22_13 ?_
            refine g_icmpY 72 (pc := 14) W36 d_c_pos22_14 (by decide) (by decide) (by decide) ?_
            refine g_aload_n (pc := 72) W36 d_c_pos22_72 rfl rfl ?_
            exact g_areturn (pc := 73) rfl rfl W36 d_c_pos22_73 (by decide) (by decide) ⟨b1, rfl, by simp only [cl_lt, cl_eq, Int64.lt_iff_toInt_lt, ← Int64.toInt_inj] at c5 c6 c25 c31 c32; have e0 : ex2 y0 x0 x1 x2 = (0 : Int32) := (by simp only [ex2, cl_eq, ← Int64.toInt_inj]; (repeat' split) <;> first | rfl | (exfalso; omega)); have e1 : ex2 y1 x0 x1 x2 = (1 : Int32) := (by simp only [ex2, cl_eq, ← Int64.toInt_inj]; (repeat' split) <;> first | rfl | (exfalso; omega)); rw [e0, e1]⟩
        · refine g_iinc (pc := 34) (ls' := #[.val (.ref a), .val (.ref b), .val (.ref b1), .val (.int (2 : Int32)), .val (.int (1 : Int32))]) (1 : Int32) (by decide) W24 d_c_pos22_34 rfl rfl ?_
          refine g_goto 17 (pc := 37) W24 d_c_pos22_37 (by decide) (by decide) ?_
          refine g_iload_n (pc := 17) W24 d_c_pos22_17 rfl ?_
          refine g_aload_n (pc := 18) W24 d_c_pos22_18 rfl rfl ?_
          refine g_arraylength (pc := 19) (i := 1) (2 : Int32) W24 rfl rfl d_c_pos22_19 ?_
          refine g_icmpY 40 (pc := 20) W24 d_c_pos22_20 (by decide) (by decide) (by decide) ?_
          refine g_aload_n (pc := 40) W24 d_c_pos22_40 rfl rfl ?_
          refine g_iload (pc := 41) W24 d_c_pos22_41 rfl ?_
          refine g_iload_n (pc := 43) W24 d_c_pos22_43 rfl ?_
          refine g_aload_n (pc := 44) W24 d_c_pos22_44 rfl rfl ?_
          refine g_arraylength (pc := 45) (i := 1) (2 : Int32) W24 rfl rfl d_c_pos22_45 ?_
          refine g_icmpY 64 (pc := 46) W24 d_c_pos22_46 (by decide) (by decide) (by decide) ?_
          refine g_iconst (pc := 64) (-1 : Int32) (by decide) W24 d_c_pos22_64 ?_
          refine g_iastore (pc := 65) (i := 2) (os' := [(a, (.array .long), [.long y0, .long y1]), (b, (.array .long), [.long x0, .long x1]), (b1, (.array .int), [.int (0 : Int32), .int (-1 : Int32)])]) 1 W24 rfl (by decide) (by decide) (Nat.le_of_ble_eq_true rfl) rfl d_c_pos22_65 (fun T37 W38 => ?_)
          refine g_iinc (pc := 66) (ls' := #[.val (.ref a), .val (.ref b), .val (.ref b1), .val (.int (2 : Int32)), .val (.int (2 : Int32))]) (1 : Int32) (by decide) W38 d_c_pos22_66 rfl rfl ?_
          refine g_goto 10 (pc := 69) W38 d_c_pos22_69 (by decide) (by decide) ?_
          refine g_iload (pc := 10) W38 d_c_pos22_10 rfl ?_
          refine g_aload_n (pc := 12) W38 d_c_pos22_12 rfl rfl ?_
          refine g_arraylength (pc := 13) (i := 0) (2 : Int32) W38 rfl rfl d_c_pos22_13 ?_
          refine g_icmpY 72 (pc := 14) W38 d_c_pos22_14 (by decide) (by decide) (by decide) ?_
          refine g_aload_n (pc := 72) W38 d_c_pos22_72 rfl rfl ?_
          exact g_areturn (pc := 73) rfl rfl W38 d_c_pos22_73 (by decide) (by decide) ⟨b1, rfl, by simp only [cl_lt, cl_eq, Int64.lt_iff_toInt_lt, ← Int64.toInt_inj] at c5 c6 c25 c31; have e0 : ex2 y0 x0 x1 x2 = (0 : Int32) := (by simp only [ex2, cl_eq, ← Int64.toInt_inj]; (repeat' split) <;> first | rfl | (exfalso; omega)); have e1 : ex2 y1 x0 x1 x2 = (-1 : Int32) := (by simp only [ex2, cl_eq, ← Int64.toInt_inj]; (repeat' split) <;> first | rfl | (exfalso; omega)); rw [e0, e1]⟩
  · refine g_iinc (pc := 34) (ls' := #[.val (.ref a), .val (.ref b), .val (.ref b1), .val (.int (1 : Int32)), .val (.int (0 : Int32))]) (1 : Int32) (by decide) W4 d_c_pos22_34 rfl rfl ?_
    refine g_goto 17 (pc := 37) W4 d_c_pos22_37 (by decide) (by decide) ?_
    refine g_iload_n (pc := 17) W4 d_c_pos22_17 rfl ?_
    refine g_aload_n (pc := 18) W4 d_c_pos22_18 rfl rfl ?_
    refine g_arraylength (pc := 19) (i := 1) (2 : Int32) W4 rfl rfl d_c_pos22_19 ?_
    refine g_icmpN (pc := 20) W4 d_c_pos22_20 (by decide) ?_
    refine g_aload_n (pc := 23) W4 d_c_pos22_23 rfl rfl ?_
    refine g_iload_n (pc := 24) W4 d_c_pos22_24 rfl ?_
    refine g_laload (pc := 25) (i := 1) (v := .long x1) W4 rfl (by decide) rfl d_c_pos22_25 ?_
    refine g_aload_n (pc := 26) W4 d_c_pos22_26 rfl rfl ?_
    refine g_iload (pc := 27) W4 d_c_pos22_27 rfl ?_
    refine g_laload (pc := 29) (i := 0) (v := .long y0) W4 rfl (by decide) rfl d_c_pos22_29 ?_
    refine g_lcmp (pc := 30) W4 d_c_pos22_30 ?_
    refine g_if_ge 40 (pc := 31) W4 d_c_pos22_31 (by decide) (by decide) (fun c39 => ?_) (fun c39 => ?_)
    · refine g_aload_n (pc := 40) W4 d_c_pos22_40 rfl rfl ?_
      refine g_iload (pc := 41) W4 d_c_pos22_41 rfl ?_
      refine g_iload_n (pc := 43) W4 d_c_pos22_43 rfl ?_
      refine g_aload_n (pc := 44) W4 d_c_pos22_44 rfl rfl ?_
      refine g_arraylength (pc := 45) (i := 1) (2 : Int32) W4 rfl rfl d_c_pos22_45 ?_
      refine g_icmpN (pc := 46) W4 d_c_pos22_46 (by decide) ?_
      refine g_aload_n (pc := 49) W4 d_c_pos22_49 rfl rfl ?_
      refine g_iload_n (pc := 50) W4 d_c_pos22_50 rfl ?_
      refine g_laload (pc := 51) (i := 1) (v := .long x1) W4 rfl (by decide) rfl d_c_pos22_51 ?_
      refine g_aload_n (pc := 52) W4 d_c_pos22_52 rfl rfl ?_
      refine g_iload (pc := 53) W4 d_c_pos22_53 rfl ?_
      refine g_laload (pc := 55) (i := 0) (v := .long y0) W4 rfl (by decide) rfl d_c_pos22_55 ?_
      refine g_lcmp (pc := 56) W4 d_c_pos22_56 ?_
      refine g_if_ne 64 (pc := 57) W4 d_c_pos22_57 (by decide) (by decide) (fun c40 => ?_) (fun c40 => ?_)
      · refine g_iconst (pc := 64) (-1 : Int32) (by decide) W4 d_c_pos22_64 ?_
        refine g_iastore (pc := 65) (i := 2) (os' := [(a, (.array .long), [.long y0, .long y1]), (b, (.array .long), [.long x0, .long x1]), (b1, (.array .int), [.int (-1 : Int32), .int (0 : Int32)])]) 0 W4 rfl (by decide) (by decide) (Nat.le_of_ble_eq_true rfl) rfl d_c_pos22_65 (fun T41 W42 => ?_)
        refine g_iinc (pc := 66) (ls' := #[.val (.ref a), .val (.ref b), .val (.ref b1), .val (.int (1 : Int32)), .val (.int (1 : Int32))]) (1 : Int32) (by decide) W42 d_c_pos22_66 rfl rfl ?_
        refine g_goto 10 (pc := 69) W42 d_c_pos22_69 (by decide) (by decide) ?_
        refine g_iload (pc := 10) W42 d_c_pos22_10 rfl ?_
        refine g_aload_n (pc := 12) W42 d_c_pos22_12 rfl rfl ?_
        refine g_arraylength (pc := 13) (i := 0) (2 : Int32) W42 rfl rfl d_c_pos22_13 ?_
        refine g_icmpN (pc := 14) W42 d_c_pos22_14 (by decide) ?_
        refine g_iload_n (pc := 17) W42 d_c_pos22_17 rfl ?_
        refine g_aload_n (pc := 18) W42 d_c_pos22_18 rfl rfl ?_
        refine g_arraylength (pc := 19) (i := 1) (2 : Int32) W42 rfl rfl d_c_pos22_19 ?_
        refine g_icmpN (pc := 20) W42 d_c_pos22_20 (by decide) ?_
        refine g_aload_n (pc := 23) W42 d_c_pos22_23 rfl rfl ?_
        refine g_iload_n (pc := 24) W42 d_c_pos22_24 rfl ?_
        refine g_laload (pc := 25) (i := 1) (v := .long x1) W42 rfl (by decide) rfl d_c_pos22_25 ?_
        refine g_aload_n (pc := 26) W42 d_c_pos22_26 rfl rfl ?_
        refine g_iload (pc := 27) W42 d_c_pos22_27 rfl ?_
        refine g_laload (pc := 29) (i := 0) (v := .long y1) W42 rfl (by decide) rfl d_c_pos22_29 ?_
        refine g_lcmp (pc := 30) W42 d_c_pos22_30 ?_
        refine g_if_ge 40 (pc := 31) W42 d_c_pos22_31 (by decide) (by decide) (fun c43 => ?_) (fun c43 => ?_)
        · refine g_aload_n (pc := 40) W42 d_c_pos22_40 rfl rfl ?_
          refine g_iload (pc := 41) W42 d_c_pos22_41 rfl ?_
          refine g_iload_n (pc := 43) W42 d_c_pos22_43 rfl ?_
          refine g_aload_n (pc := 44) W42 d_c_pos22_44 rfl rfl ?_
          refine g_arraylength (pc := 45) (i := 1) (2 : Int32) W42 rfl rfl d_c_pos22_45 ?_
          refine g_icmpN (pc := 46) W42 d_c_pos22_46 (by decide) ?_
          refine g_aload_n (pc := 49) W42 d_c_pos22_49 rfl rfl ?_
          refine g_iload_n (pc := 50) W42 d_c_pos22_50 rfl ?_
          refine g_laload (pc := 51) (i := 1) (v := .long x1) W42 rfl (by decide) rfl d_c_pos22_51 ?_
          refine g_aload_n (pc := 52) W42 d_c_pos22_52 rfl rfl ?_
          refine g_iload (pc := 53) W42 d_c_pos22_53 rfl ?_
          refine g_laload (pc := 55) (i := 0) (v := .long y1) W42 rfl (by decide) rfl d_c_pos22_55 ?_
          refine g_lcmp (pc := 56) W42 d_c_pos22_56 ?_
          refine g_if_ne 64 (pc := 57) W42 d_c_pos22_57 (by decide) (by decide) (fun c44 => ?_) (fun c44 => ?_)
          · refine g_iconst (pc := 64) (-1 : Int32) (by decide) W42 d_c_pos22_64 ?_
            refine g_iastore (pc := 65) (i := 2) (os' := [(a, (.array .long), [.long y0, .long y1]), (b, (.array .long), [.long x0, .long x1]), (b1, (.array .int), [.int (-1 : Int32), .int (-1 : Int32)])]) 1 W42 rfl (by decide) (by decide) (Nat.le_of_ble_eq_true rfl) rfl d_c_pos22_65 (fun T45 W46 => ?_)
            refine g_iinc (pc := 66) (ls' := #[.val (.ref a), .val (.ref b), .val (.ref b1), .val (.int (1 : Int32)), .val (.int (2 : Int32))]) (1 : Int32) (by decide) W46 d_c_pos22_66 rfl rfl ?_
            refine g_goto 10 (pc := 69) W46 d_c_pos22_69 (by decide) (by decide) ?_
            refine g_iload (pc := 10) W46 d_c_pos22_10 rfl ?_
            refine g_aload_n (pc := 12) W46 d_c_pos22_12 rfl rfl ?_
            refine g_arraylength (pc := 13) (i := 0) (2 : Int32) W46 rfl rfl d_c_pos22_13 ?_
            refine g_icmpY 72 (pc := 14) W46 d_c_pos22_14 (by decide) (by decide) (by decide) ?_
            refine g_aload_n (pc := 72) W46 d_c_pos22_72 rfl rfl ?_
            exact g_areturn (pc := 73) rfl rfl W46 d_c_pos22_73 (by decide) (by decide) ⟨b1, rfl, by simp only [cl_lt, cl_eq, Int64.lt_iff_toInt_lt, ← Int64.toInt_inj] at c5 c39 c40 c43 c44; have e0 : ex2 y0 x0 x1 x2 = (-1 : Int32) := (by simp only [ex2, cl_eq, ← Int64.toInt_inj]; (repeat' split) <;> first | rfl | (exfalso; omega)); have e1 : ex2 y1 x0 x1 x2 = (-1 : Int32) := (by simp only [ex2, cl_eq, ← Int64.toInt_inj]; (repeat' split) <;> first | rfl | (exfalso; omega)); rw [e0, e1]⟩
          · refine g_iload_n (pc := 60) W42 d_c_pos22_60 rfl ?_
            refine g_goto 65 (pc := 61) W42 d_c_pos22_61 (by decide) (by decide) ?_
            refine g_iastore (pc := 65) (i := 2) (os' := [(a, (.array .long), [.long y0, .long y1]), (b, (.array .long), [.long x0, .long x1]), (b1, (.array .int), [.int (-1 : Int32), .int (1 : Int32)])]) 1 W42 rfl (by decide) (by decide) (Nat.le_of_ble_eq_true rfl) rfl d_c_pos22_65 (fun T47 W48 => ?_)
            refine g_iinc (pc := 66) (ls' := #[.val (.ref a), .val (.ref b), .val (.ref b1), .val (.int (1 : Int32)), .val (.int (2 : Int32))]) (1 : Int32) (by decide) W48 d_c_pos22_66 rfl rfl ?_
            refine g_goto 10 (pc := 69) W48 d_c_pos22_69 (by decide) (by decide) ?_
            refine g_iload (pc := 10) W48 d_c_pos22_10 rfl ?_
            refine g_aload_n (pc := 12) W48 d_c_pos22_12 rfl rfl ?_
            refine g_arraylength (pc := 13) (i := 0) (2 : Int32) W48 rfl rfl d_c_pos22_13 ?_
            refine g_icmpY 72 (pc := 14) W48 d_c_pos22_14 (by decide) (by decide) (by decide) ?_
            refine g_aload_n (pc := 72) W48 d_c_pos22_72 rfl rfl ?_
            exact g_areturn (pc := 73) rfl rfl W48 d_c_pos22_73 (by decide) (by decide) ⟨b1, rfl, by simp only [cl_lt, cl_eq, Int64.lt_iff_toInt_lt, ← Int64.toInt_inj] at c5 c39 c40 c43 c44; have e0 : ex2 y0 x0 x1 x2 = (-1 : Int32) := (by simp only [ex2, cl_eq, ← Int64.toInt_inj]; (repeat' split) <;> first | rfl | (exfalso; omega)); have e1 : ex2 y1 x0 x1 x2 = (1 : Int32) := (by simp only [ex2, cl_eq, ← Int64.toInt_inj]; (repeat' split) <;> first | rfl | (exfalso; omega)); rw [e0, e1]⟩
        · refine g_iinc (pc := 34) (ls' := #[.val (.ref a), .val (.ref b), .val (.ref b1), .val (.int (2 : Int32)), .val (.int (1 : Int32))]) (1 : Int32) (by decide) W42 d_c_pos22_34 rfl rfl ?_
          refine g_goto 17 (pc := 37) W42 d_c_pos22_37 (by decide) (by decide) ?_
          refine g_iload_n (pc := 17) W42 d_c_pos22_17 rfl ?_
          refine g_aload_n (pc := 18) W42 d_c_pos22_18 rfl rfl ?_
          refine g_arraylength (pc := 19) (i := 1) (2 : Int32) W42 rfl rfl d_c_pos22_19 ?_
          refine g_icmpY 40 (pc := 20) W42 d_c_pos22_20 (by decide) (by decide) (by decide) ?_
          refine g_aload_n (pc := 40) W42 d_c_pos22_40 rfl rfl ?_
          refine g_iload (pc := 41) W42 d_c_pos22_41 rfl ?_
          refine g_iload_n (pc := 43) W42 d_c_pos22_43 rfl ?_
          refine g_aload_n (pc := 44) W42 d_c_pos22_44 rfl rfl ?_
          refine g_arraylength (pc := 45) (i := 1) (2 : Int32) W42 rfl rfl d_c_pos22_45 ?_
          refine g_icmpY 64 (pc := 46) W42 d_c_pos22_46 (by decide) (by decide) (by decide) ?_
          refine g_iconst (pc := 64) (-1 : Int32) (by decide) W42 d_c_pos22_64 ?_
          refine g_iastore (pc := 65) (i := 2) (os' := [(a, (.array .long), [.long y0, .long y1]), (b, (.array .long), [.long x0, .long x1]), (b1, (.array .int), [.int (-1 : Int32), .int (-1 : Int32)])]) 1 W42 rfl (by decide) (by decide) (Nat.le_of_ble_eq_true rfl) rfl d_c_pos22_65 (fun T49 W50 => ?_)
          refine g_iinc (pc := 66) (ls' := #[.val (.ref a), .val (.ref b), .val (.ref b1), .val (.int (2 : Int32)), .val (.int (2 : Int32))]) (1 : Int32) (by decide) W50 d_c_pos22_66 rfl rfl ?_
          refine g_goto 10 (pc := 69) W50 d_c_pos22_69 (by decide) (by decide) ?_
          refine g_iload (pc := 10) W50 d_c_pos22_10 rfl ?_
          refine g_aload_n (pc := 12) W50 d_c_pos22_12 rfl rfl ?_
          refine g_arraylength (pc := 13) (i := 0) (2 : Int32) W50 rfl rfl d_c_pos22_13 ?_
          refine g_icmpY 72 (pc := 14) W50 d_c_pos22_14 (by decide) (by decide) (by decide) ?_
          refine g_aload_n (pc := 72) W50 d_c_pos22_72 rfl rfl ?_
          exact g_areturn (pc := 73) rfl rfl W50 d_c_pos22_73 (by decide) (by decide) ⟨b1, rfl, by simp only [cl_lt, cl_eq, Int64.lt_iff_toInt_lt, ← Int64.toInt_inj] at c5 c39 c40 c43; have e0 : ex2 y0 x0 x1 x2 = (-1 : Int32) := (by simp only [ex2, cl_eq, ← Int64.toInt_inj]; (repeat' split) <;> first | rfl | (exfalso; omega)); have e1 : ex2 y1 x0 x1 x2 = (-1 : Int32) := (by simp only [ex2, cl_eq, ← Int64.toInt_inj]; (repeat' split) <;> first | rfl | (exfalso; omega)); rw [e0, e1]⟩
      · refine g_iload_n (pc := 60) W4 d_c_pos22_60 rfl ?_
        refine g_goto 65 (pc := 61) W4 d_c_pos22_61 (by decide) (by decide) ?_
        refine g_iastore (pc := 65) (i := 2) (os' := [(a, (.array .long), [.long y0, .long y1]), (b, (.array .long), [.long x0, .long x1]), (b1, (.array .int), [.int (1 : Int32), .int (0 : Int32)])]) 0 W4 rfl (by decide) (by decide) (Nat.le_of_ble_eq_true rfl) rfl d_c_pos22_65 (fun T51 W52 => ?_)
        refine g_iinc (pc := 66) (ls' := #[.val (.ref a), .val (.ref b), .val (.ref b1), .val (.int (1 : Int32)), .val (.int (1 : Int32))]) (1 : Int32) (by decide) W52 d_c_pos22_66 rfl rfl ?_
        refine g_goto 10 (pc := 69) W52 d_c_pos22_69 (by decide) (by decide) ?_
        refine g_iload (pc := 10) W52 d_c_pos22_10 rfl ?_
        refine g_aload_n (pc := 12) W52 d_c_pos22_12 rfl rfl ?_
        refine g_arraylength (pc := 13) (i := 0) (2 : Int32) W52 rfl rfl d_c_pos22_13 ?_
        refine g_icmpN (pc := 14) W52 d_c_pos22_14 (by decide) ?_
        refine g_iload_n (pc := 17) W52 d_c_pos22_17 rfl ?_
        refine g_aload_n (pc := 18) W52 d_c_pos22_18 rfl rfl ?_
        refine g_arraylength (pc := 19) (i := 1) (2 : Int32) W52 rfl rfl d_c_pos22_19 ?_
        refine g_icmpN (pc := 20) W52 d_c_pos22_20 (by decide) ?_
        refine g_aload_n (pc := 23) W52 d_c_pos22_23 rfl rfl ?_
        refine g_iload_n (pc := 24) W52 d_c_pos22_24 rfl ?_
        refine g_laload (pc := 25) (i := 1) (v := .long x1) W52 rfl (by decide) rfl d_c_pos22_25 ?_
        refine g_aload_n (pc := 26) W52 d_c_pos22_26 rfl rfl ?_
        refine g_iload (pc := 27) W52 d_c_pos22_27 rfl ?_
        refine g_laload (pc := 29) (i := 0) (v := .long y1) W52 rfl (by decide) rfl d_c_pos22_29 ?_
        refine g_lcmp (pc := 30) W52 d_c_pos22_30 ?_
        refine g_if_ge 40 (pc := 31) W52 d_c_pos22_31 (by decide) (by decide) (fun c53 => ?_) (fun c53 => ?_)
        · refine g_aload_n (pc := 40) W52 d_c_pos22_40 rfl rfl ?_
          refine g_iload (pc := 41) W52 d_c_pos22_41 rfl ?_
          refine g_iload_n (pc := 43) W52 d_c_pos22_43 rfl ?_
          refine g_aload_n (pc := 44) W52 d_c_pos22_44 rfl rfl ?_
          refine g_arraylength (pc := 45) (i := 1) (2 : Int32) W52 rfl rfl d_c_pos22_45 ?_
          refine g_icmpN (pc := 46) W52 d_c_pos22_46 (by decide) ?_
          refine g_aload_n (pc := 49) W52 d_c_pos22_49 rfl rfl ?_
          refine g_iload_n (pc := 50) W52 d_c_pos22_50 rfl ?_
          refine g_laload (pc := 51) (i := 1) (v := .long x1) W52 rfl (by decide) rfl d_c_pos22_51 ?_
          refine g_aload_n (pc := 52) W52 d_c_pos22_52 rfl rfl ?_
          refine g_iload (pc := 53) W52 d_c_pos22_53 rfl ?_
          refine g_laload (pc := 55) (i := 0) (v := .long y1) W52 rfl (by decide) rfl d_c_pos22_55 ?_
          refine g_lcmp (pc := 56) W52 d_c_pos22_56 ?_
          refine g_if_ne 64 (pc := 57) W52 d_c_pos22_57 (by decide) (by decide) (fun c54 => ?_) (fun c54 => ?_)
          · refine g_iconst (pc := 64) (-1 : Int32) (by decide) W52 d_c_pos22_64 ?_
            refine g_iastore (pc := 65) (i := 2) (os' := [(a, (.array .long), [.long y0, .long y1]), (b, (.array .long), [.long x0, .long x1]), (b1, (.array .int), [.int (1 : Int32), .int (-1 : Int32)])]) 1 W52 rfl (by decide) (by decide) (Nat.le_of_ble_eq_true rfl) rfl d_c_pos22_65 (fun T55 W56 => ?_)
            refine g_iinc (pc := 66) (ls' := #[.val (.ref a), .val (.ref b), .val (.ref b1), .val (.int (1 : Int32)), .val (.int (2 : Int32))]) (1 : Int32) (by decide) W56 d_c_pos22_66 rfl rfl ?_
            refine g_goto 10 (pc := 69) W56 d_c_pos22_69 (by decide) (by decide) ?_
            refine g_iload (pc := 10) W56 d_c_pos22_10 rfl ?_
            refine g_aload_n (pc := 12) W56 d_c_pos22_12 rfl rfl ?_
            refine g_arraylength (pc := 13) (i := 0) (2 : Int32) W56 rfl rfl d_c_pos22_13 ?_
            refine g_icmpY 72 (pc := 14) W56 d_c_pos22_14 (by decide) (by decide) (by decide) ?_
            refine g_aload_n (pc := 72) W56 d_c_pos22_72 rfl rfl ?_
            exact g_areturn (pc := 73) rfl rfl W56 d_c_pos22_73 (by decide) (by decide) ⟨b1, rfl, by simp only [cl_lt, cl_eq, Int64.lt_iff_toInt_lt, ← Int64.toInt_inj] at c5 c39 c40 c53 c54; have e0 : ex2 y0 x0 x1 x2 = (1 : Int32) := (by simp only [ex2, cl_eq, ← Int64.toInt_inj]; (repeat' split) <;> first | rfl | (exfalso; omega)); have e1 : ex2 y1 x0 x1 x2 = (-1 : Int32) := (by simp only [ex2, cl_eq, ← Int64.toInt_inj]; (repeat' split) <;> first | rfl | (exfalso; omega)); rw [e0, e1]⟩
          · refine g_iload_n (pc := 60) W52 d_c_pos22_60 rfl ?_
            refine g_goto 65 (pc := 61) W52 d_c_pos22_61 (by decide) (by decide) ?_
            refine g_iastore (pc := 65) (i := 2) (os' := [(a, (.array .long), [.long y0, .long y1]), (b, (.array .long), [.long x0, .long x1]), (b1, (.array .int), [.int (1 : Int32), .int (1 : Int32)])]) 1 W52 rfl (by decide) (by decide) (Nat.le_of_ble_eq_true rfl) rfl d_c_pos22_65 (fun T57 W58 => ?_)
            refine g_iinc (pc := 66) (ls' := #[.val (.ref a), .val (.ref b), .val (.ref b1), .val (.int (1 : Int32)), .val (.int (2 : Int32))]) (1 : Int32) (by decide) W58 d_c_pos22_66 rfl rfl ?_
            refine g_goto 10 (pc := 69) W58 d_c_pos22_69 (by decide) (by decide) ?_
            refine g_iload (pc := 10) W58 d_c_pos22_10 rfl ?_
            refine g_aload_n (pc := 12) W58 d_c_pos22_12 rfl rfl ?_
            refine g_arraylength (pc := 13) (i := 0) (2 : Int32) W58 rfl rfl d_c_pos22_13 ?_
            refine g_icmpY 72 (pc := 14) W58 d_c_pos22_14 (by decide) (by decide) (by decide) ?_
            refine g_aload_n (pc := 72) W58 d_c_pos22_72 rfl rfl ?_
            exact g_areturn (pc := 73) rfl rfl W58 d_c_pos22_73 (by decide) (by decide) ⟨b1, rfl, by simp only [cl_lt, cl_eq, Int64.lt_iff_toInt_lt, ← Int64.toInt_inj] at c5 c39 c40 c53 c54; have e0 : ex2 y0 x0 x1 x2 = (1 : Int32) := (by simp only [ex2, cl_eq, ← Int64.toInt_inj]; (repeat' split) <;> first | rfl | (exfalso; omega)); have e1 : ex2 y1 x0 x1 x2 = (1 : Int32) := (by simp only [ex2, cl_eq, ← Int64.toInt_inj]; (repeat' split) <;> first | rfl | (exfalso; omega)); rw [e0, e1]⟩
        · refine g_iinc (pc := 34) (ls' := #[.val (.ref a), .val (.ref b), .val (.ref b1), .val (.int (2 : Int32)), .val (.int (1 : Int32))]) (1 : Int32) (by decide) W52 d_c_pos22_34 rfl rfl ?_
          refine g_goto 17 (pc := 37) W52 d_c_pos22_37 (by decide) (by decide) ?_
          refine g_iload_n (pc := 17) W52 d_c_pos22_17 rfl ?_
          refine g_aload_n (pc := 18) W52 d_c_pos22_18 rfl rfl ?_
          refine g_arraylength (pc := 19) (i := 1) (2 : Int32) W52 rfl rfl d_c_pos22_19 ?_
          refine g_icmpY 40 (pc := 20) W52 d_c_pos22_20 (by decide) (by decide) (by decide) ?_
          refine g_aload_n (pc := 40) W52 d_c_pos22_40 rfl rfl ?_
          refine g_iload (pc := 41) W52 d_c_pos22_41 rfl ?_
          refine g_iload_n (pc := 43) W52 d_c_pos22_43 rfl ?_
          refine g_aload_n (pc := 44) W52 d_c_pos22_44 rfl rfl ?_
          refine g_arraylength (pc := 45) (i := 1) (2 : Int32) W52 rfl rfl d_c_pos22_45 ?_
          refine g_icmpY 64 (pc := 46) W52 d_c_pos22_46 (by decide) (by decide) (by decide) ?_
          refine g_iconst (pc := 64) (-1 : Int32) (by decide) W52 d_c_pos22_64 ?_
          refine g_iastore (pc := 65) (i := 2) (os' := [(a, (.array .long), [.long y0, .long y1]), (b, (.array .long), [.long x0, .long x1]), (b1, (.array .int), [.int (1 : Int32), .int (-1 : Int32)])]) 1 W52 rfl (by decide) (by decide) (Nat.le_of_ble_eq_true rfl) rfl d_c_pos22_65 (fun T59 W60 => ?_)
          refine g_iinc (pc := 66) (ls' := #[.val (.ref a), .val (.ref b), .val (.ref b1), .val (.int (2 : Int32)), .val (.int (2 : Int32))]) (1 : Int32) (by decide) W60 d_c_pos22_66 rfl rfl ?_
          refine g_goto 10 (pc := 69) W60 d_c_pos22_69 (by decide) (by decide) ?_
          refine g_iload (pc := 10) W60 d_c_pos22_10 rfl ?_
          refine g_aload_n (pc := 12) W60 d_c_pos22_12 rfl rfl ?_
          refine g_arraylength (pc := 13) (i := 0) (2 : Int32) W60 rfl rfl d_c_pos22_13 ?_
          refine g_icmpY 72 (pc := 14) W60 d_c_pos22_14 (by decide) (by decide) (by decide) ?_
          refine g_aload_n (pc := 72) W60 d_c_pos22_72 rfl rfl ?_
          exact g_areturn (pc := 73) rfl rfl W60 d_c_pos22_73 (by decide) (by decide) ⟨b1, rfl, by simp only [cl_lt, cl_eq, Int64.lt_iff_toInt_lt, ← Int64.toInt_inj] at c5 c39 c40 c53; have e0 : ex2 y0 x0 x1 x2 = (1 : Int32) := (by simp only [ex2, cl_eq, ← Int64.toInt_inj]; (repeat' split) <;> first | rfl | (exfalso; omega)); have e1 : ex2 y1 x0 x1 x2 = (-1 : Int32) := (by simp only [ex2, cl_eq, ← Int64.toInt_inj]; (repeat' split) <;> first | rfl | (exfalso; omega)); rw [e0, e1]⟩
    · refine g_iinc (pc := 34) (ls' := #[.val (.ref a), .val (.ref b), .val (.ref b1), .val (.int (2 : Int32)), .val (.int (0 : Int32))]) (1 : Int32) (by decide) W4 d_c_pos22_34 rfl rfl ?_
      refine g_goto 17 (pc := 37) W4 d_c_pos22_37 (by decide) (by decide) ?_
      refine g_iload_n (pc := 17) W4 d_c_pos22_17 rfl ?_
      refine g_aload_n (pc := 18) W4 d_c_pos22_18 rfl rfl ?_
      refine g_arraylength (pc := 19) (i := 1) (2 : Int32) W4 rfl rfl d_c_pos22_19 ?_
      refine g_icmpY 40 (pc := 20) W4 d_c_pos22_20 (by decide) (by decide) (by decide) ?_
      refine g_aload_n (pc := 40) W4 d_c_pos22_40 rfl rfl ?_
      refine g_iload (pc := 41) W4 d_c_pos22_41 rfl ?_
      refine g_iload_n (pc := 43) W4 d_c_pos22_43 rfl ?_
      refine g_aload_n (pc := 44) W4 d_c_pos22_44 rfl rfl ?_
      refine g_arraylength (pc := 45) (i := 1) (2 : Int32) W4 rfl rfl d_c_pos22_45 ?_
      refine g_icmpY 64 (pc := 46) W4 d_c_pos22_46 (by decide) (by decide) (by decide) ?_
      refine g_iconst (pc := 64) (-1 : Int32) (by decide) W4 d_c_pos22_64 ?_
      refine g_iastore (pc := 65) (i := 2) (os' := [(a, (.array .long), [.long y0, .long y1]), (b, (.array .long), [.long x0, .long x1]), (b1, (.array .int), [.int (-1 : Int32), .int (0 : Int32)])]) 0 W4 rfl (by decide) (by decide) (Nat.le_of_ble_eq_true rfl) rfl d_c_pos22_65 (fun T61 W62 => ?_)
      refine g_iinc (pc := 66) (ls' := #[.val (.ref a), .val (.ref b), .val (.ref b1), .val (.int (2 : Int32)), .val (.int (1 : Int32))]) (1 : Int32) (by decide) W62 d_c_pos22_66 rfl rfl ?_
      refine g_goto 10 (pc := 69) W62 d_c_pos22_69 (by decide) (by decide) ?_
      refine g_iload (pc := 10) W62 d_c_pos22_10 rfl ?_
      refine g_aload_n (pc := 12) W62 d_c_pos22_12 rfl rfl ?_
      refine g_arraylength (pc := 13) (i := 0) (2 : Int32) W62 rfl rfl d_c_pos22_13 ?_
      refine g_icmpN (pc := 14) W62 d_c_pos22_14 (by decide) ?_
      refine g_iload_n (pc := 17) W62 d_c_pos22_17 rfl ?_
      refine g_aload_n (pc := 18) W62 d_c_pos22_18 rfl rfl ?_
      refine g_arraylength (pc := 19) (i := 1) (2 : Int32) W62 rfl rfl d_c_pos22_19 ?_
      refine g_icmpY 40 (pc := 20) W62 d_c_pos22_20 (by decide) (by decide) (by decide) ?_
      refine g_aload_n (pc := 40) W62 d_c_pos22_40 rfl rfl ?_
      refine g_iload (pc := 41) W62 d_c_pos22_41 rfl ?_
      refine g_iload_n (pc := 43) W62 d_c_pos22_43 rfl ?_
      refine g_aload_n (pc := 44) W62 d_c_pos22_44 rfl rfl ?_
      refine g_arraylength (pc := 45) (i := 1) (2 : Int32) W62 rfl rfl d_c_pos22_45 ?_
      refine g_icmpY 64 (pc := 46) W62 d_c_pos22_46 (by decide) (by decide) (by decide) ?_
      refine g_iconst (pc := 64) (-1 : Int32) (by decide) W62 d_c_pos22_64 ?_
      refine g_iastore (pc := 65) (i := 2) (os' := [(a, (.array .long), [.long y0, .long y1]), (b, (.array .long), [.long x0, .long x1]), (b1, (.array .int), [.int (-1 : Int32), .int (-1 : Int32)])]) 1 W62 rfl (by decide) (by decide) (Nat.le_of_ble_eq_true rfl) rfl d_c_pos22_65 (fun T63 W64 => ?_)
      refine g_iinc (pc := 66) (ls' := #[.val (.ref a), .val (.ref b), .val (.ref b1), .val (.int (2 : Int32)), .val (.int (2 : Int32))]) (1 : Int32) (by decide) W64 d_c_pos22_66 rfl rfl ?_
      refine g_goto 10 (pc := 69) W64 d_c_pos22_69 (by decide) (by decide) ?_
      refine g_iload (pc := 10) W64 d_c_pos22_10 rfl ?_
      refine g_aload_n (pc := 12) W64 d_c_pos22_12 rfl rfl ?_
      refine g_arraylength (pc := 13) (i := 0) (2 : Int32) W64 rfl rfl d_c_pos22_13 ?_
      refine g_icmpY 72 (pc := 14) W64 d_c_pos22_14 (by decide) (by decide) (by decide) ?_
      refine g_aload_n (pc := 72) W64 d_c_pos22_72 rfl rfl ?_
      exact g_areturn (pc := 73) rfl rfl W64 d_c_pos22_73 (by decide) (by decide) ⟨b1, rfl, by simp only [cl_lt, cl_eq, Int64.lt_iff_toInt_lt, ← Int64.toInt_inj] at c5 c39; have e0 : ex2 y0 x0 x1 x2 = (-1 : Int32) := (by simp only [ex2, cl_eq, ← Int64.toInt_inj]; (repeat' split) <;> first | rfl | (exfalso; omega)); have e1 : ex2 y1 x0 x1 x2 = (-1 : Int32) := (by simp only [ex2, cl_eq, ← Int64.toInt_inj]; (repeat' split) <;> first | rfl | (exfalso; omega)); rw [e0, e1]⟩
theorem d_c_pos23_0 : decode prog_15_method_2_code 0 = .ok (.aload_n 0, 1) := by decide +kernel
theorem d_c_pos23_1 : decode prog_15_method_2_code 1 = .ok (.arraylength, 1) := by decide +kernel
theorem d_c_pos23_2 : decode prog_15_method_2_code 2 = .ok (.newarray .int, 2) := by decide +kernel
theorem d_c_pos23_4 : decode prog_15_method_2_code 4 = .ok (.astore_n 2, 1) := by decide +kernel
theorem d_c_pos23_5 : decode prog_15_method_2_code 5 = .ok (.iconst 0, 1) := by decide +kernel
theorem d_c_pos23_6 : decode prog_15_method_2_code 6 = .ok (.istore_n 3, 1) := by decide +kernel
theorem d_c_pos23_7 : decode prog_15_method_2_code 7 = .ok (.iconst 0, 1) := by decide +kernel
theorem d_c_pos23_8 : decode prog_15_method_2_code 8 = .ok (.istore 4, 2) := by decide +kernel
theorem d_c_pos23_10 : decode prog_15_method_2_code 10 = .ok (.iload 4, 2) := by decide +kernel
theorem d_c_pos23_12 : decode prog_15_method_2_code 12 = .ok (.aload_n 0, 1) := by decide +kernel
theorem d_c_pos23_13 : decode prog_15_method_2_code 13 = .ok (.arraylength, 1) := by decide +kernel
theorem d_c_pos23_14 : decode prog_15_method_2_code 14 = .ok (.if_icmp .ge 58, 3) := by decide +kernel
theorem d_c_pos23_17 : decode prog_15_method_2_code 17 = .ok (.iload_n 3, 1) := by decide +kernel
theorem d_c_pos23_18 : decode prog_15_method_2_code 18 = .ok (.aload_n 1, 1) := by decide +kernel
theorem d_c_pos23_19 : decode prog_15_method_2_code 19 = .ok (.arraylength, 1) := by decide +kernel
theorem d_c_pos23_20 : decode prog_15_method_2_code 20 = .ok (.if_icmp .ge 20, 3) := by decide +kernel
theorem d_c_pos23_23 : decode prog_15_method_2_code 23 = .ok (.aload_n 1, 1) := by decide +kernel
theorem d_c_pos23_24 : decode prog_15_method_2_code 24 = .ok (.iload_n 3, 1) := by decide +kernel
theorem d_c_pos23_25 : decode prog_15_method_2_code 25 = .ok (.laload, 1) := by decide +kernel
theorem d_c_pos23_26 : decode prog_15_method_2_code 26 = .ok (.aload_n 0, 1) := by decide +kernel
theorem d_c_pos23_27 : decode prog_15_method_2_code 27 = .ok (.iload 4, 2) := by decide +kernel
theorem d_c_pos23_29 : decode prog_15_method_2_code 29 = .ok (.laload, 1) := by decide +kernel
theorem d_c_pos23_30 : decode prog_15_method_2_code 30 = .ok (.lcmp, 1) := by decide +kernel
theorem d_c_pos23_31 : decode prog_15_method_2_code 31 = .ok (.ifCond .ge 9, 3) := by decide +kernel
theorem d_c_pos23_34 : decode prog_15_method_2_code 34 = .ok (.iinc 3 1, 3) := by decide +kernel
theorem d_c_pos23_37 : decode prog_15_method_2_code 37 = .ok (.goto (-20), 3) := by decide +kernel
theorem d_c_pos23_40 : decode prog_15_method_2_code 40 = .ok (.aload_n 2, 1) := by decide +kernel
theorem d_c_pos23_41 : decode prog_15_method_2_code 41 = .ok (.iload 4, 2) := by decide +kernel
theorem d_c_pos23_43 : decode prog_15_method_2_code 43 = .ok (.iload_n 3, 1) := by decide +kernel
theorem d_c_pos23_44 : decode prog_15_method_2_code 44 = .ok (.aload_n 1, 1) := by decide +kernel
theorem d_c_pos23_45 : decode prog_15_method_2_code 45 = .ok (.arraylength, 1) := by decide +kernel
theorem d_c_pos23_46 : decode prog_15_method_2_code 46 = .ok (.if_icmp .ge 18, 3) := by decide +kernel
theorem d_c_pos23_49 : decode prog_15_method_2_code 49 = .ok (.aload_n 1, 1) := by decide +kernel
theorem d_c_pos23_50 : decode prog_15_method_2_code 50 = .ok (.iload_n 3, 1) := by decide +kernel
theorem d_c_pos23_51 : decode prog_15_method_2_code 51 = .ok (.laload, 1) := by decide +kernel
theorem d_c_pos23_52 : decode prog_15_method_2_code 52 = .ok (.aload_n 0, 1) := by decide +kernel
theorem d_c_pos23_53 : decode prog_15_method_2_code 53 = .ok (.iload 4, 2) := by decide +kernel
theorem d_c_pos23_55 : decode prog_15_method_2_code 55 = .ok (.laload, 1) := by decide +kernel
theorem d_c_pos23_56 : decode prog_15_method_2_code 56 = .ok (.lcmp, 1) := by decide +kernel
theorem d_c_pos23_57 : decode prog_15_method_2_code 57 = .ok (.ifCond .ne 7, 3) := by decide +kernel
theorem d_c_pos23_60 : decode prog_15_method_2_code 60 = .ok (.iload_n 3, 1) := by decide +kernel
theorem d_c_pos23_61 : decode prog_15_method_2_code 61 = .ok (.goto 4, 3) := by decide +kernel
theorem d_c_pos23_64 : decode prog_15_method_2_code 64 = .ok (.iconst (-1), 1) := by decide +kernel
theorem d_c_pos23_65 : decode prog_15_method_2_code 65 = .ok (.iastore, 1) := by decide +kernel
theorem d_c_pos23_66 : decode prog_15_method_2_code 66 = .ok (.iinc 4 1, 3) := by decide +kernel
theorem d_c_pos23_69 : decode prog_15_method_2_code 69 = .ok (.goto (-59), 3) := by decide +kernel
theorem d_c_pos23_72 : decode prog_15_method_2_code 72 = .ok (.aload_n 2, 1) := by decide +kernel
theorem d_c_pos23_73 : decode prog_15_method_2_code 73 = .ok (.areturn, 1) := by decide +kernel
set_option maxRecDepth 65536 in
set_option maxHeartbeats 40000000 in
theorem c_pos23 (l : Launch) (Z : State) (a0 : Array Value) (hw : ∀ d ∈ tables_1, d.before a0 Z = true) {B : Nat} (a b : Addr) (y0 y1 x0 x1 x2 : Int64) (hx0 : x0.toInt < x1.toInt) (hx1 : x1.toInt < x2.toInt) (hy : y0.toInt < y1.toInt) :
    Con l Z FM B (⟨"com/example/rover/rover/broker/Ids", "positions", "([J[J)[I"⟩ : MethodName) prog_15_method_2_code 5 (some (.array .int)) ({ frames := 0, cells := 1, slots := 2, locals := 0 } : Room) [] #[.ref a, .ref b] [(a, (.array .long), [.long y0, .long y1]), (b, (.array .long), [.long x0, .long x1, .long x2])] (fun v os => ∃ r, v = some (.ref r) ∧ os = [(a, (.array .long), [.long y0, .long y1]), (b, (.array .long), [.long x0, .long x1, .long x2]), (r, .array .int, [.int (ex3 y0 x0 x1 x2), .int (ex3 y1 x0 x1 x2)])]) := by
  refine Con.of (plainFor_of_name (by first | (simp [plainName, overriddenIn]; done) | decide +kernel)) (ls := #[.val (.ref a), .val (.ref b), .unset, .unset, .unset]) (fun m => by first | (simp [entryFrame, mkF, argsToLocals, Value.category]; done) | rfl) ?_
  intro p_ e_ h_ s_ m_ bl_ me_ c_ T0 W0
  refine g_aload_n (pc := 0) W0 d_c_pos23_0 rfl rfl ?_
  refine g_arraylength (pc := 1) (i := 0) (2 : Int32) W0 rfl rfl d_c_pos23_1 ?_
  refine g_newarray (pc := 2) (ty := .int) (vs := [.int (0 : Int32), .int (0 : Int32)]) 2 W0 (hw _ (List.mem_of_getElem? (i := 16) rfl)) rfl (by decide) (by decide) (by decide) rfl d_c_pos23_2 (by decide) (by decide) (fun T2 b1 W3 => ?_)
  have W4 := W3.re (os' := [(a, (.array .long), [.long y0, .long y1]), (b, (.array .long), [.long x0, .long x1, .long x2]), (b1, (.array .int), [.int (0 : Int32), .int (0 : Int32)])]) rfl
  refine g_astore_n (pc := 4) (ls' := #[.val (.ref a), .val (.ref b), .val (.ref b1), .unset, .unset]) W4 d_c_pos23_4 rfl rfl ?_
  refine g_iconst (pc := 5) (0 : Int32) (by decide) W4 d_c_pos23_5 ?_
  refine g_istore_n (pc := 6) (ls' := #[.val (.ref a), .val (.ref b), .val (.ref b1), .val (.int (0 : Int32)), .unset]) W4 d_c_pos23_6 rfl ?_
  refine g_iconst (pc := 7) (0 : Int32) (by decide) W4 d_c_pos23_7 ?_
  refine g_istore (pc := 8) (ls' := #[.val (.ref a), .val (.ref b), .val (.ref b1), .val (.int (0 : Int32)), .val (.int (0 : Int32))]) W4 d_c_pos23_8 rfl ?_
  refine g_iload (pc := 10) W4 d_c_pos23_10 rfl ?_
  refine g_aload_n (pc := 12) W4 d_c_pos23_12 rfl rfl ?_
  refine g_arraylength (pc := 13) (i := 0) (2 : Int32) W4 rfl rfl d_c_pos23_13 ?_
  refine g_icmpN (pc := 14) W4 d_c_pos23_14 (by decide) ?_
  refine g_iload_n (pc := 17) W4 d_c_pos23_17 rfl ?_
  refine g_aload_n (pc := 18) W4 d_c_pos23_18 rfl rfl ?_
  refine g_arraylength (pc := 19) (i := 1) (3 : Int32) W4 rfl rfl d_c_pos23_19 ?_
  refine g_icmpN (pc := 20) W4 d_c_pos23_20 (by decide) ?_
  refine g_aload_n (pc := 23) W4 d_c_pos23_23 rfl rfl ?_
  refine g_iload_n (pc := 24) W4 d_c_pos23_24 rfl ?_
  refine g_laload (pc := 25) (i := 1) (v := .long x0) W4 rfl (by decide) rfl d_c_pos23_25 ?_
  refine g_aload_n (pc := 26) W4 d_c_pos23_26 rfl rfl ?_
  refine g_iload (pc := 27) W4 d_c_pos23_27 rfl ?_
  refine g_laload (pc := 29) (i := 0) (v := .long y0) W4 rfl (by decide) rfl d_c_pos23_29 ?_
  refine g_lcmp (pc := 30) W4 d_c_pos23_30 ?_
  refine g_if_ge 40 (pc := 31) W4 d_c_pos23_31 (by decide) (by decide) (fun c5 => ?_) (fun c5 => ?_)
  · refine g_aload_n (pc := 40) W4 d_c_pos23_40 rfl rfl ?_
    refine g_iload (pc := 41) W4 d_c_pos23_41 rfl ?_
    refine g_iload_n (pc := 43) W4 d_c_pos23_43 rfl ?_
    refine g_aload_n (pc := 44) W4 d_c_pos23_44 rfl rfl ?_
    refine g_arraylength (pc := 45) (i := 1) (3 : Int32) W4 rfl rfl d_c_pos23_45 ?_
    refine g_icmpN (pc := 46) W4 d_c_pos23_46 (by decide) ?_
    refine g_aload_n (pc := 49) W4 d_c_pos23_49 rfl rfl ?_
    refine g_iload_n (pc := 50) W4 d_c_pos23_50 rfl ?_
    refine g_laload (pc := 51) (i := 1) (v := .long x0) W4 rfl (by decide) rfl d_c_pos23_51 ?_
    refine g_aload_n (pc := 52) W4 d_c_pos23_52 rfl rfl ?_
    refine g_iload (pc := 53) W4 d_c_pos23_53 rfl ?_
    refine g_laload (pc := 55) (i := 0) (v := .long y0) W4 rfl (by decide) rfl d_c_pos23_55 ?_
    refine g_lcmp (pc := 56) W4 d_c_pos23_56 ?_
    refine g_if_ne 64 (pc := 57) W4 d_c_pos23_57 (by decide) (by decide) (fun c6 => ?_) (fun c6 => ?_)
    · refine g_iconst (pc := 64) (-1 : Int32) (by decide) W4 d_c_pos23_64 ?_
      refine g_iastore (pc := 65) (i := 2) (os' := [(a, (.array .long), [.long y0, .long y1]), (b, (.array .long), [.long x0, .long x1, .long x2]), (b1, (.array .int), [.int (-1 : Int32), .int (0 : Int32)])]) 0 W4 rfl (by decide) (by decide) (Nat.le_of_ble_eq_true rfl) rfl d_c_pos23_65 (fun T7 W8 => ?_)
      refine g_iinc (pc := 66) (ls' := #[.val (.ref a), .val (.ref b), .val (.ref b1), .val (.int (0 : Int32)), .val (.int (1 : Int32))]) (1 : Int32) (by decide) W8 d_c_pos23_66 rfl rfl ?_
      refine g_goto 10 (pc := 69) W8 d_c_pos23_69 (by decide) (by decide) ?_
      refine g_iload (pc := 10) W8 d_c_pos23_10 rfl ?_
      refine g_aload_n (pc := 12) W8 d_c_pos23_12 rfl rfl ?_
      refine g_arraylength (pc := 13) (i := 0) (2 : Int32) W8 rfl rfl d_c_pos23_13 ?_
      refine g_icmpN (pc := 14) W8 d_c_pos23_14 (by decide) ?_
      refine g_iload_n (pc := 17) W8 d_c_pos23_17 rfl ?_
      refine g_aload_n (pc := 18) W8 d_c_pos23_18 rfl rfl ?_
      refine g_arraylength (pc := 19) (i := 1) (3 : Int32) W8 rfl rfl d_c_pos23_19 ?_
      refine g_icmpN (pc := 20) W8 d_c_pos23_20 (by decide) ?_
      refine g_aload_n (pc := 23) W8 d_c_pos23_23 rfl rfl ?_
      refine g_iload_n (pc := 24) W8 d_c_pos23_24 rfl ?_
      refine g_laload (pc := 25) (i := 1) (v := .long x0) W8 rfl (by decide) rfl d_c_pos23_25 ?_
      refine g_aload_n (pc := 26) W8 d_c_pos23_26 rfl rfl ?_
      refine g_iload (pc := 27) W8 d_c_pos23_27 rfl ?_
      refine g_laload (pc := 29) (i := 0) (v := .long y1) W8 rfl (by decide) rfl d_c_pos23_29 ?_
      refine g_lcmp (pc := 30) W8 d_c_pos23_30 ?_
      refine g_if_ge 40 (pc := 31) W8 d_c_pos23_31 (by decide) (by decide) (fun c9 => ?_) (fun c9 => ?_)
      · refine g_aload_n (pc := 40) W8 d_c_pos23_40 rfl rfl ?_
        refine g_iload (pc := 41) W8 d_c_pos23_41 rfl ?_
        refine g_iload_n (pc := 43) W8 d_c_pos23_43 rfl ?_
        refine g_aload_n (pc := 44) W8 d_c_pos23_44 rfl rfl ?_
        refine g_arraylength (pc := 45) (i := 1) (3 : Int32) W8 rfl rfl d_c_pos23_45 ?_
        refine g_icmpN (pc := 46) W8 d_c_pos23_46 (by decide) ?_
        refine g_aload_n (pc := 49) W8 d_c_pos23_49 rfl rfl ?_
        refine g_iload_n (pc := 50) W8 d_c_pos23_50 rfl ?_
        refine g_laload (pc := 51) (i := 1) (v := .long x0) W8 rfl (by decide) rfl d_c_pos23_51 ?_
        refine g_aload_n (pc := 52) W8 d_c_pos23_52 rfl rfl ?_
        refine g_iload (pc := 53) W8 d_c_pos23_53 rfl ?_
        refine g_laload (pc := 55) (i := 0) (v := .long y1) W8 rfl (by decide) rfl d_c_pos23_55 ?_
        refine g_lcmp (pc := 56) W8 d_c_pos23_56 ?_
        refine g_if_ne 64 (pc := 57) W8 d_c_pos23_57 (by decide) (by decide) (fun c10 => ?_) (fun c10 => ?_)
        · refine g_iconst (pc := 64) (-1 : Int32) (by decide) W8 d_c_pos23_64 ?_
          refine g_iastore (pc := 65) (i := 2) (os' := [(a, (.array .long), [.long y0, .long y1]), (b, (.array .long), [.long x0, .long x1, .long x2]), (b1, (.array .int), [.int (-1 : Int32), .int (-1 : Int32)])]) 1 W8 rfl (by decide) (by decide) (Nat.le_of_ble_eq_true rfl) rfl d_c_pos23_65 (fun T11 W12 => ?_)
          refine g_iinc (pc := 66) (ls' := #[.val (.ref a), .val (.ref b), .val (.ref b1), .val (.int (0 : Int32)), .val (.int (2 : Int32))]) (1 : Int32) (by decide) W12 d_c_pos23_66 rfl rfl ?_
          refine g_goto 10 (pc := 69) W12 d_c_pos23_69 (by decide) (by decide) ?_
          refine g_iload (pc := 10) W12 d_c_pos23_10 rfl ?_
          refine g_aload_n (pc := 12) W12 d_c_pos23_12 rfl rfl ?_
          refine g_arraylength (pc := 13) (i := 0) (2 : Int32) W12 rfl rfl d_c_pos23_13 ?_
          refine g_icmpY 72 (pc := 14) W12 d_c_pos23_14 (by decide) (by decide) (by decide) ?_
          refine g_aload_n (pc := 72) W12 d_c_pos23_72 rfl rfl ?_
          exact g_areturn (pc := 73) rfl rfl W12 d_c_pos23_73 (by decide) (by decide) ⟨b1, rfl, by simp only [cl_lt, cl_eq, Int64.lt_iff_toInt_lt, ← Int64.toInt_inj] at c5 c6 c9 c10; have e0 : ex3 y0 x0 x1 x2 = (-1 : Int32) := (by simp only [ex3, cl_eq, ← Int64.toInt_inj]; (repeat' split) <;> first | rfl | (exfalso; omega)); have e1 : ex3 y1 x0 x1 x2 = (-1 : Int32) := (by simp only [ex3, cl_eq, ← Int64.toInt_inj]; (repeat' split) <;> first | rfl | (exfalso; omega)); rw [e0, e1]⟩
        · refine g_iload_n (pc := 60) W8 d_c_pos23_60 rfl ?_
          refine g_goto 65 (pc := 61) W8 d_c_pos23_61 (by decide) (by decide) ?_
          refine g_iastore (pc := 65) (i := 2) (os' := [(a, (.array .long), [.long y0, .long y1]), (b, (.array .long), [.long x0, .long x1, .long x2]), (b1, (.array .int), [.int (-1 : Int32), .int (0 : Int32)])]) 1 W8 rfl (by decide) (by decide) (Nat.le_of_ble_eq_true rfl) rfl d_c_pos23_65 (fun T13 W14 => ?_)
          refine g_iinc (pc := 66) (ls' := #[.val (.ref a), .val (.ref b), .val (.ref b1), .val (.int (0 : Int32)), .val (.int (2 : Int32))]) (1 : Int32) (by decide) W14 d_c_pos23_66 rfl rfl ?_
          refine g_goto 10 (pc := 69) W14 d_c_pos23_69 (by decide) (by decide) ?_
          refine g_iload (pc := 10) W14 d_c_pos23_10 rfl ?_
          refine g_aload_n (pc := 12) W14 d_c_pos23_12 rfl rfl ?_
          refine g_arraylength (pc := 13) (i := 0) (2 : Int32) W14 rfl rfl d_c_pos23_13 ?_
          refine g_icmpY 72 (pc := 14) W14 d_c_pos23_14 (by decide) (by decide) (by decide) ?_
          refine g_aload_n (pc := 72) W14 d_c_pos23_72 rfl rfl ?_
          exact g_areturn (pc := 73) rfl rfl W14 d_c_pos23_73 (by decide) (by decide) ⟨b1, rfl, by simp only [cl_lt, cl_eq, Int64.lt_iff_toInt_lt, ← Int64.toInt_inj] at c5 c6 c9 c10; have e0 : ex3 y0 x0 x1 x2 = (-1 : Int32) := (by simp only [ex3, cl_eq, ← Int64.toInt_inj]; (repeat' split) <;> first | rfl | (exfalso; omega)); have e1 : ex3 y1 x0 x1 x2 = (0 : Int32) := (by simp only [ex3, cl_eq, ← Int64.toInt_inj]; (repeat' split) <;> first | rfl | (exfalso; omega)); rw [e0, e1]⟩
      · refine g_iinc (pc := 34) (ls' := #[.val (.ref a), .val (.ref b), .val (.ref b1), .val (.int (1 : Int32)), .val (.int (1 : Int32))]) (1 : Int32) (by decide) W8 d_c_pos23_34 rfl rfl ?_
        refine g_goto 17 (pc := 37) W8 d_c_pos23_37 (by decide) (by decide) ?_
        refine g_iload_n (pc := 17) W8 d_c_pos23_17 rfl ?_
        refine g_aload_n (pc := 18) W8 d_c_pos23_18 rfl rfl ?_
        refine g_arraylength (pc := 19) (i := 1) (3 : Int32) W8 rfl rfl d_c_pos23_19 ?_
        refine g_icmpN (pc := 20) W8 d_c_pos23_20 (by decide) ?_
        refine g_aload_n (pc := 23) W8 d_c_pos23_23 rfl rfl ?_
        refine g_iload_n (pc := 24) W8 d_c_pos23_24 rfl ?_
        refine g_laload (pc := 25) (i := 1) (v := .long x1) W8 rfl (by decide) rfl d_c_pos23_25 ?_
        refine g_aload_n (pc := 26) W8 d_c_pos23_26 rfl rfl ?_
        refine g_iload (pc := 27) W8 d_c_pos23_27 rfl ?_
        refine g_laload (pc := 29) (i := 0) (v := .long y1) W8 rfl (by decide) rfl d_c_pos23_29 ?_
        refine g_lcmp (pc := 30) W8 d_c_pos23_30 ?_
        refine g_if_ge 40 (pc := 31) W8 d_c_pos23_31 (by decide) (by decide) (fun c15 => ?_) (fun c15 => ?_)
        · refine g_aload_n (pc := 40) W8 d_c_pos23_40 rfl rfl ?_
          refine g_iload (pc := 41) W8 d_c_pos23_41 rfl ?_
          refine g_iload_n (pc := 43) W8 d_c_pos23_43 rfl ?_
          refine g_aload_n (pc := 44) W8 d_c_pos23_44 rfl rfl ?_
          refine g_arraylength (pc := 45) (i := 1) (3 : Int32) W8 rfl rfl d_c_pos23_45 ?_
          refine g_icmpN (pc := 46) W8 d_c_pos23_46 (by decide) ?_
          refine g_aload_n (pc := 49) W8 d_c_pos23_49 rfl rfl ?_
          refine g_iload_n (pc := 50) W8 d_c_pos23_50 rfl ?_
          refine g_laload (pc := 51) (i := 1) (v := .long x1) W8 rfl (by decide) rfl d_c_pos23_51 ?_
          refine g_aload_n (pc := 52) W8 d_c_pos23_52 rfl rfl ?_
          refine g_iload (pc := 53) W8 d_c_pos23_53 rfl ?_
          refine g_laload (pc := 55) (i := 0) (v := .long y1) W8 rfl (by decide) rfl d_c_pos23_55 ?_
          refine g_lcmp (pc := 56) W8 d_c_pos23_56 ?_
          refine g_if_ne 64 (pc := 57) W8 d_c_pos23_57 (by decide) (by decide) (fun c16 => ?_) (fun c16 => ?_)
          · refine g_iconst (pc := 64) (-1 : Int32) (by decide) W8 d_c_pos23_64 ?_
            refine g_iastore (pc := 65) (i := 2) (os' := [(a, (.array .long), [.long y0, .long y1]), (b, (.array .long), [.long x0, .long x1, .long x2]), (b1, (.array .int), [.int (-1 : Int32), .int (-1 : Int32)])]) 1 W8 rfl (by decide) (by decide) (Nat.le_of_ble_eq_true rfl) rfl d_c_pos23_65 (fun T17 W18 => ?_)
            refine g_iinc (pc := 66) (ls' := #[.val (.ref a), .val (.ref b), .val (.ref b1), .val (.int (1 : Int32)), .val (.int (2 : Int32))]) (1 : Int32) (by decide) W18 d_c_pos23_66 rfl rfl ?_
            refine g_goto 10 (pc := 69) W18 d_c_pos23_69 (by decide) (by decide) ?_
            refine g_iload (pc := 10) W18 d_c_pos23_10 rfl ?_
            refine g_aload_n (pc := 12) W18 d_c_pos23_12 rfl rfl ?_
            refine g_arraylength (pc := 13) (i := 0) (2 : Int32) W18 rfl rfl d_c_pos23_13 ?_
            refine g_icmpY 72 (pc := 14) W18 d_c_pos23_14 (by decide) (by decide) (by decide) ?_
            refine g_aload_n (pc := 72) W18 d_c_pos23_72 rfl rfl ?_
            exact g_areturn (pc := 73) rfl rfl W18 d_c_pos23_73 (by decide) (by decide) ⟨b1, rfl, by simp only [cl_lt, cl_eq, Int64.lt_iff_toInt_lt, ← Int64.toInt_inj] at c5 c6 c9 c15 c16; have e0 : ex3 y0 x0 x1 x2 = (-1 : Int32) := (by simp only [ex3, cl_eq, ← Int64.toInt_inj]; (repeat' split) <;> first | rfl | (exfalso; omega)); have e1 : ex3 y1 x0 x1 x2 = (-1 : Int32) := (by simp only [ex3, cl_eq, ← Int64.toInt_inj]; (repeat' split) <;> first | rfl | (exfalso; omega)); rw [e0, e1]⟩
          · refine g_iload_n (pc := 60) W8 d_c_pos23_60 rfl ?_
            refine g_goto 65 (pc := 61) W8 d_c_pos23_61 (by decide) (by decide) ?_
            refine g_iastore (pc := 65) (i := 2) (os' := [(a, (.array .long), [.long y0, .long y1]), (b, (.array .long), [.long x0, .long x1, .long x2]), (b1, (.array .int), [.int (-1 : Int32), .int (1 : Int32)])]) 1 W8 rfl (by decide) (by decide) (Nat.le_of_ble_eq_true rfl) rfl d_c_pos23_65 (fun T19 W20 => ?_)
            refine g_iinc (pc := 66) (ls' := #[.val (.ref a), .val (.ref b), .val (.ref b1), .val (.int (1 : Int32)), .val (.int (2 : Int32))]) (1 : Int32) (by decide) W20 d_c_pos23_66 rfl rfl ?_
            refine g_goto 10 (pc := 69) W20 d_c_pos23_69 (by decide) (by decide) ?_
            refine g_iload (pc := 10) W20 d_c_pos23_10 rfl ?_
            refine g_aload_n (pc := 12) W20 d_c_pos23_12 rfl rfl ?_
            refine g_arraylength (pc := 13) (i := 0) (2 : Int32) W20 rfl rfl d_c_pos23_13 ?_
            refine g_icmpY 72 (pc := 14) W20 d_c_pos23_14 (by decide) (by decide) (by decide) ?_
            refine g_aload_n (pc := 72) W20 d_c_pos23_72 rfl rfl ?_
            exact g_areturn (pc := 73) rfl rfl W20 d_c_pos23_73 (by decide) (by decide) ⟨b1, rfl, by simp only [cl_lt, cl_eq, Int64.lt_iff_toInt_lt, ← Int64.toInt_inj] at c5 c6 c9 c15 c16; have e0 : ex3 y0 x0 x1 x2 = (-1 : Int32) := (by simp only [ex3, cl_eq, ← Int64.toInt_inj]; (repeat' split) <;> first | rfl | (exfalso; omega)); have e1 : ex3 y1 x0 x1 x2 = (1 : Int32) := (by simp only [ex3, cl_eq, ← Int64.toInt_inj]; (repeat' split) <;> first | rfl | (exfalso; omega)); rw [e0, e1]⟩
        · refine g_iinc (pc := 34) (ls' := #[.val (.ref a), .val (.ref b), .val (.ref b1), .val (.int (2 : Int32)), .val (.int (1 : Int32))]) (1 : Int32) (by decide) W8 d_c_pos23_34 rfl rfl ?_
          refine g_goto 17 (pc := 37) W8 d_c_pos23_37 (by decide) (by decide) ?_
          refine g_iload_n (pc := 17) W8 d_c_pos23_17 rfl ?_
          refine g_aload_n (pc := 18) W8 d_c_pos23_18 rfl rfl ?_
          refine g_arraylength (pc := 19) (i := 1) (3 : Int32) W8 rfl rfl d_c_pos23_19 ?_
          refine g_icmpN (pc := 20) W8 d_c_pos23_20 (by decide) ?_
          refine g_aload_n (pc := 23) W8 d_c_pos23_23 rfl rfl ?_
          refine g_iload_n (pc := 24) W8 d_c_pos23_24 rfl ?_
          refine g_laload (pc := 25) (i := 1) (v := .long x2) W8 rfl (by decide) rfl d_c_pos23_25 ?_
          refine g_aload_n (pc := 26) W8 d_c_pos23_26 rfl rfl ?_
          refine g_iload (pc := 27) W8 d_c_pos23_27 rfl ?_
          refine g_laload (pc := 29) (i := 0) (v := .long y1) W8 rfl (by decide) rfl d_c_pos23_29 ?_
          refine g_lcmp (pc := 30) W8 d_c_pos23_30 ?_
          refine g_if_ge 40 (pc := 31) W8 d_c_pos23_31 (by decide) (by decide) (fun c21 => ?_) (fun c21 => ?_)
          · refine g_aload_n (pc := 40) W8 d_c_pos23_40 rfl rfl ?_
            refine g_iload (pc := 41) W8 d_c_pos23_41 rfl ?_
            refine g_iload_n (pc := 43) W8 d_c_pos23_43 rfl ?_
            refine g_aload_n (pc := 44) W8 d_c_pos23_44 rfl rfl ?_
            refine g_arraylength (pc := 45) (i := 1) (3 : Int32) W8 rfl rfl d_c_pos23_45 ?_
            refine g_icmpN (pc := 46) W8 d_c_pos23_46 (by decide) ?_
            refine g_aload_n (pc := 49) W8 d_c_pos23_49 rfl rfl ?_
            refine g_iload_n (pc := 50) W8 d_c_pos23_50 rfl ?_
            refine g_laload (pc := 51) (i := 1) (v := .long x2) W8 rfl (by decide) rfl d_c_pos23_51 ?_
            refine g_aload_n (pc := 52) W8 d_c_pos23_52 rfl rfl ?_
            refine g_iload (pc := 53) W8 d_c_pos23_53 rfl ?_
            refine g_laload (pc := 55) (i := 0) (v := .long y1) W8 rfl (by decide) rfl d_c_pos23_55 ?_
            refine g_lcmp (pc := 56) W8 d_c_pos23_56 ?_
            refine g_if_ne 64 (pc := 57) W8 d_c_pos23_57 (by decide) (by decide) (fun c22 => ?_) (fun c22 => ?_)
            · refine g_iconst (pc := 64) (-1 : Int32) (by decide) W8 d_c_pos23_64 ?_
              refine g_iastore (pc := 65) (i := 2) (os' := [(a, (.array .long), [.long y0, .long y1]), (b, (.array .long), [.long x0, .long x1, .long x2]), (b1, (.array .int), [.int (-1 : Int32), .int (-1 : Int32)])]) 1 W8 rfl (by decide) (by decide) (Nat.le_of_ble_eq_true rfl) rfl d_c_pos23_65 (fun T23 W24 => ?_)
              refine g_iinc (pc := 66) (ls' := #[.val (.ref a), .val (.ref b), .val (.ref b1), .val (.int (2 : Int32)), .val (.int (2 : Int32))]) (1 : Int32) (by decide) W24 d_c_pos23_66 rfl rfl ?_
              refine g_goto 10 (pc := 69) W24 d_c_pos23_69 (by decide) (by decide) ?_
              refine g_iload (pc := 10) W24 d_c_pos23_10 rfl ?_
              refine g_aload_n (pc := 12) W24 d_c_pos23_12 rfl rfl ?_
              refine g_arraylength (pc := 13) (i := 0) (2 : Int32) W24 rfl rfl d_c_pos23_13 ?_
              refine g_icmpY 72 (pc := 14) W24 d_c_pos23_14 (by decide) (by decide) (by decide) ?_
              refine g_aload_n (pc := 72) W24 d_c_pos23_72 rfl rfl ?_
              exact g_areturn (pc := 73) rfl rfl W24 d_c_pos23_73 (by decide) (by decide) ⟨b1, rfl, by simp only [cl_lt, cl_eq, Int64.lt_iff_toInt_lt, ← Int64.toInt_inj] at c5 c6 c9 c15 c21 c22; have e0 : ex3 y0 x0 x1 x2 = (-1 : Int32) := (by simp only [ex3, cl_eq, ← Int64.toInt_inj]; (repeat' split) <;> first | rfl | (exfalso; omega)); have e1 : ex3 y1 x0 x1 x2 = (-1 : Int32) := (by simp only [ex3, cl_eq, ← Int64.toInt_inj]; (repeat' split) <;> first | rfl | (exfalso; omega)); rw [e0, e1]⟩
            · refine g_iload_n (pc := 60) W8 d_c_pos23_60 rfl ?_
              refine g_goto 65 (pc := 61) W8 d_c_pos23_61 (by decide) (by decide) ?_
              refine g_iastore (pc := 65) (i := 2) (os' := [(a, (.array .long), [.long y0, .long y1]), (b, (.array .long), [.long x0, .long x1, .long x2]), (b1, (.array .int), [.int (-1 : Int32), .int (2 : Int32)])]) 1 W8 rfl (by decide) (by decide) (Nat.le_of_ble_eq_true rfl) rfl d_c_pos23_65 (fun T25 W26 => ?_)
              refine g_iinc (pc := 66) (ls' := #[.val (.ref a), .val (.ref b), .val (.ref b1), .val (.int (2 : Int32)), .val (.int (2 : Int32))]) (1 : Int32) (by decide) W26 d_c_pos23_66 rfl rfl ?_
              refine g_goto 10 (pc := 69) W26 d_c_pos23_69 (by decide) (by decide) ?_
              refine g_iload (pc := 10) W26 d_c_pos23_10 rfl ?_
              refine g_aload_n (pc := 12) W26 d_c_pos23_12 rfl rfl ?_
              refine g_arraylength (pc := 13) (i := 0) (2 : Int32) W26 rfl rfl d_c_pos23_13 ?_
              refine g_icmpY 72 (pc := 14) W26 d_c_pos23_14 (by decide) (by decide) (by decide) ?_
              refine g_aload_n (pc := 72) W26 d_c_pos23_72 rfl rfl ?_
              exact g_areturn (pc := 73) rfl rfl W26 d_c_pos23_73 (by decide) (by decide) ⟨b1, rfl, by simp only [cl_lt, cl_eq, Int64.lt_iff_toInt_lt, ← Int64.toInt_inj] at c5 c6 c9 c15 c21 c22; have e0 : ex3 y0 x0 x1 x2 = (-1 : Int32) := (by simp only [ex3, cl_eq, ← Int64.toInt_inj]; (repeat' split) <;> first | rfl | (exfalso; omega)); have e1 : ex3 y1 x0 x1 x2 = (2 : Int32) := (by simp only [ex3, cl_eq, ← Int64.toInt_inj]; (repeat' split) <;> first | rfl | (exfalso; omega)); rw [e0, e1]⟩
          · refine g_iinc (pc := 34) (ls' := #[.val (.ref a), .val (.ref b), .val (.ref b1), .val (.int (3 : Int32)), .val (.int (1 : Int32))]) (1 : Int32) (by decide) W8 d_c_pos23_34 rfl rfl ?_
            refine g_goto 17 (pc := 37) W8 d_c_pos23_37 (by decide) (by decide) ?_
            refine g_iload_n (pc := 17) W8 d_c_pos23_17 rfl ?_
            refine g_aload_n (pc := 18) W8 d_c_pos23_18 rfl rfl ?_
            refine g_arraylength (pc := 19) (i := 1) (3 : Int32) W8 rfl rfl d_c_pos23_19 ?_
            refine g_icmpY 40 (pc := 20) W8 d_c_pos23_20 (by decide) (by decide) (by decide) ?_
            refine g_aload_n (pc := 40) W8 d_c_pos23_40 rfl rfl ?_
            refine g_iload (pc := 41) W8 d_c_pos23_41 rfl ?_
            refine g_iload_n (pc := 43) W8 d_c_pos23_43 rfl ?_
            refine g_aload_n (pc := 44) W8 d_c_pos23_44 rfl rfl ?_
            refine g_arraylength (pc := 45) (i := 1) (3 : Int32) W8 rfl rfl d_c_pos23_45 ?_
            refine g_icmpY 64 (pc := 46) W8 d_c_pos23_46 (by decide) (by decide) (by decide) ?_
            refine g_iconst (pc := 64) (-1 : Int32) (by decide) W8 d_c_pos23_64 ?_
            refine g_iastore (pc := 65) (i := 2) (os' := [(a, (.array .long), [.long y0, .long y1]), (b, (.array .long), [.long x0, .long x1, .long x2]), (b1, (.array .int), [.int (-1 : Int32), .int (-1 : Int32)])]) 1 W8 rfl (by decide) (by decide) (Nat.le_of_ble_eq_true rfl) rfl d_c_pos23_65 (fun T27 W28 => ?_)
            refine g_iinc (pc := 66) (ls' := #[.val (.ref a), .val (.ref b), .val (.ref b1), .val (.int (3 : Int32)), .val (.int (2 : Int32))]) (1 : Int32) (by decide) W28 d_c_pos23_66 rfl rfl ?_
            refine g_goto 10 (pc := 69) W28 d_c_pos23_69 (by decide) (by decide) ?_
            refine g_iload (pc := 10) W28 d_c_pos23_10 rfl ?_
            refine g_aload_n (pc := 12) W28 d_c_pos23_12 rfl rfl ?_
            refine g_arraylength (pc := 13) (i := 0) (2 : Int32) W28 rfl rfl d_c_pos23_13 ?_
            refine g_icmpY 72 (pc := 14) W28 d_c_pos23_14 (by decide) (by decide) (by decide) ?_
            refine g_aload_n (pc := 72) W28 d_c_pos23_72 rfl rfl ?_
            exact g_areturn (pc := 73) rfl rfl W28 d_c_pos23_73 (by decide) (by decide) ⟨b1, rfl, by simp only [cl_lt, cl_eq, Int64.lt_iff_toInt_lt, ← Int64.toInt_inj] at c5 c6 c9 c15 c21; have e0 : ex3 y0 x0 x1 x2 = (-1 : Int32) := (by simp only [ex3, cl_eq, ← Int64.toInt_inj]; (repeat' split) <;> first | rfl | (exfalso; omega)); have e1 : ex3 y1 x0 x1 x2 = (-1 : Int32) := (by simp only [ex3, cl_eq, ← Int64.toInt_inj]; (repeat' split) <;> first | rfl | (exfalso; omega)); rw [e0, e1]⟩
    · refine g_iload_n (pc := 60) W4 d_c_pos23_60 rfl ?_
      refine g_goto 65 (pc := 61) W4 d_c_pos23_61 (by decide) (by decide) ?_
      refine g_iastore (pc := 65) (i := 2) (os' := [(a, (.array .long), [.long y0, .long y1]), (b, (.array .long), [.long x0, .long x1, .long x2]), (b1, (.array .int), [.int (0 : Int32), .int (0 : Int32)])]) 0 W4 rfl (by decide) (by decide) (Nat.le_of_ble_eq_true rfl) rfl d_c_pos23_65 (fun T29 W30 => ?_)
      refine g_iinc (pc := 66) (ls' := #[.val (.ref a), .val (.ref b), .val (.ref b1), .val (.int (0 : Int32)), .val (.int (1 : Int32))]) (1 : Int32) (by decide) W30 d_c_pos23_66 rfl rfl ?_
      refine g_goto 10 (pc := 69) W30 d_c_pos23_69 (by decide) (by decide) ?_
      refine g_iload (pc := 10) W30 d_c_pos23_10 rfl ?_
      refine g_aload_n (pc := 12) W30 d_c_pos23_12 rfl rfl ?_
      refine g_arraylength (pc := 13) (i := 0) (2 : Int32) W30 rfl rfl d_c_pos23_13 ?_
      refine g_icmpN (pc := 14) W30 d_c_pos23_14 (by decide) ?_
      refine g_iload_n (pc := 17) W30 d_c_pos23_17 rfl ?_
      refine g_aload_n (pc := 18) W30 d_c_pos23_18 rfl rfl ?_
      refine g_arraylength (pc := 19) (i := 1) (3 : Int32) W30 rfl rfl d_c_pos23_19 ?_
      refine g_icmpN (pc := 20) W30 d_c_pos23_20 (by decide) ?_
      refine g_aload_n (pc := 23) W30 d_c_pos23_23 rfl rfl ?_
      refine g_iload_n (pc := 24) W30 d_c_pos23_24 rfl ?_
      refine g_laload (pc := 25) (i := 1) (v := .long x0) W30 rfl (by decide) rfl d_c_pos23_25 ?_
      refine g_aload_n (pc := 26) W30 d_c_pos23_26 rfl rfl ?_
      refine g_iload (pc := 27) W30 d_c_pos23_27 rfl ?_
      refine g_laload (pc := 29) (i := 0) (v := .long y1) W30 rfl (by decide) rfl d_c_pos23_29 ?_
      refine g_lcmp (pc := 30) W30 d_c_pos23_30 ?_
      refine g_if_ge 40 (pc := 31) W30 d_c_pos23_31 (by decide) (by decide) (fun c31 => ?_) (fun c31 => ?_)
      · refine g_aload_n (pc := 40) W30 d_c_pos23_40 rfl rfl ?_
        refine g_iload (pc := 41) W30 d_c_pos23_41 rfl ?_
        refine g_iload_n (pc := 43) W30 d_c_pos23_43 rfl ?_
        refine g_aload_n (pc := 44) W30 d_c_pos23_44 rfl rfl ?_
        refine g_arraylength (pc := 45) (i := 1) (3 : Int32) W30 rfl rfl d_c_pos23_45 ?_
        refine g_icmpN (pc := 46) W30 d_c_pos23_46 (by decide) ?_
        refine g_aload_n (pc := 49) W30 d_c_pos23_49 rfl rfl ?_
        refine g_iload_n (pc := 50) W30 d_c_pos23_50 rfl ?_
        refine g_laload (pc := 51) (i := 1) (v := .long x0) W30 rfl (by decide) rfl d_c_pos23_51 ?_
        refine g_aload_n (pc := 52) W30 d_c_pos23_52 rfl rfl ?_
        refine g_iload (pc := 53) W30 d_c_pos23_53 rfl ?_
        refine g_laload (pc := 55) (i := 0) (v := .long y1) W30 rfl (by decide) rfl d_c_pos23_55 ?_
        refine g_lcmp (pc := 56) W30 d_c_pos23_56 ?_
        refine g_if_ne 64 (pc := 57) W30 d_c_pos23_57 (by decide) (by decide) (fun c32 => ?_) (fun c32 => ?_)
        · refine g_iconst (pc := 64) (-1 : Int32) (by decide) W30 d_c_pos23_64 ?_
          refine g_iastore (pc := 65) (i := 2) (os' := [(a, (.array .long), [.long y0, .long y1]), (b, (.array .long), [.long x0, .long x1, .long x2]), (b1, (.array .int), [.int (0 : Int32), .int (-1 : Int32)])]) 1 W30 rfl (by decide) (by decide) (Nat.le_of_ble_eq_true rfl) rfl d_c_pos23_65 (fun T33 W34 => ?_)
          refine g_iinc (pc := 66) (ls' := #[.val (.ref a), .val (.ref b), .val (.ref b1), .val (.int (0 : Int32)), .val (.int (2 : Int32))]) (1 : Int32) (by decide) W34 d_c_pos23_66 rfl rfl ?_
          refine g_goto 10 (pc := 69) W34 d_c_pos23_69 (by decide) (by decide) ?_
          refine g_iload (pc := 10) W34 d_c_pos23_10 rfl ?_
          refine g_aload_n (pc := 12) W34 d_c_pos23_12 rfl rfl ?_
          refine g_arraylength (pc := 13) (i := 0) (2 : Int32) W34 rfl rfl d_c_pos23_13 ?_
          refine g_icmpY 72 (pc := 14) W34 d_c_pos23_14 (by decide) (by decide) (by decide) ?_
          refine g_aload_n (pc := 72) W34 d_c_pos23_72 rfl rfl ?_
          exact g_areturn (pc := 73) rfl rfl W34 d_c_pos23_73 (by decide) (by decide) ⟨b1, rfl, by simp only [cl_lt, cl_eq, Int64.lt_iff_toInt_lt, ← Int64.toInt_inj] at c5 c6 c31 c32; have e0 : ex3 y0 x0 x1 x2 = (0 : Int32) := (by simp only [ex3, cl_eq, ← Int64.toInt_inj]; (repeat' split) <;> first | rfl | (exfalso; omega)); have e1 : ex3 y1 x0 x1 x2 = (-1 : Int32) := (by simp only [ex3, cl_eq, ← Int64.toInt_inj]; (repeat' split) <;> first | rfl | (exfalso; omega)); rw [e0, e1]⟩
        · refine g_iload_n (pc := 60) W30 d_c_pos23_60 rfl ?_
          refine g_goto 65 (pc := 61) W30 d_c_pos23_61 (by decide) (by decide) ?_
          refine g_iastore (pc := 65) (i := 2) (os' := [(a, (.array .long), [.long y0, .long y1]), (b, (.array .long), [.long x0, .long x1, .long x2]), (b1, (.array .int), [.int (0 : Int32), .int (0 : Int32)])]) 1 W30 rfl (by decide) (by decide) (Nat.le_of_ble_eq_true rfl) rfl d_c_pos23_65 (fun T35 W36 => ?_)
          refine g_iinc (pc := 66) (ls' := #[.val (.ref a), .val (.ref b), .val (.ref b1), .val (.int (0 : Int32)), .val (.int (2 : Int32))]) (1 : Int32) (by decide) W36 d_c_pos23_66 rfl rfl ?_
          refine g_goto 10 (pc := 69) W36 d_c_pos23_69 (by decide) (by decide) ?_
          refine g_iload (pc := 10) W36 d_c_pos23_10 rfl ?_
          refine g_aload_n (pc := 12) W36 d_c_pos23_12 rfl rfl ?_
          refine g_arraylength (pc := 13) (i := 0) (2 : Int32) W36 rfl rfl d_c_pos23_13 ?_
          refine g_icmpY 72 (pc := 14) W36 d_c_pos23_14 (by decide) (by decide) (by decide) ?_
          refine g_aload_n (pc := 72) W36 d_c_pos23_72 rfl rfl ?_
          exact g_areturn (pc := 73) rfl rfl W36 d_c_pos23_73 (by decide) (by decide) ⟨b1, rfl, by simp only [cl_lt, cl_eq, Int64.lt_iff_toInt_lt, ← Int64.toInt_inj] at c5 c6 c31 c32; have e0 : ex3 y0 x0 x1 x2 = (0 : Int32) := (by simp only [ex3, cl_eq, ← Int64.toInt_inj]; (repeat' split) <;> first | rfl | (exfalso; omega)); have e1 : ex3 y1 x0 x1 x2 = (0 : Int32) := (by simp only [ex3, cl_eq, ← Int64.toInt_inj]; (repeat' split) <;> first | rfl | (exfalso; omega)); rw [e0, e1]⟩
      · refine g_iinc (pc := 34) (ls' := #[.val (.ref a), .val (.ref b), .val (.ref b1), .val (.int (1 : Int32)), .val (.int (1 : Int32))]) (1 : Int32) (by decide) W30 d_c_pos23_34 rfl rfl ?_
        refine g_goto 17 (pc := 37) W30 d_c_pos23_37 (by decide) (by decide) ?_
        refine g_iload_n (pc := 17) W30 d_c_pos23_17 rfl ?_
        refine g_aload_n (pc := 18) W30 d_c_pos23_18 rfl rfl ?_
        refine g_arraylength (pc := 19) (i := 1) (3 : Int32) W30 rfl rfl d_c_pos23_19 ?_
        refine g_icmpN (pc := 20) W30 d_c_pos23_20 (by decide) ?_
        refine g_aload_n (pc := 23) W30 d_c_pos23_23 rfl rfl ?_
        refine g_iload_n (pc := 24) W30 d_c_pos23_24 rfl ?_
        refine g_laload (pc := 25) (i := 1) (v := .long x1) W30 rfl (by decide) rfl d_c_pos23_25 ?_
        refine g_aload_n (pc := 26) W30 d_c_pos23_26 rfl rfl ?_
        refine g_iload (pc := 27) W30 d_c_pos23_27 rfl ?_
        refine g_laload (pc := 29) (i := 0) (v := .long y1) W30 rfl (by decide) rfl d_c_pos23_29 ?_
        refine g_lcmp (pc := 30) W30 d_c_pos23_30 ?_
        refine g_if_ge 40 (pc := 31) W30 d_c_pos23_31 (by decide) (by decide) (fun c37 => ?_) (fun c37 => ?_)
        · refine g_aload_n (pc := 40) W30 d_c_pos23_40 rfl rfl ?_
          refine g_iload (pc := 41) W30 d_c_pos23_41 rfl ?_
          refine g_iload_n (pc := 43) W30 d_c_pos23_43 rfl ?_
          refine g_aload_n (pc := 44) W30 d_c_pos23_44 rfl rfl ?_
          refine g_arraylength (pc := 45) (i := 1) (3 : Int32) W30 rfl rfl d_c_pos23_45 ?_
          refine g_icmpN (pc := 46) W30 d_c_pos23_46 (by decide) ?_
          refine g_aload_n (pc := 49) W30 d_c_pos23_49 rfl rfl ?_
          refine g_iload_n (pc := 50) W30 d_c_pos23_50 rfl ?_
          refine g_laload (pc := 51) (i := 1) (v := .long x1) W30 rfl (by decide) rfl d_c_pos23_51 ?_
          refine g_aload_n (pc := 52) W30 d_c_pos23_52 rfl rfl ?_
          refine g_iload (pc := 53) W30 d_c_pos23_53 rfl ?_
          refine g_laload (pc := 55) (i := 0) (v := .long y1) W30 rfl (by decide) rfl d_c_pos23_55 ?_
          refine g_lcmp (pc := 56) W30 d_c_pos23_56 ?_
          refine g_if_ne 64 (pc := 57) W30 d_c_pos23_57 (by decide) (by decide) (fun c38 => ?_) (fun c38 => ?_)
          · refine g_iconst (pc := 64) (-1 : Int32) (by decide) W30 d_c_pos23_64 ?_
            refine g_iastore (pc := 65) (i := 2) (os' := [(a, (.array .long), [.long y0, .long y1]), (b, (.array .long), [.long x0, .long x1, .long x2]), (b1, (.array .int), [.int (0 : Int32), .int (-1 : Int32)])]) 1 W30 rfl (by decide) (by decide) (Nat.le_of_ble_eq_true rfl) rfl d_c_pos23_65 (fun T39 W40 => ?_)
            refine g_iinc (pc := 66) (ls' := #[.val (.ref a), .val (.ref b), .val (.ref b1), .val (.int (1 : Int32)), .val (.int (2 : Int32))]) (1 : Int32) (by decide) W40 d_c_pos23_66 rfl rfl ?_
            refine g_goto 10 (pc := 69) W40 d_c_pos23_69 (by decide) (by decide) ?_
            refine g_iload (pc := 10) W40 d_c_pos23_10 rfl ?_
            refine g_aload_n (pc := 12) W40 d_c_pos23_12 rfl rfl ?_
            refine g_arraylength (pc := 13) (i := 0) (2 : Int32) W40 rfl rfl d_c_pos23_13 ?_
            refine g_icmpY 72 (pc := 14) W40 d_c_pos23_14 (by decide) (by decide) (by decide) ?_
            refine g_aload_n (pc := 72) W40 d_c_pos23_72 rfl rfl ?_
            exact g_areturn (pc := 73) rfl rfl W40 d_c_pos23_73 (by decide) (by decide) ⟨b1, rfl, by simp only [cl_lt, cl_eq, Int64.lt_iff_toInt_lt, ← Int64.toInt_inj] at c5 c6 c31 c37 c38; have e0 : ex3 y0 x0 x1 x2 = (0 : Int32) := (by simp only [ex3, cl_eq, ← Int64.toInt_inj]; (repeat' split) <;> first | rfl | (exfalso; omega)); have e1 : ex3 y1 x0 x1 x2 = (-1 : Int32) := (by simp only [ex3, cl_eq, ← Int64.toInt_inj]; (repeat' split) <;> first | rfl | (exfalso; omega)); rw [e0, e1]⟩
          · refine g_iload_n (pc := 60) W30 d_c_pos23_60 rfl ?_
            refine g_goto 65 (pc := 61) W30 d_c_pos23_61 (by decide) (by decide) ?_
            refine g_iastore (pc := 65) (i := 2) (os' := [(a, (.array .long), [.long y0, .long y1]), (b, (.array .long), [.long x0, .long x1, .long x2]), (b1, (.array .int), [.int (0 : Int32), .int (1 : Int32)])]) 1 W30 rfl (by decide) (by decide) (Nat.le_of_ble_eq_true rfl) rfl d_c_pos23_65 (fun T41 W42 => ?_)
            refine g_iinc (pc := 66) (ls' := #[.val (.ref a), .val (.ref b), .val (.ref b1), .val (.int (1 : Int32)), .val (.int (2 : Int32))]) (1 : Int32) (by decide) W42 d_c_pos23_66 rfl rfl ?_
            refine g_goto 10 (pc := 69) W42 d_c_pos23_69 (by decide) (by decide) ?_
            refine g_iload (pc := 10) W42 d_c_pos23_10 rfl ?_
            refine g_aload_n (pc := 12) W42 d_c_pos23_12 rfl rfl ?_
            refine g_arraylength (pc := 13) (i := 0) (2 : Int32) W42 rfl rfl d_c_pos23_13 ?_
            refine g_icmpY 72 (pc := 14) W42 d_c_pos23_14 (by decide) (by decide) (by decide) ?_
            refine g_aload_n (pc := 72) W42 d_c_pos23_72 rfl rfl ?_
            exact g_areturn (pc := 73) rfl rfl W42 d_c_pos23_73 (by decide) (by decide) ⟨b1, rfl, by simp only [cl_lt, cl_eq, Int64.lt_iff_toInt_lt, ← Int64.toInt_inj] at c5 c6 c31 c37 c38; have e0 : ex3 y0 x0 x1 x2 = (0 : Int32) := (by simp only [ex3, cl_eq, ← Int64.toInt_inj]; (repeat' split) <;> first | rfl | (exfalso; omega)); have e1 : ex3 y1 x0 x1 x2 = (1 : Int32) := (by simp only [ex3, cl_eq, ← Int64.toInt_inj]; (repeat' split) <;> first | rfl | (exfalso; omega)); rw [e0, e1]⟩
        · refine g_iinc (pc := 34) (ls' := #[.val (.ref a), .val (.ref b), .val (.ref b1), .val (.int (2 : Int32)), .val (.int (1 : Int32))]) (1 : Int32) (by decide) W30 d_c_pos23_34 rfl rfl ?_
          refine g_goto 17 (pc := 37) W30 d_c_pos23_37 (by decide) (by decide) ?_
          refine g_iload_n (pc := 17) W30 d_c_pos23_17 rfl ?_
          refine g_aload_n (pc := 18) W30 d_c_pos23_18 rfl rfl ?_
          refine g_arraylength (pc := 19) (i := 1) (3 : Int32) W30 rfl rfl d_c_pos23_19 ?_
          refine g_icmpN (pc := 20) W30 d_c_pos23_20 (by decide) ?_
          refine g_aload_n (pc := 23) W30 d_c_pos23_23 rfl rfl ?_
          refine g_iload_n (pc := 24) W30 d_c_pos23_24 rfl ?_
          refine g_laload (pc := 25) (i := 1) (v := .long x2) W30 rfl (by decide) rfl d_c_pos23_25 ?_
          refine g_aload_n (pc := 26) W30 d_c_pos23_26 rfl rfl ?_
          refine g_iload (pc := 27) W30 d_c_pos23_27 rfl ?_
          refine g_laload (pc := 29) (i := 0) (v := .long y1) W30 rfl (by decide) rfl d_c_pos23_29 ?_
          refine g_lcmp (pc := 30) W30 d_c_pos23_30 ?_
          refine g_if_ge 40 (pc := 31) W30 d_c_pos23_31 (by decide) (by decide) (fun c43 => ?_) (fun c43 => ?_)
          · refine g_aload_n (pc := 40) W30 d_c_pos23_40 rfl rfl ?_
            refine g_iload (pc := 41) W30 d_c_pos23_41 rfl ?_
            refine g_iload_n (pc := 43) W30 d_c_pos23_43 rfl ?_
            refine g_aload_n (pc := 44) W30 d_c_pos23_44 rfl rfl ?_
            refine g_arraylength (pc := 45) (i := 1) (3 : Int32) W30 rfl rfl d_c_pos23_45 ?_
            refine g_icmpN (pc := 46) W30 d_c_pos23_46 (by decide) ?_
            refine g_aload_n (pc := 49) W30 d_c_pos23_49 rfl rfl ?_
            refine g_iload_n (pc := 50) W30 d_c_pos23_50 rfl ?_
            refine g_laload (pc := 51) (i := 1) (v := .long x2) W30 rfl (by decide) rfl d_c_pos23_51 ?_
            refine g_aload_n (pc := 52) W30 d_c_pos23_52 rfl rfl ?_
            refine g_iload (pc := 53) W30 d_c_pos23_53 rfl ?_
            refine g_laload (pc := 55) (i := 0) (v := .long y1) W30 rfl (by decide) rfl d_c_pos23_55 ?_
            refine g_lcmp (pc := 56) W30 d_c_pos23_56 ?_
            refine g_if_ne 64 (pc := 57) W30 d_c_pos23_57 (by decide) (by decide) (fun c44 => ?_) (fun c44 => ?_)
            · refine g_iconst (pc := 64) (-1 : Int32) (by decide) W30 d_c_pos23_64 ?_
              refine g_iastore (pc := 65) (i := 2) (os' := [(a, (.array .long), [.long y0, .long y1]), (b, (.array .long), [.long x0, .long x1, .long x2]), (b1, (.array .int), [.int (0 : Int32), .int (-1 : Int32)])]) 1 W30 rfl (by decide) (by decide) (Nat.le_of_ble_eq_true rfl) rfl d_c_pos23_65 (fun T45 W46 => ?_)
              refine g_iinc (pc := 66) (ls' := #[.val (.ref a), .val (.ref b), .val (.ref b1), .val (.int (2 : Int32)), .val (.int (2 : Int32))]) (1 : Int32) (by decide) W46 d_c_pos23_66 rfl rfl ?_
              refine g_goto 10 (pc := 69) W46 d_c_pos23_69 (by decide) (by decide) ?_
              refine g_iload (pc := 10) W46 d_c_pos23_10 rfl ?_
              refine g_aload_n (pc := 12) W46 d_c_pos23_12 rfl rfl ?_
              refine g_arraylength (pc := 13) (i := 0) (2 : Int32) W46 rfl rfl d_c_pos23_13 ?_
              refine g_icmpY 72 (pc := 14) W46 d_c_pos23_14 (by decide) (by decide) (by decide) ?_
              refine g_aload_n (pc := 72) W46 d_c_pos23_72 rfl rfl ?_
              exact g_areturn (pc := 73) rfl rfl W46 d_c_pos23_73 (by decide) (by decide) ⟨b1, rfl, by simp only [cl_lt, cl_eq, Int64.lt_iff_toInt_lt, ← Int64.toInt_inj] at c5 c6 c31 c37 c43 c44; have e0 : ex3 y0 x0 x1 x2 = (0 : Int32) := (by simp only [ex3, cl_eq, ← Int64.toInt_inj]; (repeat' split) <;> first | rfl | (exfalso; omega)); have e1 : ex3 y1 x0 x1 x2 = (-1 : Int32) := (by simp only [ex3, cl_eq, ← Int64.toInt_inj]; (repeat' split) <;> first | rfl | (exfalso; omega)); rw [e0, e1]⟩
            · refine g_iload_n (pc := 60) W30 d_c_pos23_60 rfl ?_
              refine g_goto 65 (pc := 61) W30 d_c_pos23_61 (by decide) (by decide) ?_
              refine g_iastore (pc := 65) (i := 2) (os' := [(a, (.array .long), [.long y0, .long y1]), (b, (.array .long), [.long x0, .long x1, .long x2]), (b1, (.array .int), [.int (0 : Int32), .int (2 : Int32)])]) 1 W30 rfl (by decide) (by decide) (Nat.le_of_ble_eq_true rfl) rfl d_c_pos23_65 (fun T47 W48 => ?_)
              refine g_iinc (pc := 66) (ls' := #[.val (.ref a), .val (.ref b), .val (.ref b1), .val (.int (2 : Int32)), .val (.int (2 : Int32))]) (1 : Int32) (by decide) W48 d_c_pos23_66 rfl rfl ?_
              refine g_goto 10 (pc := 69) W48 d_c_pos23_69 (by decide) (by decide) ?_
              refine g_iload (pc := 10) W48 d_c_pos23_10 rfl ?_
              refine g_aload_n (pc := 12) W48 d_c_pos23_12 rfl rfl ?_
              refine g_arraylength (pc := 13) (i := 0) (2 : Int32) W48 rfl rfl d_c_pos23_13 ?_
              refine g_icmpY 72 (pc := 14) W48 d_c_pos23_14 (by decide) (by decide) (by decide) ?_
              refine g_aload_n (pc := 72) W48 d_c_pos23_72 rfl rfl ?_
              exact g_areturn (pc := 73) rfl rfl W48 d_c_pos23_73 (by decide) (by decide) ⟨b1, rfl, by simp only [cl_lt, cl_eq, Int64.lt_iff_toInt_lt, ← Int64.toInt_inj] at c5 c6 c31 c37 c43 c44; have e0 : ex3 y0 x0 x1 x2 = (0 : Int32) := (by simp only [ex3, cl_eq, ← Int64.toInt_inj]; (repeat' split) <;> first | rfl | (exfalso; omega)); have e1 : ex3 y1 x0 x1 x2 = (2 : Int32) := (by simp only [ex3, cl_eq, ← Int64.toInt_inj]; (repeat' split) <;> first | rfl | (exfalso; omega)); rw [e0, e1]⟩
          · refine g_iinc (pc := 34) (ls' := #[.val (.ref a), .val (.ref b), .val (.ref b1), .val (.int (3 : Int32)), .val (.int (1 : Int32))]) (1 : Int32) (by decide) W30 d_c_pos23_34 rfl rfl ?_
            refine g_goto 17 (pc := 37) W30 d_c_pos23_37 (by decide) (by decide) ?_
            refine g_iload_n (pc := 17) W30 d_c_pos23_17 rfl ?_
            refine g_aload_n (pc := 18) W30 d_c_pos23_18 rfl rfl ?_
            refine g_arraylength (pc := 19) (i := 1) (3 : Int32) W30 rfl rfl d_c_pos23_19 ?_
            refine g_icmpY 40 (pc := 20) W30 d_c_pos23_20 (by decide) (by decide) (by decide) ?_
            refine g_aload_n (pc := 40) W30 d_c_pos23_40 rfl rfl ?_
            refine g_iload (pc := 41) W30 d_c_pos23_41 rfl ?_
            refine g_iload_n (pc := 43) W30 d_c_pos23_43 rfl ?_
            refine g_aload_n (pc := 44) W30 d_c_pos23_44 rfl rfl ?_
            refine g_arraylength (pc := 45) (i := 1) (3 : Int32) W30 rfl rfl d_c_pos23_45 ?_
            refine g_icmpY 64 (pc := 46) W30 d_c_pos23_46 (by decide) (by decide) (by decide) ?_
            refine g_iconst (pc := 64) (-1 : Int32) (by decide) W30 d_c_pos23_64 ?_
            refine g_iastore (pc := 65) (i := 2) (os' := [(a, (.array .long), [.long y0, .long y1]), (b, (.array .long), [.long x0, .long x1, .long x2]), (b1, (.array .int), [.int (0 : Int32), .int (-1 : Int32)])]) 1 W30 rfl (by decide) (by decide) (Nat.le_of_ble_eq_true rfl) rfl d_c_pos23_65 (fun T49 W50 => ?_)
            refine g_iinc (pc := 66) (ls' := #[.val (.ref a), .val (.ref b), .val (.ref b1), .val (.int (3 : Int32)), .val (.int (2 : Int32))]) (1 : Int32) (by decide) W50 d_c_pos23_66 rfl rfl ?_
            refine g_goto 10 (pc := 69) W50 d_c_pos23_69 (by decide) (by decide) ?_
            refine g_iload (pc := 10) W50 d_c_pos23_10 rfl ?_
            refine g_aload_n (pc := 12) W50 d_c_pos23_12 rfl rfl ?_
            refine g_arraylength (pc := 13) (i := 0) (2 : Int32) W50 rfl rfl d_c_pos23_13 ?_
            refine g_icmpY 72 (pc := 14) W50 d_c_pos23_14 (by decide) (by decide) (by decide) ?_
            refine g_aload_n (pc := 72) W50 d_c_pos23_72 rfl rfl ?_
            exact g_areturn (pc := 73) rfl rfl W50 d_c_pos23_73 (by decide) (by decide) ⟨b1, rfl, by simp only [cl_lt, cl_eq, Int64.lt_iff_toInt_lt, ← Int64.toInt_inj] at c5 c6 c31 c37 c43; have e0 : ex3 y0 x0 x1 x2 = (0 : Int32) := (by simp only [ex3, cl_eq, ← Int64.toInt_inj]; (repeat' split) <;> first | rfl | (exfalso; omega)); have e1 : ex3 y1 x0 x1 x2 = (-1 : Int32) := (by simp only [ex3, cl_eq, ← Int64.toInt_inj]; (repeat' split) <;> first | rfl | (exfalso; omega)); rw [e0, e1]⟩
  · refine g_iinc (pc := 34) (ls' := #[.val (.ref a), .val (.ref b), .val (.ref b1), .val (.int (1 : Int32)), .val (.int (0 : Int32))]) (1 : Int32) (by decide) W4 d_c_pos23_34 rfl rfl ?_
    refine g_goto 17 (pc := 37) W4 d_c_pos23_37 (by decide) (by decide) ?_
    refine g_iload_n (pc := 17) W4 d_c_pos23_17 rfl ?_
    refine g_aload_n (pc := 18) W4 d_c_pos23_18 rfl rfl ?_
    refine g_arraylength (pc := 19) (i := 1) (3 : Int32) W4 rfl rfl d_c_pos23_19 ?_
    refine g_icmpN (pc := 20) W4 d_c_pos23_20 (by decide) ?_
    refine g_aload_n (pc := 23) W4 d_c_pos23_23 rfl rfl ?_
    refine g_iload_n (pc := 24) W4 d_c_pos23_24 rfl ?_
    refine g_laload (pc := 25) (i := 1) (v := .long x1) W4 rfl (by decide) rfl d_c_pos23_25 ?_
    refine g_aload_n (pc := 26) W4 d_c_pos23_26 rfl rfl ?_
    refine g_iload (pc := 27) W4 d_c_pos23_27 rfl ?_
    refine g_laload (pc := 29) (i := 0) (v := .long y0) W4 rfl (by decide) rfl d_c_pos23_29 ?_
    refine g_lcmp (pc := 30) W4 d_c_pos23_30 ?_
    refine g_if_ge 40 (pc := 31) W4 d_c_pos23_31 (by decide) (by decide) (fun c51 => ?_) (fun c51 => ?_)
    · refine g_aload_n (pc := 40) W4 d_c_pos23_40 rfl rfl ?_
      refine g_iload (pc := 41) W4 d_c_pos23_41 rfl ?_
      refine g_iload_n (pc := 43) W4 d_c_pos23_43 rfl ?_
      refine g_aload_n (pc := 44) W4 d_c_pos23_44 rfl rfl ?_
      refine g_arraylength (pc := 45) (i := 1) (3 : Int32) W4 rfl rfl d_c_pos23_45 ?_
      refine g_icmpN (pc := 46) W4 d_c_pos23_46 (by decide) ?_
      refine g_aload_n (pc := 49) W4 d_c_pos23_49 rfl rfl ?_
      refine g_iload_n (pc := 50) W4 d_c_pos23_50 rfl ?_
      refine g_laload (pc := 51) (i := 1) (v := .long x1) W4 rfl (by decide) rfl d_c_pos23_51 ?_
      refine g_aload_n (pc := 52) W4 d_c_pos23_52 rfl rfl ?_
      refine g_iload (pc := 53) W4 d_c_pos23_53 rfl ?_
      refine g_laload (pc := 55) (i := 0) (v := .long y0) W4 rfl (by decide) rfl d_c_pos23_55 ?_
      refine g_lcmp (pc := 56) W4 d_c_pos23_56 ?_
      refine g_if_ne 64 (pc := 57) W4 d_c_pos23_57 (by decide) (by decide) (fun c52 => ?_) (fun c52 => ?_)
      · refine g_iconst (pc := 64) (-1 : Int32) (by decide) W4 d_c_pos23_64 ?_
        refine g_iastore (pc := 65) (i := 2) (os' := [(a, (.array .long), [.long y0, .long y1]), (b, (.array .long), [.long x0, .long x1, .long x2]), (b1, (.array .int), [.int (-1 : Int32), .int (0 : Int32)])]) 0 W4 rfl (by decide) (by decide) (Nat.le_of_ble_eq_true rfl) rfl d_c_pos23_65 (fun T53 W54 => ?_)
        refine g_iinc (pc := 66) (ls' := #[.val (.ref a), .val (.ref b), .val (.ref b1), .val (.int (1 : Int32)), .val (.int (1 : Int32))]) (1 : Int32) (by decide) W54 d_c_pos23_66 rfl rfl ?_
        refine g_goto 10 (pc := 69) W54 d_c_pos23_69 (by decide) (by decide) ?_
        refine g_iload (pc := 10) W54 d_c_pos23_10 rfl ?_
        refine g_aload_n (pc := 12) W54 d_c_pos23_12 rfl rfl ?_
        refine g_arraylength (pc := 13) (i := 0) (2 : Int32) W54 rfl rfl d_c_pos23_13 ?_
        refine g_icmpN (pc := 14) W54 d_c_pos23_14 (by decide) ?_
        refine g_iload_n (pc := 17) W54 d_c_pos23_17 rfl ?_
        refine g_aload_n (pc := 18) W54 d_c_pos23_18 rfl rfl ?_
        refine g_arraylength (pc := 19) (i := 1) (3 : Int32) W54 rfl rfl d_c_pos23_19 ?_
        refine g_icmpN (pc := 20) W54 d_c_pos23_20 (by decide) ?_
        refine g_aload_n (pc := 23) W54 d_c_pos23_23 rfl rfl ?_
        refine g_iload_n (pc := 24) W54 d_c_pos23_24 rfl ?_
        refine g_laload (pc := 25) (i := 1) (v := .long x1) W54 rfl (by decide) rfl d_c_pos23_25 ?_
        refine g_aload_n (pc := 26) W54 d_c_pos23_26 rfl rfl ?_
        refine g_iload (pc := 27) W54 d_c_pos23_27 rfl ?_
        refine g_laload (pc := 29) (i := 0) (v := .long y1) W54 rfl (by decide) rfl d_c_pos23_29 ?_
        refine g_lcmp (pc := 30) W54 d_c_pos23_30 ?_
        refine g_if_ge 40 (pc := 31) W54 d_c_pos23_31 (by decide) (by decide) (fun c55 => ?_) (fun c55 => ?_)
        · refine g_aload_n (pc := 40) W54 d_c_pos23_40 rfl rfl ?_
          refine g_iload (pc := 41) W54 d_c_pos23_41 rfl ?_
          refine g_iload_n (pc := 43) W54 d_c_pos23_43 rfl ?_
          refine g_aload_n (pc := 44) W54 d_c_pos23_44 rfl rfl ?_
          refine g_arraylength (pc := 45) (i := 1) (3 : Int32) W54 rfl rfl d_c_pos23_45 ?_
          refine g_icmpN (pc := 46) W54 d_c_pos23_46 (by decide) ?_
          refine g_aload_n (pc := 49) W54 d_c_pos23_49 rfl rfl ?_
          refine g_iload_n (pc := 50) W54 d_c_pos23_50 rfl ?_
          refine g_laload (pc := 51) (i := 1) (v := .long x1) W54 rfl (by decide) rfl d_c_pos23_51 ?_
          refine g_aload_n (pc := 52) W54 d_c_pos23_52 rfl rfl ?_
          refine g_iload (pc := 53) W54 d_c_pos23_53 rfl ?_
          refine g_laload (pc := 55) (i := 0) (v := .long y1) W54 rfl (by decide) rfl d_c_pos23_55 ?_
          refine g_lcmp (pc := 56) W54 d_c_pos23_56 ?_
          refine g_if_ne 64 (pc := 57) W54 d_c_pos23_57 (by decide) (by decide) (fun c56 => ?_) (fun c56 => ?_)
          · refine g_iconst (pc := 64) (-1 : Int32) (by decide) W54 d_c_pos23_64 ?_
            refine g_iastore (pc := 65) (i := 2) (os' := [(a, (.array .long), [.long y0, .long y1]), (b, (.array .long), [.long x0, .long x1, .long x2]), (b1, (.array .int), [.int (-1 : Int32), .int (-1 : Int32)])]) 1 W54 rfl (by decide) (by decide) (Nat.le_of_ble_eq_true rfl) rfl d_c_pos23_65 (fun T57 W58 => ?_)
            refine g_iinc (pc := 66) (ls' := #[.val (.ref a), .val (.ref b), .val (.ref b1), .val (.int (1 : Int32)), .val (.int (2 : Int32))]) (1 : Int32) (by decide) W58 d_c_pos23_66 rfl rfl ?_
            refine g_goto 10 (pc := 69) W58 d_c_pos23_69 (by decide) (by decide) ?_
            refine g_iload (pc := 10) W58 d_c_pos23_10 rfl ?_
            refine g_aload_n (pc := 12) W58 d_c_pos23_12 rfl rfl ?_
            refine g_arraylength (pc := 13) (i := 0) (2 : Int32) W58 rfl rfl d_c_pos23_13 ?_
            refine g_icmpY 72 (pc := 14) W58 d_c_pos23_14 (by decide) (by decide) (by decide) ?_
            refine g_aload_n (pc := 72) W58 d_c_pos23_72 rfl rfl ?_
            exact g_areturn (pc := 73) rfl rfl W58 d_c_pos23_73 (by decide) (by decide) ⟨b1, rfl, by simp only [cl_lt, cl_eq, Int64.lt_iff_toInt_lt, ← Int64.toInt_inj] at c5 c51 c52 c55 c56; have e0 : ex3 y0 x0 x1 x2 = (-1 : Int32) := (by simp only [ex3, cl_eq, ← Int64.toInt_inj]; (repeat' split) <;> first | rfl | (exfalso; omega)); have e1 : ex3 y1 x0 x1 x2 = (-1 : Int32) := (by simp only [ex3, cl_eq, ← Int64.toInt_inj]; (repeat' split) <;> first | rfl | (exfalso; omega)); rw [e0, e1]⟩
          · refine g_iload_n (pc := 60) W54 d_c_pos23_60 rfl ?_
            refine g_goto 65 (pc := 61) W54 d_c_pos23_61 (by decide) (by decide) ?_
            refine g_iastore (pc := 65) (i := 2) (os' := [(a, (.array .long), [.long y0, .long y1]), (b, (.array .long), [.long x0, .long x1, .long x2]), (b1, (.array .int), [.int (-1 : Int32), .int (1 : Int32)])]) 1 W54 rfl (by decide) (by decide) (Nat.le_of_ble_eq_true rfl) rfl d_c_pos23_65 (fun T59 W60 => ?_)
            refine g_iinc (pc := 66) (ls' := #[.val (.ref a), .val (.ref b), .val (.ref b1), .val (.int (1 : Int32)), .val (.int (2 : Int32))]) (1 : Int32) (by decide) W60 d_c_pos23_66 rfl rfl ?_
            refine g_goto 10 (pc := 69) W60 d_c_pos23_69 (by decide) (by decide) ?_
            refine g_iload (pc := 10) W60 d_c_pos23_10 rfl ?_
            refine g_aload_n (pc := 12) W60 d_c_pos23_12 rfl rfl ?_
            refine g_arraylength (pc := 13) (i := 0) (2 : Int32) W60 rfl rfl d_c_pos23_13 ?_
            refine g_icmpY 72 (pc := 14) W60 d_c_pos23_14 (by decide) (by decide) (by decide) ?_
            refine g_aload_n (pc := 72) W60 d_c_pos23_72 rfl rfl ?_
            exact g_areturn (pc := 73) rfl rfl W60 d_c_pos23_73 (by decide) (by decide) ⟨b1, rfl, by simp only [cl_lt, cl_eq, Int64.lt_iff_toInt_lt, ← Int64.toInt_inj] at c5 c51 c52 c55 c56; have e0 : ex3 y0 x0 x1 x2 = (-1 : Int32) := (by simp only [ex3, cl_eq, ← Int64.toInt_inj]; (repeat' split) <;> first | rfl | (exfalso; omega)); have e1 : ex3 y1 x0 x1 x2 = (1 : Int32) := (by simp only [ex3, cl_eq, ← Int64.toInt_inj]; (repeat' split) <;> first | rfl | (exfalso; omega)); rw [e0, e1]⟩
        · refine g_iinc (pc := 34) (ls' := #[.val (.ref a), .val (.ref b), .val (.ref b1), .val (.int (2 : Int32)), .val (.int (1 : Int32))]) (1 : Int32) (by decide) W54 d_c_pos23_34 rfl rfl ?_
          refine g_goto 17 (pc := 37) W54 d_c_pos23_37 (by decide) (by decide) ?_
          refine g_iload_n (pc := 17) W54 d_c_pos23_17 rfl ?_
          refine g_aload_n (pc := 18) W54 d_c_pos23_18 rfl rfl ?_
          refine g_arraylength (pc := 19) (i := 1) (3 : Int32) W54 rfl rfl d_c_pos23_19 ?_
          refine g_icmpN (pc := 20) W54 d_c_pos23_20 (by decide) ?_
          refine g_aload_n (pc := 23) W54 d_c_pos23_23 rfl rfl ?_
          refine g_iload_n (pc := 24) W54 d_c_pos23_24 rfl ?_
          refine g_laload (pc := 25) (i := 1) (v := .long x2) W54 rfl (by decide) rfl d_c_pos23_25 ?_
          refine g_aload_n (pc := 26) W54 d_c_pos23_26 rfl rfl ?_
          refine g_iload (pc := 27) W54 d_c_pos23_27 rfl ?_
          refine g_laload (pc := 29) (i := 0) (v := .long y1) W54 rfl (by decide) rfl d_c_pos23_29 ?_
          refine g_lcmp (pc := 30) W54 d_c_pos23_30 ?_
          refine g_if_ge 40 (pc := 31) W54 d_c_pos23_31 (by decide) (by decide) (fun c61 => ?_) (fun c61 => ?_)
          · refine g_aload_n (pc := 40) W54 d_c_pos23_40 rfl rfl ?_
            refine g_iload (pc := 41) W54 d_c_pos23_41 rfl ?_
            refine g_iload_n (pc := 43) W54 d_c_pos23_43 rfl ?_
            refine g_aload_n (pc := 44) W54 d_c_pos23_44 rfl rfl ?_
            refine g_arraylength (pc := 45) (i := 1) (3 : Int32) W54 rfl rfl d_c_pos23_45 ?_
            refine g_icmpN (pc := 46) W54 d_c_pos23_46 (by decide) ?_
            refine g_aload_n (pc := 49) W54 d_c_pos23_49 rfl rfl ?_
            refine g_iload_n (pc := 50) W54 d_c_pos23_50 rfl ?_
            refine g_laload (pc := 51) (i := 1) (v := .long x2) W54 rfl (by decide) rfl d_c_pos23_51 ?_
            refine g_aload_n (pc := 52) W54 d_c_pos23_52 rfl rfl ?_
            refine g_iload (pc := 53) W54 d_c_pos23_53 rfl ?_
            refine g_laload (pc := 55) (i := 0) (v := .long y1) W54 rfl (by decide) rfl d_c_pos23_55 ?_
            refine g_lcmp (pc := 56) W54 d_c_pos23_56 ?_
            refine g_if_ne 64 (pc := 57) W54 d_c_pos23_57 (by decide) (by decide) (fun c62 => ?_) (fun c62 => ?_)
            · refine g_iconst (pc := 64) (-1 : Int32) (by decide) W54 d_c_pos23_64 ?_
              refine g_iastore (pc := 65) (i := 2) (os' := [(a, (.array .long), [.long y0, .long y1]), (b, (.array .long), [.long x0, .long x1, .long x2]), (b1, (.array .int), [.int (-1 : Int32), .int (-1 : Int32)])]) 1 W54 rfl (by decide) (by decide) (Nat.le_of_ble_eq_true rfl) rfl d_c_pos23_65 (fun T63 W64 => ?_)
              refine g_iinc (pc := 66) (ls' := #[.val (.ref a), .val (.ref b), .val (.ref b1), .val (.int (2 : Int32)), .val (.int (2 : Int32))]) (1 : Int32) (by decide) W64 d_c_pos23_66 rfl rfl ?_
              refine g_goto 10 (pc := 69) W64 d_c_pos23_69 (by decide) (by decide) ?_
              refine g_iload (pc := 10) W64 d_c_pos23_10 rfl ?_
              refine g_aload_n (pc := 12) W64 d_c_pos23_12 rfl rfl ?_
              refine g_arraylength (pc := 13) (i := 0) (2 : Int32) W64 rfl rfl d_c_pos23_13 ?_
              refine g_icmpY 72 (pc := 14) W64 d_c_pos23_14 (by decide) (by decide) (by decide) ?_
              refine g_aload_n (pc := 72) W64 d_c_pos23_72 rfl rfl ?_
              exact g_areturn (pc := 73) rfl rfl W64 d_c_pos23_73 (by decide) (by decide) ⟨b1, rfl, by simp only [cl_lt, cl_eq, Int64.lt_iff_toInt_lt, ← Int64.toInt_inj] at c5 c51 c52 c55 c61 c62; have e0 : ex3 y0 x0 x1 x2 = (-1 : Int32) := (by simp only [ex3, cl_eq, ← Int64.toInt_inj]; (repeat' split) <;> first | rfl | (exfalso; omega)); have e1 : ex3 y1 x0 x1 x2 = (-1 : Int32) := (by simp only [ex3, cl_eq, ← Int64.toInt_inj]; (repeat' split) <;> first | rfl | (exfalso; omega)); rw [e0, e1]⟩
            · refine g_iload_n (pc := 60) W54 d_c_pos23_60 rfl ?_
              refine g_goto 65 (pc := 61) W54 d_c_pos23_61 (by decide) (by decide) ?_
              refine g_iastore (pc := 65) (i := 2) (os' := [(a, (.array .long), [.long y0, .long y1]), (b, (.array .long), [.long x0, .long x1, .long x2]), (b1, (.array .int), [.int (-1 : Int32), .int (2 : Int32)])]) 1 W54 rfl (by decide) (by decide) (Nat.le_of_ble_eq_true rfl) rfl d_c_pos23_65 (fun T65 W66 => ?_)
              refine g_iinc (pc := 66) (ls' := #[.val (.ref a), .val (.ref b), .val (.ref b1), .val (.int (2 : Int32)), .val (.int (2 : Int32))]) (1 : Int32) (by decide) W66 d_c_pos23_66 rfl rfl ?_
              refine g_goto 10 (pc := 69) W66 d_c_pos23_69 (by decide) (by decide) ?_
              refine g_iload (pc := 10) W66 d_c_pos23_10 rfl ?_
              refine g_aload_n (pc := 12) W66 d_c_pos23_12 rfl rfl ?_
              refine g_arraylength (pc := 13) (i := 0) (2 : Int32) W66 rfl rfl d_c_pos23_13 ?_
              refine g_icmpY 72 (pc := 14) W66 d_c_pos23_14 (by decide) (by decide) (by decide) ?_
              refine g_aload_n (pc := 72) W66 d_c_pos23_72 rfl rfl ?_
              exact g_areturn (pc := 73) rfl rfl W66 d_c_pos23_73 (by decide) (by decide) ⟨b1, rfl, by simp only [cl_lt, cl_eq, Int64.lt_iff_toInt_lt, ← Int64.toInt_inj] at c5 c51 c52 c55 c61 c62; have e0 : ex3 y0 x0 x1 x2 = (-1 : Int32) := (by simp only [ex3, cl_eq, ← Int64.toInt_inj]; (repeat' split) <;> first | rfl | (exfalso; omega)); have e1 : ex3 y1 x0 x1 x2 = (2 : Int32) := (by simp only [ex3, cl_eq, ← Int64.toInt_inj]; (repeat' split) <;> first | rfl | (exfalso; omega)); rw [e0, e1]⟩
          · refine g_iinc (pc := 34) (ls' := #[.val (.ref a), .val (.ref b), .val (.ref b1), .val (.int (3 : Int32)), .val (.int (1 : Int32))]) (1 : Int32) (by decide) W54 d_c_pos23_34 rfl rfl ?_
            refine g_goto 17 (pc := 37) W54 d_c_pos23_37 (by decide) (by decide) ?_
            refine g_iload_n (pc := 17) W54 d_c_pos23_17 rfl ?_
            refine g_aload_n (pc := 18) W54 d_c_pos23_18 rfl rfl ?_
            refine g_arraylength (pc := 19) (i := 1) (3 : Int32) W54 rfl rfl d_c_pos23_19 ?_
            refine g_icmpY 40 (pc := 20) W54 d_c_pos23_20 (by decide) (by decide) (by decide) ?_
            refine g_aload_n (pc := 40) W54 d_c_pos23_40 rfl rfl ?_
            refine g_iload (pc := 41) W54 d_c_pos23_41 rfl ?_
            refine g_iload_n (pc := 43) W54 d_c_pos23_43 rfl ?_
            refine g_aload_n (pc := 44) W54 d_c_pos23_44 rfl rfl ?_
            refine g_arraylength (pc := 45) (i := 1) (3 : Int32) W54 rfl rfl d_c_pos23_45 ?_
            refine g_icmpY 64 (pc := 46) W54 d_c_pos23_46 (by decide) (by decide) (by decide) ?_
            refine g_iconst (pc := 64) (-1 : Int32) (by decide) W54 d_c_pos23_64 ?_
            refine g_iastore (pc := 65) (i := 2) (os' := [(a, (.array .long), [.long y0, .long y1]), (b, (.array .long), [.long x0, .long x1, .long x2]), (b1, (.array .int), [.int (-1 : Int32), .int (-1 : Int32)])]) 1 W54 rfl (by decide) (by decide) (Nat.le_of_ble_eq_true rfl) rfl d_c_pos23_65 (fun T67 W68 => ?_)
            refine g_iinc (pc := 66) (ls' := #[.val (.ref a), .val (.ref b), .val (.ref b1), .val (.int (3 : Int32)), .val (.int (2 : Int32))]) (1 : Int32) (by decide) W68 d_c_pos23_66 rfl rfl ?_
            refine g_goto 10 (pc := 69) W68 d_c_pos23_69 (by decide) (by decide) ?_
            refine g_iload (pc := 10) W68 d_c_pos23_10 rfl ?_
            refine g_aload_n (pc := 12) W68 d_c_pos23_12 rfl rfl ?_
            refine g_arraylength (pc := 13) (i := 0) (2 : Int32) W68 rfl rfl d_c_pos23_13 ?_
            refine g_icmpY 72 (pc := 14) W68 d_c_pos23_14 (by decide) (by decide) (by decide) ?_
            refine g_aload_n (pc := 72) W68 d_c_pos23_72 rfl rfl ?_
            exact g_areturn (pc := 73) rfl rfl W68 d_c_pos23_73 (by decide) (by decide) ⟨b1, rfl, by simp only [cl_lt, cl_eq, Int64.lt_iff_toInt_lt, ← Int64.toInt_inj] at c5 c51 c52 c55 c61; have e0 : ex3 y0 x0 x1 x2 = (-1 : Int32) := (by simp only [ex3, cl_eq, ← Int64.toInt_inj]; (repeat' split) <;> first | rfl | (exfalso; omega)); have e1 : ex3 y1 x0 x1 x2 = (-1 : Int32) := (by simp only [ex3, cl_eq, ← Int64.toInt_inj]; (repeat' split) <;> first | rfl | (exfalso; omega)); rw [e0, e1]⟩
      · refine g_iload_n (pc := 60) W4 d_c_pos23_60 rfl ?_
        refine g_goto 65 (pc := 61) W4 d_c_pos23_61 (by decide) (by decide) ?_
        refine g_iastore (pc := 65) (i := 2) (os' := [(a, (.array .long), [.long y0, .long y1]), (b, (.array .long), [.long x0, .long x1, .long x2]), (b1, (.array .int), [.int (1 : Int32), .int (0 : Int32)])]) 0 W4 rfl (by decide) (by decide) (Nat.le_of_ble_eq_true rfl) rfl d_c_pos23_65 (fun T69 W70 => ?_)
        refine g_iinc (pc := 66) (ls' := #[.val (.ref a), .val (.ref b), .val (.ref b1), .val (.int (1 : Int32)), .val (.int (1 : Int32))]) (1 : Int32) (by decide) W70 d_c_pos23_66 rfl rfl ?_
        refine g_goto 10 (pc := 69) W70 d_c_pos23_69 (by decide) (by decide) ?_
        refine g_iload (pc := 10) W70 d_c_pos23_10 rfl ?_
        refine g_aload_n (pc := 12) W70 d_c_pos23_12 rfl rfl ?_
        refine g_arraylength (pc := 13) (i := 0) (2 : Int32) W70 rfl rfl d_c_pos23_13 ?_
        refine g_icmpN (pc := 14) W70 d_c_pos23_14 (by decide) ?_
        refine g_iload_n (pc := 17) W70 d_c_pos23_17 rfl ?_
        refine g_aload_n (pc := 18) W70 d_c_pos23_18 rfl rfl ?_
        refine g_arraylength (pc := 19) (i := 1) (3 : Int32) W70 rfl rfl d_c_pos23_19 ?_
        refine g_icmpN (pc := 20) W70 d_c_pos23_20 (by decide) ?_
        refine g_aload_n (pc := 23) W70 d_c_pos23_23 rfl rfl ?_
        refine g_iload_n (pc := 24) W70 d_c_pos23_24 rfl ?_
        refine g_laload (pc := 25) (i := 1) (v := .long x1) W70 rfl (by decide) rfl d_c_pos23_25 ?_
        refine g_aload_n (pc := 26) W70 d_c_pos23_26 rfl rfl ?_
        refine g_iload (pc := 27) W70 d_c_pos23_27 rfl ?_
        refine g_laload (pc := 29) (i := 0) (v := .long y1) W70 rfl (by decide) rfl d_c_pos23_29 ?_
        refine g_lcmp (pc := 30) W70 d_c_pos23_30 ?_
        refine g_if_ge 40 (pc := 31) W70 d_c_pos23_31 (by decide) (by decide) (fun c71 => ?_) (fun c71 => ?_)
        · refine g_aload_n (pc := 40) W70 d_c_pos23_40 rfl rfl ?_
          refine g_iload (pc := 41) W70 d_c_pos23_41 rfl ?_
          refine g_iload_n (pc := 43) W70 d_c_pos23_43 rfl ?_
          refine g_aload_n (pc := 44) W70 d_c_pos23_44 rfl rfl ?_
          refine g_arraylength (pc := 45) (i := 1) (3 : Int32) W70 rfl rfl d_c_pos23_45 ?_
          refine g_icmpN (pc := 46) W70 d_c_pos23_46 (by decide) ?_
          refine g_aload_n (pc := 49) W70 d_c_pos23_49 rfl rfl ?_
          refine g_iload_n (pc := 50) W70 d_c_pos23_50 rfl ?_
          refine g_laload (pc := 51) (i := 1) (v := .long x1) W70 rfl (by decide) rfl d_c_pos23_51 ?_
          refine g_aload_n (pc := 52) W70 d_c_pos23_52 rfl rfl ?_
          refine g_iload (pc := 53) W70 d_c_pos23_53 rfl ?_
          refine g_laload (pc := 55) (i := 0) (v := .long y1) W70 rfl (by decide) rfl d_c_pos23_55 ?_
          refine g_lcmp (pc := 56) W70 d_c_pos23_56 ?_
          refine g_if_ne 64 (pc := 57) W70 d_c_pos23_57 (by decide) (by decide) (fun c72 => ?_) (fun c72 => ?_)
          · refine g_iconst (pc := 64) (-1 : Int32) (by decide) W70 d_c_pos23_64 ?_
            refine g_iastore (pc := 65) (i := 2) (os' := [(a, (.array .long), [.long y0, .long y1]), (b, (.array .long), [.long x0, .long x1, .long x2]), (b1, (.array .int), [.int (1 : Int32), .int (-1 : Int32)])]) 1 W70 rfl (by decide) (by decide) (Nat.le_of_ble_eq_true rfl) rfl d_c_pos23_65 (fun T73 W74 => ?_)
            refine g_iinc (pc := 66) (ls' := #[.val (.ref a), .val (.ref b), .val (.ref b1), .val (.int (1 : Int32)), .val (.int (2 : Int32))]) (1 : Int32) (by decide) W74 d_c_pos23_66 rfl rfl ?_
            refine g_goto 10 (pc := 69) W74 d_c_pos23_69 (by decide) (by decide) ?_
            refine g_iload (pc := 10) W74 d_c_pos23_10 rfl ?_
            refine g_aload_n (pc := 12) W74 d_c_pos23_12 rfl rfl ?_
            refine g_arraylength (pc := 13) (i := 0) (2 : Int32) W74 rfl rfl d_c_pos23_13 ?_
            refine g_icmpY 72 (pc := 14) W74 d_c_pos23_14 (by decide) (by decide) (by decide) ?_
            refine g_aload_n (pc := 72) W74 d_c_pos23_72 rfl rfl ?_
            exact g_areturn (pc := 73) rfl rfl W74 d_c_pos23_73 (by decide) (by decide) ⟨b1, rfl, by simp only [cl_lt, cl_eq, Int64.lt_iff_toInt_lt, ← Int64.toInt_inj] at c5 c51 c52 c71 c72; have e0 : ex3 y0 x0 x1 x2 = (1 : Int32) := (by simp only [ex3, cl_eq, ← Int64.toInt_inj]; (repeat' split) <;> first | rfl | (exfalso; omega)); have e1 : ex3 y1 x0 x1 x2 = (-1 : Int32) := (by simp only [ex3, cl_eq, ← Int64.toInt_inj]; (repeat' split) <;> first | rfl | (exfalso; omega)); rw [e0, e1]⟩
          · refine g_iload_n (pc := 60) W70 d_c_pos23_60 rfl ?_
            refine g_goto 65 (pc := 61) W70 d_c_pos23_61 (by decide) (by decide) ?_
            refine g_iastore (pc := 65) (i := 2) (os' := [(a, (.array .long), [.long y0, .long y1]), (b, (.array .long), [.long x0, .long x1, .long x2]), (b1, (.array .int), [.int (1 : Int32), .int (1 : Int32)])]) 1 W70 rfl (by decide) (by decide) (Nat.le_of_ble_eq_true rfl) rfl d_c_pos23_65 (fun T75 W76 => ?_)
            refine g_iinc (pc := 66) (ls' := #[.val (.ref a), .val (.ref b), .val (.ref b1), .val (.int (1 : Int32)), .val (.int (2 : Int32))]) (1 : Int32) (by decide) W76 d_c_pos23_66 rfl rfl ?_
            refine g_goto 10 (pc := 69) W76 d_c_pos23_69 (by decide) (by decide) ?_
            refine g_iload (pc := 10) W76 d_c_pos23_10 rfl ?_
            refine g_aload_n (pc := 12) W76 d_c_pos23_12 rfl rfl ?_
            refine g_arraylength (pc := 13) (i := 0) (2 : Int32) W76 rfl rfl d_c_pos23_13 ?_
            refine g_icmpY 72 (pc := 14) W76 d_c_pos23_14 (by decide) (by decide) (by decide) ?_
            refine g_aload_n (pc := 72) W76 d_c_pos23_72 rfl rfl ?_
            exact g_areturn (pc := 73) rfl rfl W76 d_c_pos23_73 (by decide) (by decide) ⟨b1, rfl, by simp only [cl_lt, cl_eq, Int64.lt_iff_toInt_lt, ← Int64.toInt_inj] at c5 c51 c52 c71 c72; have e0 : ex3 y0 x0 x1 x2 = (1 : Int32) := (by simp only [ex3, cl_eq, ← Int64.toInt_inj]; (repeat' split) <;> first | rfl | (exfalso; omega)); have e1 : ex3 y1 x0 x1 x2 = (1 : Int32) := (by simp only [ex3, cl_eq, ← Int64.toInt_inj]; (repeat' split) <;> first | rfl | (exfalso; omega)); rw [e0, e1]⟩
        · refine g_iinc (pc := 34) (ls' := #[.val (.ref a), .val (.ref b), .val (.ref b1), .val (.int (2 : Int32)), .val (.int (1 : Int32))]) (1 : Int32) (by decide) W70 d_c_pos23_34 rfl rfl ?_
          refine g_goto 17 (pc := 37) W70 d_c_pos23_37 (by decide) (by decide) ?_
          refine g_iload_n (pc := 17) W70 d_c_pos23_17 rfl ?_
          refine g_aload_n (pc := 18) W70 d_c_pos23_18 rfl rfl ?_
          refine g_arraylength (pc := 19) (i := 1) (3 : Int32) W70 rfl rfl d_c_pos23_19 ?_
          refine g_icmpN (pc := 20) W70 d_c_pos23_20 (by decide) ?_
          refine g_aload_n (pc := 23) W70 d_c_pos23_23 rfl rfl ?_
          refine g_iload_n (pc := 24) W70 d_c_pos23_24 rfl ?_
          refine g_laload (pc := 25) (i := 1) (v := .long x2) W70 rfl (by decide) rfl d_c_pos23_25 ?_
          refine g_aload_n (pc := 26) W70 d_c_pos23_26 rfl rfl ?_
          refine g_iload (pc := 27) W70 d_c_pos23_27 rfl ?_
          refine g_laload (pc := 29) (i := 0) (v := .long y1) W70 rfl (by decide) rfl d_c_pos23_29 ?_
          refine g_lcmp (pc := 30) W70 d_c_pos23_30 ?_
          refine g_if_ge 40 (pc := 31) W70 d_c_pos23_31 (by decide) (by decide) (fun c77 => ?_) (fun c77 => ?_)
          · refine g_aload_n (pc := 40) W70 d_c_pos23_40 rfl rfl ?_
            refine g_iload (pc := 41) W70 d_c_pos23_41 rfl ?_
            refine g_iload_n (pc := 43) W70 d_c_pos23_43 rfl ?_
            refine g_aload_n (pc := 44) W70 d_c_pos23_44 rfl rfl ?_
            refine g_arraylength (pc := 45) (i := 1) (3 : Int32) W70 rfl rfl d_c_pos23_45 ?_
            refine g_icmpN (pc := 46) W70 d_c_pos23_46 (by decide) ?_
            refine g_aload_n (pc := 49) W70 d_c_pos23_49 rfl rfl ?_
            refine g_iload_n (pc := 50) W70 d_c_pos23_50 rfl ?_
            refine g_laload (pc := 51) (i := 1) (v := .long x2) W70 rfl (by decide) rfl d_c_pos23_51 ?_
            refine g_aload_n (pc := 52) W70 d_c_pos23_52 rfl rfl ?_
            refine g_iload (pc := 53) W70 d_c_pos23_53 rfl ?_
            refine g_laload (pc := 55) (i := 0) (v := .long y1) W70 rfl (by decide) rfl d_c_pos23_55 ?_
            refine g_lcmp (pc := 56) W70 d_c_pos23_56 ?_
            refine g_if_ne 64 (pc := 57) W70 d_c_pos23_57 (by decide) (by decide) (fun c78 => ?_) (fun c78 => ?_)
            · refine g_iconst (pc := 64) (-1 : Int32) (by decide) W70 d_c_pos23_64 ?_
              refine g_iastore (pc := 65) (i := 2) (os' := [(a, (.array .long), [.long y0, .long y1]), (b, (.array .long), [.long x0, .long x1, .long x2]), (b1, (.array .int), [.int (1 : Int32), .int (-1 : Int32)])]) 1 W70 rfl (by decide) (by decide) (Nat.le_of_ble_eq_true rfl) rfl d_c_pos23_65 (fun T79 W80 => ?_)
              refine g_iinc (pc := 66) (ls' := #[.val (.ref a), .val (.ref b), .val (.ref b1), .val (.int (2 : Int32)), .val (.int (2 : Int32))]) (1 : Int32) (by decide) W80 d_c_pos23_66 rfl rfl ?_
              refine g_goto 10 (pc := 69) W80 d_c_pos23_69 (by decide) (by decide) ?_
              refine g_iload (pc := 10) W80 d_c_pos23_10 rfl ?_
              refine g_aload_n (pc := 12) W80 d_c_pos23_12 rfl rfl ?_
              refine g_arraylength (pc := 13) (i := 0) (2 : Int32) W80 rfl rfl d_c_pos23_13 ?_
              refine g_icmpY 72 (pc := 14) W80 d_c_pos23_14 (by decide) (by decide) (by decide) ?_
              refine g_aload_n (pc := 72) W80 d_c_pos23_72 rfl rfl ?_
              exact g_areturn (pc := 73) rfl rfl W80 d_c_pos23_73 (by decide) (by decide) ⟨b1, rfl, by simp only [cl_lt, cl_eq, Int64.lt_iff_toInt_lt, ← Int64.toInt_inj] at c5 c51 c52 c71 c77 c78; have e0 : ex3 y0 x0 x1 x2 = (1 : Int32) := (by simp only [ex3, cl_eq, ← Int64.toInt_inj]; (repeat' split) <;> first | rfl | (exfalso; omega)); have e1 : ex3 y1 x0 x1 x2 = (-1 : Int32) := (by simp only [ex3, cl_eq, ← Int64.toInt_inj]; (repeat' split) <;> first | rfl | (exfalso; omega)); rw [e0, e1]⟩
            · refine g_iload_n (pc := 60) W70 d_c_pos23_60 rfl ?_
              refine g_goto 65 (pc := 61) W70 d_c_pos23_61 (by decide) (by decide) ?_
              refine g_iastore (pc := 65) (i := 2) (os' := [(a, (.array .long), [.long y0, .long y1]), (b, (.array .long), [.long x0, .long x1, .long x2]), (b1, (.array .int), [.int (1 : Int32), .int (2 : Int32)])]) 1 W70 rfl (by decide) (by decide) (Nat.le_of_ble_eq_true rfl) rfl d_c_pos23_65 (fun T81 W82 => ?_)
              refine g_iinc (pc := 66) (ls' := #[.val (.ref a), .val (.ref b), .val (.ref b1), .val (.int (2 : Int32)), .val (.int (2 : Int32))]) (1 : Int32) (by decide) W82 d_c_pos23_66 rfl rfl ?_
              refine g_goto 10 (pc := 69) W82 d_c_pos23_69 (by decide) (by decide) ?_
              refine g_iload (pc := 10) W82 d_c_pos23_10 rfl ?_
              refine g_aload_n (pc := 12) W82 d_c_pos23_12 rfl rfl ?_
              refine g_arraylength (pc := 13) (i := 0) (2 : Int32) W82 rfl rfl d_c_pos23_13 ?_
              refine g_icmpY 72 (pc := 14) W82 d_c_pos23_14 (by decide) (by decide) (by decide) ?_
              refine g_aload_n (pc := 72) W82 d_c_pos23_72 rfl rfl ?_
              exact g_areturn (pc := 73) rfl rfl W82 d_c_pos23_73 (by decide) (by decide) ⟨b1, rfl, by simp only [cl_lt, cl_eq, Int64.lt_iff_toInt_lt, ← Int64.toInt_inj] at c5 c51 c52 c71 c77 c78; have e0 : ex3 y0 x0 x1 x2 = (1 : Int32) := (by simp only [ex3, cl_eq, ← Int64.toInt_inj]; (repeat' split) <;> first | rfl | (exfalso; omega)); have e1 : ex3 y1 x0 x1 x2 = (2 : Int32) := (by simp only [ex3, cl_eq, ← Int64.toInt_inj]; (repeat' split) <;> first | rfl | (exfalso; omega)); rw [e0, e1]⟩
          · refine g_iinc (pc := 34) (ls' := #[.val (.ref a), .val (.ref b), .val (.ref b1), .val (.int (3 : Int32)), .val (.int (1 : Int32))]) (1 : Int32) (by decide) W70 d_c_pos23_34 rfl rfl ?_
            refine g_goto 17 (pc := 37) W70 d_c_pos23_37 (by decide) (by decide) ?_
            refine g_iload_n (pc := 17) W70 d_c_pos23_17 rfl ?_
            refine g_aload_n (pc := 18) W70 d_c_pos23_18 rfl rfl ?_
            refine g_arraylength (pc := 19) (i := 1) (3 : Int32) W70 rfl rfl d_c_pos23_19 ?_
            refine g_icmpY 40 (pc := 20) W70 d_c_pos23_20 (by decide) (by decide) (by decide) ?_
            refine g_aload_n (pc := 40) W70 d_c_pos23_40 rfl rfl ?_
            refine g_iload (pc := 41) W70 d_c_pos23_41 rfl ?_
            refine g_iload_n (pc := 43) W70 d_c_pos23_43 rfl ?_
            refine g_aload_n (pc := 44) W70 d_c_pos23_44 rfl rfl ?_
            refine g_arraylength (pc := 45) (i := 1) (3 : Int32) W70 rfl rfl d_c_pos23_45 ?_
            refine g_icmpY 64 (pc := 46) W70 d_c_pos23_46 (by decide) (by decide) (by decide) ?_
            refine g_iconst (pc := 64) (-1 : Int32) (by decide) W70 d_c_pos23_64 ?_
            refine g_iastore (pc := 65) (i := 2) (os' := [(a, (.array .long), [.long y0, .long y1]), (b, (.array .long), [.long x0, .long x1, .long x2]), (b1, (.array .int), [.int (1 : Int32), .int (-1 : Int32)])]) 1 W70 rfl (by decide) (by decide) (Nat.le_of_ble_eq_true rfl) rfl d_c_pos23_65 (fun T83 W84 => ?_)
            refine g_iinc (pc := 66) (ls' := #[.val (.ref a), .val (.ref b), .val (.ref b1), .val (.int (3 : Int32)), .val (.int (2 : Int32))]) (1 : Int32) (by decide) W84 d_c_pos23_66 rfl rfl ?_
            refine g_goto 10 (pc := 69) W84 d_c_pos23_69 (by decide) (by decide) ?_
            refine g_iload (pc := 10) W84 d_c_pos23_10 rfl ?_
            refine g_aload_n (pc := 12) W84 d_c_pos23_12 rfl rfl ?_
            refine g_arraylength (pc := 13) (i := 0) (2 : Int32) W84 rfl rfl d_c_pos23_13 ?_
            refine g_icmpY 72 (pc := 14) W84 d_c_pos23_14 (by decide) (by decide) (by decide) ?_
            refine g_aload_n (pc := 72) W84 d_c_pos23_72 rfl rfl ?_
            exact g_areturn (pc := 73) rfl rfl W84 d_c_pos23_73 (by decide) (by decide) ⟨b1, rfl, by simp only [cl_lt, cl_eq, Int64.lt_iff_toInt_lt, ← Int64.toInt_inj] at c5 c51 c52 c71 c77; have e0 : ex3 y0 x0 x1 x2 = (1 : Int32) := (by simp only [ex3, cl_eq, ← Int64.toInt_inj]; (repeat' split) <;> first | rfl | (exfalso; omega)); have e1 : ex3 y1 x0 x1 x2 = (-1 : Int32) := (by simp only [ex3, cl_eq, ← Int64.toInt_inj]; (repeat' split) <;> first | rfl | (exfalso; omega)); rw [e0, e1]⟩
    · refine g_iinc (pc := 34) (ls' := #[.val (.ref a), .val (.ref b), .val (.ref b1), .val (.int (2 : Int32)), .val (.int (0 : Int32))]) (1 : Int32) (by decide) W4 d_c_pos23_34 rfl rfl ?_
      refine g_goto 17 (pc := 37) W4 d_c_pos23_37 (by decide) (by decide) ?_
      refine g_iload_n (pc := 17) W4 d_c_pos23_17 rfl ?_
      refine g_aload_n (pc := 18) W4 d_c_pos23_18 rfl rfl ?_
      refine g_arraylength (pc := 19) (i := 1) (3 : Int32) W4 rfl rfl d_c_pos23_19 ?_
      refine g_icmpN (pc := 20) W4 d_c_pos23_20 (by decide) ?_
      refine g_aload_n (pc := 23) W4 d_c_pos23_23 rfl rfl ?_
      refine g_iload_n (pc := 24) W4 d_c_pos23_24 rfl ?_
      refine g_laload (pc := 25) (i := 1) (v := .long x2) W4 rfl (by decide) rfl d_c_pos23_25 ?_
      refine g_aload_n (pc := 26) W4 d_c_pos23_26 rfl rfl ?_
      refine g_iload (pc := 27) W4 d_c_pos23_27 rfl ?_
      refine g_laload (pc := 29) (i := 0) (v := .long y0) W4 rfl (by decide) rfl d_c_pos23_29 ?_
      refine g_lcmp (pc := 30) W4 d_c_pos23_30 ?_
      refine g_if_ge 40 (pc := 31) W4 d_c_pos23_31 (by decide) (by decide) (fun c85 => ?_) (fun c85 => ?_)
      · refine g_aload_n (pc := 40) W4 d_c_pos23_40 rfl rfl ?_
        refine g_iload (pc := 41) W4 d_c_pos23_41 rfl ?_
        refine g_iload_n (pc := 43) W4 d_c_pos23_43 rfl ?_
        refine g_aload_n (pc := 44) W4 d_c_pos23_44 rfl rfl ?_
        refine g_arraylength (pc := 45) (i := 1) (3 : Int32) W4 rfl rfl d_c_pos23_45 ?_
        refine g_icmpN (pc := 46) W4 d_c_pos23_46 (by decide) ?_
        refine g_aload_n (pc := 49) W4 d_c_pos23_49 rfl rfl ?_
        refine g_iload_n (pc := 50) W4 d_c_pos23_50 rfl ?_
        refine g_laload (pc := 51) (i := 1) (v := .long x2) W4 rfl (by decide) rfl d_c_pos23_51 ?_
        refine g_aload_n (pc := 52) W4 d_c_pos23_52 rfl rfl ?_
        refine g_iload (pc := 53) W4 d_c_pos23_53 rfl ?_
        refine g_laload (pc := 55) (i := 0) (v := .long y0) W4 rfl (by decide) rfl d_c_pos23_55 ?_
        refine g_lcmp (pc := 56) W4 d_c_pos23_56 ?_
        refine g_if_ne 64 (pc := 57) W4 d_c_pos23_57 (by decide) (by decide) (fun c86 => ?_) (fun c86 => ?_)
        · refine g_iconst (pc := 64) (-1 : Int32) (by decide) W4 d_c_pos23_64 ?_
          refine g_iastore (pc := 65) (i := 2) (os' := [(a, (.array .long), [.long y0, .long y1]), (b, (.array .long), [.long x0, .long x1, .long x2]), (b1, (.array .int), [.int (-1 : Int32), .int (0 : Int32)])]) 0 W4 rfl (by decide) (by decide) (Nat.le_of_ble_eq_true rfl) rfl d_c_pos23_65 (fun T87 W88 => ?_)
          refine g_iinc (pc := 66) (ls' := #[.val (.ref a), .val (.ref b), .val (.ref b1), .val (.int (2 : Int32)), .val (.int (1 : Int32))]) (1 : Int32) (by decide) W88 d_c_pos23_66 rfl rfl ?_
          refine g_goto 10 (pc := 69) W88 d_c_pos23_69 (by decide) (by decide) ?_
          refine g_iload (pc := 10) W88 d_c_pos23_10 rfl ?_
          refine g_aload_n (pc := 12) W88 d_c_pos23_12 rfl rfl ?_
          refine g_arraylength (pc := 13) (i := 0) (2 : Int32) W88 rfl rfl d_c_pos23_13 ?_
          refine g_icmpN (pc := 14) W88 d_c_pos23_14 (by decide) ?_
          refine g_iload_n (pc := 17) W88 d_c_pos23_17 rfl ?_
          refine g_aload_n (pc := 18) W88 d_c_pos23_18 rfl rfl ?_
          refine g_arraylength (pc := 19) (i := 1) (3 : Int32) W88 rfl rfl d_c_pos23_19 ?_
          refine g_icmpN (pc := 20) W88 d_c_pos23_20 (by decide) ?_
          refine g_aload_n (pc := 23) W88 d_c_pos23_23 rfl rfl ?_
          refine g_iload_n (pc := 24) W88 d_c_pos23_24 rfl ?_
          refine g_laload (pc := 25) (i := 1) (v := .long x2) W88 rfl (by decide) rfl d_c_pos23_25 ?_
          refine g_aload_n (pc := 26) W88 d_c_pos23_26 rfl rfl ?_
          refine g_iload (pc := 27) W88 d_c_pos23_27 rfl ?_
          refine g_laload (pc := 29) (i := 0) (v := .long y1) W88 rfl (by decide) rfl d_c_pos23_29 ?_
          refine g_lcmp (pc := 30) W88 d_c_pos23_30 ?_
          refine g_if_ge 40 (pc := 31) W88 d_c_pos23_31 (by decide) (by decide) (fun c89 => ?_) (fun c89 => ?_)
          · refine g_aload_n (pc := 40) W88 d_c_pos23_40 rfl rfl ?_
            refine g_iload (pc := 41) W88 d_c_pos23_41 rfl ?_
            refine g_iload_n (pc := 43) W88 d_c_pos23_43 rfl ?_
            refine g_aload_n (pc := 44) W88 d_c_pos23_44 rfl rfl ?_
            refine g_arraylength (pc := 45) (i := 1) (3 : Int32) W88 rfl rfl d_c_pos23_45 ?_
            refine g_icmpN (pc := 46) W88 d_c_pos23_46 (by decide) ?_
            refine g_aload_n (pc := 49) W88 d_c_pos23_49 rfl rfl ?_
            refine g_iload_n (pc := 50) W88 d_c_pos23_50 rfl ?_
            refine g_laload (pc := 51) (i := 1) (v := .long x2) W88 rfl (by decide) rfl d_c_pos23_51 ?_
            refine g_aload_n (pc := 52) W88 d_c_pos23_52 rfl rfl ?_
            refine g_iload (pc := 53) W88 d_c_pos23_53 rfl ?_
            refine g_laload (pc := 55) (i := 0) (v := .long y1) W88 rfl (by decide) rfl d_c_pos23_55 ?_
            refine g_lcmp (pc := 56) W88 d_c_pos23_56 ?_
            refine g_if_ne 64 (pc := 57) W88 d_c_pos23_57 (by decide) (by decide) (fun c90 => ?_) (fun c90 => ?_)
            · refine g_iconst (pc := 64) (-1 : Int32) (by decide) W88 d_c_pos23_64 ?_
              refine g_iastore (pc := 65) (i := 2) (os' := [(a, (.array .long), [.long y0, .long y1]), (b, (.array .long), [.long x0, .long x1, .long x2]), (b1, (.array .int), [.int (-1 : Int32), .int (-1 : Int32)])]) 1 W88 rfl (by decide) (by decide) (Nat.le_of_ble_eq_true rfl) rfl d_c_pos23_65 (fun T91 W92 => ?_)
              refine g_iinc (pc := 66) (ls' := #[.val (.ref a), .val (.ref b), .val (.ref b1), .val (.int (2 : Int32)), .val (.int (2 : Int32))]) (1 : Int32) (by decide) W92 d_c_pos23_66 rfl rfl ?_
              refine g_goto 10 (pc := 69) W92 d_c_pos23_69 (by decide) (by decide) ?_
              refine g_iload (pc := 10) W92 d_c_pos23_10 rfl ?_
              refine g_aload_n (pc := 12) W92 d_c_pos23_12 rfl rfl ?_
              refine g_arraylength (pc := 13) (i := 0) (2 : Int32) W92 rfl rfl d_c_pos23_13 ?_
              refine g_icmpY 72 (pc := 14) W92 d_c_pos23_14 (by decide) (by decide) (by decide) ?_
              refine g_aload_n (pc := 72) W92 d_c_pos23_72 rfl rfl ?_
              exact g_areturn (pc := 73) rfl rfl W92 d_c_pos23_73 (by decide) (by decide) ⟨b1, rfl, by simp only [cl_lt, cl_eq, Int64.lt_iff_toInt_lt, ← Int64.toInt_inj] at c5 c51 c85 c86 c89 c90; have e0 : ex3 y0 x0 x1 x2 = (-1 : Int32) := (by simp only [ex3, cl_eq, ← Int64.toInt_inj]; (repeat' split) <;> first | rfl | (exfalso; omega)); have e1 : ex3 y1 x0 x1 x2 = (-1 : Int32) := (by simp only [ex3, cl_eq, ← Int64.toInt_inj]; (repeat' split) <;> first | rfl | (exfalso; omega)); rw [e0, e1]⟩
            · refine g_iload_n (pc := 60) W88 d_c_pos23_60 rfl ?_
              refine g_goto 65 (pc := 61) W88 d_c_pos23_61 (by decide) (by decide) ?_
              refine g_iastore (pc := 65) (i := 2) (os' := [(a, (.array .long), [.long y0, .long y1]), (b, (.array .long), [.long x0, .long x1, .long x2]), (b1, (.array .int), [.int (-1 : Int32), .int (2 : Int32)])]) 1 W88 rfl (by decide) (by decide) (Nat.le_of_ble_eq_true rfl) rfl d_c_pos23_65 (fun T93 W94 => ?_)
              refine g_iinc (pc := 66) (ls' := #[.val (.ref a), .val (.ref b), .val (.ref b1), .val (.int (2 : Int32)), .val (.int (2 : Int32))]) (1 : Int32) (by decide) W94 d_c_pos23_66 rfl rfl ?_
              refine g_goto 10 (pc := 69) W94 d_c_pos23_69 (by decide) (by decide) ?_
              refine g_iload (pc := 10) W94 d_c_pos23_10 rfl ?_
              refine g_aload_n (pc := 12) W94 d_c_pos23_12 rfl rfl ?_
              refine g_arraylength (pc := 13) (i := 0) (2 : Int32) W94 rfl rfl d_c_pos23_13 ?_
              refine g_icmpY 72 (pc := 14) W94 d_c_pos23_14 (by decide) (by decide) (by decide) ?_
              refine g_aload_n (pc := 72) W94 d_c_pos23_72 rfl rfl ?_
              exact g_areturn (pc := 73) rfl rfl W94 d_c_pos23_73 (by decide) (by decide) ⟨b1, rfl, by simp only [cl_lt, cl_eq, Int64.lt_iff_toInt_lt, ← Int64.toInt_inj] at c5 c51 c85 c86 c89 c90; have e0 : ex3 y0 x0 x1 x2 = (-1 : Int32) := (by simp only [ex3, cl_eq, ← Int64.toInt_inj]; (repeat' split) <;> first | rfl | (exfalso; omega)); have e1 : ex3 y1 x0 x1 x2 = (2 : Int32) := (by simp only [ex3, cl_eq, ← Int64.toInt_inj]; (repeat' split) <;> first | rfl | (exfalso; omega)); rw [e0, e1]⟩
          · refine g_iinc (pc := 34) (ls' := #[.val (.ref a), .val (.ref b), .val (.ref b1), .val (.int (3 : Int32)), .val (.int (1 : Int32))]) (1 : Int32) (by decide) W88 d_c_pos23_34 rfl rfl ?_
            refine g_goto 17 (pc := 37) W88 d_c_pos23_37 (by decide) (by decide) ?_
            refine g_iload_n (pc := 17) W88 d_c_pos23_17 rfl ?_
            refine g_aload_n (pc := 18) W88 d_c_pos23_18 rfl rfl ?_
            refine g_arraylength (pc := 19) (i := 1) (3 : Int32) W88 rfl rfl d_c_pos23_19 ?_
            refine g_icmpY 40 (pc := 20) W88 d_c_pos23_20 (by decide) (by decide) (by decide) ?_
            refine g_aload_n (pc := 40) W88 d_c_pos23_40 rfl rfl ?_
            refine g_iload (pc := 41) W88 d_c_pos23_41 rfl ?_
            refine g_iload_n (pc := 43) W88 d_c_pos23_43 rfl ?_
            refine g_aload_n (pc := 44) W88 d_c_pos23_44 rfl rfl ?_
            refine g_arraylength (pc := 45) (i := 1) (3 : Int32) W88 rfl rfl d_c_pos23_45 ?_
            refine g_icmpY 64 (pc := 46) W88 d_c_pos23_46 (by decide) (by decide) (by decide) ?_
            refine g_iconst (pc := 64) (-1 : Int32) (by decide) W88 d_c_pos23_64 ?_
            refine g_iastore (pc := 65) (i := 2) (os' := [(a, (.array .long), [.long y0, .long y1]), (b, (.array .long), [.long x0, .long x1, .long x2]), (b1, (.array .int), [.int (-1 : Int32), .int (-1 : Int32)])]) 1 W88 rfl (by decide) (by decide) (Nat.le_of_ble_eq_true rfl) rfl d_c_pos23_65 (fun T95 W96 => ?_)
            refine g_iinc (pc := 66) (ls' := #[.val (.ref a), .val (.ref b), .val (.ref b1), .val (.int (3 : Int32)), .val (.int (2 : Int32))]) (1 : Int32) (by decide) W96 d_c_pos23_66 rfl rfl ?_
            refine g_goto 10 (pc := 69) W96 d_c_pos23_69 (by decide) (by decide) ?_
            refine g_iload (pc := 10) W96 d_c_pos23_10 rfl ?_
            refine g_aload_n (pc := 12) W96 d_c_pos23_12 rfl rfl ?_
            refine g_arraylength (pc := 13) (i := 0) (2 : Int32) W96 rfl rfl d_c_pos23_13 ?_
            refine g_icmpY 72 (pc := 14) W96 d_c_pos23_14 (by decide) (by decide) (by decide) ?_
            refine g_aload_n (pc := 72) W96 d_c_pos23_72 rfl rfl ?_
            exact g_areturn (pc := 73) rfl rfl W96 d_c_pos23_73 (by decide) (by decide) ⟨b1, rfl, by simp only [cl_lt, cl_eq, Int64.lt_iff_toInt_lt, ← Int64.toInt_inj] at c5 c51 c85 c86 c89; have e0 : ex3 y0 x0 x1 x2 = (-1 : Int32) := (by simp only [ex3, cl_eq, ← Int64.toInt_inj]; (repeat' split) <;> first | rfl | (exfalso; omega)); have e1 : ex3 y1 x0 x1 x2 = (-1 : Int32) := (by simp only [ex3, cl_eq, ← Int64.toInt_inj]; (repeat' split) <;> first | rfl | (exfalso; omega)); rw [e0, e1]⟩
        · refine g_iload_n (pc := 60) W4 d_c_pos23_60 rfl ?_
          refine g_goto 65 (pc := 61) W4 d_c_pos23_61 (by decide) (by decide) ?_
          refine g_iastore (pc := 65) (i := 2) (os' := [(a, (.array .long), [.long y0, .long y1]), (b, (.array .long), [.long x0, .long x1, .long x2]), (b1, (.array .int), [.int (2 : Int32), .int (0 : Int32)])]) 0 W4 rfl (by decide) (by decide) (Nat.le_of_ble_eq_true rfl) rfl d_c_pos23_65 (fun T97 W98 => ?_)
          refine g_iinc (pc := 66) (ls' := #[.val (.ref a), .val (.ref b), .val (.ref b1), .val (.int (2 : Int32)), .val (.int (1 : Int32))]) (1 : Int32) (by decide) W98 d_c_pos23_66 rfl rfl ?_
          refine g_goto 10 (pc := 69) W98 d_c_pos23_69 (by decide) (by decide) ?_
          refine g_iload (pc := 10) W98 d_c_pos23_10 rfl ?_
          refine g_aload_n (pc := 12) W98 d_c_pos23_12 rfl rfl ?_
          refine g_arraylength (pc := 13) (i := 0) (2 : Int32) W98 rfl rfl d_c_pos23_13 ?_
          refine g_icmpN (pc := 14) W98 d_c_pos23_14 (by decide) ?_
          refine g_iload_n (pc := 17) W98 d_c_pos23_17 rfl ?_
          refine g_aload_n (pc := 18) W98 d_c_pos23_18 rfl rfl ?_
          refine g_arraylength (pc := 19) (i := 1) (3 : Int32) W98 rfl rfl d_c_pos23_19 ?_
          refine g_icmpN (pc := 20) W98 d_c_pos23_20 (by decide) ?_
          refine g_aload_n (pc := 23) W98 d_c_pos23_23 rfl rfl ?_
          refine g_iload_n (pc := 24) W98 d_c_pos23_24 rfl ?_
          refine g_laload (pc := 25) (i := 1) (v := .long x2) W98 rfl (by decide) rfl d_c_pos23_25 ?_
          refine g_aload_n (pc := 26) W98 d_c_pos23_26 rfl rfl ?_
          refine g_iload (pc := 27) W98 d_c_pos23_27 rfl ?_
          refine g_laload (pc := 29) (i := 0) (v := .long y1) W98 rfl (by decide) rfl d_c_pos23_29 ?_
          refine g_lcmp (pc := 30) W98 d_c_pos23_30 ?_
          refine g_if_ge 40 (pc := 31) W98 d_c_pos23_31 (by decide) (by decide) (fun c99 => ?_) (fun c99 => ?_)
          · refine g_aload_n (pc := 40) W98 d_c_pos23_40 rfl rfl ?_
            refine g_iload (pc := 41) W98 d_c_pos23_41 rfl ?_
            refine g_iload_n (pc := 43) W98 d_c_pos23_43 rfl ?_
            refine g_aload_n (pc := 44) W98 d_c_pos23_44 rfl rfl ?_
            refine g_arraylength (pc := 45) (i := 1) (3 : Int32) W98 rfl rfl d_c_pos23_45 ?_
            refine g_icmpN (pc := 46) W98 d_c_pos23_46 (by decide) ?_
            refine g_aload_n (pc := 49) W98 d_c_pos23_49 rfl rfl ?_
            refine g_iload_n (pc := 50) W98 d_c_pos23_50 rfl ?_
            refine g_laload (pc := 51) (i := 1) (v := .long x2) W98 rfl (by decide) rfl d_c_pos23_51 ?_
            refine g_aload_n (pc := 52) W98 d_c_pos23_52 rfl rfl ?_
            refine g_iload (pc := 53) W98 d_c_pos23_53 rfl ?_
            refine g_laload (pc := 55) (i := 0) (v := .long y1) W98 rfl (by decide) rfl d_c_pos23_55 ?_
            refine g_lcmp (pc := 56) W98 d_c_pos23_56 ?_
            refine g_if_ne 64 (pc := 57) W98 d_c_pos23_57 (by decide) (by decide) (fun c100 => ?_) (fun c100 => ?_)
            · refine g_iconst (pc := 64) (-1 : Int32) (by decide) W98 d_c_pos23_64 ?_
              refine g_iastore (pc := 65) (i := 2) (os' := [(a, (.array .long), [.long y0, .long y1]), (b, (.array .long), [.long x0, .long x1, .long x2]), (b1, (.array .int), [.int (2 : Int32), .int (-1 : Int32)])]) 1 W98 rfl (by decide) (by decide) (Nat.le_of_ble_eq_true rfl) rfl d_c_pos23_65 (fun T101 W102 => ?_)
              refine g_iinc (pc := 66) (ls' := #[.val (.ref a), .val (.ref b), .val (.ref b1), .val (.int (2 : Int32)), .val (.int (2 : Int32))]) (1 : Int32) (by decide) W102 d_c_pos23_66 rfl rfl ?_
              refine g_goto 10 (pc := 69) W102 d_c_pos23_69 (by decide) (by decide) ?_
              refine g_iload (pc := 10) W102 d_c_pos23_10 rfl ?_
              refine g_aload_n (pc := 12) W102 d_c_pos23_12 rfl rfl ?_
              refine g_arraylength (pc := 13) (i := 0) (2 : Int32) W102 rfl rfl d_c_pos23_13 ?_
              refine g_icmpY 72 (pc := 14) W102 d_c_pos23_14 (by decide) (by decide) (by decide) ?_
              refine g_aload_n (pc := 72) W102 d_c_pos23_72 rfl rfl ?_
              exact g_areturn (pc := 73) rfl rfl W102 d_c_pos23_73 (by decide) (by decide) ⟨b1, rfl, by simp only [cl_lt, cl_eq, Int64.lt_iff_toInt_lt, ← Int64.toInt_inj] at c5 c51 c85 c86 c99 c100; have e0 : ex3 y0 x0 x1 x2 = (2 : Int32) := (by simp only [ex3, cl_eq, ← Int64.toInt_inj]; (repeat' split) <;> first | rfl | (exfalso; omega)); have e1 : ex3 y1 x0 x1 x2 = (-1 : Int32) := (by simp only [ex3, cl_eq, ← Int64.toInt_inj]; (repeat' split) <;> first | rfl | (exfalso; omega)); rw [e0, e1]⟩
            · refine g_iload_n (pc := 60) W98 d_c_pos23_60 rfl ?_
              refine g_goto 65 (pc := 61) W98 d_c_pos23_61 (by decide) (by decide) ?_
              refine g_iastore (pc := 65) (i := 2) (os' := [(a, (.array .long), [.long y0, .long y1]), (b, (.array .long), [.long x0, .long x1, .long x2]), (b1, (.array .int), [.int (2 : Int32), .int (2 : Int32)])]) 1 W98 rfl (by decide) (by decide) (Nat.le_of_ble_eq_true rfl) rfl d_c_pos23_65 (fun T103 W104 => ?_)
              refine g_iinc (pc := 66) (ls' := #[.val (.ref a), .val (.ref b), .val (.ref b1), .val (.int (2 : Int32)), .val (.int (2 : Int32))]) (1 : Int32) (by decide) W104 d_c_pos23_66 rfl rfl ?_
              refine g_goto 10 (pc := 69) W104 d_c_pos23_69 (by decide) (by decide) ?_
              refine g_iload (pc := 10) W104 d_c_pos23_10 rfl ?_
              refine g_aload_n (pc := 12) W104 d_c_pos23_12 rfl rfl ?_
              refine g_arraylength (pc := 13) (i := 0) (2 : Int32) W104 rfl rfl d_c_pos23_13 ?_
              refine g_icmpY 72 (pc := 14) W104 d_c_pos23_14 (by decide) (by decide) (by decide) ?_
              refine g_aload_n (pc := 72) W104 d_c_pos23_72 rfl rfl ?_
              exact g_areturn (pc := 73) rfl rfl W104 d_c_pos23_73 (by decide) (by decide) ⟨b1, rfl, by simp only [cl_lt, cl_eq, Int64.lt_iff_toInt_lt, ← Int64.toInt_inj] at c5 c51 c85 c86 c99 c100; have e0 : ex3 y0 x0 x1 x2 = (2 : Int32) := (by simp only [ex3, cl_eq, ← Int64.toInt_inj]; (repeat' split) <;> first | rfl | (exfalso; omega)); have e1 : ex3 y1 x0 x1 x2 = (2 : Int32) := (by simp only [ex3, cl_eq, ← Int64.toInt_inj]; (repeat' split) <;> first | rfl | (exfalso; omega)); rw [e0, e1]⟩
          · refine g_iinc (pc := 34) (ls' := #[.val (.ref a), .val (.ref b), .val (.ref b1), .val (.int (3 : Int32)), .val (.int (1 : Int32))]) (1 : Int32) (by decide) W98 d_c_pos23_34 rfl rfl ?_
            refine g_goto 17 (pc := 37) W98 d_c_pos23_37 (by decide) (by decide) ?_
            refine g_iload_n (pc := 17) W98 d_c_pos23_17 rfl ?_
            refine g_aload_n (pc := 18) W98 d_c_pos23_18 rfl rfl ?_
            refine g_arraylength (pc := 19) (i := 1) (3 : Int32) W98 rfl rfl d_c_pos23_19 ?_
            refine g_icmpY 40 (pc := 20) W98 d_c_pos23_20 (by decide) (by decide) (by decide) ?_
            refine g_aload_n (pc := 40) W98 d_c_pos23_40 rfl rfl ?_
            refine g_iload (pc := 41) W98 d_c_pos23_41 rfl ?_
            refine g_iload_n (pc := 43) W98 d_c_pos23_43 rfl ?_
            refine g_aload_n (pc := 44) W98 d_c_pos23_44 rfl rfl ?_
            refine g_arraylength (pc := 45) (i := 1) (3 : Int32) W98 rfl rfl d_c_pos23_45 ?_
            refine g_icmpY 64 (pc := 46) W98 d_c_pos23_46 (by decide) (by decide) (by decide) ?_
            refine g_iconst (pc := 64) (-1 : Int32) (by decide) W98 d_c_pos23_64 ?_
            refine g_iastore (pc := 65) (i := 2) (os' := [(a, (.array .long), [.long y0, .long y1]), (b, (.array .long), [.long x0, .long x1, .long x2]), (b1, (.array .int), [.int (2 : Int32), .int (-1 : Int32)])]) 1 W98 rfl (by decide) (by decide) (Nat.le_of_ble_eq_true rfl) rfl d_c_pos23_65 (fun T105 W106 => ?_)
            refine g_iinc (pc := 66) (ls' := #[.val (.ref a), .val (.ref b), .val (.ref b1), .val (.int (3 : Int32)), .val (.int (2 : Int32))]) (1 : Int32) (by decide) W106 d_c_pos23_66 rfl rfl ?_
            refine g_goto 10 (pc := 69) W106 d_c_pos23_69 (by decide) (by decide) ?_
            refine g_iload (pc := 10) W106 d_c_pos23_10 rfl ?_
            refine g_aload_n (pc := 12) W106 d_c_pos23_12 rfl rfl ?_
            refine g_arraylength (pc := 13) (i := 0) (2 : Int32) W106 rfl rfl d_c_pos23_13 ?_
            refine g_icmpY 72 (pc := 14) W106 d_c_pos23_14 (by decide) (by decide) (by decide) ?_
            refine g_aload_n (pc := 72) W106 d_c_pos23_72 rfl rfl ?_
            exact g_areturn (pc := 73) rfl rfl W106 d_c_pos23_73 (by decide) (by decide) ⟨b1, rfl, by simp only [cl_lt, cl_eq, Int64.lt_iff_toInt_lt, ← Int64.toInt_inj] at c5 c51 c85 c86 c99; have e0 : ex3 y0 x0 x1 x2 = (2 : Int32) := (by simp only [ex3, cl_eq, ← Int64.toInt_inj]; (repeat' split) <;> first | rfl | (exfalso; omega)); have e1 : ex3 y1 x0 x1 x2 = (-1 : Int32) := (by simp only [ex3, cl_eq, ← Int64.toInt_inj]; (repeat' split) <;> first | rfl | (exfalso; omega)); rw [e0, e1]⟩
      · refine g_iinc (pc := 34) (ls' := #[.val (.ref a), .val (.ref b), .val (.ref b1), .val (.int (3 : Int32)), .val (.int (0 : Int32))]) (1 : Int32) (by decide) W4 d_c_pos23_34 rfl rfl ?_
        refine g_goto 17 (pc := 37) W4 d_c_pos23_37 (by decide) (by decide) ?_
        refine g_iload_n (pc := 17) W4 d_c_pos23_17 rfl ?_
        refine g_aload_n (pc := 18) W4 d_c_pos23_18 rfl rfl ?_
        refine g_arraylength (pc := 19) (i := 1) (3 : Int32) W4 rfl rfl d_c_pos23_19 ?_
        refine g_icmpY 40 (pc := 20) W4 d_c_pos23_20 (by decide) (by decide) (by decide) ?_
        refine g_aload_n (pc := 40) W4 d_c_pos23_40 rfl rfl ?_
        refine g_iload (pc := 41) W4 d_c_pos23_41 rfl ?_
        refine g_iload_n (pc := 43) W4 d_c_pos23_43 rfl ?_
        refine g_aload_n (pc := 44) W4 d_c_pos23_44 rfl rfl ?_
        refine g_arraylength (pc := 45) (i := 1) (3 : Int32) W4 rfl rfl d_c_pos23_45 ?_
        refine g_icmpY 64 (pc := 46) W4 d_c_pos23_46 (by decide) (by decide) (by decide) ?_
        refine g_iconst (pc := 64) (-1 : Int32) (by decide) W4 d_c_pos23_64 ?_
        refine g_iastore (pc := 65) (i := 2) (os' := [(a, (.array .long), [.long y0, .long y1]), (b, (.array .long), [.long x0, .long x1, .long x2]), (b1, (.array .int), [.int (-1 : Int32), .int (0 : Int32)])]) 0 W4 rfl (by decide) (by decide) (Nat.le_of_ble_eq_true rfl) rfl d_c_pos23_65 (fun T107 W108 => ?_)
        refine g_iinc (pc := 66) (ls' := #[.val (.ref a), .val (.ref b), .val (.ref b1), .val (.int (3 : Int32)), .val (.int (1 : Int32))]) (1 : Int32) (by decide) W108 d_c_pos23_66 rfl rfl ?_
        refine g_goto 10 (pc := 69) W108 d_c_pos23_69 (by decide) (by decide) ?_
        refine g_iload (pc := 10) W108 d_c_pos23_10 rfl ?_
        refine g_aload_n (pc := 12) W108 d_c_pos23_12 rfl rfl ?_
        refine g_arraylength (pc := 13) (i := 0) (2 : Int32) W108 rfl rfl d_c_pos23_13 ?_
        refine g_icmpN (pc := 14) W108 d_c_pos23_14 (by decide) ?_
        refine g_iload_n (pc := 17) W108 d_c_pos23_17 rfl ?_
        refine g_aload_n (pc := 18) W108 d_c_pos23_18 rfl rfl ?_
        refine g_arraylength (pc := 19) (i := 1) (3 : Int32) W108 rfl rfl d_c_pos23_19 ?_
        refine g_icmpY 40 (pc := 20) W108 d_c_pos23_20 (by decide) (by decide) (by decide) ?_
        refine g_aload_n (pc := 40) W108 d_c_pos23_40 rfl rfl ?_
        refine g_iload (pc := 41) W108 d_c_pos23_41 rfl ?_
        refine g_iload_n (pc := 43) W108 d_c_pos23_43 rfl ?_
        refine g_aload_n (pc := 44) W108 d_c_pos23_44 rfl rfl ?_
        refine g_arraylength (pc := 45) (i := 1) (3 : Int32) W108 rfl rfl d_c_pos23_45 ?_
        refine g_icmpY 64 (pc := 46) W108 d_c_pos23_46 (by decide) (by decide) (by decide) ?_
        refine g_iconst (pc := 64) (-1 : Int32) (by decide) W108 d_c_pos23_64 ?_
        refine g_iastore (pc := 65) (i := 2) (os' := [(a, (.array .long), [.long y0, .long y1]), (b, (.array .long), [.long x0, .long x1, .long x2]), (b1, (.array .int), [.int (-1 : Int32), .int (-1 : Int32)])]) 1 W108 rfl (by decide) (by decide) (Nat.le_of_ble_eq_true rfl) rfl d_c_pos23_65 (fun T109 W110 => ?_)
        refine g_iinc (pc := 66) (ls' := #[.val (.ref a), .val (.ref b), .val (.ref b1), .val (.int (3 : Int32)), .val (.int (2 : Int32))]) (1 : Int32) (by decide) W110 d_c_pos23_66 rfl rfl ?_
        refine g_goto 10 (pc := 69) W110 d_c_pos23_69 (by decide) (by decide) ?_
        refine g_iload (pc := 10) W110 d_c_pos23_10 rfl ?_
        refine g_aload_n (pc := 12) W110 d_c_pos23_12 rfl rfl ?_
        refine g_arraylength (pc := 13) (i := 0) (2 : Int32) W110 rfl rfl d_c_pos23_13 ?_
        refine g_icmpY 72 (pc := 14) W110 d_c_pos23_14 (by decide) (by decide) (by decide) ?_
        refine g_aload_n (pc := 72) W110 d_c_pos23_72 rfl rfl ?_
        exact g_areturn (pc := 73) rfl rfl W110 d_c_pos23_73 (by decide) (by decide) ⟨b1, rfl, by simp only [cl_lt, cl_eq, Int64.lt_iff_toInt_lt, ← Int64.toInt_inj] at c5 c51 c85; have e0 : ex3 y0 x0 x1 x2 = (-1 : Int32) := (by simp only [ex3, cl_eq, ← Int64.toInt_inj]; (repeat' split) <;> first | rfl | (exfalso; omega)); have e1 : ex3 y1 x0 x1 x2 = (-1 : Int32) := (by simp only [ex3, cl_eq, ← Int64.toInt_inj]; (repeat' split) <;> first | rfl | (exfalso; omega)); rw [e0, e1]⟩
set_option maxRecDepth 65536 in
set_option maxHeartbeats 40000000 in
theorem c_law (l : Launch) (Z : State) (a0 : Array Value) (hw : ∀ d ∈ tables_1, d.before a0 Z = true) {B : Nat} (p0 p1 p2 p3 p4 : Int64) (p5 : Int32) :
    Con l Z FM B x code maxLocals ret room_1 tables_1 #[.long p0, .long p1, .long p2, .long p3, .long p4, .int p5] [] (fun v os => v = some (.int 1)) := by
  refine Con.of (plainFor_of_name (by first | (simp [plainName, overriddenIn]; done) | decide +kernel)) (ls := #[.val (.long p0), .second, .val (.long p1), .second, .val (.long p2), .second, .val (.long p3), .second, .val (.long p4), .second, .val (.int p5), .unset, .unset, .unset, .unset, .unset, .unset, .unset, .unset, .unset, .unset, .unset, .unset, .unset, .unset, .unset, .unset, .unset, .unset, .unset]) (fun m => by first | (simp [entryFrame, mkF, argsToLocals, Value.category, maxLocals]; done) | rfl) ?_
  intro p_ e_ h_ s_ m_ bl_ me_ c_ T0 W0
  refine g_lload_n (pc := 0) W0 at_0 rfl ?_
  refine g_lload_n (pc := 1) W0 at_1 rfl ?_
  refine g_lload (pc := 2) W0 at_2 rfl ?_
  refine g_static (pc := 4) (Wt := 2) (argsL := [.long p1, .long p2]) (rest := [.long p0]) (loc := []) (rst := []) W0 (hw _ (List.mem_of_getElem? (i := 0) rfl)) (hw _ (List.mem_of_getElem? (i := 1) rfl)) (hw _ (List.mem_of_getElem? (i := 2) rfl)) (hw _ (List.mem_of_getElem? (i := 3) rfl)) (by decide) (c_min l Z a0 hw p1 p2) Spl.none rfl pd_JJ__J rfl rfl rfl (Nat.le_of_ble_eq_true rfl) (by decide) (by decide) (by decide) (by decide) at_4 ?_
  rintro T1 _ _ ⟨rfl, rfl⟩ W2
  have W3 := W2.re (os' := []) rfl
  show Go p_ e_ bl_ _ (T1.setTop (mkF m_ 7 #[.val (.long p0), .second, .val (.long p1), .second, .val (.long p2), .second, .val (.long p3), .second, .val (.long p4), .second, .val (.int p5), .unset, .unset, .unset, .unset, .unset, .unset, .unset, .unset, .unset, .unset, .unset, .unset, .unset, .unset, .unset, .unset, .unset, .unset, .unset] [.long (mnL p1 p2), .long p0]))
  refine g_static (pc := 7) (Wt := 0) (argsL := [.long p0, .long (mnL p1 p2)]) (rest := []) (loc := []) (rst := []) W3 (hw _ (List.mem_of_getElem? (i := 0) rfl)) (hw _ (List.mem_of_getElem? (i := 1) rfl)) (hw _ (List.mem_of_getElem? (i := 2) rfl)) (hw _ (List.mem_of_getElem? (i := 3) rfl)) (by decide) (c_min l Z a0 hw p0 (mnL p1 p2)) Spl.none rfl pd_JJ__J rfl rfl rfl (Nat.le_of_ble_eq_true rfl) (by decide) (by decide) (by decide) (by decide) at_7 ?_
  rintro T4 _ _ ⟨rfl, rfl⟩ W5
  have W6 := W5.re (os' := []) rfl
  show Go p_ e_ bl_ _ (T4.setTop (mkF m_ 10 #[.val (.long p0), .second, .val (.long p1), .second, .val (.long p2), .second, .val (.long p3), .second, .val (.long p4), .second, .val (.int p5), .unset, .unset, .unset, .unset, .unset, .unset, .unset, .unset, .unset, .unset, .unset, .unset, .unset, .unset, .unset, .unset, .unset, .unset, .unset] [.long (mnL p0 (mnL p1 p2))]))
  refine g_lstore (pc := 10) (ls' := #[.val (.long p0), .second, .val (.long p1), .second, .val (.long p2), .second, .val (.long p3), .second, .val (.long p4), .second, .val (.int p5), .val (.long (mnL p0 (mnL p1 p2))), .second, .unset, .unset, .unset, .unset, .unset, .unset, .unset, .unset, .unset, .unset, .unset, .unset, .unset, .unset, .unset, .unset, .unset]) W6 at_10 rfl ?_
  refine g_lload_n (pc := 12) W6 at_12 rfl ?_
  refine g_lload_n (pc := 13) W6 at_13 rfl ?_
  refine g_static (pc := 14) (Wt := 0) (argsL := [.long p0, .long p1]) (rest := []) (loc := []) (rst := []) W6 (hw _ (List.mem_of_getElem? (i := 0) rfl)) (hw _ (List.mem_of_getElem? (i := 1) rfl)) (hw _ (List.mem_of_getElem? (i := 2) rfl)) (hw _ (List.mem_of_getElem? (i := 3) rfl)) (by decide) (c_min l Z a0 hw p0 p1) Spl.none rfl pd_JJ__J rfl rfl rfl (Nat.le_of_ble_eq_true rfl) (by decide) (by decide) (by decide) (by decide) at_14 ?_
  rintro T7 _ _ ⟨rfl, rfl⟩ W8
  have W9 := W8.re (os' := []) rfl
  show Go p_ e_ bl_ _ (T7.setTop (mkF m_ 17 #[.val (.long p0), .second, .val (.long p1), .second, .val (.long p2), .second, .val (.long p3), .second, .val (.long p4), .second, .val (.int p5), .val (.long (mnL p0 (mnL p1 p2))), .second, .unset, .unset, .unset, .unset, .unset, .unset, .unset, .unset, .unset, .unset, .unset, .unset, .unset, .unset, .unset, .unset, .unset] [.long (mnL p0 p1)]))
  refine g_lload_n (pc := 17) W9 at_17 rfl ?_
  refine g_lload_n (pc := 18) W9 at_18 rfl ?_
  refine g_static (pc := 19) (Wt := 2) (argsL := [.long p0, .long p1]) (rest := [.long (mnL p0 p1)]) (loc := []) (rst := []) W9 (hw _ (List.mem_of_getElem? (i := 4) rfl)) (hw _ (List.mem_of_getElem? (i := 5) rfl)) (hw _ (List.mem_of_getElem? (i := 2) rfl)) (hw _ (List.mem_of_getElem? (i := 6) rfl)) (by decide) (c_max l Z a0 hw p0 p1) Spl.none rfl pd_JJ__J rfl rfl rfl (Nat.le_of_ble_eq_true rfl) (by decide) (by decide) (by decide) (by decide) at_19 ?_
  rintro T10 _ _ ⟨rfl, rfl⟩ W11
  have W12 := W11.re (os' := []) rfl
  show Go p_ e_ bl_ _ (T10.setTop (mkF m_ 22 #[.val (.long p0), .second, .val (.long p1), .second, .val (.long p2), .second, .val (.long p3), .second, .val (.long p4), .second, .val (.int p5), .val (.long (mnL p0 (mnL p1 p2))), .second, .unset, .unset, .unset, .unset, .unset, .unset, .unset, .unset, .unset, .unset, .unset, .unset, .unset, .unset, .unset, .unset, .unset] [.long (mxL p0 p1), .long (mnL p0 p1)]))
  refine g_lload (pc := 22) W12 at_22 rfl ?_
  refine g_static (pc := 24) (Wt := 2) (argsL := [.long (mxL p0 p1), .long p2]) (rest := [.long (mnL p0 p1)]) (loc := []) (rst := []) W12 (hw _ (List.mem_of_getElem? (i := 0) rfl)) (hw _ (List.mem_of_getElem? (i := 1) rfl)) (hw _ (List.mem_of_getElem? (i := 2) rfl)) (hw _ (List.mem_of_getElem? (i := 3) rfl)) (by decide) (c_min l Z a0 hw (mxL p0 p1) p2) Spl.none rfl pd_JJ__J rfl rfl rfl (Nat.le_of_ble_eq_true rfl) (by decide) (by decide) (by decide) (by decide) at_24 ?_
  rintro T13 _ _ ⟨rfl, rfl⟩ W14
  have W15 := W14.re (os' := []) rfl
  show Go p_ e_ bl_ _ (T13.setTop (mkF m_ 27 #[.val (.long p0), .second, .val (.long p1), .second, .val (.long p2), .second, .val (.long p3), .second, .val (.long p4), .second, .val (.int p5), .val (.long (mnL p0 (mnL p1 p2))), .second, .unset, .unset, .unset, .unset, .unset, .unset, .unset, .unset, .unset, .unset, .unset, .unset, .unset, .unset, .unset, .unset, .unset] [.long (mnL (mxL p0 p1) p2), .long (mnL p0 p1)]))
  refine g_static (pc := 27) (Wt := 0) (argsL := [.long (mnL p0 p1), .long (mnL (mxL p0 p1) p2)]) (rest := []) (loc := []) (rst := []) W15 (hw _ (List.mem_of_getElem? (i := 4) rfl)) (hw _ (List.mem_of_getElem? (i := 5) rfl)) (hw _ (List.mem_of_getElem? (i := 2) rfl)) (hw _ (List.mem_of_getElem? (i := 6) rfl)) (by decide) (c_max l Z a0 hw (mnL p0 p1) (mnL (mxL p0 p1) p2)) Spl.none rfl pd_JJ__J rfl rfl rfl (Nat.le_of_ble_eq_true rfl) (by decide) (by decide) (by decide) (by decide) at_27 ?_
  rintro T16 _ _ ⟨rfl, rfl⟩ W17
  have W18 := W17.re (os' := []) rfl
  show Go p_ e_ bl_ _ (T16.setTop (mkF m_ 30 #[.val (.long p0), .second, .val (.long p1), .second, .val (.long p2), .second, .val (.long p3), .second, .val (.long p4), .second, .val (.int p5), .val (.long (mnL p0 (mnL p1 p2))), .second, .unset, .unset, .unset, .unset, .unset, .unset, .unset, .unset, .unset, .unset, .unset, .unset, .unset, .unset, .unset, .unset, .unset] [.long (mxL (mnL p0 p1) (mnL (mxL p0 p1) p2))]))
  refine g_lstore (pc := 30) (ls' := #[.val (.long p0), .second, .val (.long p1), .second, .val (.long p2), .second, .val (.long p3), .second, .val (.long p4), .second, .val (.int p5), .val (.long (mnL p0 (mnL p1 p2))), .second, .val (.long (mxL (mnL p0 p1) (mnL (mxL p0 p1) p2))), .second, .unset, .unset, .unset, .unset, .unset, .unset, .unset, .unset, .unset, .unset, .unset, .unset, .unset, .unset, .unset]) W18 at_30 rfl ?_
  refine g_lload_n (pc := 32) W18 at_32 rfl ?_
  refine g_lload_n (pc := 33) W18 at_33 rfl ?_
  refine g_lload (pc := 34) W18 at_34 rfl ?_
  refine g_static (pc := 36) (Wt := 2) (argsL := [.long p1, .long p2]) (rest := [.long p0]) (loc := []) (rst := []) W18 (hw _ (List.mem_of_getElem? (i := 4) rfl)) (hw _ (List.mem_of_getElem? (i := 5) rfl)) (hw _ (List.mem_of_getElem? (i := 2) rfl)) (hw _ (List.mem_of_getElem? (i := 6) rfl)) (by decide) (c_max l Z a0 hw p1 p2) Spl.none rfl pd_JJ__J rfl rfl rfl (Nat.le_of_ble_eq_true rfl) (by decide) (by decide) (by decide) (by decide) at_36 ?_
  rintro T19 _ _ ⟨rfl, rfl⟩ W20
  have W21 := W20.re (os' := []) rfl
  show Go p_ e_ bl_ _ (T19.setTop (mkF m_ 39 #[.val (.long p0), .second, .val (.long p1), .second, .val (.long p2), .second, .val (.long p3), .second, .val (.long p4), .second, .val (.int p5), .val (.long (mnL p0 (mnL p1 p2))), .second, .val (.long (mxL (mnL p0 p1) (mnL (mxL p0 p1) p2))), .second, .unset, .unset, .unset, .unset, .unset, .unset, .unset, .unset, .unset, .unset, .unset, .unset, .unset, .unset, .unset] [.long (mxL p1 p2), .long p0]))
  refine g_static (pc := 39) (Wt := 0) (argsL := [.long p0, .long (mxL p1 p2)]) (rest := []) (loc := []) (rst := []) W21 (hw _ (List.mem_of_getElem? (i := 4) rfl)) (hw _ (List.mem_of_getElem? (i := 5) rfl)) (hw _ (List.mem_of_getElem? (i := 2) rfl)) (hw _ (List.mem_of_getElem? (i := 6) rfl)) (by decide) (c_max l Z a0 hw p0 (mxL p1 p2)) Spl.none rfl pd_JJ__J rfl rfl rfl (Nat.le_of_ble_eq_true rfl) (by decide) (by decide) (by decide) (by decide) at_39 ?_
  rintro T22 _ _ ⟨rfl, rfl⟩ W23
  have W24 := W23.re (os' := []) rfl
  show Go p_ e_ bl_ _ (T22.setTop (mkF m_ 42 #[.val (.long p0), .second, .val (.long p1), .second, .val (.long p2), .second, .val (.long p3), .second, .val (.long p4), .second, .val (.int p5), .val (.long (mnL p0 (mnL p1 p2))), .second, .val (.long (mxL (mnL p0 p1) (mnL (mxL p0 p1) p2))), .second, .unset, .unset, .unset, .unset, .unset, .unset, .unset, .unset, .unset, .unset, .unset, .unset, .unset, .unset, .unset] [.long (mxL p0 (mxL p1 p2))]))
  refine g_lstore (pc := 42) (ls' := #[.val (.long p0), .second, .val (.long p1), .second, .val (.long p2), .second, .val (.long p3), .second, .val (.long p4), .second, .val (.int p5), .val (.long (mnL p0 (mnL p1 p2))), .second, .val (.long (mxL (mnL p0 p1) (mnL (mxL p0 p1) p2))), .second, .val (.long (mxL p0 (mxL p1 p2))), .second, .unset, .unset, .unset, .unset, .unset, .unset, .unset, .unset, .unset, .unset, .unset, .unset, .unset]) W24 at_42 rfl ?_
  have hs := own_sort p0 p1 p2
  generalize (mnL p0 (mnL p1 p2)) = x0 at hs ⊢
  generalize (mxL (mnL p0 p1) (mnL (mxL p0 p1) p2)) = x1 at hs ⊢
  generalize (mxL p0 (mxL p1 p2)) = x2 at hs ⊢
  refine g_iload (pc := 44) W24 at_44 rfl ?_
  refine g_iconst (pc := 46) (4 : Int32) (by decide) W24 at_46 ?_
  refine g_iushr (pc := 47) W24 at_47 ?_
  refine g_iconst (pc := 48) (3 : Int32) (by decide) W24 at_48 ?_
  refine g_iand (pc := 49) W24 at_49 ?_
  refine g_istore (pc := 50) (ls' := #[.val (.long p0), .second, .val (.long p1), .second, .val (.long p2), .second, .val (.long p3), .second, .val (.long p4), .second, .val (.int p5), .val (.long x0), .second, .val (.long x1), .second, .val (.long x2), .second, .val (.int ((XT.ushr p5 (4 : Int32)) &&& (3 : Int32))), .unset, .unset, .unset, .unset, .unset, .unset, .unset, .unset, .unset, .unset, .unset, .unset]) W24 at_50 rfl ?_
  refine g_iload (pc := 52) W24 at_52 rfl ?_
  refine g_bipush (pc := 54) (6 : Int32) (by decide) W24 at_54 ?_
  refine g_iushr (pc := 56) W24 at_56 ?_
  refine g_iconst (pc := 57) (3 : Int32) (by decide) W24 at_57 ?_
  refine g_iand (pc := 58) W24 at_58 ?_
  refine g_iconst (pc := 59) (3 : Int32) (by decide) W24 at_59 ?_
  refine g_irem (pc := 60) W24 at_60 (by decide) ?_
  refine g_istore (pc := 61) (ls' := #[.val (.long p0), .second, .val (.long p1), .second, .val (.long p2), .second, .val (.long p3), .second, .val (.long p4), .second, .val (.int p5), .val (.long x0), .second, .val (.long x1), .second, .val (.long x2), .second, .val (.int ((XT.ushr p5 (4 : Int32)) &&& (3 : Int32))), .val (.int (((XT.ushr p5 (6 : Int32)) &&& (3 : Int32)) % (3 : Int32))), .unset, .unset, .unset, .unset, .unset, .unset, .unset, .unset, .unset, .unset, .unset]) W24 at_61 rfl ?_
  rcases own_p (XT.ushr p5 (4 : Int32)) with hm | hm | hm | hm <;> rcases own_q (XT.ushr p5 (6 : Int32)) with hn | hn | hn
  · rw [hm, hn]
    refine g_iload (pc := 63) W24 at_63 rfl ?_
    refine g_iconst (pc := 65) (1 : Int32) (by decide) W24 at_65 ?_
    refine g_icmpY 77 (pc := 66) W24 at_66 (by decide) (by decide) (by decide) ?_
    refine g_iload (pc := 77) W24 at_77 rfl ?_
    refine g_iconst (pc := 79) (2 : Int32) (by decide) W24 at_79 ?_
    refine g_icmpY 93 (pc := 80) W24 at_80 (by decide) (by decide) (by decide) ?_
    refine g_lload (pc := 93) W24 at_93 rfl ?_
    refine g_iload (pc := 95) W24 at_95 rfl ?_
    refine g_iconst (pc := 97) (3 : Int32) (by decide) W24 at_97 ?_
    refine g_iand (pc := 98) W24 at_98 ?_
    refine g_lload (pc := 99) W24 at_99 rfl ?_
    refine g_lload (pc := 101) W24 at_101 rfl ?_
    refine g_lload (pc := 103) W24 at_103 rfl ?_
    refine g_static (pc := 105) (Wt := 0) (argsL := [.long p3, .int (p5 &&& (3 : Int32)), .long x0, .long x1, .long x2]) (rest := []) (loc := []) (rst := []) W24 (hw _ (List.mem_of_getElem? (i := 7) rfl)) (hw _ (List.mem_of_getElem? (i := 8) rfl)) (hw _ (List.mem_of_getElem? (i := 9) rfl)) (hw _ (List.mem_of_getElem? (i := 10) rfl)) (by decide) (c_pck l Z a0 hw p3 (p5 &&& (3 : Int32)) x0 x1 x2) Spl.none rfl pd_JIJJJ__J rfl rfl rfl (Nat.le_of_ble_eq_true rfl) (by decide) (by decide) (by decide) (by decide) at_105 ?_
    rintro T25 _ _ ⟨rfl, rfl⟩ W26
    have W27 := W26.re (os' := []) rfl
    show Go p_ e_ bl_ _ (T25.setTop (mkF m_ 108 #[.val (.long p0), .second, .val (.long p1), .second, .val (.long p2), .second, .val (.long p3), .second, .val (.long p4), .second, .val (.int p5), .val (.long x0), .second, .val (.long x1), .second, .val (.long x2), .second, .val (.int (0 : Int32)), .val (.int (0 : Int32)), .unset, .unset, .unset, .unset, .unset, .unset, .unset, .unset, .unset, .unset, .unset] [.long (pck p3 (p5 &&& (3 : Int32)) x0 x1 x2)]))
    refine g_lstore (pc := 108) (ls' := #[.val (.long p0), .second, .val (.long p1), .second, .val (.long p2), .second, .val (.long p3), .second, .val (.long p4), .second, .val (.int p5), .val (.long x0), .second, .val (.long x1), .second, .val (.long x2), .second, .val (.int (0 : Int32)), .val (.int (0 : Int32)), .val (.long (pck p3 (p5 &&& (3 : Int32)) x0 x1 x2)), .second, .unset, .unset, .unset, .unset, .unset, .unset, .unset, .unset, .unset]) W27 at_108 rfl ?_
    refine g_lload (pc := 110) W27 at_110 rfl ?_
    refine g_iload (pc := 112) W27 at_112 rfl ?_
    refine g_iconst (pc := 114) (2 : Int32) (by decide) W27 at_114 ?_
    refine g_iushr (pc := 115) W27 at_115 ?_
    refine g_iconst (pc := 116) (3 : Int32) (by decide) W27 at_116 ?_
    refine g_iand (pc := 117) W27 at_117 ?_
    refine g_lload (pc := 118) W27 at_118 rfl ?_
    refine g_lload (pc := 120) W27 at_120 rfl ?_
    refine g_lload (pc := 122) W27 at_122 rfl ?_
    refine g_static (pc := 124) (Wt := 0) (argsL := [.long p4, .int ((XT.ushr p5 (2 : Int32)) &&& (3 : Int32)), .long x0, .long x1, .long x2]) (rest := []) (loc := []) (rst := []) W27 (hw _ (List.mem_of_getElem? (i := 7) rfl)) (hw _ (List.mem_of_getElem? (i := 8) rfl)) (hw _ (List.mem_of_getElem? (i := 9) rfl)) (hw _ (List.mem_of_getElem? (i := 10) rfl)) (by decide) (c_pck l Z a0 hw p4 ((XT.ushr p5 (2 : Int32)) &&& (3 : Int32)) x0 x1 x2) Spl.none rfl pd_JIJJJ__J rfl rfl rfl (Nat.le_of_ble_eq_true rfl) (by decide) (by decide) (by decide) (by decide) at_124 ?_
    rintro T28 _ _ ⟨rfl, rfl⟩ W29
    have W30 := W29.re (os' := []) rfl
    show Go p_ e_ bl_ _ (T28.setTop (mkF m_ 127 #[.val (.long p0), .second, .val (.long p1), .second, .val (.long p2), .second, .val (.long p3), .second, .val (.long p4), .second, .val (.int p5), .val (.long x0), .second, .val (.long x1), .second, .val (.long x2), .second, .val (.int (0 : Int32)), .val (.int (0 : Int32)), .val (.long (pck p3 (p5 &&& (3 : Int32)) x0 x1 x2)), .second, .unset, .unset, .unset, .unset, .unset, .unset, .unset, .unset, .unset] [.long (pck p4 ((XT.ushr p5 (2 : Int32)) &&& (3 : Int32)) x0 x1 x2)]))
    refine g_lstore (pc := 127) (ls' := #[.val (.long p0), .second, .val (.long p1), .second, .val (.long p2), .second, .val (.long p3), .second, .val (.long p4), .second, .val (.int p5), .val (.long x0), .second, .val (.long x1), .second, .val (.long x2), .second, .val (.int (0 : Int32)), .val (.int (0 : Int32)), .val (.long (pck p3 (p5 &&& (3 : Int32)) x0 x1 x2)), .second, .val (.long (pck p4 ((XT.ushr p5 (2 : Int32)) &&& (3 : Int32)) x0 x1 x2)), .second, .unset, .unset, .unset, .unset, .unset, .unset, .unset]) W30 at_127 rfl ?_
    generalize (pck p3 (p5 &&& (3 : Int32)) x0 x1 x2) = y0
    generalize (pck p4 ((XT.ushr p5 (2 : Int32)) &&& (3 : Int32)) x0 x1 x2) = y1
    refine g_lload (pc := 129) W30 at_129 rfl ?_
    refine g_lload (pc := 131) W30 at_131 rfl ?_
    refine g_static (pc := 133) (Wt := 0) (argsL := [.long y0, .long y1]) (rest := []) (loc := []) (rst := []) W30 (hw _ (List.mem_of_getElem? (i := 0) rfl)) (hw _ (List.mem_of_getElem? (i := 1) rfl)) (hw _ (List.mem_of_getElem? (i := 2) rfl)) (hw _ (List.mem_of_getElem? (i := 3) rfl)) (by decide) (c_min l Z a0 hw y0 y1) Spl.none rfl pd_JJ__J rfl rfl rfl (Nat.le_of_ble_eq_true rfl) (by decide) (by decide) (by decide) (by decide) at_133 ?_
    rintro T31 _ _ ⟨rfl, rfl⟩ W32
    have W33 := W32.re (os' := []) rfl
    show Go p_ e_ bl_ _ (T31.setTop (mkF m_ 136 #[.val (.long p0), .second, .val (.long p1), .second, .val (.long p2), .second, .val (.long p3), .second, .val (.long p4), .second, .val (.int p5), .val (.long x0), .second, .val (.long x1), .second, .val (.long x2), .second, .val (.int (0 : Int32)), .val (.int (0 : Int32)), .val (.long y0), .second, .val (.long y1), .second, .unset, .unset, .unset, .unset, .unset, .unset, .unset] [.long (mnL y0 y1)]))
    refine g_lstore (pc := 136) (ls' := #[.val (.long p0), .second, .val (.long p1), .second, .val (.long p2), .second, .val (.long p3), .second, .val (.long p4), .second, .val (.int p5), .val (.long x0), .second, .val (.long x1), .second, .val (.long x2), .second, .val (.int (0 : Int32)), .val (.int (0 : Int32)), .val (.long y0), .second, .val (.long y1), .second, .val (.long (mnL y0 y1)), .second, .unset, .unset, .unset, .unset, .unset]) W33 at_136 rfl ?_
    refine g_lload (pc := 138) W33 at_138 rfl ?_
    refine g_lload (pc := 140) W33 at_140 rfl ?_
    refine g_static (pc := 142) (Wt := 0) (argsL := [.long y0, .long y1]) (rest := []) (loc := []) (rst := []) W33 (hw _ (List.mem_of_getElem? (i := 4) rfl)) (hw _ (List.mem_of_getElem? (i := 5) rfl)) (hw _ (List.mem_of_getElem? (i := 2) rfl)) (hw _ (List.mem_of_getElem? (i := 6) rfl)) (by decide) (c_max l Z a0 hw y0 y1) Spl.none rfl pd_JJ__J rfl rfl rfl (Nat.le_of_ble_eq_true rfl) (by decide) (by decide) (by decide) (by decide) at_142 ?_
    rintro T34 _ _ ⟨rfl, rfl⟩ W35
    have W36 := W35.re (os' := []) rfl
    show Go p_ e_ bl_ _ (T34.setTop (mkF m_ 145 #[.val (.long p0), .second, .val (.long p1), .second, .val (.long p2), .second, .val (.long p3), .second, .val (.long p4), .second, .val (.int p5), .val (.long x0), .second, .val (.long x1), .second, .val (.long x2), .second, .val (.int (0 : Int32)), .val (.int (0 : Int32)), .val (.long y0), .second, .val (.long y1), .second, .val (.long (mnL y0 y1)), .second, .unset, .unset, .unset, .unset, .unset] [.long (mxL y0 y1)]))
    refine g_lstore (pc := 145) (ls' := #[.val (.long p0), .second, .val (.long p1), .second, .val (.long p2), .second, .val (.long p3), .second, .val (.long p4), .second, .val (.int p5), .val (.long x0), .second, .val (.long x1), .second, .val (.long x2), .second, .val (.int (0 : Int32)), .val (.int (0 : Int32)), .val (.long y0), .second, .val (.long y1), .second, .val (.long (mnL y0 y1)), .second, .val (.long (mxL y0 y1)), .second, .unset, .unset, .unset]) W36 at_145 rfl ?_
    have hl := own_lohi y0 y1
    generalize (mnL y0 y1) = lo at hl ⊢
    generalize (mxL y0 y1) = hi at hl ⊢
    refine g_iload (pc := 147) W36 at_147 rfl ?_
    refine g_iconst (pc := 149) (2 : Int32) (by decide) W36 at_149 ?_
    refine g_icmpY 163 (pc := 150) W36 at_150 (by decide) (by decide) (by decide) ?_
    refine g_iload (pc := 163) W36 at_163 rfl ?_
    refine g_newarray (pc := 165) (ty := .long) (vs := []) 0 W36 (hw _ (List.mem_of_getElem? (i := 11) rfl)) rfl (by decide) (by decide) (by decide) rfl at_165 (by decide) (by decide) (fun T38 b37 W39 => ?_)
    have W40 := W39.re (os' := [(b37, (.array .long), [])]) rfl
    refine g_astore (pc := 167) (ls' := #[.val (.long p0), .second, .val (.long p1), .second, .val (.long p2), .second, .val (.long p3), .second, .val (.long p4), .second, .val (.int p5), .val (.long x0), .second, .val (.long x1), .second, .val (.long x2), .second, .val (.int (0 : Int32)), .val (.int (0 : Int32)), .val (.long y0), .second, .val (.long y1), .second, .val (.long lo), .second, .val (.long hi), .second, .val (.ref b37), .unset, .unset]) W40 at_167 rfl rfl ?_
    refine g_iload (pc := 169) W40 at_169 rfl ?_
    refine g_ifY 180 (pc := 171) W40 at_171 (by decide) (by decide) (by decide) ?_
    refine g_iload (pc := 180) W40 at_180 rfl ?_
    refine g_iconst (pc := 182) (1 : Int32) (by decide) W40 at_182 ?_
    refine g_icmpY 192 (pc := 183) W40 at_183 (by decide) (by decide) (by decide) ?_
    refine g_iload (pc := 192) W40 at_192 rfl ?_
    refine g_iconst (pc := 194) (2 : Int32) (by decide) W40 at_194 ?_
    refine g_icmpY 204 (pc := 195) W40 at_195 (by decide) (by decide) (by decide) ?_
    refine g_iload (pc := 204) W40 at_204 rfl ?_
    refine g_newarray (pc := 206) (ty := .long) (vs := []) 0 W40 (hw _ (List.mem_of_getElem? (i := 11) rfl)) rfl (by decide) (by decide) (by decide) rfl at_206 (by decide) (by decide) (fun T42 b41 W43 => ?_)
    have W44 := W43.re (os' := [(b37, (.array .long), []), (b41, (.array .long), [])]) rfl
    refine g_astore (pc := 208) (ls' := #[.val (.long p0), .second, .val (.long p1), .second, .val (.long p2), .second, .val (.long p3), .second, .val (.long p4), .second, .val (.int p5), .val (.long x0), .second, .val (.long x1), .second, .val (.long x2), .second, .val (.int (0 : Int32)), .val (.int (0 : Int32)), .val (.long y0), .second, .val (.long y1), .second, .val (.long lo), .second, .val (.long hi), .second, .val (.ref b37), .val (.ref b41), .unset]) W44 at_208 rfl rfl ?_
    refine g_iload (pc := 210) W44 at_210 rfl ?_
    refine g_iconst (pc := 212) (1 : Int32) (by decide) W44 at_212 ?_
    refine g_icmpY 222 (pc := 213) W44 at_213 (by decide) (by decide) (by decide) ?_
    refine g_iload (pc := 222) W44 at_222 rfl ?_
    refine g_iconst (pc := 224) (2 : Int32) (by decide) W44 at_224 ?_
    refine g_icmpY 240 (pc := 225) W44 at_225 (by decide) (by decide) (by decide) ?_
    refine g_aload (pc := 240) W44 at_240 rfl rfl ?_
    refine g_aload (pc := 242) W44 at_242 rfl rfl ?_
    refine g_static (pc := 244) (Wt := 0) (argsL := [.ref b41, .ref b37]) (rest := []) (loc := [(b41, (.array .long), []), (b37, (.array .long), [])]) (rst := []) W44 (hw _ (List.mem_of_getElem? (i := 12) rfl)) (hw _ (List.mem_of_getElem? (i := 13) rfl)) (hw _ (List.mem_of_getElem? (i := 14) rfl)) (hw _ (List.mem_of_getElem? (i := 15) rfl)) (by decide) (c_pos00 l Z a0 hw b41 b37 x0 x1 x2) ⟨[1, 0], by decide, rfl⟩ rfl pd_AJAJ__AI rfl rfl rfl (Nat.le_of_ble_eq_true rfl) (by decide) (by decide) (by decide) (by decide) at_244 ?_
    rintro T46 _ _ ⟨b45, rfl, rfl⟩ W47
    have W48 := W47.re (os' := [(b41, (.array .long), []), (b37, (.array .long), []), (b45, (.array .int), [])]) rfl
    show Go p_ e_ bl_ _ (T46.setTop (mkF m_ 247 #[.val (.long p0), .second, .val (.long p1), .second, .val (.long p2), .second, .val (.long p3), .second, .val (.long p4), .second, .val (.int p5), .val (.long x0), .second, .val (.long x1), .second, .val (.long x2), .second, .val (.int (0 : Int32)), .val (.int (0 : Int32)), .val (.long y0), .second, .val (.long y1), .second, .val (.long lo), .second, .val (.long hi), .second, .val (.ref b37), .val (.ref b41), .unset] [.ref b45]))
    refine g_astore (pc := 247) (ls' := #[.val (.long p0), .second, .val (.long p1), .second, .val (.long p2), .second, .val (.long p3), .second, .val (.long p4), .second, .val (.int p5), .val (.long x0), .second, .val (.long x1), .second, .val (.long x2), .second, .val (.int (0 : Int32)), .val (.int (0 : Int32)), .val (.long y0), .second, .val (.long y1), .second, .val (.long lo), .second, .val (.long hi), .second, .val (.ref b37), .val (.ref b41), .val (.ref b45)]) W48 at_247 rfl rfl ?_
    refine g_aload (pc := 249) W48 at_249 rfl rfl ?_
    refine g_arraylength (pc := 251) (i := 2) (0 : Int32) W48 rfl rfl at_251 ?_
    refine g_iload (pc := 252) W48 at_252 rfl ?_
    refine g_icmpY 259 (pc := 254) W48 at_254 (by decide) (by decide) (by decide) ?_
    refine g_iload (pc := 259) W48 at_259 rfl ?_
    refine g_ifY 288 (pc := 261) W48 at_261 (by decide) (by decide) (by decide) ?_
    refine g_iload (pc := 288) W48 at_288 rfl ?_
    refine g_iconst (pc := 290) (1 : Int32) (by decide) W48 at_290 ?_
    refine g_icmpY 318 (pc := 291) W48 at_291 (by decide) (by decide) (by decide) ?_
    refine g_iconst (pc := 318) (1 : Int32) (by decide) W48 at_318 ?_
    exact g_zreturn (pc := 319) rfl (by decide) W48 at_319 (by decide) (by decide) rfl
  · rw [hm, hn]
    refine g_iload (pc := 63) W24 at_63 rfl ?_
    refine g_iconst (pc := 65) (1 : Int32) (by decide) W24 at_65 ?_
    refine g_icmpY 77 (pc := 66) W24 at_66 (by decide) (by decide) (by decide) ?_
    refine g_iload (pc := 77) W24 at_77 rfl ?_
    refine g_iconst (pc := 79) (2 : Int32) (by decide) W24 at_79 ?_
    refine g_icmpY 93 (pc := 80) W24 at_80 (by decide) (by decide) (by decide) ?_
    refine g_lload (pc := 93) W24 at_93 rfl ?_
    refine g_iload (pc := 95) W24 at_95 rfl ?_
    refine g_iconst (pc := 97) (3 : Int32) (by decide) W24 at_97 ?_
    refine g_iand (pc := 98) W24 at_98 ?_
    refine g_lload (pc := 99) W24 at_99 rfl ?_
    refine g_lload (pc := 101) W24 at_101 rfl ?_
    refine g_lload (pc := 103) W24 at_103 rfl ?_
    refine g_static (pc := 105) (Wt := 0) (argsL := [.long p3, .int (p5 &&& (3 : Int32)), .long x0, .long x1, .long x2]) (rest := []) (loc := []) (rst := []) W24 (hw _ (List.mem_of_getElem? (i := 7) rfl)) (hw _ (List.mem_of_getElem? (i := 8) rfl)) (hw _ (List.mem_of_getElem? (i := 9) rfl)) (hw _ (List.mem_of_getElem? (i := 10) rfl)) (by decide) (c_pck l Z a0 hw p3 (p5 &&& (3 : Int32)) x0 x1 x2) Spl.none rfl pd_JIJJJ__J rfl rfl rfl (Nat.le_of_ble_eq_true rfl) (by decide) (by decide) (by decide) (by decide) at_105 ?_
    rintro T49 _ _ ⟨rfl, rfl⟩ W50
    have W51 := W50.re (os' := []) rfl
    show Go p_ e_ bl_ _ (T49.setTop (mkF m_ 108 #[.val (.long p0), .second, .val (.long p1), .second, .val (.long p2), .second, .val (.long p3), .second, .val (.long p4), .second, .val (.int p5), .val (.long x0), .second, .val (.long x1), .second, .val (.long x2), .second, .val (.int (0 : Int32)), .val (.int (1 : Int32)), .unset, .unset, .unset, .unset, .unset, .unset, .unset, .unset, .unset, .unset, .unset] [.long (pck p3 (p5 &&& (3 : Int32)) x0 x1 x2)]))
    refine g_lstore (pc := 108) (ls' := #[.val (.long p0), .second, .val (.long p1), .second, .val (.long p2), .second, .val (.long p3), .second, .val (.long p4), .second, .val (.int p5), .val (.long x0), .second, .val (.long x1), .second, .val (.long x2), .second, .val (.int (0 : Int32)), .val (.int (1 : Int32)), .val (.long (pck p3 (p5 &&& (3 : Int32)) x0 x1 x2)), .second, .unset, .unset, .unset, .unset, .unset, .unset, .unset, .unset, .unset]) W51 at_108 rfl ?_
    refine g_lload (pc := 110) W51 at_110 rfl ?_
    refine g_iload (pc := 112) W51 at_112 rfl ?_
    refine g_iconst (pc := 114) (2 : Int32) (by decide) W51 at_114 ?_
    refine g_iushr (pc := 115) W51 at_115 ?_
    refine g_iconst (pc := 116) (3 : Int32) (by decide) W51 at_116 ?_
    refine g_iand (pc := 117) W51 at_117 ?_
    refine g_lload (pc := 118) W51 at_118 rfl ?_
    refine g_lload (pc := 120) W51 at_120 rfl ?_
    refine g_lload (pc := 122) W51 at_122 rfl ?_
    refine g_static (pc := 124) (Wt := 0) (argsL := [.long p4, .int ((XT.ushr p5 (2 : Int32)) &&& (3 : Int32)), .long x0, .long x1, .long x2]) (rest := []) (loc := []) (rst := []) W51 (hw _ (List.mem_of_getElem? (i := 7) rfl)) (hw _ (List.mem_of_getElem? (i := 8) rfl)) (hw _ (List.mem_of_getElem? (i := 9) rfl)) (hw _ (List.mem_of_getElem? (i := 10) rfl)) (by decide) (c_pck l Z a0 hw p4 ((XT.ushr p5 (2 : Int32)) &&& (3 : Int32)) x0 x1 x2) Spl.none rfl pd_JIJJJ__J rfl rfl rfl (Nat.le_of_ble_eq_true rfl) (by decide) (by decide) (by decide) (by decide) at_124 ?_
    rintro T52 _ _ ⟨rfl, rfl⟩ W53
    have W54 := W53.re (os' := []) rfl
    show Go p_ e_ bl_ _ (T52.setTop (mkF m_ 127 #[.val (.long p0), .second, .val (.long p1), .second, .val (.long p2), .second, .val (.long p3), .second, .val (.long p4), .second, .val (.int p5), .val (.long x0), .second, .val (.long x1), .second, .val (.long x2), .second, .val (.int (0 : Int32)), .val (.int (1 : Int32)), .val (.long (pck p3 (p5 &&& (3 : Int32)) x0 x1 x2)), .second, .unset, .unset, .unset, .unset, .unset, .unset, .unset, .unset, .unset] [.long (pck p4 ((XT.ushr p5 (2 : Int32)) &&& (3 : Int32)) x0 x1 x2)]))
    refine g_lstore (pc := 127) (ls' := #[.val (.long p0), .second, .val (.long p1), .second, .val (.long p2), .second, .val (.long p3), .second, .val (.long p4), .second, .val (.int p5), .val (.long x0), .second, .val (.long x1), .second, .val (.long x2), .second, .val (.int (0 : Int32)), .val (.int (1 : Int32)), .val (.long (pck p3 (p5 &&& (3 : Int32)) x0 x1 x2)), .second, .val (.long (pck p4 ((XT.ushr p5 (2 : Int32)) &&& (3 : Int32)) x0 x1 x2)), .second, .unset, .unset, .unset, .unset, .unset, .unset, .unset]) W54 at_127 rfl ?_
    generalize (pck p3 (p5 &&& (3 : Int32)) x0 x1 x2) = y0
    generalize (pck p4 ((XT.ushr p5 (2 : Int32)) &&& (3 : Int32)) x0 x1 x2) = y1
    refine g_lload (pc := 129) W54 at_129 rfl ?_
    refine g_lload (pc := 131) W54 at_131 rfl ?_
    refine g_static (pc := 133) (Wt := 0) (argsL := [.long y0, .long y1]) (rest := []) (loc := []) (rst := []) W54 (hw _ (List.mem_of_getElem? (i := 0) rfl)) (hw _ (List.mem_of_getElem? (i := 1) rfl)) (hw _ (List.mem_of_getElem? (i := 2) rfl)) (hw _ (List.mem_of_getElem? (i := 3) rfl)) (by decide) (c_min l Z a0 hw y0 y1) Spl.none rfl pd_JJ__J rfl rfl rfl (Nat.le_of_ble_eq_true rfl) (by decide) (by decide) (by decide) (by decide) at_133 ?_
    rintro T55 _ _ ⟨rfl, rfl⟩ W56
    have W57 := W56.re (os' := []) rfl
    show Go p_ e_ bl_ _ (T55.setTop (mkF m_ 136 #[.val (.long p0), .second, .val (.long p1), .second, .val (.long p2), .second, .val (.long p3), .second, .val (.long p4), .second, .val (.int p5), .val (.long x0), .second, .val (.long x1), .second, .val (.long x2), .second, .val (.int (0 : Int32)), .val (.int (1 : Int32)), .val (.long y0), .second, .val (.long y1), .second, .unset, .unset, .unset, .unset, .unset, .unset, .unset] [.long (mnL y0 y1)]))
    refine g_lstore (pc := 136) (ls' := #[.val (.long p0), .second, .val (.long p1), .second, .val (.long p2), .second, .val (.long p3), .second, .val (.long p4), .second, .val (.int p5), .val (.long x0), .second, .val (.long x1), .second, .val (.long x2), .second, .val (.int (0 : Int32)), .val (.int (1 : Int32)), .val (.long y0), .second, .val (.long y1), .second, .val (.long (mnL y0 y1)), .second, .unset, .unset, .unset, .unset, .unset]) W57 at_136 rfl ?_
    refine g_lload (pc := 138) W57 at_138 rfl ?_
    refine g_lload (pc := 140) W57 at_140 rfl ?_
    refine g_static (pc := 142) (Wt := 0) (argsL := [.long y0, .long y1]) (rest := []) (loc := []) (rst := []) W57 (hw _ (List.mem_of_getElem? (i := 4) rfl)) (hw _ (List.mem_of_getElem? (i := 5) rfl)) (hw _ (List.mem_of_getElem? (i := 2) rfl)) (hw _ (List.mem_of_getElem? (i := 6) rfl)) (by decide) (c_max l Z a0 hw y0 y1) Spl.none rfl pd_JJ__J rfl rfl rfl (Nat.le_of_ble_eq_true rfl) (by decide) (by decide) (by decide) (by decide) at_142 ?_
    rintro T58 _ _ ⟨rfl, rfl⟩ W59
    have W60 := W59.re (os' := []) rfl
    show Go p_ e_ bl_ _ (T58.setTop (mkF m_ 145 #[.val (.long p0), .second, .val (.long p1), .second, .val (.long p2), .second, .val (.long p3), .second, .val (.long p4), .second, .val (.int p5), .val (.long x0), .second, .val (.long x1), .second, .val (.long x2), .second, .val (.int (0 : Int32)), .val (.int (1 : Int32)), .val (.long y0), .second, .val (.long y1), .second, .val (.long (mnL y0 y1)), .second, .unset, .unset, .unset, .unset, .unset] [.long (mxL y0 y1)]))
    refine g_lstore (pc := 145) (ls' := #[.val (.long p0), .second, .val (.long p1), .second, .val (.long p2), .second, .val (.long p3), .second, .val (.long p4), .second, .val (.int p5), .val (.long x0), .second, .val (.long x1), .second, .val (.long x2), .second, .val (.int (0 : Int32)), .val (.int (1 : Int32)), .val (.long y0), .second, .val (.long y1), .second, .val (.long (mnL y0 y1)), .second, .val (.long (mxL y0 y1)), .second, .unset, .unset, .unset]) W60 at_145 rfl ?_
    have hl := own_lohi y0 y1
    generalize (mnL y0 y1) = lo at hl ⊢
    generalize (mxL y0 y1) = hi at hl ⊢
    refine g_iload (pc := 147) W60 at_147 rfl ?_
    refine g_iconst (pc := 149) (2 : Int32) (by decide) W60 at_149 ?_
    refine g_icmpY 163 (pc := 150) W60 at_150 (by decide) (by decide) (by decide) ?_
    refine g_iload (pc := 163) W60 at_163 rfl ?_
    refine g_newarray (pc := 165) (ty := .long) (vs := []) 0 W60 (hw _ (List.mem_of_getElem? (i := 11) rfl)) rfl (by decide) (by decide) (by decide) rfl at_165 (by decide) (by decide) (fun T62 b61 W63 => ?_)
    have W64 := W63.re (os' := [(b61, (.array .long), [])]) rfl
    refine g_astore (pc := 167) (ls' := #[.val (.long p0), .second, .val (.long p1), .second, .val (.long p2), .second, .val (.long p3), .second, .val (.long p4), .second, .val (.int p5), .val (.long x0), .second, .val (.long x1), .second, .val (.long x2), .second, .val (.int (0 : Int32)), .val (.int (1 : Int32)), .val (.long y0), .second, .val (.long y1), .second, .val (.long lo), .second, .val (.long hi), .second, .val (.ref b61), .unset, .unset]) W64 at_167 rfl rfl ?_
    refine g_iload (pc := 169) W64 at_169 rfl ?_
    refine g_ifY 180 (pc := 171) W64 at_171 (by decide) (by decide) (by decide) ?_
    refine g_iload (pc := 180) W64 at_180 rfl ?_
    refine g_iconst (pc := 182) (1 : Int32) (by decide) W64 at_182 ?_
    refine g_icmpY 192 (pc := 183) W64 at_183 (by decide) (by decide) (by decide) ?_
    refine g_iload (pc := 192) W64 at_192 rfl ?_
    refine g_iconst (pc := 194) (2 : Int32) (by decide) W64 at_194 ?_
    refine g_icmpY 204 (pc := 195) W64 at_195 (by decide) (by decide) (by decide) ?_
    refine g_iload (pc := 204) W64 at_204 rfl ?_
    refine g_newarray (pc := 206) (ty := .long) (vs := [.long (0 : Int64)]) 1 W64 (hw _ (List.mem_of_getElem? (i := 11) rfl)) rfl (by decide) (by decide) (by decide) rfl at_206 (by decide) (by decide) (fun T66 b65 W67 => ?_)
    have W68 := W67.re (os' := [(b61, (.array .long), []), (b65, (.array .long), [.long (0 : Int64)])]) rfl
    refine g_astore (pc := 208) (ls' := #[.val (.long p0), .second, .val (.long p1), .second, .val (.long p2), .second, .val (.long p3), .second, .val (.long p4), .second, .val (.int p5), .val (.long x0), .second, .val (.long x1), .second, .val (.long x2), .second, .val (.int (0 : Int32)), .val (.int (1 : Int32)), .val (.long y0), .second, .val (.long y1), .second, .val (.long lo), .second, .val (.long hi), .second, .val (.ref b61), .val (.ref b65), .unset]) W68 at_208 rfl rfl ?_
    refine g_iload (pc := 210) W68 at_210 rfl ?_
    refine g_iconst (pc := 212) (1 : Int32) (by decide) W68 at_212 ?_
    refine g_icmpN (pc := 213) W68 at_213 (by decide) ?_
    refine g_aload (pc := 216) W68 at_216 rfl rfl ?_
    refine g_iconst (pc := 218) (0 : Int32) (by decide) W68 at_218 ?_
    refine g_lload (pc := 219) W68 at_219 rfl ?_
    refine g_lastore (pc := 221) (i := 1) (os' := [(b61, (.array .long), []), (b65, (.array .long), [.long y0])]) 0 W68 rfl (by decide) (by decide) (Nat.le_of_ble_eq_true rfl) rfl at_221 (fun T69 W70 => ?_)
    refine g_iload (pc := 222) W70 at_222 rfl ?_
    refine g_iconst (pc := 224) (2 : Int32) (by decide) W70 at_224 ?_
    refine g_icmpY 240 (pc := 225) W70 at_225 (by decide) (by decide) (by decide) ?_
    refine g_aload (pc := 240) W70 at_240 rfl rfl ?_
    refine g_aload (pc := 242) W70 at_242 rfl rfl ?_
    refine g_static (pc := 244) (Wt := 0) (argsL := [.ref b65, .ref b61]) (rest := []) (loc := [(b65, (.array .long), [.long y0]), (b61, (.array .long), [])]) (rst := []) W70 (hw _ (List.mem_of_getElem? (i := 12) rfl)) (hw _ (List.mem_of_getElem? (i := 13) rfl)) (hw _ (List.mem_of_getElem? (i := 14) rfl)) (hw _ (List.mem_of_getElem? (i := 15) rfl)) (by decide) (c_pos10 l Z a0 hw b65 b61 y0 x0 x1 x2) ⟨[1, 0], by decide, rfl⟩ rfl pd_AJAJ__AI rfl rfl rfl (Nat.le_of_ble_eq_true rfl) (by decide) (by decide) (by decide) (by decide) at_244 ?_
    rintro T72 _ _ ⟨b71, rfl, rfl⟩ W73
    have W74 := W73.re (os' := [(b65, (.array .long), [.long y0]), (b61, (.array .long), []), (b71, (.array .int), [.int (ex0 y0 x0 x1 x2)])]) rfl
    show Go p_ e_ bl_ _ (T72.setTop (mkF m_ 247 #[.val (.long p0), .second, .val (.long p1), .second, .val (.long p2), .second, .val (.long p3), .second, .val (.long p4), .second, .val (.int p5), .val (.long x0), .second, .val (.long x1), .second, .val (.long x2), .second, .val (.int (0 : Int32)), .val (.int (1 : Int32)), .val (.long y0), .second, .val (.long y1), .second, .val (.long lo), .second, .val (.long hi), .second, .val (.ref b61), .val (.ref b65), .unset] [.ref b71]))
    refine g_astore (pc := 247) (ls' := #[.val (.long p0), .second, .val (.long p1), .second, .val (.long p2), .second, .val (.long p3), .second, .val (.long p4), .second, .val (.int p5), .val (.long x0), .second, .val (.long x1), .second, .val (.long x2), .second, .val (.int (0 : Int32)), .val (.int (1 : Int32)), .val (.long y0), .second, .val (.long y1), .second, .val (.long lo), .second, .val (.long hi), .second, .val (.ref b61), .val (.ref b65), .val (.ref b71)]) W74 at_247 rfl rfl ?_
    refine g_aload (pc := 249) W74 at_249 rfl rfl ?_
    refine g_arraylength (pc := 251) (i := 2) (1 : Int32) W74 rfl rfl at_251 ?_
    refine g_iload (pc := 252) W74 at_252 rfl ?_
    refine g_icmpY 259 (pc := 254) W74 at_254 (by decide) (by decide) (by decide) ?_
    refine g_iload (pc := 259) W74 at_259 rfl ?_
    refine g_ifN (pc := 261) W74 at_261 (by decide) ?_
    refine g_aload (pc := 264) W74 at_264 rfl rfl ?_
    refine g_iconst (pc := 266) (0 : Int32) (by decide) W74 at_266 ?_
    refine g_iaload (pc := 267) (i := 2) (v := .int (ex0 y0 x0 x1 x2)) W74 rfl (by decide) rfl at_267 ?_
    refine g_aload (pc := 268) W74 at_268 rfl rfl ?_
    refine g_iconst (pc := 270) (0 : Int32) (by decide) W74 at_270 ?_
    refine g_laload (pc := 271) (i := 0) (v := .long y0) W74 rfl (by decide) rfl at_271 ?_
    refine g_lload (pc := 272) W74 at_272 rfl ?_
    refine g_lload (pc := 274) W74 at_274 rfl ?_
    refine g_lload (pc := 276) W74 at_276 rfl ?_
    refine g_iload (pc := 278) W74 at_278 rfl ?_
    refine g_static (pc := 280) (Wt := 1) (argsL := [.long y0, .long x0, .long x1, .long x2, .int (0 : Int32)]) (rest := [.int (ex0 y0 x0 x1 x2)]) (loc := []) (rst := [(b65, (.array .long), [.long y0]), (b61, (.array .long), []), (b71, (.array .int), [.int (ex0 y0 x0 x1 x2)])]) W74 (hw _ (List.mem_of_getElem? (i := 17) rfl)) (hw _ (List.mem_of_getElem? (i := 18) rfl)) (hw _ (List.mem_of_getElem? (i := 9) rfl)) (hw _ (List.mem_of_getElem? (i := 19) rfl)) (by decide) (c_exp0 l Z a0 hw y0 x0 x1 x2) Spl.none rfl pd_JJJJI__I rfl rfl rfl (Nat.le_of_ble_eq_true rfl) (by decide) (by decide) (by decide) (by decide) at_280 ?_
    rintro T75 _ _ ⟨rfl, rfl⟩ W76
    have W77 := W76.re (os' := [(b65, (.array .long), [.long y0]), (b61, (.array .long), []), (b71, (.array .int), [.int (ex0 y0 x0 x1 x2)])]) rfl
    show Go p_ e_ bl_ _ (T75.setTop (mkF m_ 283 #[.val (.long p0), .second, .val (.long p1), .second, .val (.long p2), .second, .val (.long p3), .second, .val (.long p4), .second, .val (.int p5), .val (.long x0), .second, .val (.long x1), .second, .val (.long x2), .second, .val (.int (0 : Int32)), .val (.int (1 : Int32)), .val (.long y0), .second, .val (.long y1), .second, .val (.long lo), .second, .val (.long hi), .second, .val (.ref b61), .val (.ref b65), .val (.ref b71)] [.int (ex0 y0 x0 x1 x2), .int (ex0 y0 x0 x1 x2)]))
    refine g_icmpY 288 (pc := 283) W77 at_283 (by decide) (by decide) (by first | exact (teq rfl).1 | exact (teq rfl).2 | exact (flt (by simp)).1 | exact (flt (by simp)).2.1 | exact (flt (by simp)).2.2.1 | exact (flt (by simp)).2.2.2) ?_
    refine g_iload (pc := 288) W77 at_288 rfl ?_
    refine g_iconst (pc := 290) (1 : Int32) (by decide) W77 at_290 ?_
    refine g_icmpY 318 (pc := 291) W77 at_291 (by decide) (by decide) (by decide) ?_
    refine g_iconst (pc := 318) (1 : Int32) (by decide) W77 at_318 ?_
    exact g_zreturn (pc := 319) rfl (by decide) W77 at_319 (by decide) (by decide) rfl
  · rw [hm, hn]
    refine g_iload (pc := 63) W24 at_63 rfl ?_
    refine g_iconst (pc := 65) (1 : Int32) (by decide) W24 at_65 ?_
    refine g_icmpY 77 (pc := 66) W24 at_66 (by decide) (by decide) (by decide) ?_
    refine g_iload (pc := 77) W24 at_77 rfl ?_
    refine g_iconst (pc := 79) (2 : Int32) (by decide) W24 at_79 ?_
    refine g_icmpY 93 (pc := 80) W24 at_80 (by decide) (by decide) (by decide) ?_
    refine g_lload (pc := 93) W24 at_93 rfl ?_
    refine g_iload (pc := 95) W24 at_95 rfl ?_
    refine g_iconst (pc := 97) (3 : Int32) (by decide) W24 at_97 ?_
    refine g_iand (pc := 98) W24 at_98 ?_
    refine g_lload (pc := 99) W24 at_99 rfl ?_
    refine g_lload (pc := 101) W24 at_101 rfl ?_
    refine g_lload (pc := 103) W24 at_103 rfl ?_
    refine g_static (pc := 105) (Wt := 0) (argsL := [.long p3, .int (p5 &&& (3 : Int32)), .long x0, .long x1, .long x2]) (rest := []) (loc := []) (rst := []) W24 (hw _ (List.mem_of_getElem? (i := 7) rfl)) (hw _ (List.mem_of_getElem? (i := 8) rfl)) (hw _ (List.mem_of_getElem? (i := 9) rfl)) (hw _ (List.mem_of_getElem? (i := 10) rfl)) (by decide) (c_pck l Z a0 hw p3 (p5 &&& (3 : Int32)) x0 x1 x2) Spl.none rfl pd_JIJJJ__J rfl rfl rfl (Nat.le_of_ble_eq_true rfl) (by decide) (by decide) (by decide) (by decide) at_105 ?_
    rintro T78 _ _ ⟨rfl, rfl⟩ W79
    have W80 := W79.re (os' := []) rfl
    show Go p_ e_ bl_ _ (T78.setTop (mkF m_ 108 #[.val (.long p0), .second, .val (.long p1), .second, .val (.long p2), .second, .val (.long p3), .second, .val (.long p4), .second, .val (.int p5), .val (.long x0), .second, .val (.long x1), .second, .val (.long x2), .second, .val (.int (0 : Int32)), .val (.int (2 : Int32)), .unset, .unset, .unset, .unset, .unset, .unset, .unset, .unset, .unset, .unset, .unset] [.long (pck p3 (p5 &&& (3 : Int32)) x0 x1 x2)]))
    refine g_lstore (pc := 108) (ls' := #[.val (.long p0), .second, .val (.long p1), .second, .val (.long p2), .second, .val (.long p3), .second, .val (.long p4), .second, .val (.int p5), .val (.long x0), .second, .val (.long x1), .second, .val (.long x2), .second, .val (.int (0 : Int32)), .val (.int (2 : Int32)), .val (.long (pck p3 (p5 &&& (3 : Int32)) x0 x1 x2)), .second, .unset, .unset, .unset, .unset, .unset, .unset, .unset, .unset, .unset]) W80 at_108 rfl ?_
    refine g_lload (pc := 110) W80 at_110 rfl ?_
    refine g_iload (pc := 112) W80 at_112 rfl ?_
    refine g_iconst (pc := 114) (2 : Int32) (by decide) W80 at_114 ?_
    refine g_iushr (pc := 115) W80 at_115 ?_
    refine g_iconst (pc := 116) (3 : Int32) (by decide) W80 at_116 ?_
    refine g_iand (pc := 117) W80 at_117 ?_
    refine g_lload (pc := 118) W80 at_118 rfl ?_
    refine g_lload (pc := 120) W80 at_120 rfl ?_
    refine g_lload (pc := 122) W80 at_122 rfl ?_
    refine g_static (pc := 124) (Wt := 0) (argsL := [.long p4, .int ((XT.ushr p5 (2 : Int32)) &&& (3 : Int32)), .long x0, .long x1, .long x2]) (rest := []) (loc := []) (rst := []) W80 (hw _ (List.mem_of_getElem? (i := 7) rfl)) (hw _ (List.mem_of_getElem? (i := 8) rfl)) (hw _ (List.mem_of_getElem? (i := 9) rfl)) (hw _ (List.mem_of_getElem? (i := 10) rfl)) (by decide) (c_pck l Z a0 hw p4 ((XT.ushr p5 (2 : Int32)) &&& (3 : Int32)) x0 x1 x2) Spl.none rfl pd_JIJJJ__J rfl rfl rfl (Nat.le_of_ble_eq_true rfl) (by decide) (by decide) (by decide) (by decide) at_124 ?_
    rintro T81 _ _ ⟨rfl, rfl⟩ W82
    have W83 := W82.re (os' := []) rfl
    show Go p_ e_ bl_ _ (T81.setTop (mkF m_ 127 #[.val (.long p0), .second, .val (.long p1), .second, .val (.long p2), .second, .val (.long p3), .second, .val (.long p4), .second, .val (.int p5), .val (.long x0), .second, .val (.long x1), .second, .val (.long x2), .second, .val (.int (0 : Int32)), .val (.int (2 : Int32)), .val (.long (pck p3 (p5 &&& (3 : Int32)) x0 x1 x2)), .second, .unset, .unset, .unset, .unset, .unset, .unset, .unset, .unset, .unset] [.long (pck p4 ((XT.ushr p5 (2 : Int32)) &&& (3 : Int32)) x0 x1 x2)]))
    refine g_lstore (pc := 127) (ls' := #[.val (.long p0), .second, .val (.long p1), .second, .val (.long p2), .second, .val (.long p3), .second, .val (.long p4), .second, .val (.int p5), .val (.long x0), .second, .val (.long x1), .second, .val (.long x2), .second, .val (.int (0 : Int32)), .val (.int (2 : Int32)), .val (.long (pck p3 (p5 &&& (3 : Int32)) x0 x1 x2)), .second, .val (.long (pck p4 ((XT.ushr p5 (2 : Int32)) &&& (3 : Int32)) x0 x1 x2)), .second, .unset, .unset, .unset, .unset, .unset, .unset, .unset]) W83 at_127 rfl ?_
    generalize (pck p3 (p5 &&& (3 : Int32)) x0 x1 x2) = y0
    generalize (pck p4 ((XT.ushr p5 (2 : Int32)) &&& (3 : Int32)) x0 x1 x2) = y1
    refine g_lload (pc := 129) W83 at_129 rfl ?_
    refine g_lload (pc := 131) W83 at_131 rfl ?_
    refine g_static (pc := 133) (Wt := 0) (argsL := [.long y0, .long y1]) (rest := []) (loc := []) (rst := []) W83 (hw _ (List.mem_of_getElem? (i := 0) rfl)) (hw _ (List.mem_of_getElem? (i := 1) rfl)) (hw _ (List.mem_of_getElem? (i := 2) rfl)) (hw _ (List.mem_of_getElem? (i := 3) rfl)) (by decide) (c_min l Z a0 hw y0 y1) Spl.none rfl pd_JJ__J rfl rfl rfl (Nat.le_of_ble_eq_true rfl) (by decide) (by decide) (by decide) (by decide) at_133 ?_
    rintro T84 _ _ ⟨rfl, rfl⟩ W85
    have W86 := W85.re (os' := []) rfl
    show Go p_ e_ bl_ _ (T84.setTop (mkF m_ 136 #[.val (.long p0), .second, .val (.long p1), .second, .val (.long p2), .second, .val (.long p3), .second, .val (.long p4), .second, .val (.int p5), .val (.long x0), .second, .val (.long x1), .second, .val (.long x2), .second, .val (.int (0 : Int32)), .val (.int (2 : Int32)), .val (.long y0), .second, .val (.long y1), .second, .unset, .unset, .unset, .unset, .unset, .unset, .unset] [.long (mnL y0 y1)]))
    refine g_lstore (pc := 136) (ls' := #[.val (.long p0), .second, .val (.long p1), .second, .val (.long p2), .second, .val (.long p3), .second, .val (.long p4), .second, .val (.int p5), .val (.long x0), .second, .val (.long x1), .second, .val (.long x2), .second, .val (.int (0 : Int32)), .val (.int (2 : Int32)), .val (.long y0), .second, .val (.long y1), .second, .val (.long (mnL y0 y1)), .second, .unset, .unset, .unset, .unset, .unset]) W86 at_136 rfl ?_
    refine g_lload (pc := 138) W86 at_138 rfl ?_
    refine g_lload (pc := 140) W86 at_140 rfl ?_
    refine g_static (pc := 142) (Wt := 0) (argsL := [.long y0, .long y1]) (rest := []) (loc := []) (rst := []) W86 (hw _ (List.mem_of_getElem? (i := 4) rfl)) (hw _ (List.mem_of_getElem? (i := 5) rfl)) (hw _ (List.mem_of_getElem? (i := 2) rfl)) (hw _ (List.mem_of_getElem? (i := 6) rfl)) (by decide) (c_max l Z a0 hw y0 y1) Spl.none rfl pd_JJ__J rfl rfl rfl (Nat.le_of_ble_eq_true rfl) (by decide) (by decide) (by decide) (by decide) at_142 ?_
    rintro T87 _ _ ⟨rfl, rfl⟩ W88
    have W89 := W88.re (os' := []) rfl
    show Go p_ e_ bl_ _ (T87.setTop (mkF m_ 145 #[.val (.long p0), .second, .val (.long p1), .second, .val (.long p2), .second, .val (.long p3), .second, .val (.long p4), .second, .val (.int p5), .val (.long x0), .second, .val (.long x1), .second, .val (.long x2), .second, .val (.int (0 : Int32)), .val (.int (2 : Int32)), .val (.long y0), .second, .val (.long y1), .second, .val (.long (mnL y0 y1)), .second, .unset, .unset, .unset, .unset, .unset] [.long (mxL y0 y1)]))
    refine g_lstore (pc := 145) (ls' := #[.val (.long p0), .second, .val (.long p1), .second, .val (.long p2), .second, .val (.long p3), .second, .val (.long p4), .second, .val (.int p5), .val (.long x0), .second, .val (.long x1), .second, .val (.long x2), .second, .val (.int (0 : Int32)), .val (.int (2 : Int32)), .val (.long y0), .second, .val (.long y1), .second, .val (.long (mnL y0 y1)), .second, .val (.long (mxL y0 y1)), .second, .unset, .unset, .unset]) W89 at_145 rfl ?_
    have hl := own_lohi y0 y1
    generalize (mnL y0 y1) = lo at hl ⊢
    generalize (mxL y0 y1) = hi at hl ⊢
    refine g_iload (pc := 147) W89 at_147 rfl ?_
    refine g_iconst (pc := 149) (2 : Int32) (by decide) W89 at_149 ?_
    refine g_icmpN (pc := 150) W89 at_150 (by decide) ?_
    refine g_lload (pc := 153) W89 at_153 rfl ?_
    refine g_lload (pc := 155) W89 at_155 rfl ?_
    refine g_lcmp (pc := 157) W89 at_157 ?_
    refine g_if_ne 163 (pc := 158) W89 at_158 (by decide) (by decide) (fun c90 => ?_) (fun c90 => ?_)
    · have hy01 : lo.toInt < hi.toInt := by rw [cl_eq, ← Int64.toInt_inj] at c90; have := hl; omega
      refine g_iload (pc := 163) W89 at_163 rfl ?_
      refine g_newarray (pc := 165) (ty := .long) (vs := []) 0 W89 (hw _ (List.mem_of_getElem? (i := 11) rfl)) rfl (by decide) (by decide) (by decide) rfl at_165 (by decide) (by decide) (fun T92 b91 W93 => ?_)
      have W94 := W93.re (os' := [(b91, (.array .long), [])]) rfl
      refine g_astore (pc := 167) (ls' := #[.val (.long p0), .second, .val (.long p1), .second, .val (.long p2), .second, .val (.long p3), .second, .val (.long p4), .second, .val (.int p5), .val (.long x0), .second, .val (.long x1), .second, .val (.long x2), .second, .val (.int (0 : Int32)), .val (.int (2 : Int32)), .val (.long y0), .second, .val (.long y1), .second, .val (.long lo), .second, .val (.long hi), .second, .val (.ref b91), .unset, .unset]) W94 at_167 rfl rfl ?_
      refine g_iload (pc := 169) W94 at_169 rfl ?_
      refine g_ifY 180 (pc := 171) W94 at_171 (by decide) (by decide) (by decide) ?_
      refine g_iload (pc := 180) W94 at_180 rfl ?_
      refine g_iconst (pc := 182) (1 : Int32) (by decide) W94 at_182 ?_
      refine g_icmpY 192 (pc := 183) W94 at_183 (by decide) (by decide) (by decide) ?_
      refine g_iload (pc := 192) W94 at_192 rfl ?_
      refine g_iconst (pc := 194) (2 : Int32) (by decide) W94 at_194 ?_
      refine g_icmpY 204 (pc := 195) W94 at_195 (by decide) (by decide) (by decide) ?_
      refine g_iload (pc := 204) W94 at_204 rfl ?_
      refine g_newarray (pc := 206) (ty := .long) (vs := [.long (0 : Int64), .long (0 : Int64)]) 2 W94 (hw _ (List.mem_of_getElem? (i := 11) rfl)) rfl (by decide) (by decide) (by decide) rfl at_206 (by decide) (by decide) (fun T96 b95 W97 => ?_)
      have W98 := W97.re (os' := [(b91, (.array .long), []), (b95, (.array .long), [.long (0 : Int64), .long (0 : Int64)])]) rfl
      refine g_astore (pc := 208) (ls' := #[.val (.long p0), .second, .val (.long p1), .second, .val (.long p2), .second, .val (.long p3), .second, .val (.long p4), .second, .val (.int p5), .val (.long x0), .second, .val (.long x1), .second, .val (.long x2), .second, .val (.int (0 : Int32)), .val (.int (2 : Int32)), .val (.long y0), .second, .val (.long y1), .second, .val (.long lo), .second, .val (.long hi), .second, .val (.ref b91), .val (.ref b95), .unset]) W98 at_208 rfl rfl ?_
      refine g_iload (pc := 210) W98 at_210 rfl ?_
      refine g_iconst (pc := 212) (1 : Int32) (by decide) W98 at_212 ?_
      refine g_icmpY 222 (pc := 213) W98 at_213 (by decide) (by decide) (by decide) ?_
      refine g_iload (pc := 222) W98 at_222 rfl ?_
      refine g_iconst (pc := 224) (2 : Int32) (by decide) W98 at_224 ?_
      refine g_icmpN (pc := 225) W98 at_225 (by decide) ?_
      refine g_aload (pc := 228) W98 at_228 rfl rfl ?_
      refine g_iconst (pc := 230) (0 : Int32) (by decide) W98 at_230 ?_
      refine g_lload (pc := 231) W98 at_231 rfl ?_
      refine g_lastore (pc := 233) (i := 1) (os' := [(b91, (.array .long), []), (b95, (.array .long), [.long lo, .long (0 : Int64)])]) 0 W98 rfl (by decide) (by decide) (Nat.le_of_ble_eq_true rfl) rfl at_233 (fun T99 W100 => ?_)
      refine g_aload (pc := 234) W100 at_234 rfl rfl ?_
      refine g_iconst (pc := 236) (1 : Int32) (by decide) W100 at_236 ?_
      refine g_lload (pc := 237) W100 at_237 rfl ?_
      refine g_lastore (pc := 239) (i := 1) (os' := [(b91, (.array .long), []), (b95, (.array .long), [.long lo, .long hi])]) 1 W100 rfl (by decide) (by decide) (Nat.le_of_ble_eq_true rfl) rfl at_239 (fun T101 W102 => ?_)
      refine g_aload (pc := 240) W102 at_240 rfl rfl ?_
      refine g_aload (pc := 242) W102 at_242 rfl rfl ?_
      refine g_static (pc := 244) (Wt := 0) (argsL := [.ref b95, .ref b91]) (rest := []) (loc := [(b95, (.array .long), [.long lo, .long hi]), (b91, (.array .long), [])]) (rst := []) W102 (hw _ (List.mem_of_getElem? (i := 12) rfl)) (hw _ (List.mem_of_getElem? (i := 13) rfl)) (hw _ (List.mem_of_getElem? (i := 14) rfl)) (hw _ (List.mem_of_getElem? (i := 15) rfl)) (by decide) (c_pos20 l Z a0 hw b95 b91 lo hi x0 x1 x2 hy01) ⟨[1, 0], by decide, rfl⟩ rfl pd_AJAJ__AI rfl rfl rfl (Nat.le_of_ble_eq_true rfl) (by decide) (by decide) (by decide) (by decide) at_244 ?_
      rintro T104 _ _ ⟨b103, rfl, rfl⟩ W105
      have W106 := W105.re (os' := [(b95, (.array .long), [.long lo, .long hi]), (b91, (.array .long), []), (b103, (.array .int), [.int (ex0 lo x0 x1 x2), .int (ex0 hi x0 x1 x2)])]) rfl
      show Go p_ e_ bl_ _ (T104.setTop (mkF m_ 247 #[.val (.long p0), .second, .val (.long p1), .second, .val (.long p2), .second, .val (.long p3), .second, .val (.long p4), .second, .val (.int p5), .val (.long x0), .second, .val (.long x1), .second, .val (.long x2), .second, .val (.int (0 : Int32)), .val (.int (2 : Int32)), .val (.long y0), .second, .val (.long y1), .second, .val (.long lo), .second, .val (.long hi), .second, .val (.ref b91), .val (.ref b95), .unset] [.ref b103]))
      refine g_astore (pc := 247) (ls' := #[.val (.long p0), .second, .val (.long p1), .second, .val (.long p2), .second, .val (.long p3), .second, .val (.long p4), .second, .val (.int p5), .val (.long x0), .second, .val (.long x1), .second, .val (.long x2), .second, .val (.int (0 : Int32)), .val (.int (2 : Int32)), .val (.long y0), .second, .val (.long y1), .second, .val (.long lo), .second, .val (.long hi), .second, .val (.ref b91), .val (.ref b95), .val (.ref b103)]) W106 at_247 rfl rfl ?_
      refine g_aload (pc := 249) W106 at_249 rfl rfl ?_
      refine g_arraylength (pc := 251) (i := 2) (2 : Int32) W106 rfl rfl at_251 ?_
      refine g_iload (pc := 252) W106 at_252 rfl ?_
      refine g_icmpY 259 (pc := 254) W106 at_254 (by decide) (by decide) (by decide) ?_
      refine g_iload (pc := 259) W106 at_259 rfl ?_
      refine g_ifN (pc := 261) W106 at_261 (by decide) ?_
      refine g_aload (pc := 264) W106 at_264 rfl rfl ?_
      refine g_iconst (pc := 266) (0 : Int32) (by decide) W106 at_266 ?_
      refine g_iaload (pc := 267) (i := 2) (v := .int (ex0 lo x0 x1 x2)) W106 rfl (by decide) rfl at_267 ?_
      refine g_aload (pc := 268) W106 at_268 rfl rfl ?_
      refine g_iconst (pc := 270) (0 : Int32) (by decide) W106 at_270 ?_
      refine g_laload (pc := 271) (i := 0) (v := .long lo) W106 rfl (by decide) rfl at_271 ?_
      refine g_lload (pc := 272) W106 at_272 rfl ?_
      refine g_lload (pc := 274) W106 at_274 rfl ?_
      refine g_lload (pc := 276) W106 at_276 rfl ?_
      refine g_iload (pc := 278) W106 at_278 rfl ?_
      refine g_static (pc := 280) (Wt := 1) (argsL := [.long lo, .long x0, .long x1, .long x2, .int (0 : Int32)]) (rest := [.int (ex0 lo x0 x1 x2)]) (loc := []) (rst := [(b95, (.array .long), [.long lo, .long hi]), (b91, (.array .long), []), (b103, (.array .int), [.int (ex0 lo x0 x1 x2), .int (ex0 hi x0 x1 x2)])]) W106 (hw _ (List.mem_of_getElem? (i := 17) rfl)) (hw _ (List.mem_of_getElem? (i := 18) rfl)) (hw _ (List.mem_of_getElem? (i := 9) rfl)) (hw _ (List.mem_of_getElem? (i := 19) rfl)) (by decide) (c_exp0 l Z a0 hw lo x0 x1 x2) Spl.none rfl pd_JJJJI__I rfl rfl rfl (Nat.le_of_ble_eq_true rfl) (by decide) (by decide) (by decide) (by decide) at_280 ?_
      rintro T107 _ _ ⟨rfl, rfl⟩ W108
      have W109 := W108.re (os' := [(b95, (.array .long), [.long lo, .long hi]), (b91, (.array .long), []), (b103, (.array .int), [.int (ex0 lo x0 x1 x2), .int (ex0 hi x0 x1 x2)])]) rfl
      show Go p_ e_ bl_ _ (T107.setTop (mkF m_ 283 #[.val (.long p0), .second, .val (.long p1), .second, .val (.long p2), .second, .val (.long p3), .second, .val (.long p4), .second, .val (.int p5), .val (.long x0), .second, .val (.long x1), .second, .val (.long x2), .second, .val (.int (0 : Int32)), .val (.int (2 : Int32)), .val (.long y0), .second, .val (.long y1), .second, .val (.long lo), .second, .val (.long hi), .second, .val (.ref b91), .val (.ref b95), .val (.ref b103)] [.int (ex0 lo x0 x1 x2), .int (ex0 lo x0 x1 x2)]))
      refine g_icmpY 288 (pc := 283) W109 at_283 (by decide) (by decide) (by first | exact (teq rfl).1 | exact (teq rfl).2 | exact (flt (by simp)).1 | exact (flt (by simp)).2.1 | exact (flt (by simp)).2.2.1 | exact (flt (by simp)).2.2.2) ?_
      refine g_iload (pc := 288) W109 at_288 rfl ?_
      refine g_iconst (pc := 290) (1 : Int32) (by decide) W109 at_290 ?_
      refine g_icmpN (pc := 291) W109 at_291 (by decide) ?_
      refine g_aload (pc := 294) W109 at_294 rfl rfl ?_
      refine g_iconst (pc := 296) (1 : Int32) (by decide) W109 at_296 ?_
      refine g_iaload (pc := 297) (i := 2) (v := .int (ex0 hi x0 x1 x2)) W109 rfl (by decide) rfl at_297 ?_
      refine g_aload (pc := 298) W109 at_298 rfl rfl ?_
      refine g_iconst (pc := 300) (1 : Int32) (by decide) W109 at_300 ?_
      refine g_laload (pc := 301) (i := 0) (v := .long hi) W109 rfl (by decide) rfl at_301 ?_
      refine g_lload (pc := 302) W109 at_302 rfl ?_
      refine g_lload (pc := 304) W109 at_304 rfl ?_
      refine g_lload (pc := 306) W109 at_306 rfl ?_
      refine g_iload (pc := 308) W109 at_308 rfl ?_
      refine g_static (pc := 310) (Wt := 1) (argsL := [.long hi, .long x0, .long x1, .long x2, .int (0 : Int32)]) (rest := [.int (ex0 hi x0 x1 x2)]) (loc := []) (rst := [(b95, (.array .long), [.long lo, .long hi]), (b91, (.array .long), []), (b103, (.array .int), [.int (ex0 lo x0 x1 x2), .int (ex0 hi x0 x1 x2)])]) W109 (hw _ (List.mem_of_getElem? (i := 17) rfl)) (hw _ (List.mem_of_getElem? (i := 18) rfl)) (hw _ (List.mem_of_getElem? (i := 9) rfl)) (hw _ (List.mem_of_getElem? (i := 19) rfl)) (by decide) (c_exp0 l Z a0 hw hi x0 x1 x2) Spl.none rfl pd_JJJJI__I rfl rfl rfl (Nat.le_of_ble_eq_true rfl) (by decide) (by decide) (by decide) (by decide) at_310 ?_
      rintro T110 _ _ ⟨rfl, rfl⟩ W111
      have W112 := W111.re (os' := [(b95, (.array .long), [.long lo, .long hi]), (b91, (.array .long), []), (b103, (.array .int), [.int (ex0 lo x0 x1 x2), .int (ex0 hi x0 x1 x2)])]) rfl
      show Go p_ e_ bl_ _ (T110.setTop (mkF m_ 313 #[.val (.long p0), .second, .val (.long p1), .second, .val (.long p2), .second, .val (.long p3), .second, .val (.long p4), .second, .val (.int p5), .val (.long x0), .second, .val (.long x1), .second, .val (.long x2), .second, .val (.int (0 : Int32)), .val (.int (2 : Int32)), .val (.long y0), .second, .val (.long y1), .second, .val (.long lo), .second, .val (.long hi), .second, .val (.ref b91), .val (.ref b95), .val (.ref b103)] [.int (ex0 hi x0 x1 x2), .int (ex0 hi x0 x1 x2)]))
      refine g_icmpY 318 (pc := 313) W112 at_313 (by decide) (by decide) (by first | exact (teq rfl).1 | exact (teq rfl).2 | exact (flt (by simp)).1 | exact (flt (by simp)).2.1 | exact (flt (by simp)).2.2.1 | exact (flt (by simp)).2.2.2) ?_
      refine g_iconst (pc := 318) (1 : Int32) (by decide) W112 at_318 ?_
      exact g_zreturn (pc := 319) rfl (by decide) W112 at_319 (by decide) (by decide) rfl
    · refine g_iconst (pc := 161) (1 : Int32) (by decide) W89 at_161 ?_
      exact g_zreturn (pc := 162) rfl (by decide) W89 at_162 (by decide) (by decide) rfl
  · rw [hm, hn]
    refine g_iload (pc := 63) W24 at_63 rfl ?_
    refine g_iconst (pc := 65) (1 : Int32) (by decide) W24 at_65 ?_
    refine g_icmpY 77 (pc := 66) W24 at_66 (by decide) (by decide) (by decide) ?_
    refine g_iload (pc := 77) W24 at_77 rfl ?_
    refine g_iconst (pc := 79) (2 : Int32) (by decide) W24 at_79 ?_
    refine g_icmpY 93 (pc := 80) W24 at_80 (by decide) (by decide) (by decide) ?_
    refine g_lload (pc := 93) W24 at_93 rfl ?_
    refine g_iload (pc := 95) W24 at_95 rfl ?_
    refine g_iconst (pc := 97) (3 : Int32) (by decide) W24 at_97 ?_
    refine g_iand (pc := 98) W24 at_98 ?_
    refine g_lload (pc := 99) W24 at_99 rfl ?_
    refine g_lload (pc := 101) W24 at_101 rfl ?_
    refine g_lload (pc := 103) W24 at_103 rfl ?_
    refine g_static (pc := 105) (Wt := 0) (argsL := [.long p3, .int (p5 &&& (3 : Int32)), .long x0, .long x1, .long x2]) (rest := []) (loc := []) (rst := []) W24 (hw _ (List.mem_of_getElem? (i := 7) rfl)) (hw _ (List.mem_of_getElem? (i := 8) rfl)) (hw _ (List.mem_of_getElem? (i := 9) rfl)) (hw _ (List.mem_of_getElem? (i := 10) rfl)) (by decide) (c_pck l Z a0 hw p3 (p5 &&& (3 : Int32)) x0 x1 x2) Spl.none rfl pd_JIJJJ__J rfl rfl rfl (Nat.le_of_ble_eq_true rfl) (by decide) (by decide) (by decide) (by decide) at_105 ?_
    rintro T113 _ _ ⟨rfl, rfl⟩ W114
    have W115 := W114.re (os' := []) rfl
    show Go p_ e_ bl_ _ (T113.setTop (mkF m_ 108 #[.val (.long p0), .second, .val (.long p1), .second, .val (.long p2), .second, .val (.long p3), .second, .val (.long p4), .second, .val (.int p5), .val (.long x0), .second, .val (.long x1), .second, .val (.long x2), .second, .val (.int (1 : Int32)), .val (.int (0 : Int32)), .unset, .unset, .unset, .unset, .unset, .unset, .unset, .unset, .unset, .unset, .unset] [.long (pck p3 (p5 &&& (3 : Int32)) x0 x1 x2)]))
    refine g_lstore (pc := 108) (ls' := #[.val (.long p0), .second, .val (.long p1), .second, .val (.long p2), .second, .val (.long p3), .second, .val (.long p4), .second, .val (.int p5), .val (.long x0), .second, .val (.long x1), .second, .val (.long x2), .second, .val (.int (1 : Int32)), .val (.int (0 : Int32)), .val (.long (pck p3 (p5 &&& (3 : Int32)) x0 x1 x2)), .second, .unset, .unset, .unset, .unset, .unset, .unset, .unset, .unset, .unset]) W115 at_108 rfl ?_
    refine g_lload (pc := 110) W115 at_110 rfl ?_
    refine g_iload (pc := 112) W115 at_112 rfl ?_
    refine g_iconst (pc := 114) (2 : Int32) (by decide) W115 at_114 ?_
    refine g_iushr (pc := 115) W115 at_115 ?_
    refine g_iconst (pc := 116) (3 : Int32) (by decide) W115 at_116 ?_
    refine g_iand (pc := 117) W115 at_117 ?_
    refine g_lload (pc := 118) W115 at_118 rfl ?_
    refine g_lload (pc := 120) W115 at_120 rfl ?_
    refine g_lload (pc := 122) W115 at_122 rfl ?_
    refine g_static (pc := 124) (Wt := 0) (argsL := [.long p4, .int ((XT.ushr p5 (2 : Int32)) &&& (3 : Int32)), .long x0, .long x1, .long x2]) (rest := []) (loc := []) (rst := []) W115 (hw _ (List.mem_of_getElem? (i := 7) rfl)) (hw _ (List.mem_of_getElem? (i := 8) rfl)) (hw _ (List.mem_of_getElem? (i := 9) rfl)) (hw _ (List.mem_of_getElem? (i := 10) rfl)) (by decide) (c_pck l Z a0 hw p4 ((XT.ushr p5 (2 : Int32)) &&& (3 : Int32)) x0 x1 x2) Spl.none rfl pd_JIJJJ__J rfl rfl rfl (Nat.le_of_ble_eq_true rfl) (by decide) (by decide) (by decide) (by decide) at_124 ?_
    rintro T116 _ _ ⟨rfl, rfl⟩ W117
    have W118 := W117.re (os' := []) rfl
    show Go p_ e_ bl_ _ (T116.setTop (mkF m_ 127 #[.val (.long p0), .second, .val (.long p1), .second, .val (.long p2), .second, .val (.long p3), .second, .val (.long p4), .second, .val (.int p5), .val (.long x0), .second, .val (.long x1), .second, .val (.long x2), .second, .val (.int (1 : Int32)), .val (.int (0 : Int32)), .val (.long (pck p3 (p5 &&& (3 : Int32)) x0 x1 x2)), .second, .unset, .unset, .unset, .unset, .unset, .unset, .unset, .unset, .unset] [.long (pck p4 ((XT.ushr p5 (2 : Int32)) &&& (3 : Int32)) x0 x1 x2)]))
    refine g_lstore (pc := 127) (ls' := #[.val (.long p0), .second, .val (.long p1), .second, .val (.long p2), .second, .val (.long p3), .second, .val (.long p4), .second, .val (.int p5), .val (.long x0), .second, .val (.long x1), .second, .val (.long x2), .second, .val (.int (1 : Int32)), .val (.int (0 : Int32)), .val (.long (pck p3 (p5 &&& (3 : Int32)) x0 x1 x2)), .second, .val (.long (pck p4 ((XT.ushr p5 (2 : Int32)) &&& (3 : Int32)) x0 x1 x2)), .second, .unset, .unset, .unset, .unset, .unset, .unset, .unset]) W118 at_127 rfl ?_
    generalize (pck p3 (p5 &&& (3 : Int32)) x0 x1 x2) = y0
    generalize (pck p4 ((XT.ushr p5 (2 : Int32)) &&& (3 : Int32)) x0 x1 x2) = y1
    refine g_lload (pc := 129) W118 at_129 rfl ?_
    refine g_lload (pc := 131) W118 at_131 rfl ?_
    refine g_static (pc := 133) (Wt := 0) (argsL := [.long y0, .long y1]) (rest := []) (loc := []) (rst := []) W118 (hw _ (List.mem_of_getElem? (i := 0) rfl)) (hw _ (List.mem_of_getElem? (i := 1) rfl)) (hw _ (List.mem_of_getElem? (i := 2) rfl)) (hw _ (List.mem_of_getElem? (i := 3) rfl)) (by decide) (c_min l Z a0 hw y0 y1) Spl.none rfl pd_JJ__J rfl rfl rfl (Nat.le_of_ble_eq_true rfl) (by decide) (by decide) (by decide) (by decide) at_133 ?_
    rintro T119 _ _ ⟨rfl, rfl⟩ W120
    have W121 := W120.re (os' := []) rfl
    show Go p_ e_ bl_ _ (T119.setTop (mkF m_ 136 #[.val (.long p0), .second, .val (.long p1), .second, .val (.long p2), .second, .val (.long p3), .second, .val (.long p4), .second, .val (.int p5), .val (.long x0), .second, .val (.long x1), .second, .val (.long x2), .second, .val (.int (1 : Int32)), .val (.int (0 : Int32)), .val (.long y0), .second, .val (.long y1), .second, .unset, .unset, .unset, .unset, .unset, .unset, .unset] [.long (mnL y0 y1)]))
    refine g_lstore (pc := 136) (ls' := #[.val (.long p0), .second, .val (.long p1), .second, .val (.long p2), .second, .val (.long p3), .second, .val (.long p4), .second, .val (.int p5), .val (.long x0), .second, .val (.long x1), .second, .val (.long x2), .second, .val (.int (1 : Int32)), .val (.int (0 : Int32)), .val (.long y0), .second, .val (.long y1), .second, .val (.long (mnL y0 y1)), .second, .unset, .unset, .unset, .unset, .unset]) W121 at_136 rfl ?_
    refine g_lload (pc := 138) W121 at_138 rfl ?_
    refine g_lload (pc := 140) W121 at_140 rfl ?_
    refine g_static (pc := 142) (Wt := 0) (argsL := [.long y0, .long y1]) (rest := []) (loc := []) (rst := []) W121 (hw _ (List.mem_of_getElem? (i := 4) rfl)) (hw _ (List.mem_of_getElem? (i := 5) rfl)) (hw _ (List.mem_of_getElem? (i := 2) rfl)) (hw _ (List.mem_of_getElem? (i := 6) rfl)) (by decide) (c_max l Z a0 hw y0 y1) Spl.none rfl pd_JJ__J rfl rfl rfl (Nat.le_of_ble_eq_true rfl) (by decide) (by decide) (by decide) (by decide) at_142 ?_
    rintro T122 _ _ ⟨rfl, rfl⟩ W123
    have W124 := W123.re (os' := []) rfl
    show Go p_ e_ bl_ _ (T122.setTop (mkF m_ 145 #[.val (.long p0), .second, .val (.long p1), .second, .val (.long p2), .second, .val (.long p3), .second, .val (.long p4), .second, .val (.int p5), .val (.long x0), .second, .val (.long x1), .second, .val (.long x2), .second, .val (.int (1 : Int32)), .val (.int (0 : Int32)), .val (.long y0), .second, .val (.long y1), .second, .val (.long (mnL y0 y1)), .second, .unset, .unset, .unset, .unset, .unset] [.long (mxL y0 y1)]))
    refine g_lstore (pc := 145) (ls' := #[.val (.long p0), .second, .val (.long p1), .second, .val (.long p2), .second, .val (.long p3), .second, .val (.long p4), .second, .val (.int p5), .val (.long x0), .second, .val (.long x1), .second, .val (.long x2), .second, .val (.int (1 : Int32)), .val (.int (0 : Int32)), .val (.long y0), .second, .val (.long y1), .second, .val (.long (mnL y0 y1)), .second, .val (.long (mxL y0 y1)), .second, .unset, .unset, .unset]) W124 at_145 rfl ?_
    have hl := own_lohi y0 y1
    generalize (mnL y0 y1) = lo at hl ⊢
    generalize (mxL y0 y1) = hi at hl ⊢
    refine g_iload (pc := 147) W124 at_147 rfl ?_
    refine g_iconst (pc := 149) (2 : Int32) (by decide) W124 at_149 ?_
    refine g_icmpY 163 (pc := 150) W124 at_150 (by decide) (by decide) (by decide) ?_
    refine g_iload (pc := 163) W124 at_163 rfl ?_
    refine g_newarray (pc := 165) (ty := .long) (vs := [.long (0 : Int64)]) 1 W124 (hw _ (List.mem_of_getElem? (i := 11) rfl)) rfl (by decide) (by decide) (by decide) rfl at_165 (by decide) (by decide) (fun T126 b125 W127 => ?_)
    have W128 := W127.re (os' := [(b125, (.array .long), [.long (0 : Int64)])]) rfl
    refine g_astore (pc := 167) (ls' := #[.val (.long p0), .second, .val (.long p1), .second, .val (.long p2), .second, .val (.long p3), .second, .val (.long p4), .second, .val (.int p5), .val (.long x0), .second, .val (.long x1), .second, .val (.long x2), .second, .val (.int (1 : Int32)), .val (.int (0 : Int32)), .val (.long y0), .second, .val (.long y1), .second, .val (.long lo), .second, .val (.long hi), .second, .val (.ref b125), .unset, .unset]) W128 at_167 rfl rfl ?_
    refine g_iload (pc := 169) W128 at_169 rfl ?_
    refine g_ifN (pc := 171) W128 at_171 (by decide) ?_
    refine g_aload (pc := 174) W128 at_174 rfl rfl ?_
    refine g_iconst (pc := 176) (0 : Int32) (by decide) W128 at_176 ?_
    refine g_lload (pc := 177) W128 at_177 rfl ?_
    refine g_lastore (pc := 179) (i := 0) (os' := [(b125, (.array .long), [.long x0])]) 0 W128 rfl (by decide) (by decide) (Nat.le_of_ble_eq_true rfl) rfl at_179 (fun T129 W130 => ?_)
    refine g_iload (pc := 180) W130 at_180 rfl ?_
    refine g_iconst (pc := 182) (1 : Int32) (by decide) W130 at_182 ?_
    refine g_icmpY 192 (pc := 183) W130 at_183 (by decide) (by decide) (by decide) ?_
    refine g_iload (pc := 192) W130 at_192 rfl ?_
    refine g_iconst (pc := 194) (2 : Int32) (by decide) W130 at_194 ?_
    refine g_icmpY 204 (pc := 195) W130 at_195 (by decide) (by decide) (by decide) ?_
    refine g_iload (pc := 204) W130 at_204 rfl ?_
    refine g_newarray (pc := 206) (ty := .long) (vs := []) 0 W130 (hw _ (List.mem_of_getElem? (i := 11) rfl)) rfl (by decide) (by decide) (by decide) rfl at_206 (by decide) (by decide) (fun T132 b131 W133 => ?_)
    have W134 := W133.re (os' := [(b125, (.array .long), [.long x0]), (b131, (.array .long), [])]) rfl
    refine g_astore (pc := 208) (ls' := #[.val (.long p0), .second, .val (.long p1), .second, .val (.long p2), .second, .val (.long p3), .second, .val (.long p4), .second, .val (.int p5), .val (.long x0), .second, .val (.long x1), .second, .val (.long x2), .second, .val (.int (1 : Int32)), .val (.int (0 : Int32)), .val (.long y0), .second, .val (.long y1), .second, .val (.long lo), .second, .val (.long hi), .second, .val (.ref b125), .val (.ref b131), .unset]) W134 at_208 rfl rfl ?_
    refine g_iload (pc := 210) W134 at_210 rfl ?_
    refine g_iconst (pc := 212) (1 : Int32) (by decide) W134 at_212 ?_
    refine g_icmpY 222 (pc := 213) W134 at_213 (by decide) (by decide) (by decide) ?_
    refine g_iload (pc := 222) W134 at_222 rfl ?_
    refine g_iconst (pc := 224) (2 : Int32) (by decide) W134 at_224 ?_
    refine g_icmpY 240 (pc := 225) W134 at_225 (by decide) (by decide) (by decide) ?_
    refine g_aload (pc := 240) W134 at_240 rfl rfl ?_
    refine g_aload (pc := 242) W134 at_242 rfl rfl ?_
    refine g_static (pc := 244) (Wt := 0) (argsL := [.ref b131, .ref b125]) (rest := []) (loc := [(b131, (.array .long), []), (b125, (.array .long), [.long x0])]) (rst := []) W134 (hw _ (List.mem_of_getElem? (i := 12) rfl)) (hw _ (List.mem_of_getElem? (i := 13) rfl)) (hw _ (List.mem_of_getElem? (i := 14) rfl)) (hw _ (List.mem_of_getElem? (i := 15) rfl)) (by decide) (c_pos01 l Z a0 hw b131 b125 x0 x1 x2) ⟨[1, 0], by decide, rfl⟩ rfl pd_AJAJ__AI rfl rfl rfl (Nat.le_of_ble_eq_true rfl) (by decide) (by decide) (by decide) (by decide) at_244 ?_
    rintro T136 _ _ ⟨b135, rfl, rfl⟩ W137
    have W138 := W137.re (os' := [(b131, (.array .long), []), (b125, (.array .long), [.long x0]), (b135, (.array .int), [])]) rfl
    show Go p_ e_ bl_ _ (T136.setTop (mkF m_ 247 #[.val (.long p0), .second, .val (.long p1), .second, .val (.long p2), .second, .val (.long p3), .second, .val (.long p4), .second, .val (.int p5), .val (.long x0), .second, .val (.long x1), .second, .val (.long x2), .second, .val (.int (1 : Int32)), .val (.int (0 : Int32)), .val (.long y0), .second, .val (.long y1), .second, .val (.long lo), .second, .val (.long hi), .second, .val (.ref b125), .val (.ref b131), .unset] [.ref b135]))
    refine g_astore (pc := 247) (ls' := #[.val (.long p0), .second, .val (.long p1), .second, .val (.long p2), .second, .val (.long p3), .second, .val (.long p4), .second, .val (.int p5), .val (.long x0), .second, .val (.long x1), .second, .val (.long x2), .second, .val (.int (1 : Int32)), .val (.int (0 : Int32)), .val (.long y0), .second, .val (.long y1), .second, .val (.long lo), .second, .val (.long hi), .second, .val (.ref b125), .val (.ref b131), .val (.ref b135)]) W138 at_247 rfl rfl ?_
    refine g_aload (pc := 249) W138 at_249 rfl rfl ?_
    refine g_arraylength (pc := 251) (i := 2) (0 : Int32) W138 rfl rfl at_251 ?_
    refine g_iload (pc := 252) W138 at_252 rfl ?_
    refine g_icmpY 259 (pc := 254) W138 at_254 (by decide) (by decide) (by decide) ?_
    refine g_iload (pc := 259) W138 at_259 rfl ?_
    refine g_ifY 288 (pc := 261) W138 at_261 (by decide) (by decide) (by decide) ?_
    refine g_iload (pc := 288) W138 at_288 rfl ?_
    refine g_iconst (pc := 290) (1 : Int32) (by decide) W138 at_290 ?_
    refine g_icmpY 318 (pc := 291) W138 at_291 (by decide) (by decide) (by decide) ?_
    refine g_iconst (pc := 318) (1 : Int32) (by decide) W138 at_318 ?_
    exact g_zreturn (pc := 319) rfl (by decide) W138 at_319 (by decide) (by decide) rfl
  · rw [hm, hn]
    refine g_iload (pc := 63) W24 at_63 rfl ?_
    refine g_iconst (pc := 65) (1 : Int32) (by decide) W24 at_65 ?_
    refine g_icmpY 77 (pc := 66) W24 at_66 (by decide) (by decide) (by decide) ?_
    refine g_iload (pc := 77) W24 at_77 rfl ?_
    refine g_iconst (pc := 79) (2 : Int32) (by decide) W24 at_79 ?_
    refine g_icmpY 93 (pc := 80) W24 at_80 (by decide) (by decide) (by decide) ?_
    refine g_lload (pc := 93) W24 at_93 rfl ?_
    refine g_iload (pc := 95) W24 at_95 rfl ?_
    refine g_iconst (pc := 97) (3 : Int32) (by decide) W24 at_97 ?_
    refine g_iand (pc := 98) W24 at_98 ?_
    refine g_lload (pc := 99) W24 at_99 rfl ?_
    refine g_lload (pc := 101) W24 at_101 rfl ?_
    refine g_lload (pc := 103) W24 at_103 rfl ?_
    refine g_static (pc := 105) (Wt := 0) (argsL := [.long p3, .int (p5 &&& (3 : Int32)), .long x0, .long x1, .long x2]) (rest := []) (loc := []) (rst := []) W24 (hw _ (List.mem_of_getElem? (i := 7) rfl)) (hw _ (List.mem_of_getElem? (i := 8) rfl)) (hw _ (List.mem_of_getElem? (i := 9) rfl)) (hw _ (List.mem_of_getElem? (i := 10) rfl)) (by decide) (c_pck l Z a0 hw p3 (p5 &&& (3 : Int32)) x0 x1 x2) Spl.none rfl pd_JIJJJ__J rfl rfl rfl (Nat.le_of_ble_eq_true rfl) (by decide) (by decide) (by decide) (by decide) at_105 ?_
    rintro T139 _ _ ⟨rfl, rfl⟩ W140
    have W141 := W140.re (os' := []) rfl
    show Go p_ e_ bl_ _ (T139.setTop (mkF m_ 108 #[.val (.long p0), .second, .val (.long p1), .second, .val (.long p2), .second, .val (.long p3), .second, .val (.long p4), .second, .val (.int p5), .val (.long x0), .second, .val (.long x1), .second, .val (.long x2), .second, .val (.int (1 : Int32)), .val (.int (1 : Int32)), .unset, .unset, .unset, .unset, .unset, .unset, .unset, .unset, .unset, .unset, .unset] [.long (pck p3 (p5 &&& (3 : Int32)) x0 x1 x2)]))
    refine g_lstore (pc := 108) (ls' := #[.val (.long p0), .second, .val (.long p1), .second, .val (.long p2), .second, .val (.long p3), .second, .val (.long p4), .second, .val (.int p5), .val (.long x0), .second, .val (.long x1), .second, .val (.long x2), .second, .val (.int (1 : Int32)), .val (.int (1 : Int32)), .val (.long (pck p3 (p5 &&& (3 : Int32)) x0 x1 x2)), .second, .unset, .unset, .unset, .unset, .unset, .unset, .unset, .unset, .unset]) W141 at_108 rfl ?_
    refine g_lload (pc := 110) W141 at_110 rfl ?_
    refine g_iload (pc := 112) W141 at_112 rfl ?_
    refine g_iconst (pc := 114) (2 : Int32) (by decide) W141 at_114 ?_
    refine g_iushr (pc := 115) W141 at_115 ?_
    refine g_iconst (pc := 116) (3 : Int32) (by decide) W141 at_116 ?_
    refine g_iand (pc := 117) W141 at_117 ?_
    refine g_lload (pc := 118) W141 at_118 rfl ?_
    refine g_lload (pc := 120) W141 at_120 rfl ?_
    refine g_lload (pc := 122) W141 at_122 rfl ?_
    refine g_static (pc := 124) (Wt := 0) (argsL := [.long p4, .int ((XT.ushr p5 (2 : Int32)) &&& (3 : Int32)), .long x0, .long x1, .long x2]) (rest := []) (loc := []) (rst := []) W141 (hw _ (List.mem_of_getElem? (i := 7) rfl)) (hw _ (List.mem_of_getElem? (i := 8) rfl)) (hw _ (List.mem_of_getElem? (i := 9) rfl)) (hw _ (List.mem_of_getElem? (i := 10) rfl)) (by decide) (c_pck l Z a0 hw p4 ((XT.ushr p5 (2 : Int32)) &&& (3 : Int32)) x0 x1 x2) Spl.none rfl pd_JIJJJ__J rfl rfl rfl (Nat.le_of_ble_eq_true rfl) (by decide) (by decide) (by decide) (by decide) at_124 ?_
    rintro T142 _ _ ⟨rfl, rfl⟩ W143
    have W144 := W143.re (os' := []) rfl
    show Go p_ e_ bl_ _ (T142.setTop (mkF m_ 127 #[.val (.long p0), .second, .val (.long p1), .second, .val (.long p2), .second, .val (.long p3), .second, .val (.long p4), .second, .val (.int p5), .val (.long x0), .second, .val (.long x1), .second, .val (.long x2), .second, .val (.int (1 : Int32)), .val (.int (1 : Int32)), .val (.long (pck p3 (p5 &&& (3 : Int32)) x0 x1 x2)), .second, .unset, .unset, .unset, .unset, .unset, .unset, .unset, .unset, .unset] [.long (pck p4 ((XT.ushr p5 (2 : Int32)) &&& (3 : Int32)) x0 x1 x2)]))
    refine g_lstore (pc := 127) (ls' := #[.val (.long p0), .second, .val (.long p1), .second, .val (.long p2), .second, .val (.long p3), .second, .val (.long p4), .second, .val (.int p5), .val (.long x0), .second, .val (.long x1), .second, .val (.long x2), .second, .val (.int (1 : Int32)), .val (.int (1 : Int32)), .val (.long (pck p3 (p5 &&& (3 : Int32)) x0 x1 x2)), .second, .val (.long (pck p4 ((XT.ushr p5 (2 : Int32)) &&& (3 : Int32)) x0 x1 x2)), .second, .unset, .unset, .unset, .unset, .unset, .unset, .unset]) W144 at_127 rfl ?_
    generalize (pck p3 (p5 &&& (3 : Int32)) x0 x1 x2) = y0
    generalize (pck p4 ((XT.ushr p5 (2 : Int32)) &&& (3 : Int32)) x0 x1 x2) = y1
    refine g_lload (pc := 129) W144 at_129 rfl ?_
    refine g_lload (pc := 131) W144 at_131 rfl ?_
    refine g_static (pc := 133) (Wt := 0) (argsL := [.long y0, .long y1]) (rest := []) (loc := []) (rst := []) W144 (hw _ (List.mem_of_getElem? (i := 0) rfl)) (hw _ (List.mem_of_getElem? (i := 1) rfl)) (hw _ (List.mem_of_getElem? (i := 2) rfl)) (hw _ (List.mem_of_getElem? (i := 3) rfl)) (by decide) (c_min l Z a0 hw y0 y1) Spl.none rfl pd_JJ__J rfl rfl rfl (Nat.le_of_ble_eq_true rfl) (by decide) (by decide) (by decide) (by decide) at_133 ?_
    rintro T145 _ _ ⟨rfl, rfl⟩ W146
    have W147 := W146.re (os' := []) rfl
    show Go p_ e_ bl_ _ (T145.setTop (mkF m_ 136 #[.val (.long p0), .second, .val (.long p1), .second, .val (.long p2), .second, .val (.long p3), .second, .val (.long p4), .second, .val (.int p5), .val (.long x0), .second, .val (.long x1), .second, .val (.long x2), .second, .val (.int (1 : Int32)), .val (.int (1 : Int32)), .val (.long y0), .second, .val (.long y1), .second, .unset, .unset, .unset, .unset, .unset, .unset, .unset] [.long (mnL y0 y1)]))
    refine g_lstore (pc := 136) (ls' := #[.val (.long p0), .second, .val (.long p1), .second, .val (.long p2), .second, .val (.long p3), .second, .val (.long p4), .second, .val (.int p5), .val (.long x0), .second, .val (.long x1), .second, .val (.long x2), .second, .val (.int (1 : Int32)), .val (.int (1 : Int32)), .val (.long y0), .second, .val (.long y1), .second, .val (.long (mnL y0 y1)), .second, .unset, .unset, .unset, .unset, .unset]) W147 at_136 rfl ?_
    refine g_lload (pc := 138) W147 at_138 rfl ?_
    refine g_lload (pc := 140) W147 at_140 rfl ?_
    refine g_static (pc := 142) (Wt := 0) (argsL := [.long y0, .long y1]) (rest := []) (loc := []) (rst := []) W147 (hw _ (List.mem_of_getElem? (i := 4) rfl)) (hw _ (List.mem_of_getElem? (i := 5) rfl)) (hw _ (List.mem_of_getElem? (i := 2) rfl)) (hw _ (List.mem_of_getElem? (i := 6) rfl)) (by decide) (c_max l Z a0 hw y0 y1) Spl.none rfl pd_JJ__J rfl rfl rfl (Nat.le_of_ble_eq_true rfl) (by decide) (by decide) (by decide) (by decide) at_142 ?_
    rintro T148 _ _ ⟨rfl, rfl⟩ W149
    have W150 := W149.re (os' := []) rfl
    show Go p_ e_ bl_ _ (T148.setTop (mkF m_ 145 #[.val (.long p0), .second, .val (.long p1), .second, .val (.long p2), .second, .val (.long p3), .second, .val (.long p4), .second, .val (.int p5), .val (.long x0), .second, .val (.long x1), .second, .val (.long x2), .second, .val (.int (1 : Int32)), .val (.int (1 : Int32)), .val (.long y0), .second, .val (.long y1), .second, .val (.long (mnL y0 y1)), .second, .unset, .unset, .unset, .unset, .unset] [.long (mxL y0 y1)]))
    refine g_lstore (pc := 145) (ls' := #[.val (.long p0), .second, .val (.long p1), .second, .val (.long p2), .second, .val (.long p3), .second, .val (.long p4), .second, .val (.int p5), .val (.long x0), .second, .val (.long x1), .second, .val (.long x2), .second, .val (.int (1 : Int32)), .val (.int (1 : Int32)), .val (.long y0), .second, .val (.long y1), .second, .val (.long (mnL y0 y1)), .second, .val (.long (mxL y0 y1)), .second, .unset, .unset, .unset]) W150 at_145 rfl ?_
    have hl := own_lohi y0 y1
    generalize (mnL y0 y1) = lo at hl ⊢
    generalize (mxL y0 y1) = hi at hl ⊢
    refine g_iload (pc := 147) W150 at_147 rfl ?_
    refine g_iconst (pc := 149) (2 : Int32) (by decide) W150 at_149 ?_
    refine g_icmpY 163 (pc := 150) W150 at_150 (by decide) (by decide) (by decide) ?_
    refine g_iload (pc := 163) W150 at_163 rfl ?_
    refine g_newarray (pc := 165) (ty := .long) (vs := [.long (0 : Int64)]) 1 W150 (hw _ (List.mem_of_getElem? (i := 11) rfl)) rfl (by decide) (by decide) (by decide) rfl at_165 (by decide) (by decide) (fun T152 b151 W153 => ?_)
    have W154 := W153.re (os' := [(b151, (.array .long), [.long (0 : Int64)])]) rfl
    refine g_astore (pc := 167) (ls' := #[.val (.long p0), .second, .val (.long p1), .second, .val (.long p2), .second, .val (.long p3), .second, .val (.long p4), .second, .val (.int p5), .val (.long x0), .second, .val (.long x1), .second, .val (.long x2), .second, .val (.int (1 : Int32)), .val (.int (1 : Int32)), .val (.long y0), .second, .val (.long y1), .second, .val (.long lo), .second, .val (.long hi), .second, .val (.ref b151), .unset, .unset]) W154 at_167 rfl rfl ?_
    refine g_iload (pc := 169) W154 at_169 rfl ?_
    refine g_ifN (pc := 171) W154 at_171 (by decide) ?_
    refine g_aload (pc := 174) W154 at_174 rfl rfl ?_
    refine g_iconst (pc := 176) (0 : Int32) (by decide) W154 at_176 ?_
    refine g_lload (pc := 177) W154 at_177 rfl ?_
    refine g_lastore (pc := 179) (i := 0) (os' := [(b151, (.array .long), [.long x0])]) 0 W154 rfl (by decide) (by decide) (Nat.le_of_ble_eq_true rfl) rfl at_179 (fun T155 W156 => ?_)
    refine g_iload (pc := 180) W156 at_180 rfl ?_
    refine g_iconst (pc := 182) (1 : Int32) (by decide) W156 at_182 ?_
    refine g_icmpY 192 (pc := 183) W156 at_183 (by decide) (by decide) (by decide) ?_
    refine g_iload (pc := 192) W156 at_192 rfl ?_
    refine g_iconst (pc := 194) (2 : Int32) (by decide) W156 at_194 ?_
    refine g_icmpY 204 (pc := 195) W156 at_195 (by decide) (by decide) (by decide) ?_
    refine g_iload (pc := 204) W156 at_204 rfl ?_
    refine g_newarray (pc := 206) (ty := .long) (vs := [.long (0 : Int64)]) 1 W156 (hw _ (List.mem_of_getElem? (i := 11) rfl)) rfl (by decide) (by decide) (by decide) rfl at_206 (by decide) (by decide) (fun T158 b157 W159 => ?_)
    have W160 := W159.re (os' := [(b151, (.array .long), [.long x0]), (b157, (.array .long), [.long (0 : Int64)])]) rfl
    refine g_astore (pc := 208) (ls' := #[.val (.long p0), .second, .val (.long p1), .second, .val (.long p2), .second, .val (.long p3), .second, .val (.long p4), .second, .val (.int p5), .val (.long x0), .second, .val (.long x1), .second, .val (.long x2), .second, .val (.int (1 : Int32)), .val (.int (1 : Int32)), .val (.long y0), .second, .val (.long y1), .second, .val (.long lo), .second, .val (.long hi), .second, .val (.ref b151), .val (.ref b157), .unset]) W160 at_208 rfl rfl ?_
    refine g_iload (pc := 210) W160 at_210 rfl ?_
    refine g_iconst (pc := 212) (1 : Int32) (by decide) W160 at_212 ?_
    refine g_icmpN (pc := 213) W160 at_213 (by decide) ?_
    refine g_aload (pc := 216) W160 at_216 rfl rfl ?_
    refine g_iconst (pc := 218) (0 : Int32) (by decide) W160 at_218 ?_
    refine g_lload (pc := 219) W160 at_219 rfl ?_
    refine g_lastore (pc := 221) (i := 1) (os' := [(b151, (.array .long), [.long x0]), (b157, (.array .long), [.long y0])]) 0 W160 rfl (by decide) (by decide) (Nat.le_of_ble_eq_true rfl) rfl at_221 (fun T161 W162 => ?_)
    refine g_iload (pc := 222) W162 at_222 rfl ?_
    refine g_iconst (pc := 224) (2 : Int32) (by decide) W162 at_224 ?_
    refine g_icmpY 240 (pc := 225) W162 at_225 (by decide) (by decide) (by decide) ?_
    refine g_aload (pc := 240) W162 at_240 rfl rfl ?_
    refine g_aload (pc := 242) W162 at_242 rfl rfl ?_
    refine g_static (pc := 244) (Wt := 0) (argsL := [.ref b157, .ref b151]) (rest := []) (loc := [(b157, (.array .long), [.long y0]), (b151, (.array .long), [.long x0])]) (rst := []) W162 (hw _ (List.mem_of_getElem? (i := 12) rfl)) (hw _ (List.mem_of_getElem? (i := 13) rfl)) (hw _ (List.mem_of_getElem? (i := 14) rfl)) (hw _ (List.mem_of_getElem? (i := 15) rfl)) (by decide) (c_pos11 l Z a0 hw b157 b151 y0 x0 x1 x2) ⟨[1, 0], by decide, rfl⟩ rfl pd_AJAJ__AI rfl rfl rfl (Nat.le_of_ble_eq_true rfl) (by decide) (by decide) (by decide) (by decide) at_244 ?_
    rintro T164 _ _ ⟨b163, rfl, rfl⟩ W165
    have W166 := W165.re (os' := [(b157, (.array .long), [.long y0]), (b151, (.array .long), [.long x0]), (b163, (.array .int), [.int (ex1 y0 x0 x1 x2)])]) rfl
    show Go p_ e_ bl_ _ (T164.setTop (mkF m_ 247 #[.val (.long p0), .second, .val (.long p1), .second, .val (.long p2), .second, .val (.long p3), .second, .val (.long p4), .second, .val (.int p5), .val (.long x0), .second, .val (.long x1), .second, .val (.long x2), .second, .val (.int (1 : Int32)), .val (.int (1 : Int32)), .val (.long y0), .second, .val (.long y1), .second, .val (.long lo), .second, .val (.long hi), .second, .val (.ref b151), .val (.ref b157), .unset] [.ref b163]))
    refine g_astore (pc := 247) (ls' := #[.val (.long p0), .second, .val (.long p1), .second, .val (.long p2), .second, .val (.long p3), .second, .val (.long p4), .second, .val (.int p5), .val (.long x0), .second, .val (.long x1), .second, .val (.long x2), .second, .val (.int (1 : Int32)), .val (.int (1 : Int32)), .val (.long y0), .second, .val (.long y1), .second, .val (.long lo), .second, .val (.long hi), .second, .val (.ref b151), .val (.ref b157), .val (.ref b163)]) W166 at_247 rfl rfl ?_
    refine g_aload (pc := 249) W166 at_249 rfl rfl ?_
    refine g_arraylength (pc := 251) (i := 2) (1 : Int32) W166 rfl rfl at_251 ?_
    refine g_iload (pc := 252) W166 at_252 rfl ?_
    refine g_icmpY 259 (pc := 254) W166 at_254 (by decide) (by decide) (by decide) ?_
    refine g_iload (pc := 259) W166 at_259 rfl ?_
    refine g_ifN (pc := 261) W166 at_261 (by decide) ?_
    refine g_aload (pc := 264) W166 at_264 rfl rfl ?_
    refine g_iconst (pc := 266) (0 : Int32) (by decide) W166 at_266 ?_
    refine g_iaload (pc := 267) (i := 2) (v := .int (ex1 y0 x0 x1 x2)) W166 rfl (by decide) rfl at_267 ?_
    refine g_aload (pc := 268) W166 at_268 rfl rfl ?_
    refine g_iconst (pc := 270) (0 : Int32) (by decide) W166 at_270 ?_
    refine g_laload (pc := 271) (i := 0) (v := .long y0) W166 rfl (by decide) rfl at_271 ?_
    refine g_lload (pc := 272) W166 at_272 rfl ?_
    refine g_lload (pc := 274) W166 at_274 rfl ?_
    refine g_lload (pc := 276) W166 at_276 rfl ?_
    refine g_iload (pc := 278) W166 at_278 rfl ?_
    refine g_static (pc := 280) (Wt := 1) (argsL := [.long y0, .long x0, .long x1, .long x2, .int (1 : Int32)]) (rest := [.int (ex1 y0 x0 x1 x2)]) (loc := []) (rst := [(b157, (.array .long), [.long y0]), (b151, (.array .long), [.long x0]), (b163, (.array .int), [.int (ex1 y0 x0 x1 x2)])]) W166 (hw _ (List.mem_of_getElem? (i := 17) rfl)) (hw _ (List.mem_of_getElem? (i := 18) rfl)) (hw _ (List.mem_of_getElem? (i := 9) rfl)) (hw _ (List.mem_of_getElem? (i := 19) rfl)) (by decide) (c_exp1 l Z a0 hw y0 x0 x1 x2) Spl.none rfl pd_JJJJI__I rfl rfl rfl (Nat.le_of_ble_eq_true rfl) (by decide) (by decide) (by decide) (by decide) at_280 ?_
    rintro T167 _ _ ⟨rfl, rfl⟩ W168
    have W169 := W168.re (os' := [(b157, (.array .long), [.long y0]), (b151, (.array .long), [.long x0]), (b163, (.array .int), [.int (ex1 y0 x0 x1 x2)])]) rfl
    show Go p_ e_ bl_ _ (T167.setTop (mkF m_ 283 #[.val (.long p0), .second, .val (.long p1), .second, .val (.long p2), .second, .val (.long p3), .second, .val (.long p4), .second, .val (.int p5), .val (.long x0), .second, .val (.long x1), .second, .val (.long x2), .second, .val (.int (1 : Int32)), .val (.int (1 : Int32)), .val (.long y0), .second, .val (.long y1), .second, .val (.long lo), .second, .val (.long hi), .second, .val (.ref b151), .val (.ref b157), .val (.ref b163)] [.int (ex1 y0 x0 x1 x2), .int (ex1 y0 x0 x1 x2)]))
    refine g_icmpY 288 (pc := 283) W169 at_283 (by decide) (by decide) (by first | exact (teq rfl).1 | exact (teq rfl).2 | exact (flt (by simp)).1 | exact (flt (by simp)).2.1 | exact (flt (by simp)).2.2.1 | exact (flt (by simp)).2.2.2) ?_
    refine g_iload (pc := 288) W169 at_288 rfl ?_
    refine g_iconst (pc := 290) (1 : Int32) (by decide) W169 at_290 ?_
    refine g_icmpY 318 (pc := 291) W169 at_291 (by decide) (by decide) (by decide) ?_
    refine g_iconst (pc := 318) (1 : Int32) (by decide) W169 at_318 ?_
    exact g_zreturn (pc := 319) rfl (by decide) W169 at_319 (by decide) (by decide) rfl
  · rw [hm, hn]
    refine g_iload (pc := 63) W24 at_63 rfl ?_
    refine g_iconst (pc := 65) (1 : Int32) (by decide) W24 at_65 ?_
    refine g_icmpY 77 (pc := 66) W24 at_66 (by decide) (by decide) (by decide) ?_
    refine g_iload (pc := 77) W24 at_77 rfl ?_
    refine g_iconst (pc := 79) (2 : Int32) (by decide) W24 at_79 ?_
    refine g_icmpY 93 (pc := 80) W24 at_80 (by decide) (by decide) (by decide) ?_
    refine g_lload (pc := 93) W24 at_93 rfl ?_
    refine g_iload (pc := 95) W24 at_95 rfl ?_
    refine g_iconst (pc := 97) (3 : Int32) (by decide) W24 at_97 ?_
    refine g_iand (pc := 98) W24 at_98 ?_
    refine g_lload (pc := 99) W24 at_99 rfl ?_
    refine g_lload (pc := 101) W24 at_101 rfl ?_
    refine g_lload (pc := 103) W24 at_103 rfl ?_
    refine g_static (pc := 105) (Wt := 0) (argsL := [.long p3, .int (p5 &&& (3 : Int32)), .long x0, .long x1, .long x2]) (rest := []) (loc := []) (rst := []) W24 (hw _ (List.mem_of_getElem? (i := 7) rfl)) (hw _ (List.mem_of_getElem? (i := 8) rfl)) (hw _ (List.mem_of_getElem? (i := 9) rfl)) (hw _ (List.mem_of_getElem? (i := 10) rfl)) (by decide) (c_pck l Z a0 hw p3 (p5 &&& (3 : Int32)) x0 x1 x2) Spl.none rfl pd_JIJJJ__J rfl rfl rfl (Nat.le_of_ble_eq_true rfl) (by decide) (by decide) (by decide) (by decide) at_105 ?_
    rintro T170 _ _ ⟨rfl, rfl⟩ W171
    have W172 := W171.re (os' := []) rfl
    show Go p_ e_ bl_ _ (T170.setTop (mkF m_ 108 #[.val (.long p0), .second, .val (.long p1), .second, .val (.long p2), .second, .val (.long p3), .second, .val (.long p4), .second, .val (.int p5), .val (.long x0), .second, .val (.long x1), .second, .val (.long x2), .second, .val (.int (1 : Int32)), .val (.int (2 : Int32)), .unset, .unset, .unset, .unset, .unset, .unset, .unset, .unset, .unset, .unset, .unset] [.long (pck p3 (p5 &&& (3 : Int32)) x0 x1 x2)]))
    refine g_lstore (pc := 108) (ls' := #[.val (.long p0), .second, .val (.long p1), .second, .val (.long p2), .second, .val (.long p3), .second, .val (.long p4), .second, .val (.int p5), .val (.long x0), .second, .val (.long x1), .second, .val (.long x2), .second, .val (.int (1 : Int32)), .val (.int (2 : Int32)), .val (.long (pck p3 (p5 &&& (3 : Int32)) x0 x1 x2)), .second, .unset, .unset, .unset, .unset, .unset, .unset, .unset, .unset, .unset]) W172 at_108 rfl ?_
    refine g_lload (pc := 110) W172 at_110 rfl ?_
    refine g_iload (pc := 112) W172 at_112 rfl ?_
    refine g_iconst (pc := 114) (2 : Int32) (by decide) W172 at_114 ?_
    refine g_iushr (pc := 115) W172 at_115 ?_
    refine g_iconst (pc := 116) (3 : Int32) (by decide) W172 at_116 ?_
    refine g_iand (pc := 117) W172 at_117 ?_
    refine g_lload (pc := 118) W172 at_118 rfl ?_
    refine g_lload (pc := 120) W172 at_120 rfl ?_
    refine g_lload (pc := 122) W172 at_122 rfl ?_
    refine g_static (pc := 124) (Wt := 0) (argsL := [.long p4, .int ((XT.ushr p5 (2 : Int32)) &&& (3 : Int32)), .long x0, .long x1, .long x2]) (rest := []) (loc := []) (rst := []) W172 (hw _ (List.mem_of_getElem? (i := 7) rfl)) (hw _ (List.mem_of_getElem? (i := 8) rfl)) (hw _ (List.mem_of_getElem? (i := 9) rfl)) (hw _ (List.mem_of_getElem? (i := 10) rfl)) (by decide) (c_pck l Z a0 hw p4 ((XT.ushr p5 (2 : Int32)) &&& (3 : Int32)) x0 x1 x2) Spl.none rfl pd_JIJJJ__J rfl rfl rfl (Nat.le_of_ble_eq_true rfl) (by decide) (by decide) (by decide) (by decide) at_124 ?_
    rintro T173 _ _ ⟨rfl, rfl⟩ W174
    have W175 := W174.re (os' := []) rfl
    show Go p_ e_ bl_ _ (T173.setTop (mkF m_ 127 #[.val (.long p0), .second, .val (.long p1), .second, .val (.long p2), .second, .val (.long p3), .second, .val (.long p4), .second, .val (.int p5), .val (.long x0), .second, .val (.long x1), .second, .val (.long x2), .second, .val (.int (1 : Int32)), .val (.int (2 : Int32)), .val (.long (pck p3 (p5 &&& (3 : Int32)) x0 x1 x2)), .second, .unset, .unset, .unset, .unset, .unset, .unset, .unset, .unset, .unset] [.long (pck p4 ((XT.ushr p5 (2 : Int32)) &&& (3 : Int32)) x0 x1 x2)]))
    refine g_lstore (pc := 127) (ls' := #[.val (.long p0), .second, .val (.long p1), .second, .val (.long p2), .second, .val (.long p3), .second, .val (.long p4), .second, .val (.int p5), .val (.long x0), .second, .val (.long x1), .second, .val (.long x2), .second, .val (.int (1 : Int32)), .val (.int (2 : Int32)), .val (.long (pck p3 (p5 &&& (3 : Int32)) x0 x1 x2)), .second, .val (.long (pck p4 ((XT.ushr p5 (2 : Int32)) &&& (3 : Int32)) x0 x1 x2)), .second, .unset, .unset, .unset, .unset, .unset, .unset, .unset]) W175 at_127 rfl ?_
    generalize (pck p3 (p5 &&& (3 : Int32)) x0 x1 x2) = y0
    generalize (pck p4 ((XT.ushr p5 (2 : Int32)) &&& (3 : Int32)) x0 x1 x2) = y1
    refine g_lload (pc := 129) W175 at_129 rfl ?_
    refine g_lload (pc := 131) W175 at_131 rfl ?_
    refine g_static (pc := 133) (Wt := 0) (argsL := [.long y0, .long y1]) (rest := []) (loc := []) (rst := []) W175 (hw _ (List.mem_of_getElem? (i := 0) rfl)) (hw _ (List.mem_of_getElem? (i := 1) rfl)) (hw _ (List.mem_of_getElem? (i := 2) rfl)) (hw _ (List.mem_of_getElem? (i := 3) rfl)) (by decide) (c_min l Z a0 hw y0 y1) Spl.none rfl pd_JJ__J rfl rfl rfl (Nat.le_of_ble_eq_true rfl) (by decide) (by decide) (by decide) (by decide) at_133 ?_
    rintro T176 _ _ ⟨rfl, rfl⟩ W177
    have W178 := W177.re (os' := []) rfl
    show Go p_ e_ bl_ _ (T176.setTop (mkF m_ 136 #[.val (.long p0), .second, .val (.long p1), .second, .val (.long p2), .second, .val (.long p3), .second, .val (.long p4), .second, .val (.int p5), .val (.long x0), .second, .val (.long x1), .second, .val (.long x2), .second, .val (.int (1 : Int32)), .val (.int (2 : Int32)), .val (.long y0), .second, .val (.long y1), .second, .unset, .unset, .unset, .unset, .unset, .unset, .unset] [.long (mnL y0 y1)]))
    refine g_lstore (pc := 136) (ls' := #[.val (.long p0), .second, .val (.long p1), .second, .val (.long p2), .second, .val (.long p3), .second, .val (.long p4), .second, .val (.int p5), .val (.long x0), .second, .val (.long x1), .second, .val (.long x2), .second, .val (.int (1 : Int32)), .val (.int (2 : Int32)), .val (.long y0), .second, .val (.long y1), .second, .val (.long (mnL y0 y1)), .second, .unset, .unset, .unset, .unset, .unset]) W178 at_136 rfl ?_
    refine g_lload (pc := 138) W178 at_138 rfl ?_
    refine g_lload (pc := 140) W178 at_140 rfl ?_
    refine g_static (pc := 142) (Wt := 0) (argsL := [.long y0, .long y1]) (rest := []) (loc := []) (rst := []) W178 (hw _ (List.mem_of_getElem? (i := 4) rfl)) (hw _ (List.mem_of_getElem? (i := 5) rfl)) (hw _ (List.mem_of_getElem? (i := 2) rfl)) (hw _ (List.mem_of_getElem? (i := 6) rfl)) (by decide) (c_max l Z a0 hw y0 y1) Spl.none rfl pd_JJ__J rfl rfl rfl (Nat.le_of_ble_eq_true rfl) (by decide) (by decide) (by decide) (by decide) at_142 ?_
    rintro T179 _ _ ⟨rfl, rfl⟩ W180
    have W181 := W180.re (os' := []) rfl
    show Go p_ e_ bl_ _ (T179.setTop (mkF m_ 145 #[.val (.long p0), .second, .val (.long p1), .second, .val (.long p2), .second, .val (.long p3), .second, .val (.long p4), .second, .val (.int p5), .val (.long x0), .second, .val (.long x1), .second, .val (.long x2), .second, .val (.int (1 : Int32)), .val (.int (2 : Int32)), .val (.long y0), .second, .val (.long y1), .second, .val (.long (mnL y0 y1)), .second, .unset, .unset, .unset, .unset, .unset] [.long (mxL y0 y1)]))
    refine g_lstore (pc := 145) (ls' := #[.val (.long p0), .second, .val (.long p1), .second, .val (.long p2), .second, .val (.long p3), .second, .val (.long p4), .second, .val (.int p5), .val (.long x0), .second, .val (.long x1), .second, .val (.long x2), .second, .val (.int (1 : Int32)), .val (.int (2 : Int32)), .val (.long y0), .second, .val (.long y1), .second, .val (.long (mnL y0 y1)), .second, .val (.long (mxL y0 y1)), .second, .unset, .unset, .unset]) W181 at_145 rfl ?_
    have hl := own_lohi y0 y1
    generalize (mnL y0 y1) = lo at hl ⊢
    generalize (mxL y0 y1) = hi at hl ⊢
    refine g_iload (pc := 147) W181 at_147 rfl ?_
    refine g_iconst (pc := 149) (2 : Int32) (by decide) W181 at_149 ?_
    refine g_icmpN (pc := 150) W181 at_150 (by decide) ?_
    refine g_lload (pc := 153) W181 at_153 rfl ?_
    refine g_lload (pc := 155) W181 at_155 rfl ?_
    refine g_lcmp (pc := 157) W181 at_157 ?_
    refine g_if_ne 163 (pc := 158) W181 at_158 (by decide) (by decide) (fun c182 => ?_) (fun c182 => ?_)
    · have hy01 : lo.toInt < hi.toInt := by rw [cl_eq, ← Int64.toInt_inj] at c182; have := hl; omega
      refine g_iload (pc := 163) W181 at_163 rfl ?_
      refine g_newarray (pc := 165) (ty := .long) (vs := [.long (0 : Int64)]) 1 W181 (hw _ (List.mem_of_getElem? (i := 11) rfl)) rfl (by decide) (by decide) (by decide) rfl at_165 (by decide) (by decide) (fun T184 b183 W185 => ?_)
      have W186 := W185.re (os' := [(b183, (.array .long), [.long (0 : Int64)])]) rfl
      refine g_astore (pc := 167) (ls' := #[.val (.long p0), .second, .val (.long p1), .second, .val (.long p2), .second, .val (.long p3), .second, .val (.long p4), .second, .val (.int p5), .val (.long x0), .second, .val (.long x1), .second, .val (.long x2), .second, .val (.int (1 : Int32)), .val (.int (2 : Int32)), .val (.long y0), .second, .val (.long y1), .second, .val (.long lo), .second, .val (.long hi), .second, .val (.ref b183), .unset, .unset]) W186 at_167 rfl rfl ?_
      refine g_iload (pc := 169) W186 at_169 rfl ?_
      refine g_ifN (pc := 171) W186 at_171 (by decide) ?_
      refine g_aload (pc := 174) W186 at_174 rfl rfl ?_
      refine g_iconst (pc := 176) (0 : Int32) (by decide) W186 at_176 ?_
      refine g_lload (pc := 177) W186 at_177 rfl ?_
      refine g_lastore (pc := 179) (i := 0) (os' := [(b183, (.array .long), [.long x0])]) 0 W186 rfl (by decide) (by decide) (Nat.le_of_ble_eq_true rfl) rfl at_179 (fun T187 W188 => ?_)
      refine g_iload (pc := 180) W188 at_180 rfl ?_
      refine g_iconst (pc := 182) (1 : Int32) (by decide) W188 at_182 ?_
      refine g_icmpY 192 (pc := 183) W188 at_183 (by decide) (by decide) (by decide) ?_
      refine g_iload (pc := 192) W188 at_192 rfl ?_
      refine g_iconst (pc := 194) (2 : Int32) (by decide) W188 at_194 ?_
      refine g_icmpY 204 (pc := 195) W188 at_195 (by decide) (by decide) (by decide) ?_
      refine g_iload (pc := 204) W188 at_204 rfl ?_
      refine g_newarray (pc := 206) (ty := .long) (vs := [.long (0 : Int64), .long (0 : Int64)]) 2 W188 (hw _ (List.mem_of_getElem? (i := 11) rfl)) rfl (by decide) (by decide) (by decide) rfl at_206 (by decide) (by decide) (fun T190 b189 W191 => ?_)
      have W192 := W191.re (os' := [(b183, (.array .long), [.long x0]), (b189, (.array .long), [.long (0 : Int64), .long (0 : Int64)])]) rfl
      refine g_astore (pc := 208) (ls' := #[.val (.long p0), .second, .val (.long p1), .second, .val (.long p2), .second, .val (.long p3), .second, .val (.long p4), .second, .val (.int p5), .val (.long x0), .second, .val (.long x1), .second, .val (.long x2), .second, .val (.int (1 : Int32)), .val (.int (2 : Int32)), .val (.long y0), .second, .val (.long y1), .second, .val (.long lo), .second, .val (.long hi), .second, .val (.ref b183), .val (.ref b189), .unset]) W192 at_208 rfl rfl ?_
      refine g_iload (pc := 210) W192 at_210 rfl ?_
      refine g_iconst (pc := 212) (1 : Int32) (by decide) W192 at_212 ?_
      refine g_icmpY 222 (pc := 213) W192 at_213 (by decide) (by decide) (by decide) ?_
      refine g_iload (pc := 222) W192 at_222 rfl ?_
      refine g_iconst (pc := 224) (2 : Int32) (by decide) W192 at_224 ?_
      refine g_icmpN (pc := 225) W192 at_225 (by decide) ?_
      refine g_aload (pc := 228) W192 at_228 rfl rfl ?_
      refine g_iconst (pc := 230) (0 : Int32) (by decide) W192 at_230 ?_
      refine g_lload (pc := 231) W192 at_231 rfl ?_
      refine g_lastore (pc := 233) (i := 1) (os' := [(b183, (.array .long), [.long x0]), (b189, (.array .long), [.long lo, .long (0 : Int64)])]) 0 W192 rfl (by decide) (by decide) (Nat.le_of_ble_eq_true rfl) rfl at_233 (fun T193 W194 => ?_)
      refine g_aload (pc := 234) W194 at_234 rfl rfl ?_
      refine g_iconst (pc := 236) (1 : Int32) (by decide) W194 at_236 ?_
      refine g_lload (pc := 237) W194 at_237 rfl ?_
      refine g_lastore (pc := 239) (i := 1) (os' := [(b183, (.array .long), [.long x0]), (b189, (.array .long), [.long lo, .long hi])]) 1 W194 rfl (by decide) (by decide) (Nat.le_of_ble_eq_true rfl) rfl at_239 (fun T195 W196 => ?_)
      refine g_aload (pc := 240) W196 at_240 rfl rfl ?_
      refine g_aload (pc := 242) W196 at_242 rfl rfl ?_
      refine g_static (pc := 244) (Wt := 0) (argsL := [.ref b189, .ref b183]) (rest := []) (loc := [(b189, (.array .long), [.long lo, .long hi]), (b183, (.array .long), [.long x0])]) (rst := []) W196 (hw _ (List.mem_of_getElem? (i := 12) rfl)) (hw _ (List.mem_of_getElem? (i := 13) rfl)) (hw _ (List.mem_of_getElem? (i := 14) rfl)) (hw _ (List.mem_of_getElem? (i := 15) rfl)) (by decide) (c_pos21 l Z a0 hw b189 b183 lo hi x0 x1 x2 hy01) ⟨[1, 0], by decide, rfl⟩ rfl pd_AJAJ__AI rfl rfl rfl (Nat.le_of_ble_eq_true rfl) (by decide) (by decide) (by decide) (by decide) at_244 ?_
      rintro T198 _ _ ⟨b197, rfl, rfl⟩ W199
      have W200 := W199.re (os' := [(b189, (.array .long), [.long lo, .long hi]), (b183, (.array .long), [.long x0]), (b197, (.array .int), [.int (ex1 lo x0 x1 x2), .int (ex1 hi x0 x1 x2)])]) rfl
      show Go p_ e_ bl_ _ (T198.setTop (mkF m_ 247 #[.val (.long p0), .second, .val (.long p1), .second, .val (.long p2), .second, .val (.long p3), .second, .val (.long p4), .second, .val (.int p5), .val (.long x0), .second, .val (.long x1), .second, .val (.long x2), .second, .val (.int (1 : Int32)), .val (.int (2 : Int32)), .val (.long y0), .second, .val (.long y1), .second, .val (.long lo), .second, .val (.long hi), .second, .val (.ref b183), .val (.ref b189), .unset] [.ref b197]))
      refine g_astore (pc := 247) (ls' := #[.val (.long p0), .second, .val (.long p1), .second, .val (.long p2), .second, .val (.long p3), .second, .val (.long p4), .second, .val (.int p5), .val (.long x0), .second, .val (.long x1), .second, .val (.long x2), .second, .val (.int (1 : Int32)), .val (.int (2 : Int32)), .val (.long y0), .second, .val (.long y1), .second, .val (.long lo), .second, .val (.long hi), .second, .val (.ref b183), .val (.ref b189), .val (.ref b197)]) W200 at_247 rfl rfl ?_
      refine g_aload (pc := 249) W200 at_249 rfl rfl ?_
      refine g_arraylength (pc := 251) (i := 2) (2 : Int32) W200 rfl rfl at_251 ?_
      refine g_iload (pc := 252) W200 at_252 rfl ?_
      refine g_icmpY 259 (pc := 254) W200 at_254 (by decide) (by decide) (by decide) ?_
      refine g_iload (pc := 259) W200 at_259 rfl ?_
      refine g_ifN (pc := 261) W200 at_261 (by decide) ?_
      refine g_aload (pc := 264) W200 at_264 rfl rfl ?_
      refine g_iconst (pc := 266) (0 : Int32) (by decide) W200 at_266 ?_
      refine g_iaload (pc := 267) (i := 2) (v := .int (ex1 lo x0 x1 x2)) W200 rfl (by decide) rfl at_267 ?_
      refine g_aload (pc := 268) W200 at_268 rfl rfl ?_
      refine g_iconst (pc := 270) (0 : Int32) (by decide) W200 at_270 ?_
      refine g_laload (pc := 271) (i := 0) (v := .long lo) W200 rfl (by decide) rfl at_271 ?_
      refine g_lload (pc := 272) W200 at_272 rfl ?_
      refine g_lload (pc := 274) W200 at_274 rfl ?_
      refine g_lload (pc := 276) W200 at_276 rfl ?_
      refine g_iload (pc := 278) W200 at_278 rfl ?_
      refine g_static (pc := 280) (Wt := 1) (argsL := [.long lo, .long x0, .long x1, .long x2, .int (1 : Int32)]) (rest := [.int (ex1 lo x0 x1 x2)]) (loc := []) (rst := [(b189, (.array .long), [.long lo, .long hi]), (b183, (.array .long), [.long x0]), (b197, (.array .int), [.int (ex1 lo x0 x1 x2), .int (ex1 hi x0 x1 x2)])]) W200 (hw _ (List.mem_of_getElem? (i := 17) rfl)) (hw _ (List.mem_of_getElem? (i := 18) rfl)) (hw _ (List.mem_of_getElem? (i := 9) rfl)) (hw _ (List.mem_of_getElem? (i := 19) rfl)) (by decide) (c_exp1 l Z a0 hw lo x0 x1 x2) Spl.none rfl pd_JJJJI__I rfl rfl rfl (Nat.le_of_ble_eq_true rfl) (by decide) (by decide) (by decide) (by decide) at_280 ?_
      rintro T201 _ _ ⟨rfl, rfl⟩ W202
      have W203 := W202.re (os' := [(b189, (.array .long), [.long lo, .long hi]), (b183, (.array .long), [.long x0]), (b197, (.array .int), [.int (ex1 lo x0 x1 x2), .int (ex1 hi x0 x1 x2)])]) rfl
      show Go p_ e_ bl_ _ (T201.setTop (mkF m_ 283 #[.val (.long p0), .second, .val (.long p1), .second, .val (.long p2), .second, .val (.long p3), .second, .val (.long p4), .second, .val (.int p5), .val (.long x0), .second, .val (.long x1), .second, .val (.long x2), .second, .val (.int (1 : Int32)), .val (.int (2 : Int32)), .val (.long y0), .second, .val (.long y1), .second, .val (.long lo), .second, .val (.long hi), .second, .val (.ref b183), .val (.ref b189), .val (.ref b197)] [.int (ex1 lo x0 x1 x2), .int (ex1 lo x0 x1 x2)]))
      refine g_icmpY 288 (pc := 283) W203 at_283 (by decide) (by decide) (by first | exact (teq rfl).1 | exact (teq rfl).2 | exact (flt (by simp)).1 | exact (flt (by simp)).2.1 | exact (flt (by simp)).2.2.1 | exact (flt (by simp)).2.2.2) ?_
      refine g_iload (pc := 288) W203 at_288 rfl ?_
      refine g_iconst (pc := 290) (1 : Int32) (by decide) W203 at_290 ?_
      refine g_icmpN (pc := 291) W203 at_291 (by decide) ?_
      refine g_aload (pc := 294) W203 at_294 rfl rfl ?_
      refine g_iconst (pc := 296) (1 : Int32) (by decide) W203 at_296 ?_
      refine g_iaload (pc := 297) (i := 2) (v := .int (ex1 hi x0 x1 x2)) W203 rfl (by decide) rfl at_297 ?_
      refine g_aload (pc := 298) W203 at_298 rfl rfl ?_
      refine g_iconst (pc := 300) (1 : Int32) (by decide) W203 at_300 ?_
      refine g_laload (pc := 301) (i := 0) (v := .long hi) W203 rfl (by decide) rfl at_301 ?_
      refine g_lload (pc := 302) W203 at_302 rfl ?_
      refine g_lload (pc := 304) W203 at_304 rfl ?_
      refine g_lload (pc := 306) W203 at_306 rfl ?_
      refine g_iload (pc := 308) W203 at_308 rfl ?_
      refine g_static (pc := 310) (Wt := 1) (argsL := [.long hi, .long x0, .long x1, .long x2, .int (1 : Int32)]) (rest := [.int (ex1 hi x0 x1 x2)]) (loc := []) (rst := [(b189, (.array .long), [.long lo, .long hi]), (b183, (.array .long), [.long x0]), (b197, (.array .int), [.int (ex1 lo x0 x1 x2), .int (ex1 hi x0 x1 x2)])]) W203 (hw _ (List.mem_of_getElem? (i := 17) rfl)) (hw _ (List.mem_of_getElem? (i := 18) rfl)) (hw _ (List.mem_of_getElem? (i := 9) rfl)) (hw _ (List.mem_of_getElem? (i := 19) rfl)) (by decide) (c_exp1 l Z a0 hw hi x0 x1 x2) Spl.none rfl pd_JJJJI__I rfl rfl rfl (Nat.le_of_ble_eq_true rfl) (by decide) (by decide) (by decide) (by decide) at_310 ?_
      rintro T204 _ _ ⟨rfl, rfl⟩ W205
      have W206 := W205.re (os' := [(b189, (.array .long), [.long lo, .long hi]), (b183, (.array .long), [.long x0]), (b197, (.array .int), [.int (ex1 lo x0 x1 x2), .int (ex1 hi x0 x1 x2)])]) rfl
      show Go p_ e_ bl_ _ (T204.setTop (mkF m_ 313 #[.val (.long p0), .second, .val (.long p1), .second, .val (.long p2), .second, .val (.long p3), .second, .val (.long p4), .second, .val (.int p5), .val (.long x0), .second, .val (.long x1), .second, .val (.long x2), .second, .val (.int (1 : Int32)), .val (.int (2 : Int32)), .val (.long y0), .second, .val (.long y1), .second, .val (.long lo), .second, .val (.long hi), .second, .val (.ref b183), .val (.ref b189), .val (.ref b197)] [.int (ex1 hi x0 x1 x2), .int (ex1 hi x0 x1 x2)]))
      refine g_icmpY 318 (pc := 313) W206 at_313 (by decide) (by decide) (by first | exact (teq rfl).1 | exact (teq rfl).2 | exact (flt (by simp)).1 | exact (flt (by simp)).2.1 | exact (flt (by simp)).2.2.1 | exact (flt (by simp)).2.2.2) ?_
      refine g_iconst (pc := 318) (1 : Int32) (by decide) W206 at_318 ?_
      exact g_zreturn (pc := 319) rfl (by decide) W206 at_319 (by decide) (by decide) rfl
    · refine g_iconst (pc := 161) (1 : Int32) (by decide) W181 at_161 ?_
      exact g_zreturn (pc := 162) rfl (by decide) W181 at_162 (by decide) (by decide) rfl
  · rw [hm, hn]
    refine g_iload (pc := 63) W24 at_63 rfl ?_
    refine g_iconst (pc := 65) (1 : Int32) (by decide) W24 at_65 ?_
    refine g_icmpN (pc := 66) W24 at_66 (by decide) ?_
    refine g_lload (pc := 69) W24 at_69 rfl ?_
    refine g_lload (pc := 71) W24 at_71 rfl ?_
    refine g_lcmp (pc := 73) W24 at_73 ?_
    refine g_if_eq 91 (pc := 74) W24 at_74 (by decide) (by decide) (fun c207 => ?_) (fun c207 => ?_)
    · refine g_iconst (pc := 91) (1 : Int32) (by decide) W24 at_91 ?_
      exact g_zreturn (pc := 92) rfl (by decide) W24 at_92 (by decide) (by decide) rfl
    · refine g_iload (pc := 77) W24 at_77 rfl ?_
      refine g_iconst (pc := 79) (2 : Int32) (by decide) W24 at_79 ?_
      refine g_icmpY 93 (pc := 80) W24 at_80 (by decide) (by decide) (by decide) ?_
      refine g_lload (pc := 93) W24 at_93 rfl ?_
      refine g_iload (pc := 95) W24 at_95 rfl ?_
      refine g_iconst (pc := 97) (3 : Int32) (by decide) W24 at_97 ?_
      refine g_iand (pc := 98) W24 at_98 ?_
      refine g_lload (pc := 99) W24 at_99 rfl ?_
      refine g_lload (pc := 101) W24 at_101 rfl ?_
      refine g_lload (pc := 103) W24 at_103 rfl ?_
      refine g_static (pc := 105) (Wt := 0) (argsL := [.long p3, .int (p5 &&& (3 : Int32)), .long x0, .long x1, .long x2]) (rest := []) (loc := []) (rst := []) W24 (hw _ (List.mem_of_getElem? (i := 7) rfl)) (hw _ (List.mem_of_getElem? (i := 8) rfl)) (hw _ (List.mem_of_getElem? (i := 9) rfl)) (hw _ (List.mem_of_getElem? (i := 10) rfl)) (by decide) (c_pck l Z a0 hw p3 (p5 &&& (3 : Int32)) x0 x1 x2) Spl.none rfl pd_JIJJJ__J rfl rfl rfl (Nat.le_of_ble_eq_true rfl) (by decide) (by decide) (by decide) (by decide) at_105 ?_
      rintro T208 _ _ ⟨rfl, rfl⟩ W209
      have W210 := W209.re (os' := []) rfl
      show Go p_ e_ bl_ _ (T208.setTop (mkF m_ 108 #[.val (.long p0), .second, .val (.long p1), .second, .val (.long p2), .second, .val (.long p3), .second, .val (.long p4), .second, .val (.int p5), .val (.long x0), .second, .val (.long x1), .second, .val (.long x2), .second, .val (.int (2 : Int32)), .val (.int (0 : Int32)), .unset, .unset, .unset, .unset, .unset, .unset, .unset, .unset, .unset, .unset, .unset] [.long (pck p3 (p5 &&& (3 : Int32)) x0 x1 x2)]))
      refine g_lstore (pc := 108) (ls' := #[.val (.long p0), .second, .val (.long p1), .second, .val (.long p2), .second, .val (.long p3), .second, .val (.long p4), .second, .val (.int p5), .val (.long x0), .second, .val (.long x1), .second, .val (.long x2), .second, .val (.int (2 : Int32)), .val (.int (0 : Int32)), .val (.long (pck p3 (p5 &&& (3 : Int32)) x0 x1 x2)), .second, .unset, .unset, .unset, .unset, .unset, .unset, .unset, .unset, .unset]) W210 at_108 rfl ?_
      refine g_lload (pc := 110) W210 at_110 rfl ?_
      refine g_iload (pc := 112) W210 at_112 rfl ?_
      refine g_iconst (pc := 114) (2 : Int32) (by decide) W210 at_114 ?_
      refine g_iushr (pc := 115) W210 at_115 ?_
      refine g_iconst (pc := 116) (3 : Int32) (by decide) W210 at_116 ?_
      refine g_iand (pc := 117) W210 at_117 ?_
      refine g_lload (pc := 118) W210 at_118 rfl ?_
      refine g_lload (pc := 120) W210 at_120 rfl ?_
      refine g_lload (pc := 122) W210 at_122 rfl ?_
      refine g_static (pc := 124) (Wt := 0) (argsL := [.long p4, .int ((XT.ushr p5 (2 : Int32)) &&& (3 : Int32)), .long x0, .long x1, .long x2]) (rest := []) (loc := []) (rst := []) W210 (hw _ (List.mem_of_getElem? (i := 7) rfl)) (hw _ (List.mem_of_getElem? (i := 8) rfl)) (hw _ (List.mem_of_getElem? (i := 9) rfl)) (hw _ (List.mem_of_getElem? (i := 10) rfl)) (by decide) (c_pck l Z a0 hw p4 ((XT.ushr p5 (2 : Int32)) &&& (3 : Int32)) x0 x1 x2) Spl.none rfl pd_JIJJJ__J rfl rfl rfl (Nat.le_of_ble_eq_true rfl) (by decide) (by decide) (by decide) (by decide) at_124 ?_
      rintro T211 _ _ ⟨rfl, rfl⟩ W212
      have W213 := W212.re (os' := []) rfl
      show Go p_ e_ bl_ _ (T211.setTop (mkF m_ 127 #[.val (.long p0), .second, .val (.long p1), .second, .val (.long p2), .second, .val (.long p3), .second, .val (.long p4), .second, .val (.int p5), .val (.long x0), .second, .val (.long x1), .second, .val (.long x2), .second, .val (.int (2 : Int32)), .val (.int (0 : Int32)), .val (.long (pck p3 (p5 &&& (3 : Int32)) x0 x1 x2)), .second, .unset, .unset, .unset, .unset, .unset, .unset, .unset, .unset, .unset] [.long (pck p4 ((XT.ushr p5 (2 : Int32)) &&& (3 : Int32)) x0 x1 x2)]))
      refine g_lstore (pc := 127) (ls' := #[.val (.long p0), .second, .val (.long p1), .second, .val (.long p2), .second, .val (.long p3), .second, .val (.long p4), .second, .val (.int p5), .val (.long x0), .second, .val (.long x1), .second, .val (.long x2), .second, .val (.int (2 : Int32)), .val (.int (0 : Int32)), .val (.long (pck p3 (p5 &&& (3 : Int32)) x0 x1 x2)), .second, .val (.long (pck p4 ((XT.ushr p5 (2 : Int32)) &&& (3 : Int32)) x0 x1 x2)), .second, .unset, .unset, .unset, .unset, .unset, .unset, .unset]) W213 at_127 rfl ?_
      generalize (pck p3 (p5 &&& (3 : Int32)) x0 x1 x2) = y0
      generalize (pck p4 ((XT.ushr p5 (2 : Int32)) &&& (3 : Int32)) x0 x1 x2) = y1
      refine g_lload (pc := 129) W213 at_129 rfl ?_
      refine g_lload (pc := 131) W213 at_131 rfl ?_
      refine g_static (pc := 133) (Wt := 0) (argsL := [.long y0, .long y1]) (rest := []) (loc := []) (rst := []) W213 (hw _ (List.mem_of_getElem? (i := 0) rfl)) (hw _ (List.mem_of_getElem? (i := 1) rfl)) (hw _ (List.mem_of_getElem? (i := 2) rfl)) (hw _ (List.mem_of_getElem? (i := 3) rfl)) (by decide) (c_min l Z a0 hw y0 y1) Spl.none rfl pd_JJ__J rfl rfl rfl (Nat.le_of_ble_eq_true rfl) (by decide) (by decide) (by decide) (by decide) at_133 ?_
      rintro T214 _ _ ⟨rfl, rfl⟩ W215
      have W216 := W215.re (os' := []) rfl
      show Go p_ e_ bl_ _ (T214.setTop (mkF m_ 136 #[.val (.long p0), .second, .val (.long p1), .second, .val (.long p2), .second, .val (.long p3), .second, .val (.long p4), .second, .val (.int p5), .val (.long x0), .second, .val (.long x1), .second, .val (.long x2), .second, .val (.int (2 : Int32)), .val (.int (0 : Int32)), .val (.long y0), .second, .val (.long y1), .second, .unset, .unset, .unset, .unset, .unset, .unset, .unset] [.long (mnL y0 y1)]))
      refine g_lstore (pc := 136) (ls' := #[.val (.long p0), .second, .val (.long p1), .second, .val (.long p2), .second, .val (.long p3), .second, .val (.long p4), .second, .val (.int p5), .val (.long x0), .second, .val (.long x1), .second, .val (.long x2), .second, .val (.int (2 : Int32)), .val (.int (0 : Int32)), .val (.long y0), .second, .val (.long y1), .second, .val (.long (mnL y0 y1)), .second, .unset, .unset, .unset, .unset, .unset]) W216 at_136 rfl ?_
      refine g_lload (pc := 138) W216 at_138 rfl ?_
      refine g_lload (pc := 140) W216 at_140 rfl ?_
      refine g_static (pc := 142) (Wt := 0) (argsL := [.long y0, .long y1]) (rest := []) (loc := []) (rst := []) W216 (hw _ (List.mem_of_getElem? (i := 4) rfl)) (hw _ (List.mem_of_getElem? (i := 5) rfl)) (hw _ (List.mem_of_getElem? (i := 2) rfl)) (hw _ (List.mem_of_getElem? (i := 6) rfl)) (by decide) (c_max l Z a0 hw y0 y1) Spl.none rfl pd_JJ__J rfl rfl rfl (Nat.le_of_ble_eq_true rfl) (by decide) (by decide) (by decide) (by decide) at_142 ?_
      rintro T217 _ _ ⟨rfl, rfl⟩ W218
      have W219 := W218.re (os' := []) rfl
      show Go p_ e_ bl_ _ (T217.setTop (mkF m_ 145 #[.val (.long p0), .second, .val (.long p1), .second, .val (.long p2), .second, .val (.long p3), .second, .val (.long p4), .second, .val (.int p5), .val (.long x0), .second, .val (.long x1), .second, .val (.long x2), .second, .val (.int (2 : Int32)), .val (.int (0 : Int32)), .val (.long y0), .second, .val (.long y1), .second, .val (.long (mnL y0 y1)), .second, .unset, .unset, .unset, .unset, .unset] [.long (mxL y0 y1)]))
      refine g_lstore (pc := 145) (ls' := #[.val (.long p0), .second, .val (.long p1), .second, .val (.long p2), .second, .val (.long p3), .second, .val (.long p4), .second, .val (.int p5), .val (.long x0), .second, .val (.long x1), .second, .val (.long x2), .second, .val (.int (2 : Int32)), .val (.int (0 : Int32)), .val (.long y0), .second, .val (.long y1), .second, .val (.long (mnL y0 y1)), .second, .val (.long (mxL y0 y1)), .second, .unset, .unset, .unset]) W219 at_145 rfl ?_
      have hl := own_lohi y0 y1
      generalize (mnL y0 y1) = lo at hl ⊢
      generalize (mxL y0 y1) = hi at hl ⊢
      refine g_iload (pc := 147) W219 at_147 rfl ?_
      refine g_iconst (pc := 149) (2 : Int32) (by decide) W219 at_149 ?_
      refine g_icmpY 163 (pc := 150) W219 at_150 (by decide) (by decide) (by decide) ?_
      have hx01 : x0.toInt < x1.toInt := by rw [cl_eq, ← Int64.toInt_inj] at c207; have := hs.1; omega
      refine g_iload (pc := 163) W219 at_163 rfl ?_
      refine g_newarray (pc := 165) (ty := .long) (vs := [.long (0 : Int64), .long (0 : Int64)]) 2 W219 (hw _ (List.mem_of_getElem? (i := 11) rfl)) rfl (by decide) (by decide) (by decide) rfl at_165 (by decide) (by decide) (fun T221 b220 W222 => ?_)
      have W223 := W222.re (os' := [(b220, (.array .long), [.long (0 : Int64), .long (0 : Int64)])]) rfl
      refine g_astore (pc := 167) (ls' := #[.val (.long p0), .second, .val (.long p1), .second, .val (.long p2), .second, .val (.long p3), .second, .val (.long p4), .second, .val (.int p5), .val (.long x0), .second, .val (.long x1), .second, .val (.long x2), .second, .val (.int (2 : Int32)), .val (.int (0 : Int32)), .val (.long y0), .second, .val (.long y1), .second, .val (.long lo), .second, .val (.long hi), .second, .val (.ref b220), .unset, .unset]) W223 at_167 rfl rfl ?_
      refine g_iload (pc := 169) W223 at_169 rfl ?_
      refine g_ifN (pc := 171) W223 at_171 (by decide) ?_
      refine g_aload (pc := 174) W223 at_174 rfl rfl ?_
      refine g_iconst (pc := 176) (0 : Int32) (by decide) W223 at_176 ?_
      refine g_lload (pc := 177) W223 at_177 rfl ?_
      refine g_lastore (pc := 179) (i := 0) (os' := [(b220, (.array .long), [.long x0, .long (0 : Int64)])]) 0 W223 rfl (by decide) (by decide) (Nat.le_of_ble_eq_true rfl) rfl at_179 (fun T224 W225 => ?_)
      refine g_iload (pc := 180) W225 at_180 rfl ?_
      refine g_iconst (pc := 182) (1 : Int32) (by decide) W225 at_182 ?_
      refine g_icmpN (pc := 183) W225 at_183 (by decide) ?_
      refine g_aload (pc := 186) W225 at_186 rfl rfl ?_
      refine g_iconst (pc := 188) (1 : Int32) (by decide) W225 at_188 ?_
      refine g_lload (pc := 189) W225 at_189 rfl ?_
      refine g_lastore (pc := 191) (i := 0) (os' := [(b220, (.array .long), [.long x0, .long x1])]) 1 W225 rfl (by decide) (by decide) (Nat.le_of_ble_eq_true rfl) rfl at_191 (fun T226 W227 => ?_)
      refine g_iload (pc := 192) W227 at_192 rfl ?_
      refine g_iconst (pc := 194) (2 : Int32) (by decide) W227 at_194 ?_
      refine g_icmpY 204 (pc := 195) W227 at_195 (by decide) (by decide) (by decide) ?_
      refine g_iload (pc := 204) W227 at_204 rfl ?_
      refine g_newarray (pc := 206) (ty := .long) (vs := []) 0 W227 (hw _ (List.mem_of_getElem? (i := 11) rfl)) rfl (by decide) (by decide) (by decide) rfl at_206 (by decide) (by decide) (fun T229 b228 W230 => ?_)
      have W231 := W230.re (os' := [(b220, (.array .long), [.long x0, .long x1]), (b228, (.array .long), [])]) rfl
      refine g_astore (pc := 208) (ls' := #[.val (.long p0), .second, .val (.long p1), .second, .val (.long p2), .second, .val (.long p3), .second, .val (.long p4), .second, .val (.int p5), .val (.long x0), .second, .val (.long x1), .second, .val (.long x2), .second, .val (.int (2 : Int32)), .val (.int (0 : Int32)), .val (.long y0), .second, .val (.long y1), .second, .val (.long lo), .second, .val (.long hi), .second, .val (.ref b220), .val (.ref b228), .unset]) W231 at_208 rfl rfl ?_
      refine g_iload (pc := 210) W231 at_210 rfl ?_
      refine g_iconst (pc := 212) (1 : Int32) (by decide) W231 at_212 ?_
      refine g_icmpY 222 (pc := 213) W231 at_213 (by decide) (by decide) (by decide) ?_
      refine g_iload (pc := 222) W231 at_222 rfl ?_
      refine g_iconst (pc := 224) (2 : Int32) (by decide) W231 at_224 ?_
      refine g_icmpY 240 (pc := 225) W231 at_225 (by decide) (by decide) (by decide) ?_
      refine g_aload (pc := 240) W231 at_240 rfl rfl ?_
      refine g_aload (pc := 242) W231 at_242 rfl rfl ?_
      refine g_static (pc := 244) (Wt := 0) (argsL := [.ref b228, .ref b220]) (rest := []) (loc := [(b228, (.array .long), []), (b220, (.array .long), [.long x0, .long x1])]) (rst := []) W231 (hw _ (List.mem_of_getElem? (i := 12) rfl)) (hw _ (List.mem_of_getElem? (i := 13) rfl)) (hw _ (List.mem_of_getElem? (i := 14) rfl)) (hw _ (List.mem_of_getElem? (i := 15) rfl)) (by decide) (c_pos02 l Z a0 hw b228 b220 x0 x1 x2 hx01) ⟨[1, 0], by decide, rfl⟩ rfl pd_AJAJ__AI rfl rfl rfl (Nat.le_of_ble_eq_true rfl) (by decide) (by decide) (by decide) (by decide) at_244 ?_
      rintro T233 _ _ ⟨b232, rfl, rfl⟩ W234
      have W235 := W234.re (os' := [(b228, (.array .long), []), (b220, (.array .long), [.long x0, .long x1]), (b232, (.array .int), [])]) rfl
      show Go p_ e_ bl_ _ (T233.setTop (mkF m_ 247 #[.val (.long p0), .second, .val (.long p1), .second, .val (.long p2), .second, .val (.long p3), .second, .val (.long p4), .second, .val (.int p5), .val (.long x0), .second, .val (.long x1), .second, .val (.long x2), .second, .val (.int (2 : Int32)), .val (.int (0 : Int32)), .val (.long y0), .second, .val (.long y1), .second, .val (.long lo), .second, .val (.long hi), .second, .val (.ref b220), .val (.ref b228), .unset] [.ref b232]))
      refine g_astore (pc := 247) (ls' := #[.val (.long p0), .second, .val (.long p1), .second, .val (.long p2), .second, .val (.long p3), .second, .val (.long p4), .second, .val (.int p5), .val (.long x0), .second, .val (.long x1), .second, .val (.long x2), .second, .val (.int (2 : Int32)), .val (.int (0 : Int32)), .val (.long y0), .second, .val (.long y1), .second, .val (.long lo), .second, .val (.long hi), .second, .val (.ref b220), .val (.ref b228), .val (.ref b232)]) W235 at_247 rfl rfl ?_
      refine g_aload (pc := 249) W235 at_249 rfl rfl ?_
      refine g_arraylength (pc := 251) (i := 2) (0 : Int32) W235 rfl rfl at_251 ?_
      refine g_iload (pc := 252) W235 at_252 rfl ?_
      refine g_icmpY 259 (pc := 254) W235 at_254 (by decide) (by decide) (by decide) ?_
      refine g_iload (pc := 259) W235 at_259 rfl ?_
      refine g_ifY 288 (pc := 261) W235 at_261 (by decide) (by decide) (by decide) ?_
      refine g_iload (pc := 288) W235 at_288 rfl ?_
      refine g_iconst (pc := 290) (1 : Int32) (by decide) W235 at_290 ?_
      refine g_icmpY 318 (pc := 291) W235 at_291 (by decide) (by decide) (by decide) ?_
      refine g_iconst (pc := 318) (1 : Int32) (by decide) W235 at_318 ?_
      exact g_zreturn (pc := 319) rfl (by decide) W235 at_319 (by decide) (by decide) rfl
  · rw [hm, hn]
    refine g_iload (pc := 63) W24 at_63 rfl ?_
    refine g_iconst (pc := 65) (1 : Int32) (by decide) W24 at_65 ?_
    refine g_icmpN (pc := 66) W24 at_66 (by decide) ?_
    refine g_lload (pc := 69) W24 at_69 rfl ?_
    refine g_lload (pc := 71) W24 at_71 rfl ?_
    refine g_lcmp (pc := 73) W24 at_73 ?_
    refine g_if_eq 91 (pc := 74) W24 at_74 (by decide) (by decide) (fun c236 => ?_) (fun c236 => ?_)
    · refine g_iconst (pc := 91) (1 : Int32) (by decide) W24 at_91 ?_
      exact g_zreturn (pc := 92) rfl (by decide) W24 at_92 (by decide) (by decide) rfl
    · refine g_iload (pc := 77) W24 at_77 rfl ?_
      refine g_iconst (pc := 79) (2 : Int32) (by decide) W24 at_79 ?_
      refine g_icmpY 93 (pc := 80) W24 at_80 (by decide) (by decide) (by decide) ?_
      refine g_lload (pc := 93) W24 at_93 rfl ?_
      refine g_iload (pc := 95) W24 at_95 rfl ?_
      refine g_iconst (pc := 97) (3 : Int32) (by decide) W24 at_97 ?_
      refine g_iand (pc := 98) W24 at_98 ?_
      refine g_lload (pc := 99) W24 at_99 rfl ?_
      refine g_lload (pc := 101) W24 at_101 rfl ?_
      refine g_lload (pc := 103) W24 at_103 rfl ?_
      refine g_static (pc := 105) (Wt := 0) (argsL := [.long p3, .int (p5 &&& (3 : Int32)), .long x0, .long x1, .long x2]) (rest := []) (loc := []) (rst := []) W24 (hw _ (List.mem_of_getElem? (i := 7) rfl)) (hw _ (List.mem_of_getElem? (i := 8) rfl)) (hw _ (List.mem_of_getElem? (i := 9) rfl)) (hw _ (List.mem_of_getElem? (i := 10) rfl)) (by decide) (c_pck l Z a0 hw p3 (p5 &&& (3 : Int32)) x0 x1 x2) Spl.none rfl pd_JIJJJ__J rfl rfl rfl (Nat.le_of_ble_eq_true rfl) (by decide) (by decide) (by decide) (by decide) at_105 ?_
      rintro T237 _ _ ⟨rfl, rfl⟩ W238
      have W239 := W238.re (os' := []) rfl
      show Go p_ e_ bl_ _ (T237.setTop (mkF m_ 108 #[.val (.long p0), .second, .val (.long p1), .second, .val (.long p2), .second, .val (.long p3), .second, .val (.long p4), .second, .val (.int p5), .val (.long x0), .second, .val (.long x1), .second, .val (.long x2), .second, .val (.int (2 : Int32)), .val (.int (1 : Int32)), .unset, .unset, .unset, .unset, .unset, .unset, .unset, .unset, .unset, .unset, .unset] [.long (pck p3 (p5 &&& (3 : Int32)) x0 x1 x2)]))
      refine g_lstore (pc := 108) (ls' := #[.val (.long p0), .second, .val (.long p1), .second, .val (.long p2), .second, .val (.long p3), .second, .val (.long p4), .second, .val (.int p5), .val (.long x0), .second, .val (.long x1), .second, .val (.long x2), .second, .val (.int (2 : Int32)), .val (.int (1 : Int32)), .val (.long (pck p3 (p5 &&& (3 : Int32)) x0 x1 x2)), .second, .unset, .unset, .unset, .unset, .unset, .unset, .unset, .unset, .unset]) W239 at_108 rfl ?_
      refine g_lload (pc := 110) W239 at_110 rfl ?_
      refine g_iload (pc := 112) W239 at_112 rfl ?_
      refine g_iconst (pc := 114) (2 : Int32) (by decide) W239 at_114 ?_
      refine g_iushr (pc := 115) W239 at_115 ?_
      refine g_iconst (pc := 116) (3 : Int32) (by decide) W239 at_116 ?_
      refine g_iand (pc := 117) W239 at_117 ?_
      refine g_lload (pc := 118) W239 at_118 rfl ?_
      refine g_lload (pc := 120) W239 at_120 rfl ?_
      refine g_lload (pc := 122) W239 at_122 rfl ?_
      refine g_static (pc := 124) (Wt := 0) (argsL := [.long p4, .int ((XT.ushr p5 (2 : Int32)) &&& (3 : Int32)), .long x0, .long x1, .long x2]) (rest := []) (loc := []) (rst := []) W239 (hw _ (List.mem_of_getElem? (i := 7) rfl)) (hw _ (List.mem_of_getElem? (i := 8) rfl)) (hw _ (List.mem_of_getElem? (i := 9) rfl)) (hw _ (List.mem_of_getElem? (i := 10) rfl)) (by decide) (c_pck l Z a0 hw p4 ((XT.ushr p5 (2 : Int32)) &&& (3 : Int32)) x0 x1 x2) Spl.none rfl pd_JIJJJ__J rfl rfl rfl (Nat.le_of_ble_eq_true rfl) (by decide) (by decide) (by decide) (by decide) at_124 ?_
      rintro T240 _ _ ⟨rfl, rfl⟩ W241
      have W242 := W241.re (os' := []) rfl
      show Go p_ e_ bl_ _ (T240.setTop (mkF m_ 127 #[.val (.long p0), .second, .val (.long p1), .second, .val (.long p2), .second, .val (.long p3), .second, .val (.long p4), .second, .val (.int p5), .val (.long x0), .second, .val (.long x1), .second, .val (.long x2), .second, .val (.int (2 : Int32)), .val (.int (1 : Int32)), .val (.long (pck p3 (p5 &&& (3 : Int32)) x0 x1 x2)), .second, .unset, .unset, .unset, .unset, .unset, .unset, .unset, .unset, .unset] [.long (pck p4 ((XT.ushr p5 (2 : Int32)) &&& (3 : Int32)) x0 x1 x2)]))
      refine g_lstore (pc := 127) (ls' := #[.val (.long p0), .second, .val (.long p1), .second, .val (.long p2), .second, .val (.long p3), .second, .val (.long p4), .second, .val (.int p5), .val (.long x0), .second, .val (.long x1), .second, .val (.long x2), .second, .val (.int (2 : Int32)), .val (.int (1 : Int32)), .val (.long (pck p3 (p5 &&& (3 : Int32)) x0 x1 x2)), .second, .val (.long (pck p4 ((XT.ushr p5 (2 : Int32)) &&& (3 : Int32)) x0 x1 x2)), .second, .unset, .unset, .unset, .unset, .unset, .unset, .unset]) W242 at_127 rfl ?_
      generalize (pck p3 (p5 &&& (3 : Int32)) x0 x1 x2) = y0
      generalize (pck p4 ((XT.ushr p5 (2 : Int32)) &&& (3 : Int32)) x0 x1 x2) = y1
      refine g_lload (pc := 129) W242 at_129 rfl ?_
      refine g_lload (pc := 131) W242 at_131 rfl ?_
      refine g_static (pc := 133) (Wt := 0) (argsL := [.long y0, .long y1]) (rest := []) (loc := []) (rst := []) W242 (hw _ (List.mem_of_getElem? (i := 0) rfl)) (hw _ (List.mem_of_getElem? (i := 1) rfl)) (hw _ (List.mem_of_getElem? (i := 2) rfl)) (hw _ (List.mem_of_getElem? (i := 3) rfl)) (by decide) (c_min l Z a0 hw y0 y1) Spl.none rfl pd_JJ__J rfl rfl rfl (Nat.le_of_ble_eq_true rfl) (by decide) (by decide) (by decide) (by decide) at_133 ?_
      rintro T243 _ _ ⟨rfl, rfl⟩ W244
      have W245 := W244.re (os' := []) rfl
      show Go p_ e_ bl_ _ (T243.setTop (mkF m_ 136 #[.val (.long p0), .second, .val (.long p1), .second, .val (.long p2), .second, .val (.long p3), .second, .val (.long p4), .second, .val (.int p5), .val (.long x0), .second, .val (.long x1), .second, .val (.long x2), .second, .val (.int (2 : Int32)), .val (.int (1 : Int32)), .val (.long y0), .second, .val (.long y1), .second, .unset, .unset, .unset, .unset, .unset, .unset, .unset] [.long (mnL y0 y1)]))
      refine g_lstore (pc := 136) (ls' := #[.val (.long p0), .second, .val (.long p1), .second, .val (.long p2), .second, .val (.long p3), .second, .val (.long p4), .second, .val (.int p5), .val (.long x0), .second, .val (.long x1), .second, .val (.long x2), .second, .val (.int (2 : Int32)), .val (.int (1 : Int32)), .val (.long y0), .second, .val (.long y1), .second, .val (.long (mnL y0 y1)), .second, .unset, .unset, .unset, .unset, .unset]) W245 at_136 rfl ?_
      refine g_lload (pc := 138) W245 at_138 rfl ?_
      refine g_lload (pc := 140) W245 at_140 rfl ?_
      refine g_static (pc := 142) (Wt := 0) (argsL := [.long y0, .long y1]) (rest := []) (loc := []) (rst := []) W245 (hw _ (List.mem_of_getElem? (i := 4) rfl)) (hw _ (List.mem_of_getElem? (i := 5) rfl)) (hw _ (List.mem_of_getElem? (i := 2) rfl)) (hw _ (List.mem_of_getElem? (i := 6) rfl)) (by decide) (c_max l Z a0 hw y0 y1) Spl.none rfl pd_JJ__J rfl rfl rfl (Nat.le_of_ble_eq_true rfl) (by decide) (by decide) (by decide) (by decide) at_142 ?_
      rintro T246 _ _ ⟨rfl, rfl⟩ W247
      have W248 := W247.re (os' := []) rfl
      show Go p_ e_ bl_ _ (T246.setTop (mkF m_ 145 #[.val (.long p0), .second, .val (.long p1), .second, .val (.long p2), .second, .val (.long p3), .second, .val (.long p4), .second, .val (.int p5), .val (.long x0), .second, .val (.long x1), .second, .val (.long x2), .second, .val (.int (2 : Int32)), .val (.int (1 : Int32)), .val (.long y0), .second, .val (.long y1), .second, .val (.long (mnL y0 y1)), .second, .unset, .unset, .unset, .unset, .unset] [.long (mxL y0 y1)]))
      refine g_lstore (pc := 145) (ls' := #[.val (.long p0), .second, .val (.long p1), .second, .val (.long p2), .second, .val (.long p3), .second, .val (.long p4), .second, .val (.int p5), .val (.long x0), .second, .val (.long x1), .second, .val (.long x2), .second, .val (.int (2 : Int32)), .val (.int (1 : Int32)), .val (.long y0), .second, .val (.long y1), .second, .val (.long (mnL y0 y1)), .second, .val (.long (mxL y0 y1)), .second, .unset, .unset, .unset]) W248 at_145 rfl ?_
      have hl := own_lohi y0 y1
      generalize (mnL y0 y1) = lo at hl ⊢
      generalize (mxL y0 y1) = hi at hl ⊢
      refine g_iload (pc := 147) W248 at_147 rfl ?_
      refine g_iconst (pc := 149) (2 : Int32) (by decide) W248 at_149 ?_
      refine g_icmpY 163 (pc := 150) W248 at_150 (by decide) (by decide) (by decide) ?_
      have hx01 : x0.toInt < x1.toInt := by rw [cl_eq, ← Int64.toInt_inj] at c236; have := hs.1; omega
      refine g_iload (pc := 163) W248 at_163 rfl ?_
      refine g_newarray (pc := 165) (ty := .long) (vs := [.long (0 : Int64), .long (0 : Int64)]) 2 W248 (hw _ (List.mem_of_getElem? (i := 11) rfl)) rfl (by decide) (by decide) (by decide) rfl at_165 (by decide) (by decide) (fun T250 b249 W251 => ?_)
      have W252 := W251.re (os' := [(b249, (.array .long), [.long (0 : Int64), .long (0 : Int64)])]) rfl
      refine g_astore (pc := 167) (ls' := #[.val (.long p0), .second, .val (.long p1), .second, .val (.long p2), .second, .val (.long p3), .second, .val (.long p4), .second, .val (.int p5), .val (.long x0), .second, .val (.long x1), .second, .val (.long x2), .second, .val (.int (2 : Int32)), .val (.int (1 : Int32)), .val (.long y0), .second, .val (.long y1), .second, .val (.long lo), .second, .val (.long hi), .second, .val (.ref b249), .unset, .unset]) W252 at_167 rfl rfl ?_
      refine g_iload (pc := 169) W252 at_169 rfl ?_
      refine g_ifN (pc := 171) W252 at_171 (by decide) ?_
      refine g_aload (pc := 174) W252 at_174 rfl rfl ?_
      refine g_iconst (pc := 176) (0 : Int32) (by decide) W252 at_176 ?_
      refine g_lload (pc := 177) W252 at_177 rfl ?_
      refine g_lastore (pc := 179) (i := 0) (os' := [(b249, (.array .long), [.long x0, .long (0 : Int64)])]) 0 W252 rfl (by decide) (by decide) (Nat.le_of_ble_eq_true rfl) rfl at_179 (fun T253 W254 => ?_)
      refine g_iload (pc := 180) W254 at_180 rfl ?_
      refine g_iconst (pc := 182) (1 : Int32) (by decide) W254 at_182 ?_
      refine g_icmpN (pc := 183) W254 at_183 (by decide) ?_
      refine g_aload (pc := 186) W254 at_186 rfl rfl ?_
      refine g_iconst (pc := 188) (1 : Int32) (by decide) W254 at_188 ?_
      refine g_lload (pc := 189) W254 at_189 rfl ?_
      refine g_lastore (pc := 191) (i := 0) (os' := [(b249, (.array .long), [.long x0, .long x1])]) 1 W254 rfl (by decide) (by decide) (Nat.le_of_ble_eq_true rfl) rfl at_191 (fun T255 W256 => ?_)
      refine g_iload (pc := 192) W256 at_192 rfl ?_
      refine g_iconst (pc := 194) (2 : Int32) (by decide) W256 at_194 ?_
      refine g_icmpY 204 (pc := 195) W256 at_195 (by decide) (by decide) (by decide) ?_
      refine g_iload (pc := 204) W256 at_204 rfl ?_
      refine g_newarray (pc := 206) (ty := .long) (vs := [.long (0 : Int64)]) 1 W256 (hw _ (List.mem_of_getElem? (i := 11) rfl)) rfl (by decide) (by decide) (by decide) rfl at_206 (by decide) (by decide) (fun T258 b257 W259 => ?_)
      have W260 := W259.re (os' := [(b249, (.array .long), [.long x0, .long x1]), (b257, (.array .long), [.long (0 : Int64)])]) rfl
      refine g_astore (pc := 208) (ls' := #[.val (.long p0), .second, .val (.long p1), .second, .val (.long p2), .second, .val (.long p3), .second, .val (.long p4), .second, .val (.int p5), .val (.long x0), .second, .val (.long x1), .second, .val (.long x2), .second, .val (.int (2 : Int32)), .val (.int (1 : Int32)), .val (.long y0), .second, .val (.long y1), .second, .val (.long lo), .second, .val (.long hi), .second, .val (.ref b249), .val (.ref b257), .unset]) W260 at_208 rfl rfl ?_
      refine g_iload (pc := 210) W260 at_210 rfl ?_
      refine g_iconst (pc := 212) (1 : Int32) (by decide) W260 at_212 ?_
      refine g_icmpN (pc := 213) W260 at_213 (by decide) ?_
      refine g_aload (pc := 216) W260 at_216 rfl rfl ?_
      refine g_iconst (pc := 218) (0 : Int32) (by decide) W260 at_218 ?_
      refine g_lload (pc := 219) W260 at_219 rfl ?_
      refine g_lastore (pc := 221) (i := 1) (os' := [(b249, (.array .long), [.long x0, .long x1]), (b257, (.array .long), [.long y0])]) 0 W260 rfl (by decide) (by decide) (Nat.le_of_ble_eq_true rfl) rfl at_221 (fun T261 W262 => ?_)
      refine g_iload (pc := 222) W262 at_222 rfl ?_
      refine g_iconst (pc := 224) (2 : Int32) (by decide) W262 at_224 ?_
      refine g_icmpY 240 (pc := 225) W262 at_225 (by decide) (by decide) (by decide) ?_
      refine g_aload (pc := 240) W262 at_240 rfl rfl ?_
      refine g_aload (pc := 242) W262 at_242 rfl rfl ?_
      refine g_static (pc := 244) (Wt := 0) (argsL := [.ref b257, .ref b249]) (rest := []) (loc := [(b257, (.array .long), [.long y0]), (b249, (.array .long), [.long x0, .long x1])]) (rst := []) W262 (hw _ (List.mem_of_getElem? (i := 12) rfl)) (hw _ (List.mem_of_getElem? (i := 13) rfl)) (hw _ (List.mem_of_getElem? (i := 14) rfl)) (hw _ (List.mem_of_getElem? (i := 15) rfl)) (by decide) (c_pos12 l Z a0 hw b257 b249 y0 x0 x1 x2 hx01) ⟨[1, 0], by decide, rfl⟩ rfl pd_AJAJ__AI rfl rfl rfl (Nat.le_of_ble_eq_true rfl) (by decide) (by decide) (by decide) (by decide) at_244 ?_
      rintro T264 _ _ ⟨b263, rfl, rfl⟩ W265
      have W266 := W265.re (os' := [(b257, (.array .long), [.long y0]), (b249, (.array .long), [.long x0, .long x1]), (b263, (.array .int), [.int (ex2 y0 x0 x1 x2)])]) rfl
      show Go p_ e_ bl_ _ (T264.setTop (mkF m_ 247 #[.val (.long p0), .second, .val (.long p1), .second, .val (.long p2), .second, .val (.long p3), .second, .val (.long p4), .second, .val (.int p5), .val (.long x0), .second, .val (.long x1), .second, .val (.long x2), .second, .val (.int (2 : Int32)), .val (.int (1 : Int32)), .val (.long y0), .second, .val (.long y1), .second, .val (.long lo), .second, .val (.long hi), .second, .val (.ref b249), .val (.ref b257), .unset] [.ref b263]))
      refine g_astore (pc := 247) (ls' := #[.val (.long p0), .second, .val (.long p1), .second, .val (.long p2), .second, .val (.long p3), .second, .val (.long p4), .second, .val (.int p5), .val (.long x0), .second, .val (.long x1), .second, .val (.long x2), .second, .val (.int (2 : Int32)), .val (.int (1 : Int32)), .val (.long y0), .second, .val (.long y1), .second, .val (.long lo), .second, .val (.long hi), .second, .val (.ref b249), .val (.ref b257), .val (.ref b263)]) W266 at_247 rfl rfl ?_
      refine g_aload (pc := 249) W266 at_249 rfl rfl ?_
      refine g_arraylength (pc := 251) (i := 2) (1 : Int32) W266 rfl rfl at_251 ?_
      refine g_iload (pc := 252) W266 at_252 rfl ?_
      refine g_icmpY 259 (pc := 254) W266 at_254 (by decide) (by decide) (by decide) ?_
      refine g_iload (pc := 259) W266 at_259 rfl ?_
      refine g_ifN (pc := 261) W266 at_261 (by decide) ?_
      refine g_aload (pc := 264) W266 at_264 rfl rfl ?_
      refine g_iconst (pc := 266) (0 : Int32) (by decide) W266 at_266 ?_
      refine g_iaload (pc := 267) (i := 2) (v := .int (ex2 y0 x0 x1 x2)) W266 rfl (by decide) rfl at_267 ?_
      refine g_aload (pc := 268) W266 at_268 rfl rfl ?_
      refine g_iconst (pc := 270) (0 : Int32) (by decide) W266 at_270 ?_
      refine g_laload (pc := 271) (i := 0) (v := .long y0) W266 rfl (by decide) rfl at_271 ?_
      refine g_lload (pc := 272) W266 at_272 rfl ?_
      refine g_lload (pc := 274) W266 at_274 rfl ?_
      refine g_lload (pc := 276) W266 at_276 rfl ?_
      refine g_iload (pc := 278) W266 at_278 rfl ?_
      refine g_static (pc := 280) (Wt := 1) (argsL := [.long y0, .long x0, .long x1, .long x2, .int (2 : Int32)]) (rest := [.int (ex2 y0 x0 x1 x2)]) (loc := []) (rst := [(b257, (.array .long), [.long y0]), (b249, (.array .long), [.long x0, .long x1]), (b263, (.array .int), [.int (ex2 y0 x0 x1 x2)])]) W266 (hw _ (List.mem_of_getElem? (i := 17) rfl)) (hw _ (List.mem_of_getElem? (i := 18) rfl)) (hw _ (List.mem_of_getElem? (i := 9) rfl)) (hw _ (List.mem_of_getElem? (i := 19) rfl)) (by decide) (c_exp2 l Z a0 hw y0 x0 x1 x2) Spl.none rfl pd_JJJJI__I rfl rfl rfl (Nat.le_of_ble_eq_true rfl) (by decide) (by decide) (by decide) (by decide) at_280 ?_
      rintro T267 _ _ ⟨rfl, rfl⟩ W268
      have W269 := W268.re (os' := [(b257, (.array .long), [.long y0]), (b249, (.array .long), [.long x0, .long x1]), (b263, (.array .int), [.int (ex2 y0 x0 x1 x2)])]) rfl
      show Go p_ e_ bl_ _ (T267.setTop (mkF m_ 283 #[.val (.long p0), .second, .val (.long p1), .second, .val (.long p2), .second, .val (.long p3), .second, .val (.long p4), .second, .val (.int p5), .val (.long x0), .second, .val (.long x1), .second, .val (.long x2), .second, .val (.int (2 : Int32)), .val (.int (1 : Int32)), .val (.long y0), .second, .val (.long y1), .second, .val (.long lo), .second, .val (.long hi), .second, .val (.ref b249), .val (.ref b257), .val (.ref b263)] [.int (ex2 y0 x0 x1 x2), .int (ex2 y0 x0 x1 x2)]))
      refine g_icmpY 288 (pc := 283) W269 at_283 (by decide) (by decide) (by first | exact (teq rfl).1 | exact (teq rfl).2 | exact (flt (by simp)).1 | exact (flt (by simp)).2.1 | exact (flt (by simp)).2.2.1 | exact (flt (by simp)).2.2.2) ?_
      refine g_iload (pc := 288) W269 at_288 rfl ?_
      refine g_iconst (pc := 290) (1 : Int32) (by decide) W269 at_290 ?_
      refine g_icmpY 318 (pc := 291) W269 at_291 (by decide) (by decide) (by decide) ?_
      refine g_iconst (pc := 318) (1 : Int32) (by decide) W269 at_318 ?_
      exact g_zreturn (pc := 319) rfl (by decide) W269 at_319 (by decide) (by decide) rfl
  · rw [hm, hn]
    refine g_iload (pc := 63) W24 at_63 rfl ?_
    refine g_iconst (pc := 65) (1 : Int32) (by decide) W24 at_65 ?_
    refine g_icmpN (pc := 66) W24 at_66 (by decide) ?_
    refine g_lload (pc := 69) W24 at_69 rfl ?_
    refine g_lload (pc := 71) W24 at_71 rfl ?_
    refine g_lcmp (pc := 73) W24 at_73 ?_
    refine g_if_eq 91 (pc := 74) W24 at_74 (by decide) (by decide) (fun c270 => ?_) (fun c270 => ?_)
    · refine g_iconst (pc := 91) (1 : Int32) (by decide) W24 at_91 ?_
      exact g_zreturn (pc := 92) rfl (by decide) W24 at_92 (by decide) (by decide) rfl
    · refine g_iload (pc := 77) W24 at_77 rfl ?_
      refine g_iconst (pc := 79) (2 : Int32) (by decide) W24 at_79 ?_
      refine g_icmpY 93 (pc := 80) W24 at_80 (by decide) (by decide) (by decide) ?_
      refine g_lload (pc := 93) W24 at_93 rfl ?_
      refine g_iload (pc := 95) W24 at_95 rfl ?_
      refine g_iconst (pc := 97) (3 : Int32) (by decide) W24 at_97 ?_
      refine g_iand (pc := 98) W24 at_98 ?_
      refine g_lload (pc := 99) W24 at_99 rfl ?_
      refine g_lload (pc := 101) W24 at_101 rfl ?_
      refine g_lload (pc := 103) W24 at_103 rfl ?_
      refine g_static (pc := 105) (Wt := 0) (argsL := [.long p3, .int (p5 &&& (3 : Int32)), .long x0, .long x1, .long x2]) (rest := []) (loc := []) (rst := []) W24 (hw _ (List.mem_of_getElem? (i := 7) rfl)) (hw _ (List.mem_of_getElem? (i := 8) rfl)) (hw _ (List.mem_of_getElem? (i := 9) rfl)) (hw _ (List.mem_of_getElem? (i := 10) rfl)) (by decide) (c_pck l Z a0 hw p3 (p5 &&& (3 : Int32)) x0 x1 x2) Spl.none rfl pd_JIJJJ__J rfl rfl rfl (Nat.le_of_ble_eq_true rfl) (by decide) (by decide) (by decide) (by decide) at_105 ?_
      rintro T271 _ _ ⟨rfl, rfl⟩ W272
      have W273 := W272.re (os' := []) rfl
      show Go p_ e_ bl_ _ (T271.setTop (mkF m_ 108 #[.val (.long p0), .second, .val (.long p1), .second, .val (.long p2), .second, .val (.long p3), .second, .val (.long p4), .second, .val (.int p5), .val (.long x0), .second, .val (.long x1), .second, .val (.long x2), .second, .val (.int (2 : Int32)), .val (.int (2 : Int32)), .unset, .unset, .unset, .unset, .unset, .unset, .unset, .unset, .unset, .unset, .unset] [.long (pck p3 (p5 &&& (3 : Int32)) x0 x1 x2)]))
      refine g_lstore (pc := 108) (ls' := #[.val (.long p0), .second, .val (.long p1), .second, .val (.long p2), .second, .val (.long p3), .second, .val (.long p4), .second, .val (.int p5), .val (.long x0), .second, .val (.long x1), .second, .val (.long x2), .second, .val (.int (2 : Int32)), .val (.int (2 : Int32)), .val (.long (pck p3 (p5 &&& (3 : Int32)) x0 x1 x2)), .second, .unset, .unset, .unset, .unset, .unset, .unset, .unset, .unset, .unset]) W273 at_108 rfl ?_
      refine g_lload (pc := 110) W273 at_110 rfl ?_
      refine g_iload (pc := 112) W273 at_112 rfl ?_
      refine g_iconst (pc := 114) (2 : Int32) (by decide) W273 at_114 ?_
      refine g_iushr (pc := 115) W273 at_115 ?_
      refine g_iconst (pc := 116) (3 : Int32) (by decide) W273 at_116 ?_
      refine g_iand (pc := 117) W273 at_117 ?_
      refine g_lload (pc := 118) W273 at_118 rfl ?_
      refine g_lload (pc := 120) W273 at_120 rfl ?_
      refine g_lload (pc := 122) W273 at_122 rfl ?_
      refine g_static (pc := 124) (Wt := 0) (argsL := [.long p4, .int ((XT.ushr p5 (2 : Int32)) &&& (3 : Int32)), .long x0, .long x1, .long x2]) (rest := []) (loc := []) (rst := []) W273 (hw _ (List.mem_of_getElem? (i := 7) rfl)) (hw _ (List.mem_of_getElem? (i := 8) rfl)) (hw _ (List.mem_of_getElem? (i := 9) rfl)) (hw _ (List.mem_of_getElem? (i := 10) rfl)) (by decide) (c_pck l Z a0 hw p4 ((XT.ushr p5 (2 : Int32)) &&& (3 : Int32)) x0 x1 x2) Spl.none rfl pd_JIJJJ__J rfl rfl rfl (Nat.le_of_ble_eq_true rfl) (by decide) (by decide) (by decide) (by decide) at_124 ?_
      rintro T274 _ _ ⟨rfl, rfl⟩ W275
      have W276 := W275.re (os' := []) rfl
      show Go p_ e_ bl_ _ (T274.setTop (mkF m_ 127 #[.val (.long p0), .second, .val (.long p1), .second, .val (.long p2), .second, .val (.long p3), .second, .val (.long p4), .second, .val (.int p5), .val (.long x0), .second, .val (.long x1), .second, .val (.long x2), .second, .val (.int (2 : Int32)), .val (.int (2 : Int32)), .val (.long (pck p3 (p5 &&& (3 : Int32)) x0 x1 x2)), .second, .unset, .unset, .unset, .unset, .unset, .unset, .unset, .unset, .unset] [.long (pck p4 ((XT.ushr p5 (2 : Int32)) &&& (3 : Int32)) x0 x1 x2)]))
      refine g_lstore (pc := 127) (ls' := #[.val (.long p0), .second, .val (.long p1), .second, .val (.long p2), .second, .val (.long p3), .second, .val (.long p4), .second, .val (.int p5), .val (.long x0), .second, .val (.long x1), .second, .val (.long x2), .second, .val (.int (2 : Int32)), .val (.int (2 : Int32)), .val (.long (pck p3 (p5 &&& (3 : Int32)) x0 x1 x2)), .second, .val (.long (pck p4 ((XT.ushr p5 (2 : Int32)) &&& (3 : Int32)) x0 x1 x2)), .second, .unset, .unset, .unset, .unset, .unset, .unset, .unset]) W276 at_127 rfl ?_
      generalize (pck p3 (p5 &&& (3 : Int32)) x0 x1 x2) = y0
      generalize (pck p4 ((XT.ushr p5 (2 : Int32)) &&& (3 : Int32)) x0 x1 x2) = y1
      refine g_lload (pc := 129) W276 at_129 rfl ?_
      refine g_lload (pc := 131) W276 at_131 rfl ?_
      refine g_static (pc := 133) (Wt := 0) (argsL := [.long y0, .long y1]) (rest := []) (loc := []) (rst := []) W276 (hw _ (List.mem_of_getElem? (i := 0) rfl)) (hw _ (List.mem_of_getElem? (i := 1) rfl)) (hw _ (List.mem_of_getElem? (i := 2) rfl)) (hw _ (List.mem_of_getElem? (i := 3) rfl)) (by decide) (c_min l Z a0 hw y0 y1) Spl.none rfl pd_JJ__J rfl rfl rfl (Nat.le_of_ble_eq_true rfl) (by decide) (by decide) (by decide) (by decide) at_133 ?_
      rintro T277 _ _ ⟨rfl, rfl⟩ W278
      have W279 := W278.re (os' := []) rfl
      show Go p_ e_ bl_ _ (T277.setTop (mkF m_ 136 #[.val (.long p0), .second, .val (.long p1), .second, .val (.long p2), .second, .val (.long p3), .second, .val (.long p4), .second, .val (.int p5), .val (.long x0), .second, .val (.long x1), .second, .val (.long x2), .second, .val (.int (2 : Int32)), .val (.int (2 : Int32)), .val (.long y0), .second, .val (.long y1), .second, .unset, .unset, .unset, .unset, .unset, .unset, .unset] [.long (mnL y0 y1)]))
      refine g_lstore (pc := 136) (ls' := #[.val (.long p0), .second, .val (.long p1), .second, .val (.long p2), .second, .val (.long p3), .second, .val (.long p4), .second, .val (.int p5), .val (.long x0), .second, .val (.long x1), .second, .val (.long x2), .second, .val (.int (2 : Int32)), .val (.int (2 : Int32)), .val (.long y0), .second, .val (.long y1), .second, .val (.long (mnL y0 y1)), .second, .unset, .unset, .unset, .unset, .unset]) W279 at_136 rfl ?_
      refine g_lload (pc := 138) W279 at_138 rfl ?_
      refine g_lload (pc := 140) W279 at_140 rfl ?_
      refine g_static (pc := 142) (Wt := 0) (argsL := [.long y0, .long y1]) (rest := []) (loc := []) (rst := []) W279 (hw _ (List.mem_of_getElem? (i := 4) rfl)) (hw _ (List.mem_of_getElem? (i := 5) rfl)) (hw _ (List.mem_of_getElem? (i := 2) rfl)) (hw _ (List.mem_of_getElem? (i := 6) rfl)) (by decide) (c_max l Z a0 hw y0 y1) Spl.none rfl pd_JJ__J rfl rfl rfl (Nat.le_of_ble_eq_true rfl) (by decide) (by decide) (by decide) (by decide) at_142 ?_
      rintro T280 _ _ ⟨rfl, rfl⟩ W281
      have W282 := W281.re (os' := []) rfl
      show Go p_ e_ bl_ _ (T280.setTop (mkF m_ 145 #[.val (.long p0), .second, .val (.long p1), .second, .val (.long p2), .second, .val (.long p3), .second, .val (.long p4), .second, .val (.int p5), .val (.long x0), .second, .val (.long x1), .second, .val (.long x2), .second, .val (.int (2 : Int32)), .val (.int (2 : Int32)), .val (.long y0), .second, .val (.long y1), .second, .val (.long (mnL y0 y1)), .second, .unset, .unset, .unset, .unset, .unset] [.long (mxL y0 y1)]))
      refine g_lstore (pc := 145) (ls' := #[.val (.long p0), .second, .val (.long p1), .second, .val (.long p2), .second, .val (.long p3), .second, .val (.long p4), .second, .val (.int p5), .val (.long x0), .second, .val (.long x1), .second, .val (.long x2), .second, .val (.int (2 : Int32)), .val (.int (2 : Int32)), .val (.long y0), .second, .val (.long y1), .second, .val (.long (mnL y0 y1)), .second, .val (.long (mxL y0 y1)), .second, .unset, .unset, .unset]) W282 at_145 rfl ?_
      have hl := own_lohi y0 y1
      generalize (mnL y0 y1) = lo at hl ⊢
      generalize (mxL y0 y1) = hi at hl ⊢
      refine g_iload (pc := 147) W282 at_147 rfl ?_
      refine g_iconst (pc := 149) (2 : Int32) (by decide) W282 at_149 ?_
      refine g_icmpN (pc := 150) W282 at_150 (by decide) ?_
      refine g_lload (pc := 153) W282 at_153 rfl ?_
      refine g_lload (pc := 155) W282 at_155 rfl ?_
      refine g_lcmp (pc := 157) W282 at_157 ?_
      refine g_if_ne 163 (pc := 158) W282 at_158 (by decide) (by decide) (fun c283 => ?_) (fun c283 => ?_)
      · have hx01 : x0.toInt < x1.toInt := by rw [cl_eq, ← Int64.toInt_inj] at c270; have := hs.1; omega
        have hy01 : lo.toInt < hi.toInt := by rw [cl_eq, ← Int64.toInt_inj] at c283; have := hl; omega
        refine g_iload (pc := 163) W282 at_163 rfl ?_
        refine g_newarray (pc := 165) (ty := .long) (vs := [.long (0 : Int64), .long (0 : Int64)]) 2 W282 (hw _ (List.mem_of_getElem? (i := 11) rfl)) rfl (by decide) (by decide) (by decide) rfl at_165 (by decide) (by decide) (fun T285 b284 W286 => ?_)
        have W287 := W286.re (os' := [(b284, (.array .long), [.long (0 : Int64), .long (0 : Int64)])]) rfl
        refine g_astore (pc := 167) (ls' := #[.val (.long p0), .second, .val (.long p1), .second, .val (.long p2), .second, .val (.long p3), .second, .val (.long p4), .second, .val (.int p5), .val (.long x0), .second, .val (.long x1), .second, .val (.long x2), .second, .val (.int (2 : Int32)), .val (.int (2 : Int32)), .val (.long y0), .second, .val (.long y1), .second, .val (.long lo), .second, .val (.long hi), .second, .val (.ref b284), .unset, .unset]) W287 at_167 rfl rfl ?_
        refine g_iload (pc := 169) W287 at_169 rfl ?_
        refine g_ifN (pc := 171) W287 at_171 (by decide) ?_
        refine g_aload (pc := 174) W287 at_174 rfl rfl ?_
        refine g_iconst (pc := 176) (0 : Int32) (by decide) W287 at_176 ?_
        refine g_lload (pc := 177) W287 at_177 rfl ?_
        refine g_lastore (pc := 179) (i := 0) (os' := [(b284, (.array .long), [.long x0, .long (0 : Int64)])]) 0 W287 rfl (by decide) (by decide) (Nat.le_of_ble_eq_true rfl) rfl at_179 (fun T288 W289 => ?_)
        refine g_iload (pc := 180) W289 at_180 rfl ?_
        refine g_iconst (pc := 182) (1 : Int32) (by decide) W289 at_182 ?_
        refine g_icmpN (pc := 183) W289 at_183 (by decide) ?_
        refine g_aload (pc := 186) W289 at_186 rfl rfl ?_
        refine g_iconst (pc := 188) (1 : Int32) (by decide) W289 at_188 ?_
        refine g_lload (pc := 189) W289 at_189 rfl ?_
        refine g_lastore (pc := 191) (i := 0) (os' := [(b284, (.array .long), [.long x0, .long x1])]) 1 W289 rfl (by decide) (by decide) (Nat.le_of_ble_eq_true rfl) rfl at_191 (fun T290 W291 => ?_)
        refine g_iload (pc := 192) W291 at_192 rfl ?_
        refine g_iconst (pc := 194) (2 : Int32) (by decide) W291 at_194 ?_
        refine g_icmpY 204 (pc := 195) W291 at_195 (by decide) (by decide) (by decide) ?_
        refine g_iload (pc := 204) W291 at_204 rfl ?_
        refine g_newarray (pc := 206) (ty := .long) (vs := [.long (0 : Int64), .long (0 : Int64)]) 2 W291 (hw _ (List.mem_of_getElem? (i := 11) rfl)) rfl (by decide) (by decide) (by decide) rfl at_206 (by decide) (by decide) (fun T293 b292 W294 => ?_)
        have W295 := W294.re (os' := [(b284, (.array .long), [.long x0, .long x1]), (b292, (.array .long), [.long (0 : Int64), .long (0 : Int64)])]) rfl
        refine g_astore (pc := 208) (ls' := #[.val (.long p0), .second, .val (.long p1), .second, .val (.long p2), .second, .val (.long p3), .second, .val (.long p4), .second, .val (.int p5), .val (.long x0), .second, .val (.long x1), .second, .val (.long x2), .second, .val (.int (2 : Int32)), .val (.int (2 : Int32)), .val (.long y0), .second, .val (.long y1), .second, .val (.long lo), .second, .val (.long hi), .second, .val (.ref b284), .val (.ref b292), .unset]) W295 at_208 rfl rfl ?_
        refine g_iload (pc := 210) W295 at_210 rfl ?_
        refine g_iconst (pc := 212) (1 : Int32) (by decide) W295 at_212 ?_
        refine g_icmpY 222 (pc := 213) W295 at_213 (by decide) (by decide) (by decide) ?_
        refine g_iload (pc := 222) W295 at_222 rfl ?_
        refine g_iconst (pc := 224) (2 : Int32) (by decide) W295 at_224 ?_
        refine g_icmpN (pc := 225) W295 at_225 (by decide) ?_
        refine g_aload (pc := 228) W295 at_228 rfl rfl ?_
        refine g_iconst (pc := 230) (0 : Int32) (by decide) W295 at_230 ?_
        refine g_lload (pc := 231) W295 at_231 rfl ?_
        refine g_lastore (pc := 233) (i := 1) (os' := [(b284, (.array .long), [.long x0, .long x1]), (b292, (.array .long), [.long lo, .long (0 : Int64)])]) 0 W295 rfl (by decide) (by decide) (Nat.le_of_ble_eq_true rfl) rfl at_233 (fun T296 W297 => ?_)
        refine g_aload (pc := 234) W297 at_234 rfl rfl ?_
        refine g_iconst (pc := 236) (1 : Int32) (by decide) W297 at_236 ?_
        refine g_lload (pc := 237) W297 at_237 rfl ?_
        refine g_lastore (pc := 239) (i := 1) (os' := [(b284, (.array .long), [.long x0, .long x1]), (b292, (.array .long), [.long lo, .long hi])]) 1 W297 rfl (by decide) (by decide) (Nat.le_of_ble_eq_true rfl) rfl at_239 (fun T298 W299 => ?_)
        refine g_aload (pc := 240) W299 at_240 rfl rfl ?_
        refine g_aload (pc := 242) W299 at_242 rfl rfl ?_
        refine g_static (pc := 244) (Wt := 0) (argsL := [.ref b292, .ref b284]) (rest := []) (loc := [(b292, (.array .long), [.long lo, .long hi]), (b284, (.array .long), [.long x0, .long x1])]) (rst := []) W299 (hw _ (List.mem_of_getElem? (i := 12) rfl)) (hw _ (List.mem_of_getElem? (i := 13) rfl)) (hw _ (List.mem_of_getElem? (i := 14) rfl)) (hw _ (List.mem_of_getElem? (i := 15) rfl)) (by decide) (c_pos22 l Z a0 hw b292 b284 lo hi x0 x1 x2 hx01 hy01) ⟨[1, 0], by decide, rfl⟩ rfl pd_AJAJ__AI rfl rfl rfl (Nat.le_of_ble_eq_true rfl) (by decide) (by decide) (by decide) (by decide) at_244 ?_
        rintro T301 _ _ ⟨b300, rfl, rfl⟩ W302
        have W303 := W302.re (os' := [(b292, (.array .long), [.long lo, .long hi]), (b284, (.array .long), [.long x0, .long x1]), (b300, (.array .int), [.int (ex2 lo x0 x1 x2), .int (ex2 hi x0 x1 x2)])]) rfl
        show Go p_ e_ bl_ _ (T301.setTop (mkF m_ 247 #[.val (.long p0), .second, .val (.long p1), .second, .val (.long p2), .second, .val (.long p3), .second, .val (.long p4), .second, .val (.int p5), .val (.long x0), .second, .val (.long x1), .second, .val (.long x2), .second, .val (.int (2 : Int32)), .val (.int (2 : Int32)), .val (.long y0), .second, .val (.long y1), .second, .val (.long lo), .second, .val (.long hi), .second, .val (.ref b284), .val (.ref b292), .unset] [.ref b300]))
        refine g_astore (pc := 247) (ls' := #[.val (.long p0), .second, .val (.long p1), .second, .val (.long p2), .second, .val (.long p3), .second, .val (.long p4), .second, .val (.int p5), .val (.long x0), .second, .val (.long x1), .second, .val (.long x2), .second, .val (.int (2 : Int32)), .val (.int (2 : Int32)), .val (.long y0), .second, .val (.long y1), .second, .val (.long lo), .second, .val (.long hi), .second, .val (.ref b284), .val (.ref b292), .val (.ref b300)]) W303 at_247 rfl rfl ?_
        refine g_aload (pc := 249) W303 at_249 rfl rfl ?_
        refine g_arraylength (pc := 251) (i := 2) (2 : Int32) W303 rfl rfl at_251 ?_
        refine g_iload (pc := 252) W303 at_252 rfl ?_
        refine g_icmpY 259 (pc := 254) W303 at_254 (by decide) (by decide) (by decide) ?_
        refine g_iload (pc := 259) W303 at_259 rfl ?_
        refine g_ifN (pc := 261) W303 at_261 (by decide) ?_
        refine g_aload (pc := 264) W303 at_264 rfl rfl ?_
        refine g_iconst (pc := 266) (0 : Int32) (by decide) W303 at_266 ?_
        refine g_iaload (pc := 267) (i := 2) (v := .int (ex2 lo x0 x1 x2)) W303 rfl (by decide) rfl at_267 ?_
        refine g_aload (pc := 268) W303 at_268 rfl rfl ?_
        refine g_iconst (pc := 270) (0 : Int32) (by decide) W303 at_270 ?_
        refine g_laload (pc := 271) (i := 0) (v := .long lo) W303 rfl (by decide) rfl at_271 ?_
        refine g_lload (pc := 272) W303 at_272 rfl ?_
        refine g_lload (pc := 274) W303 at_274 rfl ?_
        refine g_lload (pc := 276) W303 at_276 rfl ?_
        refine g_iload (pc := 278) W303 at_278 rfl ?_
        refine g_static (pc := 280) (Wt := 1) (argsL := [.long lo, .long x0, .long x1, .long x2, .int (2 : Int32)]) (rest := [.int (ex2 lo x0 x1 x2)]) (loc := []) (rst := [(b292, (.array .long), [.long lo, .long hi]), (b284, (.array .long), [.long x0, .long x1]), (b300, (.array .int), [.int (ex2 lo x0 x1 x2), .int (ex2 hi x0 x1 x2)])]) W303 (hw _ (List.mem_of_getElem? (i := 17) rfl)) (hw _ (List.mem_of_getElem? (i := 18) rfl)) (hw _ (List.mem_of_getElem? (i := 9) rfl)) (hw _ (List.mem_of_getElem? (i := 19) rfl)) (by decide) (c_exp2 l Z a0 hw lo x0 x1 x2) Spl.none rfl pd_JJJJI__I rfl rfl rfl (Nat.le_of_ble_eq_true rfl) (by decide) (by decide) (by decide) (by decide) at_280 ?_
        rintro T304 _ _ ⟨rfl, rfl⟩ W305
        have W306 := W305.re (os' := [(b292, (.array .long), [.long lo, .long hi]), (b284, (.array .long), [.long x0, .long x1]), (b300, (.array .int), [.int (ex2 lo x0 x1 x2), .int (ex2 hi x0 x1 x2)])]) rfl
        show Go p_ e_ bl_ _ (T304.setTop (mkF m_ 283 #[.val (.long p0), .second, .val (.long p1), .second, .val (.long p2), .second, .val (.long p3), .second, .val (.long p4), .second, .val (.int p5), .val (.long x0), .second, .val (.long x1), .second, .val (.long x2), .second, .val (.int (2 : Int32)), .val (.int (2 : Int32)), .val (.long y0), .second, .val (.long y1), .second, .val (.long lo), .second, .val (.long hi), .second, .val (.ref b284), .val (.ref b292), .val (.ref b300)] [.int (ex2 lo x0 x1 x2), .int (ex2 lo x0 x1 x2)]))
        refine g_icmpY 288 (pc := 283) W306 at_283 (by decide) (by decide) (by first | exact (teq rfl).1 | exact (teq rfl).2 | exact (flt (by simp)).1 | exact (flt (by simp)).2.1 | exact (flt (by simp)).2.2.1 | exact (flt (by simp)).2.2.2) ?_
        refine g_iload (pc := 288) W306 at_288 rfl ?_
        refine g_iconst (pc := 290) (1 : Int32) (by decide) W306 at_290 ?_
        refine g_icmpN (pc := 291) W306 at_291 (by decide) ?_
        refine g_aload (pc := 294) W306 at_294 rfl rfl ?_
        refine g_iconst (pc := 296) (1 : Int32) (by decide) W306 at_296 ?_
        refine g_iaload (pc := 297) (i := 2) (v := .int (ex2 hi x0 x1 x2)) W306 rfl (by decide) rfl at_297 ?_
        refine g_aload (pc := 298) W306 at_298 rfl rfl ?_
        refine g_iconst (pc := 300) (1 : Int32) (by decide) W306 at_300 ?_
        refine g_laload (pc := 301) (i := 0) (v := .long hi) W306 rfl (by decide) rfl at_301 ?_
        refine g_lload (pc := 302) W306 at_302 rfl ?_
        refine g_lload (pc := 304) W306 at_304 rfl ?_
        refine g_lload (pc := 306) W306 at_306 rfl ?_
        refine g_iload (pc := 308) W306 at_308 rfl ?_
        refine g_static (pc := 310) (Wt := 1) (argsL := [.long hi, .long x0, .long x1, .long x2, .int (2 : Int32)]) (rest := [.int (ex2 hi x0 x1 x2)]) (loc := []) (rst := [(b292, (.array .long), [.long lo, .long hi]), (b284, (.array .long), [.long x0, .long x1]), (b300, (.array .int), [.int (ex2 lo x0 x1 x2), .int (ex2 hi x0 x1 x2)])]) W306 (hw _ (List.mem_of_getElem? (i := 17) rfl)) (hw _ (List.mem_of_getElem? (i := 18) rfl)) (hw _ (List.mem_of_getElem? (i := 9) rfl)) (hw _ (List.mem_of_getElem? (i := 19) rfl)) (by decide) (c_exp2 l Z a0 hw hi x0 x1 x2) Spl.none rfl pd_JJJJI__I rfl rfl rfl (Nat.le_of_ble_eq_true rfl) (by decide) (by decide) (by decide) (by decide) at_310 ?_
        rintro T307 _ _ ⟨rfl, rfl⟩ W308
        have W309 := W308.re (os' := [(b292, (.array .long), [.long lo, .long hi]), (b284, (.array .long), [.long x0, .long x1]), (b300, (.array .int), [.int (ex2 lo x0 x1 x2), .int (ex2 hi x0 x1 x2)])]) rfl
        show Go p_ e_ bl_ _ (T307.setTop (mkF m_ 313 #[.val (.long p0), .second, .val (.long p1), .second, .val (.long p2), .second, .val (.long p3), .second, .val (.long p4), .second, .val (.int p5), .val (.long x0), .second, .val (.long x1), .second, .val (.long x2), .second, .val (.int (2 : Int32)), .val (.int (2 : Int32)), .val (.long y0), .second, .val (.long y1), .second, .val (.long lo), .second, .val (.long hi), .second, .val (.ref b284), .val (.ref b292), .val (.ref b300)] [.int (ex2 hi x0 x1 x2), .int (ex2 hi x0 x1 x2)]))
        refine g_icmpY 318 (pc := 313) W309 at_313 (by decide) (by decide) (by first | exact (teq rfl).1 | exact (teq rfl).2 | exact (flt (by simp)).1 | exact (flt (by simp)).2.1 | exact (flt (by simp)).2.2.1 | exact (flt (by simp)).2.2.2) ?_
        refine g_iconst (pc := 318) (1 : Int32) (by decide) W309 at_318 ?_
        exact g_zreturn (pc := 319) rfl (by decide) W309 at_319 (by decide) (by decide) rfl
      · refine g_iconst (pc := 161) (1 : Int32) (by decide) W282 at_161 ?_
        exact g_zreturn (pc := 162) rfl (by decide) W282 at_162 (by decide) (by decide) rfl
  · rw [hm, hn]
    refine g_iload (pc := 63) W24 at_63 rfl ?_
    refine g_iconst (pc := 65) (1 : Int32) (by decide) W24 at_65 ?_
    refine g_icmpN (pc := 66) W24 at_66 (by decide) ?_
    refine g_lload (pc := 69) W24 at_69 rfl ?_
    refine g_lload (pc := 71) W24 at_71 rfl ?_
    refine g_lcmp (pc := 73) W24 at_73 ?_
    refine g_if_eq 91 (pc := 74) W24 at_74 (by decide) (by decide) (fun c310 => ?_) (fun c310 => ?_)
    · refine g_iconst (pc := 91) (1 : Int32) (by decide) W24 at_91 ?_
      exact g_zreturn (pc := 92) rfl (by decide) W24 at_92 (by decide) (by decide) rfl
    · refine g_iload (pc := 77) W24 at_77 rfl ?_
      refine g_iconst (pc := 79) (2 : Int32) (by decide) W24 at_79 ?_
      refine g_icmpN (pc := 80) W24 at_80 (by decide) ?_
      refine g_lload (pc := 83) W24 at_83 rfl ?_
      refine g_lload (pc := 85) W24 at_85 rfl ?_
      refine g_lcmp (pc := 87) W24 at_87 ?_
      refine g_if_ne 93 (pc := 88) W24 at_88 (by decide) (by decide) (fun c311 => ?_) (fun c311 => ?_)
      · refine g_lload (pc := 93) W24 at_93 rfl ?_
        refine g_iload (pc := 95) W24 at_95 rfl ?_
        refine g_iconst (pc := 97) (3 : Int32) (by decide) W24 at_97 ?_
        refine g_iand (pc := 98) W24 at_98 ?_
        refine g_lload (pc := 99) W24 at_99 rfl ?_
        refine g_lload (pc := 101) W24 at_101 rfl ?_
        refine g_lload (pc := 103) W24 at_103 rfl ?_
        refine g_static (pc := 105) (Wt := 0) (argsL := [.long p3, .int (p5 &&& (3 : Int32)), .long x0, .long x1, .long x2]) (rest := []) (loc := []) (rst := []) W24 (hw _ (List.mem_of_getElem? (i := 7) rfl)) (hw _ (List.mem_of_getElem? (i := 8) rfl)) (hw _ (List.mem_of_getElem? (i := 9) rfl)) (hw _ (List.mem_of_getElem? (i := 10) rfl)) (by decide) (c_pck l Z a0 hw p3 (p5 &&& (3 : Int32)) x0 x1 x2) Spl.none rfl pd_JIJJJ__J rfl rfl rfl (Nat.le_of_ble_eq_true rfl) (by decide) (by decide) (by decide) (by decide) at_105 ?_
        rintro T312 _ _ ⟨rfl, rfl⟩ W313
        have W314 := W313.re (os' := []) rfl
        show Go p_ e_ bl_ _ (T312.setTop (mkF m_ 108 #[.val (.long p0), .second, .val (.long p1), .second, .val (.long p2), .second, .val (.long p3), .second, .val (.long p4), .second, .val (.int p5), .val (.long x0), .second, .val (.long x1), .second, .val (.long x2), .second, .val (.int (3 : Int32)), .val (.int (0 : Int32)), .unset, .unset, .unset, .unset, .unset, .unset, .unset, .unset, .unset, .unset, .unset] [.long (pck p3 (p5 &&& (3 : Int32)) x0 x1 x2)]))
        refine g_lstore (pc := 108) (ls' := #[.val (.long p0), .second, .val (.long p1), .second, .val (.long p2), .second, .val (.long p3), .second, .val (.long p4), .second, .val (.int p5), .val (.long x0), .second, .val (.long x1), .second, .val (.long x2), .second, .val (.int (3 : Int32)), .val (.int (0 : Int32)), .val (.long (pck p3 (p5 &&& (3 : Int32)) x0 x1 x2)), .second, .unset, .unset, .unset, .unset, .unset, .unset, .unset, .unset, .unset]) W314 at_108 rfl ?_
        refine g_lload (pc := 110) W314 at_110 rfl ?_
        refine g_iload (pc := 112) W314 at_112 rfl ?_
        refine g_iconst (pc := 114) (2 : Int32) (by decide) W314 at_114 ?_
        refine g_iushr (pc := 115) W314 at_115 ?_
        refine g_iconst (pc := 116) (3 : Int32) (by decide) W314 at_116 ?_
        refine g_iand (pc := 117) W314 at_117 ?_
        refine g_lload (pc := 118) W314 at_118 rfl ?_
        refine g_lload (pc := 120) W314 at_120 rfl ?_
        refine g_lload (pc := 122) W314 at_122 rfl ?_
        refine g_static (pc := 124) (Wt := 0) (argsL := [.long p4, .int ((XT.ushr p5 (2 : Int32)) &&& (3 : Int32)), .long x0, .long x1, .long x2]) (rest := []) (loc := []) (rst := []) W314 (hw _ (List.mem_of_getElem? (i := 7) rfl)) (hw _ (List.mem_of_getElem? (i := 8) rfl)) (hw _ (List.mem_of_getElem? (i := 9) rfl)) (hw _ (List.mem_of_getElem? (i := 10) rfl)) (by decide) (c_pck l Z a0 hw p4 ((XT.ushr p5 (2 : Int32)) &&& (3 : Int32)) x0 x1 x2) Spl.none rfl pd_JIJJJ__J rfl rfl rfl (Nat.le_of_ble_eq_true rfl) (by decide) (by decide) (by decide) (by decide) at_124 ?_
        rintro T315 _ _ ⟨rfl, rfl⟩ W316
        have W317 := W316.re (os' := []) rfl
        show Go p_ e_ bl_ _ (T315.setTop (mkF m_ 127 #[.val (.long p0), .second, .val (.long p1), .second, .val (.long p2), .second, .val (.long p3), .second, .val (.long p4), .second, .val (.int p5), .val (.long x0), .second, .val (.long x1), .second, .val (.long x2), .second, .val (.int (3 : Int32)), .val (.int (0 : Int32)), .val (.long (pck p3 (p5 &&& (3 : Int32)) x0 x1 x2)), .second, .unset, .unset, .unset, .unset, .unset, .unset, .unset, .unset, .unset] [.long (pck p4 ((XT.ushr p5 (2 : Int32)) &&& (3 : Int32)) x0 x1 x2)]))
        refine g_lstore (pc := 127) (ls' := #[.val (.long p0), .second, .val (.long p1), .second, .val (.long p2), .second, .val (.long p3), .second, .val (.long p4), .second, .val (.int p5), .val (.long x0), .second, .val (.long x1), .second, .val (.long x2), .second, .val (.int (3 : Int32)), .val (.int (0 : Int32)), .val (.long (pck p3 (p5 &&& (3 : Int32)) x0 x1 x2)), .second, .val (.long (pck p4 ((XT.ushr p5 (2 : Int32)) &&& (3 : Int32)) x0 x1 x2)), .second, .unset, .unset, .unset, .unset, .unset, .unset, .unset]) W317 at_127 rfl ?_
        generalize (pck p3 (p5 &&& (3 : Int32)) x0 x1 x2) = y0
        generalize (pck p4 ((XT.ushr p5 (2 : Int32)) &&& (3 : Int32)) x0 x1 x2) = y1
        refine g_lload (pc := 129) W317 at_129 rfl ?_
        refine g_lload (pc := 131) W317 at_131 rfl ?_
        refine g_static (pc := 133) (Wt := 0) (argsL := [.long y0, .long y1]) (rest := []) (loc := []) (rst := []) W317 (hw _ (List.mem_of_getElem? (i := 0) rfl)) (hw _ (List.mem_of_getElem? (i := 1) rfl)) (hw _ (List.mem_of_getElem? (i := 2) rfl)) (hw _ (List.mem_of_getElem? (i := 3) rfl)) (by decide) (c_min l Z a0 hw y0 y1) Spl.none rfl pd_JJ__J rfl rfl rfl (Nat.le_of_ble_eq_true rfl) (by decide) (by decide) (by decide) (by decide) at_133 ?_
        rintro T318 _ _ ⟨rfl, rfl⟩ W319
        have W320 := W319.re (os' := []) rfl
        show Go p_ e_ bl_ _ (T318.setTop (mkF m_ 136 #[.val (.long p0), .second, .val (.long p1), .second, .val (.long p2), .second, .val (.long p3), .second, .val (.long p4), .second, .val (.int p5), .val (.long x0), .second, .val (.long x1), .second, .val (.long x2), .second, .val (.int (3 : Int32)), .val (.int (0 : Int32)), .val (.long y0), .second, .val (.long y1), .second, .unset, .unset, .unset, .unset, .unset, .unset, .unset] [.long (mnL y0 y1)]))
        refine g_lstore (pc := 136) (ls' := #[.val (.long p0), .second, .val (.long p1), .second, .val (.long p2), .second, .val (.long p3), .second, .val (.long p4), .second, .val (.int p5), .val (.long x0), .second, .val (.long x1), .second, .val (.long x2), .second, .val (.int (3 : Int32)), .val (.int (0 : Int32)), .val (.long y0), .second, .val (.long y1), .second, .val (.long (mnL y0 y1)), .second, .unset, .unset, .unset, .unset, .unset]) W320 at_136 rfl ?_
        refine g_lload (pc := 138) W320 at_138 rfl ?_
        refine g_lload (pc := 140) W320 at_140 rfl ?_
        refine g_static (pc := 142) (Wt := 0) (argsL := [.long y0, .long y1]) (rest := []) (loc := []) (rst := []) W320 (hw _ (List.mem_of_getElem? (i := 4) rfl)) (hw _ (List.mem_of_getElem? (i := 5) rfl)) (hw _ (List.mem_of_getElem? (i := 2) rfl)) (hw _ (List.mem_of_getElem? (i := 6) rfl)) (by decide) (c_max l Z a0 hw y0 y1) Spl.none rfl pd_JJ__J rfl rfl rfl (Nat.le_of_ble_eq_true rfl) (by decide) (by decide) (by decide) (by decide) at_142 ?_
        rintro T321 _ _ ⟨rfl, rfl⟩ W322
        have W323 := W322.re (os' := []) rfl
        show Go p_ e_ bl_ _ (T321.setTop (mkF m_ 145 #[.val (.long p0), .second, .val (.long p1), .second, .val (.long p2), .second, .val (.long p3), .second, .val (.long p4), .second, .val (.int p5), .val (.long x0), .second, .val (.long x1), .second, .val (.long x2), .second, .val (.int (3 : Int32)), .val (.int (0 : Int32)), .val (.long y0), .second, .val (.long y1), .second, .val (.long (mnL y0 y1)), .second, .unset, .unset, .unset, .unset, .unset] [.long (mxL y0 y1)]))
        refine g_lstore (pc := 145) (ls' := #[.val (.long p0), .second, .val (.long p1), .second, .val (.long p2), .second, .val (.long p3), .second, .val (.long p4), .second, .val (.int p5), .val (.long x0), .second, .val (.long x1), .second, .val (.long x2), .second, .val (.int (3 : Int32)), .val (.int (0 : Int32)), .val (.long y0), .second, .val (.long y1), .second, .val (.long (mnL y0 y1)), .second, .val (.long (mxL y0 y1)), .second, .unset, .unset, .unset]) W323 at_145 rfl ?_
        have hl := own_lohi y0 y1
        generalize (mnL y0 y1) = lo at hl ⊢
        generalize (mxL y0 y1) = hi at hl ⊢
        refine g_iload (pc := 147) W323 at_147 rfl ?_
        refine g_iconst (pc := 149) (2 : Int32) (by decide) W323 at_149 ?_
        refine g_icmpY 163 (pc := 150) W323 at_150 (by decide) (by decide) (by decide) ?_
        have hx01 : x0.toInt < x1.toInt := by rw [cl_eq, ← Int64.toInt_inj] at c310; have := hs.1; omega
        have hx12 : x1.toInt < x2.toInt := by rw [cl_eq, ← Int64.toInt_inj] at c311; have := hs.2; omega
        refine g_iload (pc := 163) W323 at_163 rfl ?_
        refine g_newarray (pc := 165) (ty := .long) (vs := [.long (0 : Int64), .long (0 : Int64), .long (0 : Int64)]) 3 W323 (hw _ (List.mem_of_getElem? (i := 11) rfl)) rfl (by decide) (by decide) (by decide) rfl at_165 (by decide) (by decide) (fun T325 b324 W326 => ?_)
        have W327 := W326.re (os' := [(b324, (.array .long), [.long (0 : Int64), .long (0 : Int64), .long (0 : Int64)])]) rfl
        refine g_astore (pc := 167) (ls' := #[.val (.long p0), .second, .val (.long p1), .second, .val (.long p2), .second, .val (.long p3), .second, .val (.long p4), .second, .val (.int p5), .val (.long x0), .second, .val (.long x1), .second, .val (.long x2), .second, .val (.int (3 : Int32)), .val (.int (0 : Int32)), .val (.long y0), .second, .val (.long y1), .second, .val (.long lo), .second, .val (.long hi), .second, .val (.ref b324), .unset, .unset]) W327 at_167 rfl rfl ?_
        refine g_iload (pc := 169) W327 at_169 rfl ?_
        refine g_ifN (pc := 171) W327 at_171 (by decide) ?_
        refine g_aload (pc := 174) W327 at_174 rfl rfl ?_
        refine g_iconst (pc := 176) (0 : Int32) (by decide) W327 at_176 ?_
        refine g_lload (pc := 177) W327 at_177 rfl ?_
        refine g_lastore (pc := 179) (i := 0) (os' := [(b324, (.array .long), [.long x0, .long (0 : Int64), .long (0 : Int64)])]) 0 W327 rfl (by decide) (by decide) (Nat.le_of_ble_eq_true rfl) rfl at_179 (fun T328 W329 => ?_)
        refine g_iload (pc := 180) W329 at_180 rfl ?_
        refine g_iconst (pc := 182) (1 : Int32) (by decide) W329 at_182 ?_
        refine g_icmpN (pc := 183) W329 at_183 (by decide) ?_
        refine g_aload (pc := 186) W329 at_186 rfl rfl ?_
        refine g_iconst (pc := 188) (1 : Int32) (by decide) W329 at_188 ?_
        refine g_lload (pc := 189) W329 at_189 rfl ?_
        refine g_lastore (pc := 191) (i := 0) (os' := [(b324, (.array .long), [.long x0, .long x1, .long (0 : Int64)])]) 1 W329 rfl (by decide) (by decide) (Nat.le_of_ble_eq_true rfl) rfl at_191 (fun T330 W331 => ?_)
        refine g_iload (pc := 192) W331 at_192 rfl ?_
        refine g_iconst (pc := 194) (2 : Int32) (by decide) W331 at_194 ?_
        refine g_icmpN (pc := 195) W331 at_195 (by decide) ?_
        refine g_aload (pc := 198) W331 at_198 rfl rfl ?_
        refine g_iconst (pc := 200) (2 : Int32) (by decide) W331 at_200 ?_
        refine g_lload (pc := 201) W331 at_201 rfl ?_
        refine g_lastore (pc := 203) (i := 0) (os' := [(b324, (.array .long), [.long x0, .long x1, .long x2])]) 2 W331 rfl (by decide) (by decide) (Nat.le_of_ble_eq_true rfl) rfl at_203 (fun T332 W333 => ?_)
        refine g_iload (pc := 204) W333 at_204 rfl ?_
        refine g_newarray (pc := 206) (ty := .long) (vs := []) 0 W333 (hw _ (List.mem_of_getElem? (i := 11) rfl)) rfl (by decide) (by decide) (by decide) rfl at_206 (by decide) (by decide) (fun T335 b334 W336 => ?_)
        have W337 := W336.re (os' := [(b324, (.array .long), [.long x0, .long x1, .long x2]), (b334, (.array .long), [])]) rfl
        refine g_astore (pc := 208) (ls' := #[.val (.long p0), .second, .val (.long p1), .second, .val (.long p2), .second, .val (.long p3), .second, .val (.long p4), .second, .val (.int p5), .val (.long x0), .second, .val (.long x1), .second, .val (.long x2), .second, .val (.int (3 : Int32)), .val (.int (0 : Int32)), .val (.long y0), .second, .val (.long y1), .second, .val (.long lo), .second, .val (.long hi), .second, .val (.ref b324), .val (.ref b334), .unset]) W337 at_208 rfl rfl ?_
        refine g_iload (pc := 210) W337 at_210 rfl ?_
        refine g_iconst (pc := 212) (1 : Int32) (by decide) W337 at_212 ?_
        refine g_icmpY 222 (pc := 213) W337 at_213 (by decide) (by decide) (by decide) ?_
        refine g_iload (pc := 222) W337 at_222 rfl ?_
        refine g_iconst (pc := 224) (2 : Int32) (by decide) W337 at_224 ?_
        refine g_icmpY 240 (pc := 225) W337 at_225 (by decide) (by decide) (by decide) ?_
        refine g_aload (pc := 240) W337 at_240 rfl rfl ?_
        refine g_aload (pc := 242) W337 at_242 rfl rfl ?_
        refine g_static (pc := 244) (Wt := 0) (argsL := [.ref b334, .ref b324]) (rest := []) (loc := [(b334, (.array .long), []), (b324, (.array .long), [.long x0, .long x1, .long x2])]) (rst := []) W337 (hw _ (List.mem_of_getElem? (i := 12) rfl)) (hw _ (List.mem_of_getElem? (i := 13) rfl)) (hw _ (List.mem_of_getElem? (i := 14) rfl)) (hw _ (List.mem_of_getElem? (i := 15) rfl)) (by decide) (c_pos03 l Z a0 hw b334 b324 x0 x1 x2 hx01 hx12) ⟨[1, 0], by decide, rfl⟩ rfl pd_AJAJ__AI rfl rfl rfl (Nat.le_of_ble_eq_true rfl) (by decide) (by decide) (by decide) (by decide) at_244 ?_
        rintro T339 _ _ ⟨b338, rfl, rfl⟩ W340
        have W341 := W340.re (os' := [(b334, (.array .long), []), (b324, (.array .long), [.long x0, .long x1, .long x2]), (b338, (.array .int), [])]) rfl
        show Go p_ e_ bl_ _ (T339.setTop (mkF m_ 247 #[.val (.long p0), .second, .val (.long p1), .second, .val (.long p2), .second, .val (.long p3), .second, .val (.long p4), .second, .val (.int p5), .val (.long x0), .second, .val (.long x1), .second, .val (.long x2), .second, .val (.int (3 : Int32)), .val (.int (0 : Int32)), .val (.long y0), .second, .val (.long y1), .second, .val (.long lo), .second, .val (.long hi), .second, .val (.ref b324), .val (.ref b334), .unset] [.ref b338]))
        refine g_astore (pc := 247) (ls' := #[.val (.long p0), .second, .val (.long p1), .second, .val (.long p2), .second, .val (.long p3), .second, .val (.long p4), .second, .val (.int p5), .val (.long x0), .second, .val (.long x1), .second, .val (.long x2), .second, .val (.int (3 : Int32)), .val (.int (0 : Int32)), .val (.long y0), .second, .val (.long y1), .second, .val (.long lo), .second, .val (.long hi), .second, .val (.ref b324), .val (.ref b334), .val (.ref b338)]) W341 at_247 rfl rfl ?_
        refine g_aload (pc := 249) W341 at_249 rfl rfl ?_
        refine g_arraylength (pc := 251) (i := 2) (0 : Int32) W341 rfl rfl at_251 ?_
        refine g_iload (pc := 252) W341 at_252 rfl ?_
        refine g_icmpY 259 (pc := 254) W341 at_254 (by decide) (by decide) (by decide) ?_
        refine g_iload (pc := 259) W341 at_259 rfl ?_
        refine g_ifY 288 (pc := 261) W341 at_261 (by decide) (by decide) (by decide) ?_
        refine g_iload (pc := 288) W341 at_288 rfl ?_
        refine g_iconst (pc := 290) (1 : Int32) (by decide) W341 at_290 ?_
        refine g_icmpY 318 (pc := 291) W341 at_291 (by decide) (by decide) (by decide) ?_
        refine g_iconst (pc := 318) (1 : Int32) (by decide) W341 at_318 ?_
        exact g_zreturn (pc := 319) rfl (by decide) W341 at_319 (by decide) (by decide) rfl
      · refine g_iconst (pc := 91) (1 : Int32) (by decide) W24 at_91 ?_
        exact g_zreturn (pc := 92) rfl (by decide) W24 at_92 (by decide) (by decide) rfl
  · rw [hm, hn]
    refine g_iload (pc := 63) W24 at_63 rfl ?_
    refine g_iconst (pc := 65) (1 : Int32) (by decide) W24 at_65 ?_
    refine g_icmpN (pc := 66) W24 at_66 (by decide) ?_
    refine g_lload (pc := 69) W24 at_69 rfl ?_
    refine g_lload (pc := 71) W24 at_71 rfl ?_
    refine g_lcmp (pc := 73) W24 at_73 ?_
    refine g_if_eq 91 (pc := 74) W24 at_74 (by decide) (by decide) (fun c342 => ?_) (fun c342 => ?_)
    · refine g_iconst (pc := 91) (1 : Int32) (by decide) W24 at_91 ?_
      exact g_zreturn (pc := 92) rfl (by decide) W24 at_92 (by decide) (by decide) rfl
    · refine g_iload (pc := 77) W24 at_77 rfl ?_
      refine g_iconst (pc := 79) (2 : Int32) (by decide) W24 at_79 ?_
      refine g_icmpN (pc := 80) W24 at_80 (by decide) ?_
      refine g_lload (pc := 83) W24 at_83 rfl ?_
      refine g_lload (pc := 85) W24 at_85 rfl ?_
      refine g_lcmp (pc := 87) W24 at_87 ?_
      refine g_if_ne 93 (pc := 88) W24 at_88 (by decide) (by decide) (fun c343 => ?_) (fun c343 => ?_)
      · refine g_lload (pc := 93) W24 at_93 rfl ?_
        refine g_iload (pc := 95) W24 at_95 rfl ?_
        refine g_iconst (pc := 97) (3 : Int32) (by decide) W24 at_97 ?_
        refine g_iand (pc := 98) W24 at_98 ?_
        refine g_lload (pc := 99) W24 at_99 rfl ?_
        refine g_lload (pc := 101) W24 at_101 rfl ?_
        refine g_lload (pc := 103) W24 at_103 rfl ?_
        refine g_static (pc := 105) (Wt := 0) (argsL := [.long p3, .int (p5 &&& (3 : Int32)), .long x0, .long x1, .long x2]) (rest := []) (loc := []) (rst := []) W24 (hw _ (List.mem_of_getElem? (i := 7) rfl)) (hw _ (List.mem_of_getElem? (i := 8) rfl)) (hw _ (List.mem_of_getElem? (i := 9) rfl)) (hw _ (List.mem_of_getElem? (i := 10) rfl)) (by decide) (c_pck l Z a0 hw p3 (p5 &&& (3 : Int32)) x0 x1 x2) Spl.none rfl pd_JIJJJ__J rfl rfl rfl (Nat.le_of_ble_eq_true rfl) (by decide) (by decide) (by decide) (by decide) at_105 ?_
        rintro T344 _ _ ⟨rfl, rfl⟩ W345
        have W346 := W345.re (os' := []) rfl
        show Go p_ e_ bl_ _ (T344.setTop (mkF m_ 108 #[.val (.long p0), .second, .val (.long p1), .second, .val (.long p2), .second, .val (.long p3), .second, .val (.long p4), .second, .val (.int p5), .val (.long x0), .second, .val (.long x1), .second, .val (.long x2), .second, .val (.int (3 : Int32)), .val (.int (1 : Int32)), .unset, .unset, .unset, .unset, .unset, .unset, .unset, .unset, .unset, .unset, .unset] [.long (pck p3 (p5 &&& (3 : Int32)) x0 x1 x2)]))
        refine g_lstore (pc := 108) (ls' := #[.val (.long p0), .second, .val (.long p1), .second, .val (.long p2), .second, .val (.long p3), .second, .val (.long p4), .second, .val (.int p5), .val (.long x0), .second, .val (.long x1), .second, .val (.long x2), .second, .val (.int (3 : Int32)), .val (.int (1 : Int32)), .val (.long (pck p3 (p5 &&& (3 : Int32)) x0 x1 x2)), .second, .unset, .unset, .unset, .unset, .unset, .unset, .unset, .unset, .unset]) W346 at_108 rfl ?_
        refine g_lload (pc := 110) W346 at_110 rfl ?_
        refine g_iload (pc := 112) W346 at_112 rfl ?_
        refine g_iconst (pc := 114) (2 : Int32) (by decide) W346 at_114 ?_
        refine g_iushr (pc := 115) W346 at_115 ?_
        refine g_iconst (pc := 116) (3 : Int32) (by decide) W346 at_116 ?_
        refine g_iand (pc := 117) W346 at_117 ?_
        refine g_lload (pc := 118) W346 at_118 rfl ?_
        refine g_lload (pc := 120) W346 at_120 rfl ?_
        refine g_lload (pc := 122) W346 at_122 rfl ?_
        refine g_static (pc := 124) (Wt := 0) (argsL := [.long p4, .int ((XT.ushr p5 (2 : Int32)) &&& (3 : Int32)), .long x0, .long x1, .long x2]) (rest := []) (loc := []) (rst := []) W346 (hw _ (List.mem_of_getElem? (i := 7) rfl)) (hw _ (List.mem_of_getElem? (i := 8) rfl)) (hw _ (List.mem_of_getElem? (i := 9) rfl)) (hw _ (List.mem_of_getElem? (i := 10) rfl)) (by decide) (c_pck l Z a0 hw p4 ((XT.ushr p5 (2 : Int32)) &&& (3 : Int32)) x0 x1 x2) Spl.none rfl pd_JIJJJ__J rfl rfl rfl (Nat.le_of_ble_eq_true rfl) (by decide) (by decide) (by decide) (by decide) at_124 ?_
        rintro T347 _ _ ⟨rfl, rfl⟩ W348
        have W349 := W348.re (os' := []) rfl
        show Go p_ e_ bl_ _ (T347.setTop (mkF m_ 127 #[.val (.long p0), .second, .val (.long p1), .second, .val (.long p2), .second, .val (.long p3), .second, .val (.long p4), .second, .val (.int p5), .val (.long x0), .second, .val (.long x1), .second, .val (.long x2), .second, .val (.int (3 : Int32)), .val (.int (1 : Int32)), .val (.long (pck p3 (p5 &&& (3 : Int32)) x0 x1 x2)), .second, .unset, .unset, .unset, .unset, .unset, .unset, .unset, .unset, .unset] [.long (pck p4 ((XT.ushr p5 (2 : Int32)) &&& (3 : Int32)) x0 x1 x2)]))
        refine g_lstore (pc := 127) (ls' := #[.val (.long p0), .second, .val (.long p1), .second, .val (.long p2), .second, .val (.long p3), .second, .val (.long p4), .second, .val (.int p5), .val (.long x0), .second, .val (.long x1), .second, .val (.long x2), .second, .val (.int (3 : Int32)), .val (.int (1 : Int32)), .val (.long (pck p3 (p5 &&& (3 : Int32)) x0 x1 x2)), .second, .val (.long (pck p4 ((XT.ushr p5 (2 : Int32)) &&& (3 : Int32)) x0 x1 x2)), .second, .unset, .unset, .unset, .unset, .unset, .unset, .unset]) W349 at_127 rfl ?_
        generalize (pck p3 (p5 &&& (3 : Int32)) x0 x1 x2) = y0
        generalize (pck p4 ((XT.ushr p5 (2 : Int32)) &&& (3 : Int32)) x0 x1 x2) = y1
        refine g_lload (pc := 129) W349 at_129 rfl ?_
        refine g_lload (pc := 131) W349 at_131 rfl ?_
        refine g_static (pc := 133) (Wt := 0) (argsL := [.long y0, .long y1]) (rest := []) (loc := []) (rst := []) W349 (hw _ (List.mem_of_getElem? (i := 0) rfl)) (hw _ (List.mem_of_getElem? (i := 1) rfl)) (hw _ (List.mem_of_getElem? (i := 2) rfl)) (hw _ (List.mem_of_getElem? (i := 3) rfl)) (by decide) (c_min l Z a0 hw y0 y1) Spl.none rfl pd_JJ__J rfl rfl rfl (Nat.le_of_ble_eq_true rfl) (by decide) (by decide) (by decide) (by decide) at_133 ?_
        rintro T350 _ _ ⟨rfl, rfl⟩ W351
        have W352 := W351.re (os' := []) rfl
        show Go p_ e_ bl_ _ (T350.setTop (mkF m_ 136 #[.val (.long p0), .second, .val (.long p1), .second, .val (.long p2), .second, .val (.long p3), .second, .val (.long p4), .second, .val (.int p5), .val (.long x0), .second, .val (.long x1), .second, .val (.long x2), .second, .val (.int (3 : Int32)), .val (.int (1 : Int32)), .val (.long y0), .second, .val (.long y1), .second, .unset, .unset, .unset, .unset, .unset, .unset, .unset] [.long (mnL y0 y1)]))
        refine g_lstore (pc := 136) (ls' := #[.val (.long p0), .second, .val (.long p1), .second, .val (.long p2), .second, .val (.long p3), .second, .val (.long p4), .second, .val (.int p5), .val (.long x0), .second, .val (.long x1), .second, .val (.long x2), .second, .val (.int (3 : Int32)), .val (.int (1 : Int32)), .val (.long y0), .second, .val (.long y1), .second, .val (.long (mnL y0 y1)), .second, .unset, .unset, .unset, .unset, .unset]) W352 at_136 rfl ?_
        refine g_lload (pc := 138) W352 at_138 rfl ?_
        refine g_lload (pc := 140) W352 at_140 rfl ?_
        refine g_static (pc := 142) (Wt := 0) (argsL := [.long y0, .long y1]) (rest := []) (loc := []) (rst := []) W352 (hw _ (List.mem_of_getElem? (i := 4) rfl)) (hw _ (List.mem_of_getElem? (i := 5) rfl)) (hw _ (List.mem_of_getElem? (i := 2) rfl)) (hw _ (List.mem_of_getElem? (i := 6) rfl)) (by decide) (c_max l Z a0 hw y0 y1) Spl.none rfl pd_JJ__J rfl rfl rfl (Nat.le_of_ble_eq_true rfl) (by decide) (by decide) (by decide) (by decide) at_142 ?_
        rintro T353 _ _ ⟨rfl, rfl⟩ W354
        have W355 := W354.re (os' := []) rfl
        show Go p_ e_ bl_ _ (T353.setTop (mkF m_ 145 #[.val (.long p0), .second, .val (.long p1), .second, .val (.long p2), .second, .val (.long p3), .second, .val (.long p4), .second, .val (.int p5), .val (.long x0), .second, .val (.long x1), .second, .val (.long x2), .second, .val (.int (3 : Int32)), .val (.int (1 : Int32)), .val (.long y0), .second, .val (.long y1), .second, .val (.long (mnL y0 y1)), .second, .unset, .unset, .unset, .unset, .unset] [.long (mxL y0 y1)]))
        refine g_lstore (pc := 145) (ls' := #[.val (.long p0), .second, .val (.long p1), .second, .val (.long p2), .second, .val (.long p3), .second, .val (.long p4), .second, .val (.int p5), .val (.long x0), .second, .val (.long x1), .second, .val (.long x2), .second, .val (.int (3 : Int32)), .val (.int (1 : Int32)), .val (.long y0), .second, .val (.long y1), .second, .val (.long (mnL y0 y1)), .second, .val (.long (mxL y0 y1)), .second, .unset, .unset, .unset]) W355 at_145 rfl ?_
        have hl := own_lohi y0 y1
        generalize (mnL y0 y1) = lo at hl ⊢
        generalize (mxL y0 y1) = hi at hl ⊢
        refine g_iload (pc := 147) W355 at_147 rfl ?_
        refine g_iconst (pc := 149) (2 : Int32) (by decide) W355 at_149 ?_
        refine g_icmpY 163 (pc := 150) W355 at_150 (by decide) (by decide) (by decide) ?_
        have hx01 : x0.toInt < x1.toInt := by rw [cl_eq, ← Int64.toInt_inj] at c342; have := hs.1; omega
        have hx12 : x1.toInt < x2.toInt := by rw [cl_eq, ← Int64.toInt_inj] at c343; have := hs.2; omega
        refine g_iload (pc := 163) W355 at_163 rfl ?_
        refine g_newarray (pc := 165) (ty := .long) (vs := [.long (0 : Int64), .long (0 : Int64), .long (0 : Int64)]) 3 W355 (hw _ (List.mem_of_getElem? (i := 11) rfl)) rfl (by decide) (by decide) (by decide) rfl at_165 (by decide) (by decide) (fun T357 b356 W358 => ?_)
        have W359 := W358.re (os' := [(b356, (.array .long), [.long (0 : Int64), .long (0 : Int64), .long (0 : Int64)])]) rfl
        refine g_astore (pc := 167) (ls' := #[.val (.long p0), .second, .val (.long p1), .second, .val (.long p2), .second, .val (.long p3), .second, .val (.long p4), .second, .val (.int p5), .val (.long x0), .second, .val (.long x1), .second, .val (.long x2), .second, .val (.int (3 : Int32)), .val (.int (1 : Int32)), .val (.long y0), .second, .val (.long y1), .second, .val (.long lo), .second, .val (.long hi), .second, .val (.ref b356), .unset, .unset]) W359 at_167 rfl rfl ?_
        refine g_iload (pc := 169) W359 at_169 rfl ?_
        refine g_ifN (pc := 171) W359 at_171 (by decide) ?_
        refine g_aload (pc := 174) W359 at_174 rfl rfl ?_
        refine g_iconst (pc := 176) (0 : Int32) (by decide) W359 at_176 ?_
        refine g_lload (pc := 177) W359 at_177 rfl ?_
        refine g_lastore (pc := 179) (i := 0) (os' := [(b356, (.array .long), [.long x0, .long (0 : Int64), .long (0 : Int64)])]) 0 W359 rfl (by decide) (by decide) (Nat.le_of_ble_eq_true rfl) rfl at_179 (fun T360 W361 => ?_)
        refine g_iload (pc := 180) W361 at_180 rfl ?_
        refine g_iconst (pc := 182) (1 : Int32) (by decide) W361 at_182 ?_
        refine g_icmpN (pc := 183) W361 at_183 (by decide) ?_
        refine g_aload (pc := 186) W361 at_186 rfl rfl ?_
        refine g_iconst (pc := 188) (1 : Int32) (by decide) W361 at_188 ?_
        refine g_lload (pc := 189) W361 at_189 rfl ?_
        refine g_lastore (pc := 191) (i := 0) (os' := [(b356, (.array .long), [.long x0, .long x1, .long (0 : Int64)])]) 1 W361 rfl (by decide) (by decide) (Nat.le_of_ble_eq_true rfl) rfl at_191 (fun T362 W363 => ?_)
        refine g_iload (pc := 192) W363 at_192 rfl ?_
        refine g_iconst (pc := 194) (2 : Int32) (by decide) W363 at_194 ?_
        refine g_icmpN (pc := 195) W363 at_195 (by decide) ?_
        refine g_aload (pc := 198) W363 at_198 rfl rfl ?_
        refine g_iconst (pc := 200) (2 : Int32) (by decide) W363 at_200 ?_
        refine g_lload (pc := 201) W363 at_201 rfl ?_
        refine g_lastore (pc := 203) (i := 0) (os' := [(b356, (.array .long), [.long x0, .long x1, .long x2])]) 2 W363 rfl (by decide) (by decide) (Nat.le_of_ble_eq_true rfl) rfl at_203 (fun T364 W365 => ?_)
        refine g_iload (pc := 204) W365 at_204 rfl ?_
        refine g_newarray (pc := 206) (ty := .long) (vs := [.long (0 : Int64)]) 1 W365 (hw _ (List.mem_of_getElem? (i := 11) rfl)) rfl (by decide) (by decide) (by decide) rfl at_206 (by decide) (by decide) (fun T367 b366 W368 => ?_)
        have W369 := W368.re (os' := [(b356, (.array .long), [.long x0, .long x1, .long x2]), (b366, (.array .long), [.long (0 : Int64)])]) rfl
        refine g_astore (pc := 208) (ls' := #[.val (.long p0), .second, .val (.long p1), .second, .val (.long p2), .second, .val (.long p3), .second, .val (.long p4), .second, .val (.int p5), .val (.long x0), .second, .val (.long x1), .second, .val (.long x2), .second, .val (.int (3 : Int32)), .val (.int (1 : Int32)), .val (.long y0), .second, .val (.long y1), .second, .val (.long lo), .second, .val (.long hi), .second, .val (.ref b356), .val (.ref b366), .unset]) W369 at_208 rfl rfl ?_
        refine g_iload (pc := 210) W369 at_210 rfl ?_
        refine g_iconst (pc := 212) (1 : Int32) (by decide) W369 at_212 ?_
        refine g_icmpN (pc := 213) W369 at_213 (by decide) ?_
        refine g_aload (pc := 216) W369 at_216 rfl rfl ?_
        refine g_iconst (pc := 218) (0 : Int32) (by decide) W369 at_218 ?_
        refine g_lload (pc := 219) W369 at_219 rfl ?_
        refine g_lastore (pc := 221) (i := 1) (os' := [(b356, (.array .long), [.long x0, .long x1, .long x2]), (b366, (.array .long), [.long y0])]) 0 W369 rfl (by decide) (by decide) (Nat.le_of_ble_eq_true rfl) rfl at_221 (fun T370 W371 => ?_)
        refine g_iload (pc := 222) W371 at_222 rfl ?_
        refine g_iconst (pc := 224) (2 : Int32) (by decide) W371 at_224 ?_
        refine g_icmpY 240 (pc := 225) W371 at_225 (by decide) (by decide) (by decide) ?_
        refine g_aload (pc := 240) W371 at_240 rfl rfl ?_
        refine g_aload (pc := 242) W371 at_242 rfl rfl ?_
        refine g_static (pc := 244) (Wt := 0) (argsL := [.ref b366, .ref b356]) (rest := []) (loc := [(b366, (.array .long), [.long y0]), (b356, (.array .long), [.long x0, .long x1, .long x2])]) (rst := []) W371 (hw _ (List.mem_of_getElem? (i := 12) rfl)) (hw _ (List.mem_of_getElem? (i := 13) rfl)) (hw _ (List.mem_of_getElem? (i := 14) rfl)) (hw _ (List.mem_of_getElem? (i := 15) rfl)) (by decide) (c_pos13 l Z a0 hw b366 b356 y0 x0 x1 x2 hx01 hx12) ⟨[1, 0], by decide, rfl⟩ rfl pd_AJAJ__AI rfl rfl rfl (Nat.le_of_ble_eq_true rfl) (by decide) (by decide) (by decide) (by decide) at_244 ?_
        rintro T373 _ _ ⟨b372, rfl, rfl⟩ W374
        have W375 := W374.re (os' := [(b366, (.array .long), [.long y0]), (b356, (.array .long), [.long x0, .long x1, .long x2]), (b372, (.array .int), [.int (ex3 y0 x0 x1 x2)])]) rfl
        show Go p_ e_ bl_ _ (T373.setTop (mkF m_ 247 #[.val (.long p0), .second, .val (.long p1), .second, .val (.long p2), .second, .val (.long p3), .second, .val (.long p4), .second, .val (.int p5), .val (.long x0), .second, .val (.long x1), .second, .val (.long x2), .second, .val (.int (3 : Int32)), .val (.int (1 : Int32)), .val (.long y0), .second, .val (.long y1), .second, .val (.long lo), .second, .val (.long hi), .second, .val (.ref b356), .val (.ref b366), .unset] [.ref b372]))
        refine g_astore (pc := 247) (ls' := #[.val (.long p0), .second, .val (.long p1), .second, .val (.long p2), .second, .val (.long p3), .second, .val (.long p4), .second, .val (.int p5), .val (.long x0), .second, .val (.long x1), .second, .val (.long x2), .second, .val (.int (3 : Int32)), .val (.int (1 : Int32)), .val (.long y0), .second, .val (.long y1), .second, .val (.long lo), .second, .val (.long hi), .second, .val (.ref b356), .val (.ref b366), .val (.ref b372)]) W375 at_247 rfl rfl ?_
        refine g_aload (pc := 249) W375 at_249 rfl rfl ?_
        refine g_arraylength (pc := 251) (i := 2) (1 : Int32) W375 rfl rfl at_251 ?_
        refine g_iload (pc := 252) W375 at_252 rfl ?_
        refine g_icmpY 259 (pc := 254) W375 at_254 (by decide) (by decide) (by decide) ?_
        refine g_iload (pc := 259) W375 at_259 rfl ?_
        refine g_ifN (pc := 261) W375 at_261 (by decide) ?_
        refine g_aload (pc := 264) W375 at_264 rfl rfl ?_
        refine g_iconst (pc := 266) (0 : Int32) (by decide) W375 at_266 ?_
        refine g_iaload (pc := 267) (i := 2) (v := .int (ex3 y0 x0 x1 x2)) W375 rfl (by decide) rfl at_267 ?_
        refine g_aload (pc := 268) W375 at_268 rfl rfl ?_
        refine g_iconst (pc := 270) (0 : Int32) (by decide) W375 at_270 ?_
        refine g_laload (pc := 271) (i := 0) (v := .long y0) W375 rfl (by decide) rfl at_271 ?_
        refine g_lload (pc := 272) W375 at_272 rfl ?_
        refine g_lload (pc := 274) W375 at_274 rfl ?_
        refine g_lload (pc := 276) W375 at_276 rfl ?_
        refine g_iload (pc := 278) W375 at_278 rfl ?_
        refine g_static (pc := 280) (Wt := 1) (argsL := [.long y0, .long x0, .long x1, .long x2, .int (3 : Int32)]) (rest := [.int (ex3 y0 x0 x1 x2)]) (loc := []) (rst := [(b366, (.array .long), [.long y0]), (b356, (.array .long), [.long x0, .long x1, .long x2]), (b372, (.array .int), [.int (ex3 y0 x0 x1 x2)])]) W375 (hw _ (List.mem_of_getElem? (i := 17) rfl)) (hw _ (List.mem_of_getElem? (i := 18) rfl)) (hw _ (List.mem_of_getElem? (i := 9) rfl)) (hw _ (List.mem_of_getElem? (i := 19) rfl)) (by decide) (c_exp3 l Z a0 hw y0 x0 x1 x2) Spl.none rfl pd_JJJJI__I rfl rfl rfl (Nat.le_of_ble_eq_true rfl) (by decide) (by decide) (by decide) (by decide) at_280 ?_
        rintro T376 _ _ ⟨rfl, rfl⟩ W377
        have W378 := W377.re (os' := [(b366, (.array .long), [.long y0]), (b356, (.array .long), [.long x0, .long x1, .long x2]), (b372, (.array .int), [.int (ex3 y0 x0 x1 x2)])]) rfl
        show Go p_ e_ bl_ _ (T376.setTop (mkF m_ 283 #[.val (.long p0), .second, .val (.long p1), .second, .val (.long p2), .second, .val (.long p3), .second, .val (.long p4), .second, .val (.int p5), .val (.long x0), .second, .val (.long x1), .second, .val (.long x2), .second, .val (.int (3 : Int32)), .val (.int (1 : Int32)), .val (.long y0), .second, .val (.long y1), .second, .val (.long lo), .second, .val (.long hi), .second, .val (.ref b356), .val (.ref b366), .val (.ref b372)] [.int (ex3 y0 x0 x1 x2), .int (ex3 y0 x0 x1 x2)]))
        refine g_icmpY 288 (pc := 283) W378 at_283 (by decide) (by decide) (by first | exact (teq rfl).1 | exact (teq rfl).2 | exact (flt (by simp)).1 | exact (flt (by simp)).2.1 | exact (flt (by simp)).2.2.1 | exact (flt (by simp)).2.2.2) ?_
        refine g_iload (pc := 288) W378 at_288 rfl ?_
        refine g_iconst (pc := 290) (1 : Int32) (by decide) W378 at_290 ?_
        refine g_icmpY 318 (pc := 291) W378 at_291 (by decide) (by decide) (by decide) ?_
        refine g_iconst (pc := 318) (1 : Int32) (by decide) W378 at_318 ?_
        exact g_zreturn (pc := 319) rfl (by decide) W378 at_319 (by decide) (by decide) rfl
      · refine g_iconst (pc := 91) (1 : Int32) (by decide) W24 at_91 ?_
        exact g_zreturn (pc := 92) rfl (by decide) W24 at_92 (by decide) (by decide) rfl
  · rw [hm, hn]
    refine g_iload (pc := 63) W24 at_63 rfl ?_
    refine g_iconst (pc := 65) (1 : Int32) (by decide) W24 at_65 ?_
    refine g_icmpN (pc := 66) W24 at_66 (by decide) ?_
    refine g_lload (pc := 69) W24 at_69 rfl ?_
    refine g_lload (pc := 71) W24 at_71 rfl ?_
    refine g_lcmp (pc := 73) W24 at_73 ?_
    refine g_if_eq 91 (pc := 74) W24 at_74 (by decide) (by decide) (fun c379 => ?_) (fun c379 => ?_)
    · refine g_iconst (pc := 91) (1 : Int32) (by decide) W24 at_91 ?_
      exact g_zreturn (pc := 92) rfl (by decide) W24 at_92 (by decide) (by decide) rfl
    · refine g_iload (pc := 77) W24 at_77 rfl ?_
      refine g_iconst (pc := 79) (2 : Int32) (by decide) W24 at_79 ?_
      refine g_icmpN (pc := 80) W24 at_80 (by decide) ?_
      refine g_lload (pc := 83) W24 at_83 rfl ?_
      refine g_lload (pc := 85) W24 at_85 rfl ?_
      refine g_lcmp (pc := 87) W24 at_87 ?_
      refine g_if_ne 93 (pc := 88) W24 at_88 (by decide) (by decide) (fun c380 => ?_) (fun c380 => ?_)
      · refine g_lload (pc := 93) W24 at_93 rfl ?_
        refine g_iload (pc := 95) W24 at_95 rfl ?_
        refine g_iconst (pc := 97) (3 : Int32) (by decide) W24 at_97 ?_
        refine g_iand (pc := 98) W24 at_98 ?_
        refine g_lload (pc := 99) W24 at_99 rfl ?_
        refine g_lload (pc := 101) W24 at_101 rfl ?_
        refine g_lload (pc := 103) W24 at_103 rfl ?_
        refine g_static (pc := 105) (Wt := 0) (argsL := [.long p3, .int (p5 &&& (3 : Int32)), .long x0, .long x1, .long x2]) (rest := []) (loc := []) (rst := []) W24 (hw _ (List.mem_of_getElem? (i := 7) rfl)) (hw _ (List.mem_of_getElem? (i := 8) rfl)) (hw _ (List.mem_of_getElem? (i := 9) rfl)) (hw _ (List.mem_of_getElem? (i := 10) rfl)) (by decide) (c_pck l Z a0 hw p3 (p5 &&& (3 : Int32)) x0 x1 x2) Spl.none rfl pd_JIJJJ__J rfl rfl rfl (Nat.le_of_ble_eq_true rfl) (by decide) (by decide) (by decide) (by decide) at_105 ?_
        rintro T381 _ _ ⟨rfl, rfl⟩ W382
        have W383 := W382.re (os' := []) rfl
        show Go p_ e_ bl_ _ (T381.setTop (mkF m_ 108 #[.val (.long p0), .second, .val (.long p1), .second, .val (.long p2), .second, .val (.long p3), .second, .val (.long p4), .second, .val (.int p5), .val (.long x0), .second, .val (.long x1), .second, .val (.long x2), .second, .val (.int (3 : Int32)), .val (.int (2 : Int32)), .unset, .unset, .unset, .unset, .unset, .unset, .unset, .unset, .unset, .unset, .unset] [.long (pck p3 (p5 &&& (3 : Int32)) x0 x1 x2)]))
        refine g_lstore (pc := 108) (ls' := #[.val (.long p0), .second, .val (.long p1), .second, .val (.long p2), .second, .val (.long p3), .second, .val (.long p4), .second, .val (.int p5), .val (.long x0), .second, .val (.long x1), .second, .val (.long x2), .second, .val (.int (3 : Int32)), .val (.int (2 : Int32)), .val (.long (pck p3 (p5 &&& (3 : Int32)) x0 x1 x2)), .second, .unset, .unset, .unset, .unset, .unset, .unset, .unset, .unset, .unset]) W383 at_108 rfl ?_
        refine g_lload (pc := 110) W383 at_110 rfl ?_
        refine g_iload (pc := 112) W383 at_112 rfl ?_
        refine g_iconst (pc := 114) (2 : Int32) (by decide) W383 at_114 ?_
        refine g_iushr (pc := 115) W383 at_115 ?_
        refine g_iconst (pc := 116) (3 : Int32) (by decide) W383 at_116 ?_
        refine g_iand (pc := 117) W383 at_117 ?_
        refine g_lload (pc := 118) W383 at_118 rfl ?_
        refine g_lload (pc := 120) W383 at_120 rfl ?_
        refine g_lload (pc := 122) W383 at_122 rfl ?_
        refine g_static (pc := 124) (Wt := 0) (argsL := [.long p4, .int ((XT.ushr p5 (2 : Int32)) &&& (3 : Int32)), .long x0, .long x1, .long x2]) (rest := []) (loc := []) (rst := []) W383 (hw _ (List.mem_of_getElem? (i := 7) rfl)) (hw _ (List.mem_of_getElem? (i := 8) rfl)) (hw _ (List.mem_of_getElem? (i := 9) rfl)) (hw _ (List.mem_of_getElem? (i := 10) rfl)) (by decide) (c_pck l Z a0 hw p4 ((XT.ushr p5 (2 : Int32)) &&& (3 : Int32)) x0 x1 x2) Spl.none rfl pd_JIJJJ__J rfl rfl rfl (Nat.le_of_ble_eq_true rfl) (by decide) (by decide) (by decide) (by decide) at_124 ?_
        rintro T384 _ _ ⟨rfl, rfl⟩ W385
        have W386 := W385.re (os' := []) rfl
        show Go p_ e_ bl_ _ (T384.setTop (mkF m_ 127 #[.val (.long p0), .second, .val (.long p1), .second, .val (.long p2), .second, .val (.long p3), .second, .val (.long p4), .second, .val (.int p5), .val (.long x0), .second, .val (.long x1), .second, .val (.long x2), .second, .val (.int (3 : Int32)), .val (.int (2 : Int32)), .val (.long (pck p3 (p5 &&& (3 : Int32)) x0 x1 x2)), .second, .unset, .unset, .unset, .unset, .unset, .unset, .unset, .unset, .unset] [.long (pck p4 ((XT.ushr p5 (2 : Int32)) &&& (3 : Int32)) x0 x1 x2)]))
        refine g_lstore (pc := 127) (ls' := #[.val (.long p0), .second, .val (.long p1), .second, .val (.long p2), .second, .val (.long p3), .second, .val (.long p4), .second, .val (.int p5), .val (.long x0), .second, .val (.long x1), .second, .val (.long x2), .second, .val (.int (3 : Int32)), .val (.int (2 : Int32)), .val (.long (pck p3 (p5 &&& (3 : Int32)) x0 x1 x2)), .second, .val (.long (pck p4 ((XT.ushr p5 (2 : Int32)) &&& (3 : Int32)) x0 x1 x2)), .second, .unset, .unset, .unset, .unset, .unset, .unset, .unset]) W386 at_127 rfl ?_
        generalize (pck p3 (p5 &&& (3 : Int32)) x0 x1 x2) = y0
        generalize (pck p4 ((XT.ushr p5 (2 : Int32)) &&& (3 : Int32)) x0 x1 x2) = y1
        refine g_lload (pc := 129) W386 at_129 rfl ?_
        refine g_lload (pc := 131) W386 at_131 rfl ?_
        refine g_static (pc := 133) (Wt := 0) (argsL := [.long y0, .long y1]) (rest := []) (loc := []) (rst := []) W386 (hw _ (List.mem_of_getElem? (i := 0) rfl)) (hw _ (List.mem_of_getElem? (i := 1) rfl)) (hw _ (List.mem_of_getElem? (i := 2) rfl)) (hw _ (List.mem_of_getElem? (i := 3) rfl)) (by decide) (c_min l Z a0 hw y0 y1) Spl.none rfl pd_JJ__J rfl rfl rfl (Nat.le_of_ble_eq_true rfl) (by decide) (by decide) (by decide) (by decide) at_133 ?_
        rintro T387 _ _ ⟨rfl, rfl⟩ W388
        have W389 := W388.re (os' := []) rfl
        show Go p_ e_ bl_ _ (T387.setTop (mkF m_ 136 #[.val (.long p0), .second, .val (.long p1), .second, .val (.long p2), .second, .val (.long p3), .second, .val (.long p4), .second, .val (.int p5), .val (.long x0), .second, .val (.long x1), .second, .val (.long x2), .second, .val (.int (3 : Int32)), .val (.int (2 : Int32)), .val (.long y0), .second, .val (.long y1), .second, .unset, .unset, .unset, .unset, .unset, .unset, .unset] [.long (mnL y0 y1)]))
        refine g_lstore (pc := 136) (ls' := #[.val (.long p0), .second, .val (.long p1), .second, .val (.long p2), .second, .val (.long p3), .second, .val (.long p4), .second, .val (.int p5), .val (.long x0), .second, .val (.long x1), .second, .val (.long x2), .second, .val (.int (3 : Int32)), .val (.int (2 : Int32)), .val (.long y0), .second, .val (.long y1), .second, .val (.long (mnL y0 y1)), .second, .unset, .unset, .unset, .unset, .unset]) W389 at_136 rfl ?_
        refine g_lload (pc := 138) W389 at_138 rfl ?_
        refine g_lload (pc := 140) W389 at_140 rfl ?_
        refine g_static (pc := 142) (Wt := 0) (argsL := [.long y0, .long y1]) (rest := []) (loc := []) (rst := []) W389 (hw _ (List.mem_of_getElem? (i := 4) rfl)) (hw _ (List.mem_of_getElem? (i := 5) rfl)) (hw _ (List.mem_of_getElem? (i := 2) rfl)) (hw _ (List.mem_of_getElem? (i := 6) rfl)) (by decide) (c_max l Z a0 hw y0 y1) Spl.none rfl pd_JJ__J rfl rfl rfl (Nat.le_of_ble_eq_true rfl) (by decide) (by decide) (by decide) (by decide) at_142 ?_
        rintro T390 _ _ ⟨rfl, rfl⟩ W391
        have W392 := W391.re (os' := []) rfl
        show Go p_ e_ bl_ _ (T390.setTop (mkF m_ 145 #[.val (.long p0), .second, .val (.long p1), .second, .val (.long p2), .second, .val (.long p3), .second, .val (.long p4), .second, .val (.int p5), .val (.long x0), .second, .val (.long x1), .second, .val (.long x2), .second, .val (.int (3 : Int32)), .val (.int (2 : Int32)), .val (.long y0), .second, .val (.long y1), .second, .val (.long (mnL y0 y1)), .second, .unset, .unset, .unset, .unset, .unset] [.long (mxL y0 y1)]))
        refine g_lstore (pc := 145) (ls' := #[.val (.long p0), .second, .val (.long p1), .second, .val (.long p2), .second, .val (.long p3), .second, .val (.long p4), .second, .val (.int p5), .val (.long x0), .second, .val (.long x1), .second, .val (.long x2), .second, .val (.int (3 : Int32)), .val (.int (2 : Int32)), .val (.long y0), .second, .val (.long y1), .second, .val (.long (mnL y0 y1)), .second, .val (.long (mxL y0 y1)), .second, .unset, .unset, .unset]) W392 at_145 rfl ?_
        have hl := own_lohi y0 y1
        generalize (mnL y0 y1) = lo at hl ⊢
        generalize (mxL y0 y1) = hi at hl ⊢
        refine g_iload (pc := 147) W392 at_147 rfl ?_
        refine g_iconst (pc := 149) (2 : Int32) (by decide) W392 at_149 ?_
        refine g_icmpN (pc := 150) W392 at_150 (by decide) ?_
        refine g_lload (pc := 153) W392 at_153 rfl ?_
        refine g_lload (pc := 155) W392 at_155 rfl ?_
        refine g_lcmp (pc := 157) W392 at_157 ?_
        refine g_if_ne 163 (pc := 158) W392 at_158 (by decide) (by decide) (fun c393 => ?_) (fun c393 => ?_)
        · have hx01 : x0.toInt < x1.toInt := by rw [cl_eq, ← Int64.toInt_inj] at c379; have := hs.1; omega
          have hx12 : x1.toInt < x2.toInt := by rw [cl_eq, ← Int64.toInt_inj] at c380; have := hs.2; omega
          have hy01 : lo.toInt < hi.toInt := by rw [cl_eq, ← Int64.toInt_inj] at c393; have := hl; omega
          refine g_iload (pc := 163) W392 at_163 rfl ?_
          refine g_newarray (pc := 165) (ty := .long) (vs := [.long (0 : Int64), .long (0 : Int64), .long (0 : Int64)]) 3 W392 (hw _ (List.mem_of_getElem? (i := 11) rfl)) rfl (by decide) (by decide) (by decide) rfl at_165 (by decide) (by decide) (fun T395 b394 W396 => ?_)
          have W397 := W396.re (os' := [(b394, (.array .long), [.long (0 : Int64), .long (0 : Int64), .long (0 : Int64)])]) rfl
          refine g_astore (pc := 167) (ls' := #[.val (.long p0), .second, .val (.long p1), .second, .val (.long p2), .second, .val (.long p3), .second, .val (.long p4), .second, .val (.int p5), .val (.long x0), .second, .val (.long x1), .second, .val (.long x2), .second, .val (.int (3 : Int32)), .val (.int (2 : Int32)), .val (.long y0), .second, .val (.long y1), .second, .val (.long lo), .second, .val (.long hi), .second, .val (.ref b394), .unset, .unset]) W397 at_167 rfl rfl ?_
          refine g_iload (pc := 169) W397 at_169 rfl ?_
          refine g_ifN (pc := 171) W397 at_171 (by decide) ?_
          refine g_aload (pc := 174) W397 at_174 rfl rfl ?_
          refine g_iconst (pc := 176) (0 : Int32) (by decide) W397 at_176 ?_
          refine g_lload (pc := 177) W397 at_177 rfl ?_
          refine g_lastore (pc := 179) (i := 0) (os' := [(b394, (.array .long), [.long x0, .long (0 : Int64), .long (0 : Int64)])]) 0 W397 rfl (by decide) (by decide) (Nat.le_of_ble_eq_true rfl) rfl at_179 (fun T398 W399 => ?_)
          refine g_iload (pc := 180) W399 at_180 rfl ?_
          refine g_iconst (pc := 182) (1 : Int32) (by decide) W399 at_182 ?_
          refine g_icmpN (pc := 183) W399 at_183 (by decide) ?_
          refine g_aload (pc := 186) W399 at_186 rfl rfl ?_
          refine g_iconst (pc := 188) (1 : Int32) (by decide) W399 at_188 ?_
          refine g_lload (pc := 189) W399 at_189 rfl ?_
          refine g_lastore (pc := 191) (i := 0) (os' := [(b394, (.array .long), [.long x0, .long x1, .long (0 : Int64)])]) 1 W399 rfl (by decide) (by decide) (Nat.le_of_ble_eq_true rfl) rfl at_191 (fun T400 W401 => ?_)
          refine g_iload (pc := 192) W401 at_192 rfl ?_
          refine g_iconst (pc := 194) (2 : Int32) (by decide) W401 at_194 ?_
          refine g_icmpN (pc := 195) W401 at_195 (by decide) ?_
          refine g_aload (pc := 198) W401 at_198 rfl rfl ?_
          refine g_iconst (pc := 200) (2 : Int32) (by decide) W401 at_200 ?_
          refine g_lload (pc := 201) W401 at_201 rfl ?_
          refine g_lastore (pc := 203) (i := 0) (os' := [(b394, (.array .long), [.long x0, .long x1, .long x2])]) 2 W401 rfl (by decide) (by decide) (Nat.le_of_ble_eq_true rfl) rfl at_203 (fun T402 W403 => ?_)
          refine g_iload (pc := 204) W403 at_204 rfl ?_
          refine g_newarray (pc := 206) (ty := .long) (vs := [.long (0 : Int64), .long (0 : Int64)]) 2 W403 (hw _ (List.mem_of_getElem? (i := 11) rfl)) rfl (by decide) (by decide) (by decide) rfl at_206 (by decide) (by decide) (fun T405 b404 W406 => ?_)
          have W407 := W406.re (os' := [(b394, (.array .long), [.long x0, .long x1, .long x2]), (b404, (.array .long), [.long (0 : Int64), .long (0 : Int64)])]) rfl
          refine g_astore (pc := 208) (ls' := #[.val (.long p0), .second, .val (.long p1), .second, .val (.long p2), .second, .val (.long p3), .second, .val (.long p4), .second, .val (.int p5), .val (.long x0), .second, .val (.long x1), .second, .val (.long x2), .second, .val (.int (3 : Int32)), .val (.int (2 : Int32)), .val (.long y0), .second, .val (.long y1), .second, .val (.long lo), .second, .val (.long hi), .second, .val (.ref b394), .val (.ref b404), .unset]) W407 at_208 rfl rfl ?_
          refine g_iload (pc := 210) W407 at_210 rfl ?_
          refine g_iconst (pc := 212) (1 : Int32) (by decide) W407 at_212 ?_
          refine g_icmpY 222 (pc := 213) W407 at_213 (by decide) (by decide) (by decide) ?_
          refine g_iload (pc := 222) W407 at_222 rfl ?_
          refine g_iconst (pc := 224) (2 : Int32) (by decide) W407 at_224 ?_
          refine g_icmpN (pc := 225) W407 at_225 (by decide) ?_
          refine g_aload (pc := 228) W407 at_228 rfl rfl ?_
          refine g_iconst (pc := 230) (0 : Int32) (by decide) W407 at_230 ?_
          refine g_lload (pc := 231) W407 at_231 rfl ?_
          refine g_lastore (pc := 233) (i := 1) (os' := [(b394, (.array .long), [.long x0, .long x1, .long x2]), (b404, (.array .long), [.long lo, .long (0 : Int64)])]) 0 W407 rfl (by decide) (by decide) (Nat.le_of_ble_eq_true rfl) rfl at_233 (fun T408 W409 => ?_)
          refine g_aload (pc := 234) W409 at_234 rfl rfl ?_
          refine g_iconst (pc := 236) (1 : Int32) (by decide) W409 at_236 ?_
          refine g_lload (pc := 237) W409 at_237 rfl ?_
          refine g_lastore (pc := 239) (i := 1) (os' := [(b394, (.array .long), [.long x0, .long x1, .long x2]), (b404, (.array .long), [.long lo, .long hi])]) 1 W409 rfl (by decide) (by decide) (Nat.le_of_ble_eq_true rfl) rfl at_239 (fun T410 W411 => ?_)
          refine g_aload (pc := 240) W411 at_240 rfl rfl ?_
          refine g_aload (pc := 242) W411 at_242 rfl rfl ?_
          refine g_static (pc := 244) (Wt := 0) (argsL := [.ref b404, .ref b394]) (rest := []) (loc := [(b404, (.array .long), [.long lo, .long hi]), (b394, (.array .long), [.long x0, .long x1, .long x2])]) (rst := []) W411 (hw _ (List.mem_of_getElem? (i := 12) rfl)) (hw _ (List.mem_of_getElem? (i := 13) rfl)) (hw _ (List.mem_of_getElem? (i := 14) rfl)) (hw _ (List.mem_of_getElem? (i := 15) rfl)) (by decide) (c_pos23 l Z a0 hw b404 b394 lo hi x0 x1 x2 hx01 hx12 hy01) ⟨[1, 0], by decide, rfl⟩ rfl pd_AJAJ__AI rfl rfl rfl (Nat.le_of_ble_eq_true rfl) (by decide) (by decide) (by decide) (by decide) at_244 ?_
          rintro T413 _ _ ⟨b412, rfl, rfl⟩ W414
          have W415 := W414.re (os' := [(b404, (.array .long), [.long lo, .long hi]), (b394, (.array .long), [.long x0, .long x1, .long x2]), (b412, (.array .int), [.int (ex3 lo x0 x1 x2), .int (ex3 hi x0 x1 x2)])]) rfl
          show Go p_ e_ bl_ _ (T413.setTop (mkF m_ 247 #[.val (.long p0), .second, .val (.long p1), .second, .val (.long p2), .second, .val (.long p3), .second, .val (.long p4), .second, .val (.int p5), .val (.long x0), .second, .val (.long x1), .second, .val (.long x2), .second, .val (.int (3 : Int32)), .val (.int (2 : Int32)), .val (.long y0), .second, .val (.long y1), .second, .val (.long lo), .second, .val (.long hi), .second, .val (.ref b394), .val (.ref b404), .unset] [.ref b412]))
          refine g_astore (pc := 247) (ls' := #[.val (.long p0), .second, .val (.long p1), .second, .val (.long p2), .second, .val (.long p3), .second, .val (.long p4), .second, .val (.int p5), .val (.long x0), .second, .val (.long x1), .second, .val (.long x2), .second, .val (.int (3 : Int32)), .val (.int (2 : Int32)), .val (.long y0), .second, .val (.long y1), .second, .val (.long lo), .second, .val (.long hi), .second, .val (.ref b394), .val (.ref b404), .val (.ref b412)]) W415 at_247 rfl rfl ?_
          refine g_aload (pc := 249) W415 at_249 rfl rfl ?_
          refine g_arraylength (pc := 251) (i := 2) (2 : Int32) W415 rfl rfl at_251 ?_
          refine g_iload (pc := 252) W415 at_252 rfl ?_
          refine g_icmpY 259 (pc := 254) W415 at_254 (by decide) (by decide) (by decide) ?_
          refine g_iload (pc := 259) W415 at_259 rfl ?_
          refine g_ifN (pc := 261) W415 at_261 (by decide) ?_
          refine g_aload (pc := 264) W415 at_264 rfl rfl ?_
          refine g_iconst (pc := 266) (0 : Int32) (by decide) W415 at_266 ?_
          refine g_iaload (pc := 267) (i := 2) (v := .int (ex3 lo x0 x1 x2)) W415 rfl (by decide) rfl at_267 ?_
          refine g_aload (pc := 268) W415 at_268 rfl rfl ?_
          refine g_iconst (pc := 270) (0 : Int32) (by decide) W415 at_270 ?_
          refine g_laload (pc := 271) (i := 0) (v := .long lo) W415 rfl (by decide) rfl at_271 ?_
          refine g_lload (pc := 272) W415 at_272 rfl ?_
          refine g_lload (pc := 274) W415 at_274 rfl ?_
          refine g_lload (pc := 276) W415 at_276 rfl ?_
          refine g_iload (pc := 278) W415 at_278 rfl ?_
          refine g_static (pc := 280) (Wt := 1) (argsL := [.long lo, .long x0, .long x1, .long x2, .int (3 : Int32)]) (rest := [.int (ex3 lo x0 x1 x2)]) (loc := []) (rst := [(b404, (.array .long), [.long lo, .long hi]), (b394, (.array .long), [.long x0, .long x1, .long x2]), (b412, (.array .int), [.int (ex3 lo x0 x1 x2), .int (ex3 hi x0 x1 x2)])]) W415 (hw _ (List.mem_of_getElem? (i := 17) rfl)) (hw _ (List.mem_of_getElem? (i := 18) rfl)) (hw _ (List.mem_of_getElem? (i := 9) rfl)) (hw _ (List.mem_of_getElem? (i := 19) rfl)) (by decide) (c_exp3 l Z a0 hw lo x0 x1 x2) Spl.none rfl pd_JJJJI__I rfl rfl rfl (Nat.le_of_ble_eq_true rfl) (by decide) (by decide) (by decide) (by decide) at_280 ?_
          rintro T416 _ _ ⟨rfl, rfl⟩ W417
          have W418 := W417.re (os' := [(b404, (.array .long), [.long lo, .long hi]), (b394, (.array .long), [.long x0, .long x1, .long x2]), (b412, (.array .int), [.int (ex3 lo x0 x1 x2), .int (ex3 hi x0 x1 x2)])]) rfl
          show Go p_ e_ bl_ _ (T416.setTop (mkF m_ 283 #[.val (.long p0), .second, .val (.long p1), .second, .val (.long p2), .second, .val (.long p3), .second, .val (.long p4), .second, .val (.int p5), .val (.long x0), .second, .val (.long x1), .second, .val (.long x2), .second, .val (.int (3 : Int32)), .val (.int (2 : Int32)), .val (.long y0), .second, .val (.long y1), .second, .val (.long lo), .second, .val (.long hi), .second, .val (.ref b394), .val (.ref b404), .val (.ref b412)] [.int (ex3 lo x0 x1 x2), .int (ex3 lo x0 x1 x2)]))
          refine g_icmpY 288 (pc := 283) W418 at_283 (by decide) (by decide) (by first | exact (teq rfl).1 | exact (teq rfl).2 | exact (flt (by simp)).1 | exact (flt (by simp)).2.1 | exact (flt (by simp)).2.2.1 | exact (flt (by simp)).2.2.2) ?_
          refine g_iload (pc := 288) W418 at_288 rfl ?_
          refine g_iconst (pc := 290) (1 : Int32) (by decide) W418 at_290 ?_
          refine g_icmpN (pc := 291) W418 at_291 (by decide) ?_
          refine g_aload (pc := 294) W418 at_294 rfl rfl ?_
          refine g_iconst (pc := 296) (1 : Int32) (by decide) W418 at_296 ?_
          refine g_iaload (pc := 297) (i := 2) (v := .int (ex3 hi x0 x1 x2)) W418 rfl (by decide) rfl at_297 ?_
          refine g_aload (pc := 298) W418 at_298 rfl rfl ?_
          refine g_iconst (pc := 300) (1 : Int32) (by decide) W418 at_300 ?_
          refine g_laload (pc := 301) (i := 0) (v := .long hi) W418 rfl (by decide) rfl at_301 ?_
          refine g_lload (pc := 302) W418 at_302 rfl ?_
          refine g_lload (pc := 304) W418 at_304 rfl ?_
          refine g_lload (pc := 306) W418 at_306 rfl ?_
          refine g_iload (pc := 308) W418 at_308 rfl ?_
          refine g_static (pc := 310) (Wt := 1) (argsL := [.long hi, .long x0, .long x1, .long x2, .int (3 : Int32)]) (rest := [.int (ex3 hi x0 x1 x2)]) (loc := []) (rst := [(b404, (.array .long), [.long lo, .long hi]), (b394, (.array .long), [.long x0, .long x1, .long x2]), (b412, (.array .int), [.int (ex3 lo x0 x1 x2), .int (ex3 hi x0 x1 x2)])]) W418 (hw _ (List.mem_of_getElem? (i := 17) rfl)) (hw _ (List.mem_of_getElem? (i := 18) rfl)) (hw _ (List.mem_of_getElem? (i := 9) rfl)) (hw _ (List.mem_of_getElem? (i := 19) rfl)) (by decide) (c_exp3 l Z a0 hw hi x0 x1 x2) Spl.none rfl pd_JJJJI__I rfl rfl rfl (Nat.le_of_ble_eq_true rfl) (by decide) (by decide) (by decide) (by decide) at_310 ?_
          rintro T419 _ _ ⟨rfl, rfl⟩ W420
          have W421 := W420.re (os' := [(b404, (.array .long), [.long lo, .long hi]), (b394, (.array .long), [.long x0, .long x1, .long x2]), (b412, (.array .int), [.int (ex3 lo x0 x1 x2), .int (ex3 hi x0 x1 x2)])]) rfl
          show Go p_ e_ bl_ _ (T419.setTop (mkF m_ 313 #[.val (.long p0), .second, .val (.long p1), .second, .val (.long p2), .second, .val (.long p3), .second, .val (.long p4), .second, .val (.int p5), .val (.long x0), .second, .val (.long x1), .second, .val (.long x2), .second, .val (.int (3 : Int32)), .val (.int (2 : Int32)), .val (.long y0), .second, .val (.long y1), .second, .val (.long lo), .second, .val (.long hi), .second, .val (.ref b394), .val (.ref b404), .val (.ref b412)] [.int (ex3 hi x0 x1 x2), .int (ex3 hi x0 x1 x2)]))
          refine g_icmpY 318 (pc := 313) W421 at_313 (by decide) (by decide) (by first | exact (teq rfl).1 | exact (teq rfl).2 | exact (flt (by simp)).1 | exact (flt (by simp)).2.1 | exact (flt (by simp)).2.2.1 | exact (flt (by simp)).2.2.2) ?_
          refine g_iconst (pc := 318) (1 : Int32) (by decide) W421 at_318 ?_
          exact g_zreturn (pc := 319) rfl (by decide) W421 at_319 (by decide) (by decide) rfl
        · refine g_iconst (pc := 161) (1 : Int32) (by decide) W392 at_161 ?_
          exact g_zreturn (pc := 162) rfl (by decide) W392 at_162 (by decide) (by decide) rfl
      · refine g_iconst (pc := 91) (1 : Int32) (by decide) W24 at_91 ?_
        exact g_zreturn (pc := 92) rfl (by decide) W24 at_92 (by decide) (by decide) rfl
set_option maxRecDepth 65536 in
set_option maxHeartbeats 40000000 in
theorem comes_1 {Post : Tables → Env → Array Value → State → Outcome → State → Prop} (hpost : ∀ tb e args s v u, (limb_1_1.after args s (.returned v) u = true ∧ limb_1_2.after args s (.returned v) u = true ∧ True) → FrameEnd s (.returned v) u (Jvm.fieldLocs frame_1_writes args s ++ Jvm.arrayLocs frame_1_arrays args s ++ Jvm.staticLocs frame_1_statics s) 16 128 → Post tb e args s (.returned v) u) :
    ArmFor flags0 classFile x code maxLocals ret World_1 tables_1 room_1 Calls_1 rest_1 Pre_1 Post := by
  intro l hfl _ _ p e ha hc hk s m args below hf hA hF happ hP
  obtain ⟨hcalls, hrest, hpre⟩ := hP
  obtain ⟨-, -, -, hnamed, -, -, -, hat⟩ := (Spec.applies_iff hf).mp happ
  obtain ⟨hg, hn⟩ := and_e (Cond.before_iff.mp (show (Jvm.Cond.and given_1 narrow_1).before args s = true from hpre))
  obtain ⟨h1, hr0⟩ := and_e hg
  obtain ⟨w0, w1, w2, w3, w4, w5, rfl⟩ : ∃ w0 w1 w2 w3 w4 w5 : Value, args = #[w0, w1, w2, w3, w4, w5] := by
    have hs : args.size = 6 := by simpa [Cond.value, given_1] using h1
    obtain ⟨L⟩ := args
    match L, hs with
    | [w0, w1, w2, w3, w4, w5], _ => exact ⟨w0, w1, w2, w3, w4, w5, rfl⟩
  have hw := fun d (hd : d ∈ tables_1) => atoms_spec (ws := Jvm.Cond.code x code maxLocals ret :: tables_1) hat d (List.mem_cons_of_mem _ hd)
  obtain ⟨ha0, hr1⟩ := and_e hr0
  obtain ⟨i0, e0⟩ := isL_v ha0
  obtain rfl : w0 = (.long i0) := Option.some.inj e0
  obtain ⟨ha1, hr2⟩ := and_e hr1
  obtain ⟨i1, e1⟩ := isL_v ha1
  obtain rfl : w1 = (.long i1) := Option.some.inj e1
  obtain ⟨ha2, hr3⟩ := and_e hr2
  obtain ⟨i2, e2⟩ := isL_v ha2
  obtain rfl : w2 = (.long i2) := Option.some.inj e2
  obtain ⟨ha3, hr4⟩ := and_e hr3
  obtain ⟨i3, e3⟩ := isL_v ha3
  obtain rfl : w3 = (.long i3) := Option.some.inj e3
  obtain ⟨ha4, hr5⟩ := and_e hr4
  obtain ⟨i4, e4⟩ := isL_v ha4
  obtain rfl : w4 = (.long i4) := Option.some.inj e4
  obtain ⟨i5, e5⟩ := is_v hr5
  obtain rfl : w5 = (.int i5) := Option.some.inj e5
  obtain ⟨n, o, h1, h2, h3, _, L, rfl, hQ, hq⟩ := c_law l s _ hw (B := s.heap.size) i0 i1 i2 i3 i4 i5 s.heap Hp.nil (fun _ q => nomatch q) (Nat.le_refl _) p e ha hc hk s m _ below hf ((Spec.applies_iff_loose hf).mp happ).1 ⟨rfl, State.Warmed39.refl s, rfl⟩ trivial
  have N := Con.frame (y := x) (as := #[]) (rm := room_1) hQ
  obtain ⟨-, os', -, rfl⟩ := hQ
  refine ⟨n, _, h1, h2, h3, hpost _ _ _ _ _ _ ⟨Cond.after_iff.mpr rfl, Cond.after_iff.mpr (eq_i res_at (Term.int_eval (1)) rfl), trivial⟩ ⟨hq.1, hq.2.1, (hq.2.2.sift fun y hy => Or.inr (N y hy)).mono (by decide) (by decide)⟩⟩
theorem main_1_1 : Claimed_1_1 := comes_1 fun _ _ _ _ _ _ h hF => ⟨h.1, hF⟩
theorem main_1_2 : Claimed_1_2 := comes_1 fun _ _ _ _ _ _ h hF => ⟨h.2.1, hF⟩
end Jvm.Pilot.@@N@@
namespace Jvm.Pilot.@@N@@
open Jvm Jvm.ClassFile Sem Op Lib Jvm.Free Jvm.Stand Jvm.Pilot.@@N@@.Jvm.D
/-! MADE BY PROGRAM (witnessworld.py) out of the Statement's table words and the real class files: 12 classes; the members and pool entries that the words name. The judged class is class 1, her method 1. -/
namespace start1
open Jvm.ClassFile
def u (s : String) : CpInfo := .utf8 (stringToUtf16 s)
/-- a pool by its gaps: so many unusable entries, then the entry; so many at the end -/
def gap : Nat → List CpInfo → List CpInfo
  | 0, r => r
  | n + 1, r => .unusable :: gap n r
def poolList (es : List (Nat × CpInfo)) (last : Nat) : List CpInfo := es.foldr (fun e r => gap e.1 (e.2 :: r)) (gap last [])
def pool (es : List (Nat × CpInfo)) (last : Nat) : Array CpInfo := ⟨poolList es last⟩
def fileOf (pool : Array CpInfo) (this : Nat) (attrs : Array Attribute := #[]) (ms : Array MethodInfo := #[]) (fl : Nat := 33) (sup : Nat := 0) (ifs : Array Nat := #[]) (fds : Array FieldInfo := #[]) : ClassFile where
  minorVersion := 0
  majorVersion := 65
  constantPool := pool
  accessFlags := fl
  thisClass := this
  superClass := sup
  interfaces := ifs
  fields := fds
  methods := ms
  attributes := attrs
def plain (name : String) (sup : Option ClassId) : Class where
  name := name
  kind := .ordinary
  loader := none
  accessFlags := 33
  super := sup
  interfaces := #[]
  cf := none
  fields := #[]
  methods := #[]
  instanceTypes := #[]
  staticTypes := #[]
  resolved := #[]
  callSites := []
  init := .initialized
  statics := none
  mirror := none

def pool0 : Array CpInfo := pool [(5, u "<init>"), (0, u "()V"), (1, .class_ 10), (1, u "java/lang/Object")] 113

def k0m0 : Method := { name := "<init>", desc := "()V", sig := { parameters := [], returnType := none }, accessFlags := 1, code := none }
/-- java/lang/Object -/
def k0 : Class := { plain "java/lang/Object" none with
  accessFlags := 33
  interfaces := #[]
  cf := some (fileOf pool0 8 #[] #[{ accessFlags := 1, nameIndex := 5, descriptorIndex := 6, attributes := #[] }] 33 0 #[] #[])
  fields := #[]
  methods := #[k0m0]
  instanceTypes := #[]
  staticTypes := #[]
  resolved := Array.replicate 124 none
  statics := none }

def pool1 : Array CpInfo := pool [(2, .class_ 4), (1, u "java/lang/Object"), (0, u "<init>"), (0, u "()V"), (0, .methodref 8 9), (0, .class_ 10), (0, .nameAndType 11 12), (0, u "java/lang/Math"), (0, u "min"), (0, u "(JJ)J"), (0, .methodref 8 14), (0, .nameAndType 15 12), (0, u "max"), (0, .methodref 17 18), (0, .class_ 19), (0, .nameAndType 20 21), (0, u "com/example/rover/rover/broker/IdsPositionsPinLaw"), (0, u "pick"), (0, u "(JIJJJ)J"), (0, .methodref 23 24), (0, .class_ 25), (0, .nameAndType 26 27), (0, u "com/example/rover/rover/broker/Ids"), (0, u "positions"), (0, u "([J[J)[I"), (0, .methodref 17 29), (0, .nameAndType 30 31), (0, u "expect"), (0, u "(JJJJI)I"), (2, u "law"), (0, u "(JJJJJI)Z")] 7

def k1m0 : Method := { name := "<init>", desc := "()V", sig := { parameters := [], returnType := none }, accessFlags := 2, code := none }
def k1c1 : Code := { maxStack := 10, maxLocals := 30, code := code, exceptionTable := #[], attributes := #[] }
def k1m1 : Method := { name := "law", desc := "(JJJJJI)Z", sig := { parameters := [.long, .long, .long, .long, .long, .int], returnType := some .boolean }, accessFlags := 9, code := some k1c1 }
def k1c2 : Code := { maxStack := 2, maxLocals := 9, code := method_3_code, exceptionTable := #[], attributes := #[] }
def k1m2 : Method := { name := "pick", desc := "(JIJJJ)J", sig := { parameters := [.long, .int, .long, .long, .long], returnType := some .long }, accessFlags := 10, code := some k1c2 }
def k1c3 : Code := { maxStack := 4, maxLocals := 9, code := method_4_code, exceptionTable := #[], attributes := #[] }
def k1m3 : Method := { name := "expect", desc := "(JJJJI)I", sig := { parameters := [.long, .long, .long, .long, .int], returnType := some .int }, accessFlags := 10, code := some k1c3 }
/-- com/example/rover/rover/broker/IdsPositionsPinLaw -/
def k1 : Class := { plain "com/example/rover/rover/broker/IdsPositionsPinLaw" (some 0) with
  accessFlags := 49
  interfaces := #[]
  cf := some (fileOf pool1 17 #[] #[{ accessFlags := 2, nameIndex := 5, descriptorIndex := 6, attributes := #[] }, { accessFlags := 9, nameIndex := 34, descriptorIndex := 35, attributes := #[] }, { accessFlags := 10, nameIndex := 20, descriptorIndex := 21, attributes := #[] }, { accessFlags := 10, nameIndex := 30, descriptorIndex := 31, attributes := #[] }] 49 2 #[] #[])
  fields := #[]
  methods := #[k1m0, k1m1, k1m2, k1m3]
  instanceTypes := #[]
  staticTypes := #[]
  resolved := Array.replicate 43 none
  statics := none }

def pool2 : Array CpInfo := pool [(1, .class_ 2), (0, u "java/lang/Math"), (1, .class_ 6), (1, u "java/lang/Object"), (0, u "<init>"), (0, u "()V"), (89, .class_ 100), (1, u "java/lang/Math$RandomNumberGeneratorHolder"), (20, u "(JJ)J"), (50, u "negativeZeroFloatBits"), (0, u "J"), (2, u "negativeZeroDoubleBits"), (21, u "max"), (2, u "min"), (43, u "$assertionsDisabled"), (0, u "Z"), (91, u "twoToTheDoubleScaleDown"), (0, u "D"), (4, u "twoToTheDoubleScaleUp"), (9, u "E"), (3, u "PI"), (2, u "TAU"), (2, u "DEGREES_TO_RADIANS"), (0, u "RADIANS_TO_DEGREES")] 94

def k2m0 : Method := { name := "<init>", desc := "()V", sig := { parameters := [], returnType := none }, accessFlags := 2, code := none }
def k2c1 : Code := { maxStack := 4, maxLocals := 4, code := jdk_29_method_66_code, exceptionTable := #[], attributes := #[] }
def k2m1 : Method := { name := "max", desc := "(JJ)J", sig := { parameters := [.long, .long], returnType := some .long }, accessFlags := 9, code := some k2c1 }
def k2c2 : Code := { maxStack := 4, maxLocals := 4, code := jdk_29_method_70_code, exceptionTable := #[], attributes := #[] }
def k2m2 : Method := { name := "min", desc := "(JJ)J", sig := { parameters := [.long, .long], returnType := some .long }, accessFlags := 9, code := some k2c2 }
/-- java/lang/Math -/
def k2 : Class := { plain "java/lang/Math" (some 0) with
  accessFlags := 49
  interfaces := #[]
  cf := some (fileOf pool2 1 #[.nestMembers #[98]] #[{ accessFlags := 2, nameIndex := 7, descriptorIndex := 8, attributes := #[] }, { accessFlags := 9, nameIndex := 198, descriptorIndex := 121, attributes := #[] }, { accessFlags := 9, nameIndex := 201, descriptorIndex := 121, attributes := #[] }] 49 4 #[] #[{ accessFlags := 25, nameIndex := 354, descriptorIndex := 339, attributes := #[] }, { accessFlags := 25, nameIndex := 358, descriptorIndex := 339, attributes := #[] }, { accessFlags := 25, nameIndex := 361, descriptorIndex := 339, attributes := #[] }, { accessFlags := 26, nameIndex := 364, descriptorIndex := 339, attributes := #[] }, { accessFlags := 26, nameIndex := 365, descriptorIndex := 339, attributes := #[] }, { accessFlags := 26, nameIndex := 172, descriptorIndex := 173, attributes := #[] }, { accessFlags := 26, nameIndex := 176, descriptorIndex := 173, attributes := #[] }, { accessFlags := 8, nameIndex := 344, descriptorIndex := 339, attributes := #[] }, { accessFlags := 8, nameIndex := 338, descriptorIndex := 339, attributes := #[] }, { accessFlags := 4120, nameIndex := 245, descriptorIndex := 246, attributes := #[] }])
  fields := #[{ name := "E", type := .double, accessFlags := 25, slot := 0, constantValue := 0 }, { name := "PI", type := .double, accessFlags := 25, slot := 1, constantValue := 0 }, { name := "TAU", type := .double, accessFlags := 25, slot := 2, constantValue := 0 }, { name := "DEGREES_TO_RADIANS", type := .double, accessFlags := 26, slot := 3, constantValue := 0 }, { name := "RADIANS_TO_DEGREES", type := .double, accessFlags := 26, slot := 4, constantValue := 0 }, { name := "negativeZeroFloatBits", type := .long, accessFlags := 26, slot := 5, constantValue := 0 }, { name := "negativeZeroDoubleBits", type := .long, accessFlags := 26, slot := 6, constantValue := 0 }, { name := "twoToTheDoubleScaleUp", type := .double, accessFlags := 8, slot := 7, constantValue := 0 }, { name := "twoToTheDoubleScaleDown", type := .double, accessFlags := 8, slot := 8, constantValue := 0 }, { name := "$assertionsDisabled", type := .boolean, accessFlags := 4120, slot := 9, constantValue := 0 }]
  methods := #[k2m0, k2m1, k2m2]
  instanceTypes := #[]
  staticTypes := #[.double, .double, .double, .double, .double, .long, .long, .double, .double, .boolean]
  resolved := Array.replicate 460 none
  statics := none }

def pool3 : Array CpInfo := pool [(2, .class_ 4), (1, u "java/lang/Object"), (0, u "<init>"), (0, u "()V"), (7, .class_ 16), (1, u "com/example/rover/rover/broker/Ids"), (0, u "positions"), (0, u "([J[J)[I"), (6, u "NONE"), (0, u "[J")] 13

def k3m0 : Method := { name := "<init>", desc := "()V", sig := { parameters := [], returnType := none }, accessFlags := 2, code := none }
def k3c1 : Code := { maxStack := 6, maxLocals := 5, code := prog_15_method_2_code, exceptionTable := #[], attributes := #[] }
def k3m1 : Method := { name := "positions", desc := "([J[J)[I", sig := { parameters := [(.array .long), (.array .long)], returnType := some (.array .int) }, accessFlags := 8, code := some k3c1 }
/-- com/example/rover/rover/broker/Ids -/
def k3 : Class := { plain "com/example/rover/rover/broker/Ids" (some 0) with
  accessFlags := 48
  interfaces := #[]
  cf := some (fileOf pool3 14 #[] #[{ accessFlags := 2, nameIndex := 5, descriptorIndex := 6, attributes := #[] }, { accessFlags := 8, nameIndex := 17, descriptorIndex := 18, attributes := #[] }] 48 2 #[] #[{ accessFlags := 24, nameIndex := 25, descriptorIndex := 26, attributes := #[] }])
  fields := #[{ name := "NONE", type := (.array .long), accessFlags := 24, slot := 0, constantValue := 0 }]
  methods := #[k3m0, k3m1]
  instanceTypes := #[]
  staticTypes := #[(.array .long)]
  resolved := Array.replicate 40 none
  statics := none }

def pool4 : Array CpInfo := pool [(1, u "java/lang/Cloneable"), (0, .class_ 1), (0, u "java/lang/Object"), (0, .class_ 3)] 3

/-- java/lang/Cloneable -/
def k4 : Class := { plain "java/lang/Cloneable" (some 0) with
  accessFlags := 1537
  interfaces := #[]
  cf := some (fileOf pool4 2 #[] #[] 1537 4 #[] #[])
  fields := #[]
  methods := #[]
  instanceTypes := #[]
  staticTypes := #[]
  resolved := Array.replicate 8 none
  statics := none }

def pool5 : Array CpInfo := pool [(1, u "java/io/Serializable"), (0, .class_ 1), (0, u "java/lang/Object"), (0, .class_ 3)] 3

/-- java/io/Serializable -/
def k5 : Class := { plain "java/io/Serializable" (some 0) with
  accessFlags := 1537
  interfaces := #[]
  cf := some (fileOf pool5 2 #[] #[] 1537 4 #[] #[])
  fields := #[]
  methods := #[]
  instanceTypes := #[]
  staticTypes := #[]
  resolved := Array.replicate 8 none
  statics := none }

/-- the primitive byte -/
def k6 : Class := { plain "byte" none with kind := .primitive 'B', accessFlags := 0x411 }
/-- [B -/
def k7 : Class := { plain "[B" (some 0) with kind := .array 6 .byte, interfaces := #[4, 5], accessFlags := 1041 }

/-- the primitive int -/
def k8 : Class := { plain "int" none with kind := .primitive 'I', accessFlags := 0x411 }
/-- [I -/
def k9 : Class := { plain "[I" (some 0) with kind := .array 8 .int, interfaces := #[4, 5], accessFlags := 1041 }

/-- the primitive long -/
def k10 : Class := { plain "long" none with kind := .primitive 'J', accessFlags := 0x411 }
/-- [J -/
def k11 : Class := { plain "[J" (some 0) with kind := .array 10 .long, interfaces := #[4, 5], accessFlags := 1041 }

def heap : Heap := #[]
def classes : Array Class := #[k0, k1, k2, k3, k4, k5, k6, k7, k8, k9, k10, k11]
def interned : List (Array UInt16 × Addr) := []
def slotsUsed : Nat := 0
def theMethod : MethodId := ⟨1, 1⟩
def args0 : Array Value := #[.long 5, .long 7, .long 1, .long 2, .long 3, .int 4]
def aboutOver (below : List Frame) : State where
  vm := { classes := classes, interned := interned.toArray }
  heap := heap
  slotsUsed := slotsUsed
  threads := #[{ frames := .invoking theMethod args0 :: below }]
def below0 : List Frame := [.native { method := ⟨0, 0⟩, args := #[] }]
def about1 : State := aboutOver below0
def p0 : Program := .bare "" "" ""
def e0 : Env := launch0.env 0 0 0
theorem w_frames : about1.frames = Frame.invoking theMethod args0 :: below0 := rfl
set_option maxRecDepth 65536 in
theorem w_args : argsFit about1.vm theMethod args0 = true := by decide +kernel
set_option maxRecDepth 65536 in
theorem w_heap : heapFits about1 = true := by decide +kernel
set_option maxRecDepth 65536 in
theorem w_runnable : about1.curStatus? = some .runnable := by decide +kernel
set_option maxRecDepth 65536 in
theorem w_alone : about1.alone = true := by decide +kernel
set_option maxRecDepth 65536 in
theorem w_named : about1.methodNamed? x = some theMethod := by decide +kernel
set_option maxRecDepth 65536 in
theorem w_hears : about1.hears theMethod below0 = true := by decide +kernel
set_option maxRecDepth 65536 in
theorem w_ripe : about1.ripe theMethod args0 below0 = true := by decide +kernel
theorem w_running : about1.status = .running := rfl
set_option maxRecDepth 65536 in
theorem w_room : about1.hasRoom e0.platform room_1 = true :=
  launch0.hasRoom_least _ room_1 (by decide +kernel) (by decide +kernel) (by decide +kernel) (by decide +kernel) (by decide +kernel) (by decide +kernel)
theorem allAtoms_all (ts : List Jvm.Cond) (a : Array Jvm.Value) (st : Jvm.State) : (allAtoms ts).before a st = ts.all (fun c => c.before a st) := by
  induction ts with
  | nil => rfl
  | cons c t ih =>
    show (Jvm.Cond.and c (allAtoms t)).before a st = _
    rw [Jvm.Cond.before_and, ih, List.all_cons]
def words1 : List Jvm.Cond := Jvm.Cond.code x code maxLocals ret :: tables_1
/-- a 'code' word, met by the world's own term for the bytes: nothing is compared byte by byte -/
theorem code_word {y : MethodName} {bytes : ByteArray} {mx : Nat} {rt : Option FieldType} {a : Array Value} {s : State} {m : MethodId} {meth : Method} {c : Code} (h1 : s.methodNamed? y = some m) (h2 : s.vm.method? m = some meth) (h3 : meth.code = some c) (h4 : c.code = bytes)
    (h5 : (c.maxLocals == mx && c.exceptionTable.isEmpty && decide (c.maxStack ≤ mostOperands) && decide (meth.sig.returnType = rt) && !meth.locks && decide (parseMethodDescriptor y.desc = some meth.sig)) = true) : (Jvm.Cond.code y bytes mx rt).before a s = true := by
  simp only [Bool.and_eq_true, beq_iff_eq, Bool.not_eq_true', decide_eq_true_eq] at h5
  obtain ⟨⟨⟨⟨⟨g1, g2⟩, g3⟩, g4⟩, g5⟩, g6⟩ := h5
  simp [Cond.before, Cond.holds, Cond.value, h1, h2, h3, h4, g1, g2, g3, g4, g5, g6]
def isCode : Jvm.Cond → Bool
  | .code _ _ _ _ => true
  | _ => false
theorem all_split {L : List Jvm.Cond} {P : Jvm.Cond → Bool} (h1 : L.all (fun c => isCode c || P c) = true) (h2 : ∀ c ∈ L.filter isCode, P c = true) : L.all P = true := by
  refine List.all_eq_true.mpr fun c hc => ?_
  have h := List.all_eq_true.mp h1 c hc
  rcases Bool.eq_false_or_eq_true (isCode c) with hi | hi
  · exact h2 c (List.mem_filter.mpr ⟨hc, hi⟩)
  · simpa [hi] using h
set_option maxRecDepth 65536 in
theorem w_c0 : (Jvm.Cond.code x code maxLocals ret).before args0 about1 = true := code_word (m := ⟨1, 1⟩) (meth := k1m1) (c := k1c1) (by decide +kernel) rfl rfl rfl (by decide +kernel)
set_option maxRecDepth 65536 in
theorem w_c1 : (Jvm.Cond.code ({ cls := "java/lang/Math", name := "min", desc := "(JJ)J" } : Jvm.MethodName) jdk_29_method_70_code (4 : Nat) (Option.some Jvm.ClassFile.FieldType.long)).before args0 about1 = true := code_word (m := ⟨2, 2⟩) (meth := k2m2) (c := k2c2) (by decide +kernel) rfl rfl rfl (by decide +kernel)
set_option maxRecDepth 65536 in
theorem w_c2 : (Jvm.Cond.code ({ cls := "java/lang/Math", name := "max", desc := "(JJ)J" } : Jvm.MethodName) jdk_29_method_66_code (4 : Nat) (Option.some Jvm.ClassFile.FieldType.long)).before args0 about1 = true := code_word (m := ⟨2, 1⟩) (meth := k2m1) (c := k2c1) (by decide +kernel) rfl rfl rfl (by decide +kernel)
set_option maxRecDepth 65536 in
theorem w_c3 : (Jvm.Cond.code ({ cls := "com/example/rover/rover/broker/IdsPositionsPinLaw", name := "pick", desc := "(JIJJJ)J" } : Jvm.MethodName) method_3_code (9 : Nat) (Option.some Jvm.ClassFile.FieldType.long)).before args0 about1 = true := code_word (m := ⟨1, 2⟩) (meth := k1m2) (c := k1c2) (by decide +kernel) rfl rfl rfl (by decide +kernel)
set_option maxRecDepth 65536 in
theorem w_c4 : (Jvm.Cond.code ({ cls := "com/example/rover/rover/broker/Ids", name := "positions", desc := "([J[J)[I" } : Jvm.MethodName) prog_15_method_2_code (5 : Nat) (Option.some (Jvm.ClassFile.FieldType.array Jvm.ClassFile.FieldType.int))).before args0 about1 = true := code_word (m := ⟨3, 1⟩) (meth := k3m1) (c := k3c1) (by decide +kernel) rfl rfl rfl (by decide +kernel)
set_option maxRecDepth 65536 in
theorem w_c5 : (Jvm.Cond.code ({ cls := "com/example/rover/rover/broker/IdsPositionsPinLaw", name := "expect", desc := "(JJJJI)I" } : Jvm.MethodName) method_4_code (9 : Nat) (Option.some Jvm.ClassFile.FieldType.int)).before args0 about1 = true := code_word (m := ⟨1, 3⟩) (meth := k1m3) (c := k1c3) (by decide +kernel) rfl rfl rfl (by decide +kernel)
def codes1 : List Jvm.Cond := [Jvm.Cond.code x code maxLocals ret, Jvm.Cond.code ({ cls := "java/lang/Math", name := "min", desc := "(JJ)J" } : Jvm.MethodName) jdk_29_method_70_code (4 : Nat) (Option.some Jvm.ClassFile.FieldType.long), Jvm.Cond.code ({ cls := "java/lang/Math", name := "max", desc := "(JJ)J" } : Jvm.MethodName) jdk_29_method_66_code (4 : Nat) (Option.some Jvm.ClassFile.FieldType.long), Jvm.Cond.code ({ cls := "com/example/rover/rover/broker/IdsPositionsPinLaw", name := "pick", desc := "(JIJJJ)J" } : Jvm.MethodName) method_3_code (9 : Nat) (Option.some Jvm.ClassFile.FieldType.long), Jvm.Cond.code ({ cls := "com/example/rover/rover/broker/Ids", name := "positions", desc := "([J[J)[I" } : Jvm.MethodName) prog_15_method_2_code (5 : Nat) (Option.some (Jvm.ClassFile.FieldType.array Jvm.ClassFile.FieldType.int)), Jvm.Cond.code ({ cls := "com/example/rover/rover/broker/IdsPositionsPinLaw", name := "expect", desc := "(JJJJI)I" } : Jvm.MethodName) method_4_code (9 : Nat) (Option.some Jvm.ClassFile.FieldType.int)]
set_option maxRecDepth 65536 in
theorem codes_eq : words1.filter isCode = codes1 := rfl
theorem w_codes : ∀ c ∈ words1.filter isCode, c.before args0 about1 = true := by
  rw [codes_eq]
  intro c hc
  simp only [codes1, List.mem_cons, List.not_mem_nil, or_false] at hc
  rcases hc with rfl | rfl | rfl | rfl | rfl | rfl
  · exact w_c0
  · exact w_c1
  · exact w_c2
  · exact w_c3
  · exact w_c4
  · exact w_c5
set_option maxRecDepth 65536 in
theorem w_t1 : words1.all (fun c => isCode c || c.before args0 about1) = true := by decide +kernel
theorem w_tables : (allAtoms (Jvm.Cond.code x code maxLocals ret :: tables_1)).before args0 about1 = true := by
  rw [allAtoms_all]
  show words1.all (fun c => c.before args0 about1) = true
  refine all_split ?_ w_codes
  rw [w_t1]
set_option maxRecDepth 65536 in
theorem w_case : (Jvm.Cond.and given_1 narrow_1).before args0 about1 = true := by decide +kernel
theorem w_applies : (headSpec (Jvm.Cond.code x code maxLocals ret :: tables_1) room_1).applies x e0.platform about1 = true :=
  (Spec.applies_iff w_frames).mpr ⟨w_running, w_runnable, w_alone, w_named, w_hears, w_ripe, w_room, w_tables⟩
theorem atStart : AtStart classFile x code maxLocals ret World_1 tables_1 room_1 Calls_1 rest_1 Pre_1 launch0 p0 e0 about1 theMethod args0 below0 :=
  ⟨lists_1, trivial, launch0.admits_env _ _ _, launch0.least_env, fairChoices_fair.cas, fairChoices_fair.clock, w_frames, w_args, w_heap, w_applies, trivial, trivial, w_case⟩
end start1
theorem witness_1 : WitnessClaimed_1 := ⟨start1.p0, start1.e0, start1.about1, start1.theMethod, start1.args0, start1.below0, start1.atStart⟩
end Jvm.Pilot.@@N@@
