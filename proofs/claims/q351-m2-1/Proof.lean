import JvmDerived
import JvmDerived.Pilot.@@N@@Statement
import JvmDerived.Pilot.@@N@@Code
set_option linter.unusedVariables false
set_option linter.unusedSimpArgs false
set_option maxRecDepth 65536
set_option maxHeartbeats 40000000
@@BLOCK:NumsL.lean.txt@@
namespace Jvm.Pilot.@@N@@
open Jvm Jvm.ClassFile Sem Op Lib Jvm.Free Jvm.Stand Jvm.LawKit Jvm.RoadKit Bundle Jvm.Pilot.@@N@@.Jvm.D
/-! ## own base: a heap as a list of objects; a body by its contract; one lemma an instruction -/
section Own
abbrev Ob : Type := Addr × FieldType × List Value
abbrev Fm : Type := String → List (String × String)
/-- what the cell at a holds -/
def Oat (F : Fm) (Z : State) (h : Heap) (a : Addr) (t : FieldType) (vs : List Value) : Prop :=
  match t with
  | .array ty => Exa Z h a ("[" ++ ty.toString) ∧ (∀ v ∈ vs, fits ty v = true) ∧ ∃ c : Cell, Arr Z h a c ty ∧ c.slots = vs.toArray
  | .object C => Exa Z h a C ∧ vs.length = (F C).length ∧ ∀ (i : Nat) (n d : String) (v : Value), (F C)[i]? = some (n, d) → vs[i]? = some v → Fld Z h a C n d v
  | _ => False
def Hp (F : Fm) (Z : State) (h : Heap) (os : List Ob) : Prop := (os.map (·.1)).Nodup ∧ ∀ o ∈ os, Oat F Z h o.1 o.2.1 o.2.2
/-- an address that the body may write: one of A, or a new one -/
def Okk (A : List Addr) (N : Nat) (a : Addr) : Prop := a ∈ A ∨ N ≤ a
def Hin (F : Fm) (Z : State) (h0 : Heap) (A : List Addr) (h : Heap) (os : List Ob) : Prop := Keep h0 h A ∧ Hp F Z h os ∧ ∀ o ∈ os, Okk A h0.size o.1
def Qc (F : Fm) (Z : State) (B : Nat) (loc : List Ob) (h0 : Heap) (P : Option Value → List Ob → Prop) (v : Option Value) (h : Heap) (L : List Loc) : Prop :=
  (∀ y ∈ L, B ≤ y.base) ∧ ∃ os', Hin F Z h0 (loc.map (·.1)) h os' ∧ P v os'
/-- a body's contract: over the objects loc, with the arguments as, it returns v and leaves os', and P v os' -/
def Con (l : Launch) (Z : State) (F : Fm) (B : Nat) (y : MethodName) (bytes : ByteArray) (mL : Nat) (ret : Option FieldType) (rm : Room) (ws : List Jvm.Cond) (as : Array Value) (loc : List Ob) (P : Option Value → List Ob → Prop) : Prop :=
  ∀ h0, Hp F Z h0 loc → (∀ a ∈ loc.map (·.1), B ≤ a) → B ≤ h0.size → MetFree l y (head1 (Jvm.Cond.code y bytes mL ret :: ws) rm) (fun a U => a = as ∧ Z.Warmed39 U.vm ∧ U.heap = h0) (fun _ _ _ _ _ => True) (fun _ U o U' => ∃ v L, o = .returned v ∧ Qc F Z B loc h0 P v U'.heap L ∧ FrameEnd U o U' L rm.cells rm.slots)
/-- the run stands in the body of y; the objects are os -/
def Here (p : Program) (l : Launch) (e : Env) (R : Room) (s : State) (m : MethodId) (args : Array Value) (below : List Frame) (meth : Method) (c : Code) (Z : State) (F : Fm) (B : Nat) (h0 : Heap) (A : List Addr) (y : MethodName) (bytes : ByteArray) (mL : Nat) (ret : Option FieldType) (T : State) (k n : Nat) (os : List Ob) : Prop :=
  (p.tables.exec = Jvm.exec ∧ Z.Warmed39 s.vm ∧ c.code = bytes ∧ c.maxLocals = mL ∧ s.vm.findClass y.cls = some m.cls ∧ meth.sig.returnType = ret ∧ meth.locks = false ∧ meth.name = y.name) ∧
  ∃ locs, Stand p l e R s m args below meth c T locs k n ∧ ((∀ y ∈ locs, B ≤ y.base) ∧ (∀ a ∈ A, B ≤ a) ∧ B ≤ h0.size) ∧ Hin F Z h0 A T.heap os
def Fin1 (below : List Frame) (s : State) (Z : State) (F : Fm) (B : Nat) (h0 : Heap) (A : List Addr) (kc ks : Nat) (P : Option Value → List Ob → Prop) (t : State) : Prop :=
  t.status = .running ∧ ∃ v L, Ended t below (.returned v) ∧ ((∀ y ∈ L, B ≤ y.base) ∧ ∃ os', Hin F Z h0 A t.heap os' ∧ P v os') ∧ FrameEnd s (.returned v) t L kc ks
def Go (p : Program) (e : Env) (below : List Frame) (G : State → Prop) (S : State) : Prop := ∃ t, Steps p.tables e below S t ∧ G t

variable {p : Program} {l : Launch} {e : Env} {R : Room} {s : State} {m : MethodId} {args : Array Value} {below : List Frame} {meth : Method} {c : Code} {Z : State} {F : Fm} {B : Nat} {h0 : Heap} {A : List Addr} {y : MethodName} {bytes : ByteArray} {mL : Nat} {ret : Option FieldType} {T : State} {k n : Nat} {os : List Ob} {G : State → Prop} {pc : Nat} {ls : Array Slot} {st : List Value} {a0 : Array Value}
theorem Go.by {S S' : State} (k : ∀ t, Steps p.tables e below S' t → Steps p.tables e below S t) (g : Go p e below G S') : Go p e below G S := by
  obtain ⟨t, h, g⟩ := g; exact ⟨t, k t h, g⟩
theorem Go.join {α : Type} {T : State} {fr : α → JFrame} (tree : α) {S : State} (K : ∀ z, z = tree → Go p e below G (T.setTop (fr z))) (M : (∀ z, z = tree → Go p e below G (T.setTop (fr z))) → Go p e below G S) : Go p e below G S := M K
theorem Go.cut {α : Type} {T : State} {fr : α → JFrame} (Q : α → Prop) {S : State} (K : ∀ z, Q z → Go p e below G (T.setTop (fr z))) (M : (∀ z, Q z → Go p e below G (T.setTop (fr z))) → Go p e below G S) : Go p e below G S := M K
theorem Go.cast {S S' : State} (q : S' = S) (g : Go p e below G S') : Go p e below G S := q ▸ g
theorem Oat.keep {h h' : Heap} {ws : List Addr} {a : Addr} {t : FieldType} {vs : List Value} (O : Oat F Z h a t vs) (K : Keep h h' ws) (q : a ∉ ws) : Oat F Z h' a t vs := by
  unfold Oat at O ⊢
  split at O
  · obtain ⟨E, f, cl, Ar, S⟩ := O; exact ⟨E.keep K, f, cl, ⟨K.2.1 a cl Ar.1 q, Ar.2⟩, S⟩
  · obtain ⟨E, hl, f⟩ := O; exact ⟨E.keep K, hl, fun i n d v h1 h2 => (f i n d v h1 h2).keep K q⟩
  · exact O
theorem Oat.lt {h : Heap} {a : Addr} {t : FieldType} {vs : List Value} (O : Oat F Z h a t vs) : a < h.size := by
  unfold Oat at O
  split at O
  · exact O.1.lt
  · exact O.1.lt
  · exact O.elim
theorem Okk.ge {A : List Addr} {N B : Nat} {a : Addr} (h : Okk A N a) (h1 : ∀ a ∈ A, B ≤ a) (h2 : B ≤ N) : B ≤ a := h.elim (h1 a) fun q => Nat.le_trans h2 q
theorem Keep.self (h : Heap) : Keep h h [] := Keep.refl h []
theorem Hp.nil {h : Heap} : Hp F Z h [] := ⟨List.nodup_nil, fun o q => nomatch q⟩
theorem Hp.get {h : Heap} {i : Nat} {o : Ob} (H : Hp F Z h os) (hi : os[i]? = some o) : Oat F Z h o.1 o.2.1 o.2.2 := H.2 o (List.mem_of_getElem? hi)
theorem nodup_at {L : List Addr} (hn : L.Nodup) {i j : Nat} {a : Addr} (hi : L[i]? = some a) (hj : L[j]? = some a) : i = j := by
  obtain ⟨h1, e1⟩ := List.getElem?_eq_some_iff.mp hi
  obtain ⟨h2, e2⟩ := List.getElem?_eq_some_iff.mp hj
  exact (List.getElem_inj hn).mp (e1.trans e2.symm)
theorem Hp.ext {h h' : Heap} (H : Hp F Z h os) (E : Ext h h') : Hp F Z h' os :=
  ⟨H.1, fun o ho => (H.2 o ho).keep ((Keep.refl h []).ext E) (fun q => nomatch q)⟩
theorem Hp.push {h h' : Heap} {t : FieldType} {vs : List Value} (H : Hp F Z h os) (E : Ext h h') (O : Oat F Z h' h.size t vs) : Hp F Z h' (os ++ [(h.size, t, vs)]) := by
  refine ⟨?_, fun o ho => ?_⟩
  · rw [List.map_append, List.nodup_append]
    refine ⟨H.1, by simp, fun a ha b hb => ?_⟩
    obtain ⟨o, ho, rfl⟩ := List.mem_map.mp ha
    have := (H.2 o ho).lt
    simp only [List.map_cons, List.map_nil, List.mem_singleton] at hb
    subst hb
    exact Nat.ne_of_lt this
  · rcases List.mem_append.mp ho with q | q
    · exact (H.ext E).2 o q
    · cases List.mem_singleton.mp q; exact O
/-- one object is written -/
theorem Hp.set {h h' : Heap} {i : Nat} {a : Addr} {t : FieldType} {vs vs' : List Value} (H : Hp F Z h os) (hi : os[i]? = some (a, t, vs)) (K : Keep h h' [a]) (O : Oat F Z h' a t vs') : Hp F Z h' (os.set i (a, t, vs')) := by
  obtain ⟨hlt, he⟩ := List.getElem?_eq_some_iff.mp hi
  have em : (os.set i (a, t, vs')).map (·.1) = os.map (·.1) := by
    rw [List.map_set]
    refine List.ext_getElem? fun j => ?_
    rw [List.getElem?_set]
    split
    · rename_i e; subst e; simp [he, hlt]
    · rfl
  refine ⟨em ▸ H.1, fun o ho => ?_⟩
  obtain ⟨j, hj⟩ := List.mem_iff_getElem?.mp ho
  rw [List.getElem?_set] at hj
  split at hj
  · simp [hlt] at hj; subst hj; exact O
  · rename_i ne
    refine (H.get hj).keep K (fun q => ne ?_)
    have q' : o.1 = a := List.mem_singleton.mp q
    exact (nodup_at H.1 (i := j) (j := i) (a := a) (by rw [List.getElem?_map, hj, ← q']; rfl) (by rw [List.getElem?_map, hi]; rfl)).symm
theorem Hin.mem {h : Heap} {i : Nat} {o : Ob} (H : Hin F Z h0 A h os) (hi : os[i]? = some o) : Okk A h0.size o.1 := H.2.2 o (List.mem_of_getElem? hi)
theorem Hin.push {h h' : Heap} {t : FieldType} {vs : List Value} (H : Hin F Z h0 A h os) (E : Ext h h') (O : Oat F Z h' h.size t vs) : Hin F Z h0 A h' (os ++ [(h.size, t, vs)]) :=
  ⟨H.1.ext E, H.2.1.push E O, fun o ho => (List.mem_append.mp ho).elim (H.2.2 o) fun q => by cases List.mem_singleton.mp q; exact Or.inr H.1.1⟩
theorem Hin.set {h h' : Heap} {i : Nat} {a : Addr} {t : FieldType} {vs vs' : List Value} (H : Hin F Z h0 A h os) (hi : os[i]? = some (a, t, vs)) (K : Keep h h' [a]) (O : Oat F Z h' a t vs') : Hin F Z h0 A h' (os.set i (a, t, vs')) := by
  refine ⟨H.1.trans K fun x hx => by cases List.mem_singleton.mp hx; exact H.mem hi, H.2.1.set hi K O, fun o ho => ?_⟩
  rcases List.mem_or_eq_of_mem_set ho with q | q
  · exact H.2.2 o q
  · subst q; have z := H.mem hi; exact z

/-- the body, entered -/
theorem Con.of {as : Array Value} {loc : List Ob} {P : Option Value → List Ob → Prop} {rm : Room} {ws : List Jvm.Cond} {ls : Array Slot} (hpl : plainFor y = true) (hef : ∀ m, entryFrame m as mL = mkF m 0 ls [])
    (body : ∀ p e h0 s m below meth c T, Here p l e rm s m as below meth c Z F B h0 (loc.map (·.1)) y bytes mL ret T 0 0 loc → Go p e below (Fin1 below s Z F B h0 (loc.map (·.1)) rm.cells rm.slots P) (T.setTop (mkF m 0 ls []))) :
    Con l Z F B y bytes mL ret rm ws as loc P := by
  intro h0 H hA hB
  refine MetFree.of_bodySF hpl hisR ?_
  intro p e s m args below meth c s₁ Bd hml0 hP hK
  obtain ⟨rfl, hZ, hh⟩ := hP
  have X0 : Stand p l e rm s m args below meth c s₁ [] 0 0 := Stand.of_body Bd
  have e0 : s₁.heap = h0 := by rw [← hh, Bd.state]; rfl
  obtain ⟨t, st, hr, v, L, hE, ⟨hL, os', hI, hp⟩, hF⟩ := body p e h0 s m below meth c s₁ ⟨⟨Bd.exec, hZ, Bd.bytes, hml0, findClass_of_methodNamed Bd.named, Bd.returns, Bd.notSynchronized, (name_of_methodNamed Bd.named Bd.method).1⟩, [], X0, ⟨fun y q => (nomatch q), hA, hB⟩, by rw [e0]; exact ⟨Keep.refl _ _, H, fun o ho => Or.inl (List.mem_map.mpr ⟨o, ho, rfl⟩)⟩⟩
  exact ⟨t, _, castTop (hef m) st, hr, hE, v, L, rfl, ⟨hL, os', hI, hp⟩, hF⟩

theorem g_iload_n {j : Fin 4} {v : Int32} (W : Here p l e R s m args below meth c Z F B h0 A y bytes mL ret T k n os) (hd : decode bytes pc = .ok (.iload_n j, 1)) (hl : ls[j.val]? = some (.val (.int v))) (K : Go p e below G (T.setTop (mkF m (pc + 1) ls (.int v :: st)))) : Go p e below G (T.setTop (mkF m pc ls (st))) := by
  obtain ⟨⟨hx, hZ, hby, -⟩, locs, X, -⟩ := W
  exact K.by fun t q => XS.iloadN X.here hx rfl (hb hby hd) hl q
theorem g_iload {j : Nat} {v : Int32} (W : Here p l e R s m args below meth c Z F B h0 A y bytes mL ret T k n os) (hd : decode bytes pc = .ok (.iload j, 2)) (hl : ls[j]? = some (.val (.int v))) (K : Go p e below G (T.setTop (mkF m (pc + 2) ls (.int v :: st)))) : Go p e below G (T.setTop (mkF m pc ls (st))) := by
  obtain ⟨⟨hx, hZ, hby, -⟩, locs, X, -⟩ := W
  exact K.by fun t q => XS.iload X.here hx rfl (hb hby hd) hl q
theorem g_lload_n {j : Fin 4} {v : Int64} (W : Here p l e R s m args below meth c Z F B h0 A y bytes mL ret T k n os) (hd : decode bytes pc = .ok (.lload_n j, 1)) (hl : ls[j.val]? = some (.val (.long v))) (K : Go p e below G (T.setTop (mkF m (pc + 1) ls (.long v :: st)))) : Go p e below G (T.setTop (mkF m pc ls (st))) := by
  obtain ⟨⟨hx, hZ, hby, -⟩, locs, X, -⟩ := W
  exact K.by fun t q => XT.lloadN X.here hx rfl (hb hby hd) hl q
theorem g_lload {j : Nat} {v : Int64} (W : Here p l e R s m args below meth c Z F B h0 A y bytes mL ret T k n os) (hd : decode bytes pc = .ok (.lload j, 2)) (hl : ls[j]? = some (.val (.long v))) (K : Go p e below G (T.setTop (mkF m (pc + 2) ls (.long v :: st)))) : Go p e below G (T.setTop (mkF m pc ls (st))) := by
  obtain ⟨⟨hx, hZ, hby, -⟩, locs, X, -⟩ := W
  exact K.by fun t q => XT.lload X.here hx rfl (hb hby hd) hl q
theorem g_aload_n {j : Fin 4} {v : Value} (W : Here p l e R s m args below meth c Z F B h0 A y bytes mL ret T k n os) (hd : decode bytes pc = .ok (.aload_n j, 1)) (hl : ls[j.val]? = some (.val v)) (hv : v.isRef = true) (K : Go p e below G (T.setTop (mkF m (pc + 1) ls (v :: st)))) : Go p e below G (T.setTop (mkF m pc ls (st))) := by
  obtain ⟨⟨hx, hZ, hby, -⟩, locs, X, -⟩ := W
  exact K.by fun t q => XS.aloadN X.here hx rfl (hb hby hd) hl hv q
theorem g_aload {j : Nat} {v : Value} (W : Here p l e R s m args below meth c Z F B h0 A y bytes mL ret T k n os) (hd : decode bytes pc = .ok (.aload j, 2)) (hl : ls[j]? = some (.val v)) (hv : v.isRef = true) (K : Go p e below G (T.setTop (mkF m (pc + 2) ls (v :: st)))) : Go p e below G (T.setTop (mkF m pc ls (st))) := by
  obtain ⟨⟨hx, hZ, hby, -⟩, locs, X, -⟩ := W
  exact K.by fun t q => XS.aload X.here hx rfl (hb hby hd) hl hv q
theorem g_istore_n {j : Fin 4} {v : Int32} {ls' : Array Slot} (W : Here p l e R s m args below meth c Z F B h0 A y bytes mL ret T k n os) (hd : decode bytes pc = .ok (.istore_n j, 1)) (hl : storeLocals ls j.val (.int v) = some ls') (K : Go p e below G (T.setTop (mkF m (pc + 1) ls' (st)))) : Go p e below G (T.setTop (mkF m pc ls (.int v :: st))) := by
  obtain ⟨⟨hx, hZ, hby, -⟩, locs, X, -⟩ := W
  exact K.by fun t q => XS.istoreN X.here hx rfl (hb hby hd) rfl hl q
theorem g_istore {j : Nat} {v : Int32} {ls' : Array Slot} (W : Here p l e R s m args below meth c Z F B h0 A y bytes mL ret T k n os) (hd : decode bytes pc = .ok (.istore j, 2)) (hl : storeLocals ls j (.int v) = some ls') (K : Go p e below G (T.setTop (mkF m (pc + 2) ls' (st)))) : Go p e below G (T.setTop (mkF m pc ls (.int v :: st))) := by
  obtain ⟨⟨hx, hZ, hby, -⟩, locs, X, -⟩ := W
  exact K.by fun t q => XS.istore X.here hx rfl (hb hby hd) rfl hl q
theorem g_lstore_n {j : Fin 4} {v : Int64} {ls' : Array Slot} (W : Here p l e R s m args below meth c Z F B h0 A y bytes mL ret T k n os) (hd : decode bytes pc = .ok (.lstore_n j, 1)) (hl : storeLocals ls j.val (.long v) = some ls') (K : Go p e below G (T.setTop (mkF m (pc + 1) ls' (st)))) : Go p e below G (T.setTop (mkF m pc ls (.long v :: st))) := by
  obtain ⟨⟨hx, hZ, hby, -⟩, locs, X, -⟩ := W
  exact K.by fun t q => XT.lstoreN X.here hx rfl (hb hby hd) rfl hl q
theorem g_lstore {j : Nat} {v : Int64} {ls' : Array Slot} (W : Here p l e R s m args below meth c Z F B h0 A y bytes mL ret T k n os) (hd : decode bytes pc = .ok (.lstore j, 2)) (hl : storeLocals ls j (.long v) = some ls') (K : Go p e below G (T.setTop (mkF m (pc + 2) ls' (st)))) : Go p e below G (T.setTop (mkF m pc ls (.long v :: st))) := by
  obtain ⟨⟨hx, hZ, hby, -⟩, locs, X, -⟩ := W
  exact K.by fun t q => XT.lstore X.here hx rfl (hb hby hd) rfl hl q
theorem g_astore_n {j : Fin 4} {v : Value} {ls' : Array Slot} (W : Here p l e R s m args below meth c Z F B h0 A y bytes mL ret T k n os) (hd : decode bytes pc = .ok (.astore_n j, 1)) (hv : v.isRef = true) (hl : storeLocals ls j.val v = some ls') (K : Go p e below G (T.setTop (mkF m (pc + 1) ls' (st)))) : Go p e below G (T.setTop (mkF m pc ls (v :: st))) := by
  obtain ⟨⟨hx, hZ, hby, -⟩, locs, X, -⟩ := W
  exact K.by fun t q => XS.astoreN X.here hx rfl (hb hby hd) rfl hv hl q
theorem g_astore {j : Nat} {v : Value} {ls' : Array Slot} (W : Here p l e R s m args below meth c Z F B h0 A y bytes mL ret T k n os) (hd : decode bytes pc = .ok (.astore j, 2)) (hv : v.isRef = true) (hl : storeLocals ls j v = some ls') (K : Go p e below G (T.setTop (mkF m (pc + 2) ls' (st)))) : Go p e below G (T.setTop (mkF m pc ls (v :: st))) := by
  obtain ⟨⟨hx, hZ, hby, -⟩, locs, X, -⟩ := W
  exact K.by fun t q => XS.astore X.here hx rfl (hb hby hd) rfl hv hl q
theorem g_iconst {i : Int} (v : Int32) (hv : Int32.ofInt i = v) (W : Here p l e R s m args below meth c Z F B h0 A y bytes mL ret T k n os) (hd : decode bytes pc = .ok (.iconst i, 1)) (K : Go p e below G (T.setTop (mkF m (pc + 1) ls (.int v :: st)))) : Go p e below G (T.setTop (mkF m pc ls st)) := by
  obtain ⟨⟨hx, hZ, hby, -⟩, locs, X, -⟩ := W
  subst hv
  exact K.by fun t q => XS.iconst X.here hx rfl (hb hby hd) q
theorem g_bipush {i : Int} (v : Int32) (hv : (Int8.ofInt i).toInt32 = v) (W : Here p l e R s m args below meth c Z F B h0 A y bytes mL ret T k n os) (hd : decode bytes pc = .ok (.bipush i, 2)) (K : Go p e below G (T.setTop (mkF m (pc + 2) ls (.int v :: st)))) : Go p e below G (T.setTop (mkF m pc ls st)) := by
  obtain ⟨⟨hx, hZ, hby, -⟩, locs, X, -⟩ := W
  subst hv
  exact K.by fun t q => XS.bipush X.here hx rfl (hb hby hd) q
theorem g_sipush {i : Int} (v : Int32) (hv : (Int16.ofInt i).toInt32 = v) (W : Here p l e R s m args below meth c Z F B h0 A y bytes mL ret T k n os) (hd : decode bytes pc = .ok (.sipush i, 3)) (K : Go p e below G (T.setTop (mkF m (pc + 3) ls (.int v :: st)))) : Go p e below G (T.setTop (mkF m pc ls st)) := by
  obtain ⟨⟨hx, hZ, hby, -⟩, locs, X, -⟩ := W
  subst hv
  exact K.by fun t q => XS.sipush X.here hx rfl (hb hby hd) q
theorem g_lconst {i : Fin 2} (v : Int64) (hv : Int64.ofNat i = v) (W : Here p l e R s m args below meth c Z F B h0 A y bytes mL ret T k n os) (hd : decode bytes pc = .ok (.lconst i, 1)) (K : Go p e below G (T.setTop (mkF m (pc + 1) ls (.long v :: st)))) : Go p e below G (T.setTop (mkF m pc ls st)) := by
  obtain ⟨⟨hx, hZ, hby, -⟩, locs, X, -⟩ := W
  subst hv
  exact K.by fun t q => XT.lconst X.here hx rfl (hb hby hd) q
theorem g_aconst_null  (W : Here p l e R s m args below meth c Z F B h0 A y bytes mL ret T k n os) (hd : decode bytes pc = .ok (.aconst_null, 1)) (K : Go p e below G (T.setTop (mkF m (pc + 1) ls (.null :: st)))) : Go p e below G (T.setTop (mkF m pc ls (st))) := by
  obtain ⟨⟨hx, hZ, hby, -⟩, locs, X, -⟩ := W
  exact K.by fun t q => XS.aconstNull X.here hx rfl (hb hby hd)  q
theorem g_iadd {x z : Int32} (W : Here p l e R s m args below meth c Z F B h0 A y bytes mL ret T k n os) (hd : decode bytes pc = .ok (.iadd, 1)) (K : Go p e below G (T.setTop (mkF m (pc + 1) ls (.int (x + z) :: st)))) : Go p e below G (T.setTop (mkF m pc ls (.int z :: .int x :: st))) := by
  obtain ⟨⟨hx, hZ, hby, -⟩, locs, X, -⟩ := W
  exact K.by fun t q => XS.iadd X.here hx rfl (hb hby hd) rfl q
theorem g_isub {x z : Int32} (W : Here p l e R s m args below meth c Z F B h0 A y bytes mL ret T k n os) (hd : decode bytes pc = .ok (.isub, 1)) (K : Go p e below G (T.setTop (mkF m (pc + 1) ls (.int (x - z) :: st)))) : Go p e below G (T.setTop (mkF m pc ls (.int z :: .int x :: st))) := by
  obtain ⟨⟨hx, hZ, hby, -⟩, locs, X, -⟩ := W
  exact K.by fun t q => XS.isub X.here hx rfl (hb hby hd) rfl q
theorem g_iand {x z : Int32} (W : Here p l e R s m args below meth c Z F B h0 A y bytes mL ret T k n os) (hd : decode bytes pc = .ok (.iand, 1)) (K : Go p e below G (T.setTop (mkF m (pc + 1) ls (.int (x &&& z) :: st)))) : Go p e below G (T.setTop (mkF m pc ls (.int z :: .int x :: st))) := by
  obtain ⟨⟨hx, hZ, hby, -⟩, locs, X, -⟩ := W
  exact K.by fun t q => XS.iand X.here hx rfl (hb hby hd) rfl q
theorem g_imul {x z : Int32} (W : Here p l e R s m args below meth c Z F B h0 A y bytes mL ret T k n os) (hd : decode bytes pc = .ok (.imul, 1)) (K : Go p e below G (T.setTop (mkF m (pc + 1) ls (.int (x * z) :: st)))) : Go p e below G (T.setTop (mkF m pc ls (.int z :: .int x :: st))) := by
  obtain ⟨⟨hx, hZ, hby, -⟩, locs, X, -⟩ := W
  exact K.by fun t q => XS.imul X.here hx rfl (hb hby hd) rfl q
theorem g_ior {x z : Int32} (W : Here p l e R s m args below meth c Z F B h0 A y bytes mL ret T k n os) (hd : decode bytes pc = .ok (.ior, 1)) (K : Go p e below G (T.setTop (mkF m (pc + 1) ls (.int (x ||| z) :: st)))) : Go p e below G (T.setTop (mkF m pc ls (.int z :: .int x :: st))) := by
  obtain ⟨⟨hx, hZ, hby, -⟩, locs, X, -⟩ := W
  exact K.by fun t q => XT.ior X.here hx rfl (hb hby hd) rfl q
theorem g_ixor {x z : Int32} (W : Here p l e R s m args below meth c Z F B h0 A y bytes mL ret T k n os) (hd : decode bytes pc = .ok (.ixor, 1)) (K : Go p e below G (T.setTop (mkF m (pc + 1) ls (.int (x ^^^ z) :: st)))) : Go p e below G (T.setTop (mkF m pc ls (.int z :: .int x :: st))) := by
  obtain ⟨⟨hx, hZ, hby, -⟩, locs, X, -⟩ := W
  exact K.by fun t q => XT.ixor X.here hx rfl (hb hby hd) rfl q
theorem g_ishl {x z : Int32} (W : Here p l e R s m args below meth c Z F B h0 A y bytes mL ret T k n os) (hd : decode bytes pc = .ok (.ishl, 1)) (K : Go p e below G (T.setTop (mkF m (pc + 1) ls (.int (x <<< (z &&& 31)) :: st)))) : Go p e below G (T.setTop (mkF m pc ls (.int z :: .int x :: st))) := by
  obtain ⟨⟨hx, hZ, hby, -⟩, locs, X, -⟩ := W
  exact K.by fun t q => XT.ishl X.here hx rfl (hb hby hd) rfl q
theorem g_ishr {x z : Int32} (W : Here p l e R s m args below meth c Z F B h0 A y bytes mL ret T k n os) (hd : decode bytes pc = .ok (.ishr, 1)) (K : Go p e below G (T.setTop (mkF m (pc + 1) ls (.int (x >>> (z &&& 31)) :: st)))) : Go p e below G (T.setTop (mkF m pc ls (.int z :: .int x :: st))) := by
  obtain ⟨⟨hx, hZ, hby, -⟩, locs, X, -⟩ := W
  exact K.by fun t q => XT.ishr X.here hx rfl (hb hby hd) rfl q
theorem g_iushr {x z : Int32} (W : Here p l e R s m args below meth c Z F B h0 A y bytes mL ret T k n os) (hd : decode bytes pc = .ok (.iushr, 1)) (K : Go p e below G (T.setTop (mkF m (pc + 1) ls (.int (XT.ushr x z) :: st)))) : Go p e below G (T.setTop (mkF m pc ls (.int z :: .int x :: st))) := by
  obtain ⟨⟨hx, hZ, hby, -⟩, locs, X, -⟩ := W
  exact K.by fun t q => XT.iushr X.here hx rfl (hb hby hd) rfl q
theorem g_ladd {x z : Int64} (W : Here p l e R s m args below meth c Z F B h0 A y bytes mL ret T k n os) (hd : decode bytes pc = .ok (.ladd, 1)) (K : Go p e below G (T.setTop (mkF m (pc + 1) ls (.long (x + z) :: st)))) : Go p e below G (T.setTop (mkF m pc ls (.long z :: .long x :: st))) := by
  obtain ⟨⟨hx, hZ, hby, -⟩, locs, X, -⟩ := W
  exact K.by fun t q => XT.ladd X.here hx rfl (hb hby hd) rfl q
theorem g_lsub {x z : Int64} (W : Here p l e R s m args below meth c Z F B h0 A y bytes mL ret T k n os) (hd : decode bytes pc = .ok (.lsub, 1)) (K : Go p e below G (T.setTop (mkF m (pc + 1) ls (.long (x - z) :: st)))) : Go p e below G (T.setTop (mkF m pc ls (.long z :: .long x :: st))) := by
  obtain ⟨⟨hx, hZ, hby, -⟩, locs, X, -⟩ := W
  exact K.by fun t q => XT.lsub X.here hx rfl (hb hby hd) rfl q
theorem g_lmul {x z : Int64} (W : Here p l e R s m args below meth c Z F B h0 A y bytes mL ret T k n os) (hd : decode bytes pc = .ok (.lmul, 1)) (K : Go p e below G (T.setTop (mkF m (pc + 1) ls (.long (x * z) :: st)))) : Go p e below G (T.setTop (mkF m pc ls (.long z :: .long x :: st))) := by
  obtain ⟨⟨hx, hZ, hby, -⟩, locs, X, -⟩ := W
  exact K.by fun t q => XT.lmul X.here hx rfl (hb hby hd) rfl q
theorem g_land {x z : Int64} (W : Here p l e R s m args below meth c Z F B h0 A y bytes mL ret T k n os) (hd : decode bytes pc = .ok (.land, 1)) (K : Go p e below G (T.setTop (mkF m (pc + 1) ls (.long (x &&& z) :: st)))) : Go p e below G (T.setTop (mkF m pc ls (.long z :: .long x :: st))) := by
  obtain ⟨⟨hx, hZ, hby, -⟩, locs, X, -⟩ := W
  exact K.by fun t q => XT.land X.here hx rfl (hb hby hd) rfl q
theorem g_lor {x z : Int64} (W : Here p l e R s m args below meth c Z F B h0 A y bytes mL ret T k n os) (hd : decode bytes pc = .ok (.lor, 1)) (K : Go p e below G (T.setTop (mkF m (pc + 1) ls (.long (x ||| z) :: st)))) : Go p e below G (T.setTop (mkF m pc ls (.long z :: .long x :: st))) := by
  obtain ⟨⟨hx, hZ, hby, -⟩, locs, X, -⟩ := W
  exact K.by fun t q => XT.lor X.here hx rfl (hb hby hd) rfl q
theorem g_lxor {x z : Int64} (W : Here p l e R s m args below meth c Z F B h0 A y bytes mL ret T k n os) (hd : decode bytes pc = .ok (.lxor, 1)) (K : Go p e below G (T.setTop (mkF m (pc + 1) ls (.long (x ^^^ z) :: st)))) : Go p e below G (T.setTop (mkF m pc ls (.long z :: .long x :: st))) := by
  obtain ⟨⟨hx, hZ, hby, -⟩, locs, X, -⟩ := W
  exact K.by fun t q => XT.lxor X.here hx rfl (hb hby hd) rfl q
theorem g_idiv {x z : Int32} (W : Here p l e R s m args below meth c Z F B h0 A y bytes mL ret T k n os) (hd : decode bytes pc = .ok (.idiv, 1)) (hz : z ≠ 0) (K : Go p e below G (T.setTop (mkF m (pc + 1) ls (.int (x / z) :: st)))) : Go p e below G (T.setTop (mkF m pc ls (.int z :: .int x :: st))) := by
  obtain ⟨⟨hx, hZ, hby, -⟩, locs, X, -⟩ := W
  exact K.by fun t q => XS.idiv X.here hx rfl (hb hby hd) rfl hz q
theorem g_irem {x z : Int32} (W : Here p l e R s m args below meth c Z F B h0 A y bytes mL ret T k n os) (hd : decode bytes pc = .ok (.irem, 1)) (hz : z ≠ 0) (K : Go p e below G (T.setTop (mkF m (pc + 1) ls (.int (x % z) :: st)))) : Go p e below G (T.setTop (mkF m pc ls (.int z :: .int x :: st))) := by
  obtain ⟨⟨hx, hZ, hby, -⟩, locs, X, -⟩ := W
  exact K.by fun t q => iremM X hx rfl (hb hby hd) rfl hz q
theorem g_ineg {x : Int32} (W : Here p l e R s m args below meth c Z F B h0 A y bytes mL ret T k n os) (hd : decode bytes pc = .ok (.ineg, 1)) (K : Go p e below G (T.setTop (mkF m (pc + 1) ls (.int (-x) :: st)))) : Go p e below G (T.setTop (mkF m pc ls (.int x :: st))) := by
  obtain ⟨⟨hx, hZ, hby, -⟩, locs, X, -⟩ := W
  exact K.by fun t q => XS.ineg X.here hx rfl (hb hby hd) rfl q
theorem g_lneg {x : Int64} (W : Here p l e R s m args below meth c Z F B h0 A y bytes mL ret T k n os) (hd : decode bytes pc = .ok (.lneg, 1)) (K : Go p e below G (T.setTop (mkF m (pc + 1) ls (.long (-x) :: st)))) : Go p e below G (T.setTop (mkF m pc ls (.long x :: st))) := by
  obtain ⟨⟨hx, hZ, hby, -⟩, locs, X, -⟩ := W
  exact K.by fun t q => XT.lneg X.here hx rfl (hb hby hd) rfl q
theorem g_i2l {x : Int32} (W : Here p l e R s m args below meth c Z F B h0 A y bytes mL ret T k n os) (hd : decode bytes pc = .ok (.i2l, 1)) (K : Go p e below G (T.setTop (mkF m (pc + 1) ls (.long x.toInt64 :: st)))) : Go p e below G (T.setTop (mkF m pc ls (.int x :: st))) := by
  obtain ⟨⟨hx, hZ, hby, -⟩, locs, X, -⟩ := W
  exact K.by fun t q => XT.i2l X.here hx rfl (hb hby hd) rfl q
theorem g_l2i {x : Int64} (W : Here p l e R s m args below meth c Z F B h0 A y bytes mL ret T k n os) (hd : decode bytes pc = .ok (.l2i, 1)) (K : Go p e below G (T.setTop (mkF m (pc + 1) ls (.int x.toInt32 :: st)))) : Go p e below G (T.setTop (mkF m pc ls (.long x :: st))) := by
  obtain ⟨⟨hx, hZ, hby, -⟩, locs, X, -⟩ := W
  exact K.by fun t q => XT.l2i X.here hx rfl (hb hby hd) rfl q
theorem g_i2b {x : Int32} (W : Here p l e R s m args below meth c Z F B h0 A y bytes mL ret T k n os) (hd : decode bytes pc = .ok (.i2b, 1)) (K : Go p e below G (T.setTop (mkF m (pc + 1) ls (.int x.toInt8.toInt32 :: st)))) : Go p e below G (T.setTop (mkF m pc ls (.int x :: st))) := by
  obtain ⟨⟨hx, hZ, hby, -⟩, locs, X, -⟩ := W
  exact K.by fun t q => XT.i2b X.here hx rfl (hb hby hd) rfl q
theorem g_i2c {x : Int32} (W : Here p l e R s m args below meth c Z F B h0 A y bytes mL ret T k n os) (hd : decode bytes pc = .ok (.i2c, 1)) (K : Go p e below G (T.setTop (mkF m (pc + 1) ls (.int x.toUInt32.toUInt16.toUInt32.toInt32 :: st)))) : Go p e below G (T.setTop (mkF m pc ls (.int x :: st))) := by
  obtain ⟨⟨hx, hZ, hby, -⟩, locs, X, -⟩ := W
  exact K.by fun t q => XT.i2c X.here hx rfl (hb hby hd) rfl q
theorem g_i2s {x : Int32} (W : Here p l e R s m args below meth c Z F B h0 A y bytes mL ret T k n os) (hd : decode bytes pc = .ok (.i2s, 1)) (K : Go p e below G (T.setTop (mkF m (pc + 1) ls (.int x.toInt16.toInt32 :: st)))) : Go p e below G (T.setTop (mkF m pc ls (.int x :: st))) := by
  obtain ⟨⟨hx, hZ, hby, -⟩, locs, X, -⟩ := W
  exact K.by fun t q => XT.i2s X.here hx rfl (hb hby hd) rfl q
theorem g_lcmp {x z : Int64} (W : Here p l e R s m args below meth c Z F B h0 A y bytes mL ret T k n os) (hd : decode bytes pc = .ok (.lcmp, 1)) (K : Go p e below G (T.setTop (mkF m (pc + 1) ls (.int (XT.cmpL x z) :: st)))) : Go p e below G (T.setTop (mkF m pc ls (.long z :: .long x :: st))) := by
  obtain ⟨⟨hx, hZ, hby, -⟩, locs, X, -⟩ := W
  exact K.by fun t q => XT.lcmp X.here hx rfl (hb hby hd) rfl q
theorem g_dup {v : Value} (W : Here p l e R s m args below meth c Z F B h0 A y bytes mL ret T k n os) (hd : decode bytes pc = .ok (.dup, 1)) (hv : v.category = 1) (K : Go p e below G (T.setTop (mkF m (pc + 1) ls (v :: v :: st)))) : Go p e below G (T.setTop (mkF m pc ls (v :: st))) := by
  obtain ⟨⟨hx, hZ, hby, -⟩, locs, X, -⟩ := W
  exact K.by fun t q => XS.dup X.here hx rfl (hb hby hd) rfl hv q
theorem g_pop {v : Value} (W : Here p l e R s m args below meth c Z F B h0 A y bytes mL ret T k n os) (hd : decode bytes pc = .ok (.pop, 1)) (hv : v.category = 1) (K : Go p e below G (T.setTop (mkF m (pc + 1) ls (st)))) : Go p e below G (T.setTop (mkF m pc ls (v :: st))) := by
  obtain ⟨⟨hx, hZ, hby, -⟩, locs, X, -⟩ := W
  exact K.by fun t q => XT.pop X.here hx rfl (hb hby hd) rfl hv q
theorem g_dup_x1 {v w : Value} (W : Here p l e R s m args below meth c Z F B h0 A y bytes mL ret T k n os) (hd : decode bytes pc = .ok (.dup_x1, 1)) (hv : v.category = 1) (hw : w.category = 1) (K : Go p e below G (T.setTop (mkF m (pc + 1) ls (v :: w :: v :: st)))) : Go p e below G (T.setTop (mkF m pc ls (v :: w :: st))) := by
  obtain ⟨⟨hx, hZ, hby, -⟩, locs, X, -⟩ := W
  exact K.by fun t q => XT.dupX1 X.here hx rfl (hb hby hd) rfl hv hw q
theorem g_dup2 {v w : Value} (W : Here p l e R s m args below meth c Z F B h0 A y bytes mL ret T k n os) (hd : decode bytes pc = .ok (.dup2, 1)) (hv : v.category = 1) (hw : w.category = 1) (K : Go p e below G (T.setTop (mkF m (pc + 1) ls (v :: w :: v :: w :: st)))) : Go p e below G (T.setTop (mkF m pc ls (v :: w :: st))) := by
  obtain ⟨⟨hx, hZ, hby, -⟩, locs, X, -⟩ := W
  exact K.by fun t q => XT.dup2 X.here hx rfl (hb hby hd) rfl hv hw q
theorem g_dup_x2 {v w u : Value} (W : Here p l e R s m args below meth c Z F B h0 A y bytes mL ret T k n os) (hd : decode bytes pc = .ok (.dup_x2, 1)) (hv : v.category = 1) (hw : w.category = 1) (hu : u.category = 1) (K : Go p e below G (T.setTop (mkF m (pc + 1) ls (v :: w :: u :: v :: st)))) : Go p e below G (T.setTop (mkF m pc ls (v :: w :: u :: st))) := by
  obtain ⟨⟨hx, hZ, hby, -⟩, locs, X, -⟩ := W
  refine K.by fun t q => ?_
  have hd' := hb hby hd
  jvm_step X.here [X.here.top, hx, hd', hv, hw, hu]
  exact q
theorem g_iinc {j : Nat} {i : Int} {x : Int32} (v : Int32) (hv : Int32.ofInt i = v) {ls' : Array Slot} (W : Here p l e R s m args below meth c Z F B h0 A y bytes mL ret T k n os) (hd : decode bytes pc = .ok (.iinc j i, 3)) (hl : ls[j]? = some (.val (.int x))) (hl' : storeLocals ls j (.int (x + v)) = some ls') (K : Go p e below G (T.setTop (mkF m (pc + 3) ls' st))) : Go p e below G (T.setTop (mkF m pc ls st)) := by
  obtain ⟨⟨hx, hZ, hby, -⟩, locs, X, -⟩ := W
  subst hv
  exact K.by fun t q => XS.iinc X.here hx rfl (hb hby hd) hl hl' q
theorem g_goto {o : Int} (pc' : Nat) (W : Here p l e R s m args below meth c Z F B h0 A y bytes mL ret T k n os) (hd : decode bytes pc = .ok (.goto o, 3)) (ho : 0 ≤ (pc : Int) + o) (hp : ((pc : Int) + o).toNat = pc') (K : Go p e below G (T.setTop (mkF m pc' ls st))) : Go p e below G (T.setTop (mkF m pc ls st)) := by
  obtain ⟨⟨hx, hZ, hby, -⟩, locs, X, -⟩ := W
  exact K.by fun t q => XS.goto X.here hx rfl rfl (hb hby hd) ho hp q
theorem g_icmpY {cd : ClassFile.Cond} {o : Int} {x z : Int32} (pc' : Nat) (W : Here p l e R s m args below meth c Z F B h0 A y bytes mL ret T k n os) (hd : decode bytes pc = .ok (.if_icmp cd o, 3)) (ho : 0 ≤ (pc : Int) + o) (hp : ((pc : Int) + o).toNat = pc') (hc : if_icmp.holds cd x z = true) (K : Go p e below G (T.setTop (mkF m pc' ls st))) : Go p e below G (T.setTop (mkF m pc ls (.int z :: .int x :: st))) := by
  obtain ⟨⟨hx, hZ, hby, -⟩, locs, X, -⟩ := W
  exact K.by fun t q => XS.icmpYes X.here hx rfl rfl (hb hby hd) rfl hc ho hp q
theorem g_icmpN {cd : ClassFile.Cond} {o : Int} {x z : Int32} (W : Here p l e R s m args below meth c Z F B h0 A y bytes mL ret T k n os) (hd : decode bytes pc = .ok (.if_icmp cd o, 3)) (hc : if_icmp.holds cd x z = false) (K : Go p e below G (T.setTop (mkF m (pc + 3) ls st))) : Go p e below G (T.setTop (mkF m pc ls (.int z :: .int x :: st))) := by
  obtain ⟨⟨hx, hZ, hby, -⟩, locs, X, -⟩ := W
  exact K.by fun t q => XS.icmpNo X.here hx rfl (hb hby hd) rfl hc q
theorem g_ifY {cd : ClassFile.Cond} {o : Int} {x : Int32} (pc' : Nat) (W : Here p l e R s m args below meth c Z F B h0 A y bytes mL ret T k n os) (hd : decode bytes pc = .ok (.ifCond cd o, 3)) (ho : 0 ≤ (pc : Int) + o) (hp : ((pc : Int) + o).toNat = pc') (hc : if_icmp.holds cd x 0 = true) (K : Go p e below G (T.setTop (mkF m pc' ls st))) : Go p e below G (T.setTop (mkF m pc ls (.int x :: st))) := by
  obtain ⟨⟨hx, hZ, hby, -⟩, locs, X, -⟩ := W
  exact K.by fun t q => XS.ifYes X.here hx rfl rfl (hb hby hd) rfl ((if0 _ _).trans hc) ho hp q
theorem g_ifN {cd : ClassFile.Cond} {o : Int} {x : Int32} (W : Here p l e R s m args below meth c Z F B h0 A y bytes mL ret T k n os) (hd : decode bytes pc = .ok (.ifCond cd o, 3)) (hc : if_icmp.holds cd x 0 = false) (K : Go p e below G (T.setTop (mkF m (pc + 3) ls st))) : Go p e below G (T.setTop (mkF m pc ls (.int x :: st))) := by
  obtain ⟨⟨hx, hZ, hby, -⟩, locs, X, -⟩ := W
  exact K.by fun t q => XS.ifNo X.here hx rfl (hb hby hd) rfl ((if0 _ _).trans hc) q
theorem g_icmp_lt {o : Int} {x z : Int32} (pc' : Nat) (W : Here p l e R s m args below meth c Z F B h0 A y bytes mL ret T k n os) (hd : decode bytes pc = .ok (.if_icmp .lt o, 3)) (ho : 0 ≤ (pc : Int) + o) (hp : ((pc : Int) + o).toNat = pc') (Y : x < z → Go p e below G (T.setTop (mkF m pc' ls st))) (N : ¬ (x < z) → Go p e below G (T.setTop (mkF m (pc + 3) ls st))) : Go p e below G (T.setTop (mkF m pc ls (.int z :: .int x :: st))) := by
  by_cases q : x < z
  · exact g_icmpY pc' W hd ho hp (tlt q).1 (Y q)
  · exact g_icmpN W hd (flt q).1 (N q)
theorem g_if_lt {o : Int} {x : Int32} (pc' : Nat) (W : Here p l e R s m args below meth c Z F B h0 A y bytes mL ret T k n os) (hd : decode bytes pc = .ok (.ifCond .lt o, 3)) (ho : 0 ≤ (pc : Int) + o) (hp : ((pc : Int) + o).toNat = pc') (Y : x < 0 → Go p e below G (T.setTop (mkF m pc' ls st))) (N : ¬ (x < 0) → Go p e below G (T.setTop (mkF m (pc + 3) ls st))) : Go p e below G (T.setTop (mkF m pc ls (.int x :: st))) := by
  by_cases q : x < 0
  · exact g_ifY pc' W hd ho hp (tlt q).1 (Y q)
  · exact g_ifN W hd (flt q).1 (N q)
theorem g_icmp_ge {o : Int} {x z : Int32} (pc' : Nat) (W : Here p l e R s m args below meth c Z F B h0 A y bytes mL ret T k n os) (hd : decode bytes pc = .ok (.if_icmp .ge o, 3)) (ho : 0 ≤ (pc : Int) + o) (hp : ((pc : Int) + o).toNat = pc') (Y : ¬ (x < z) → Go p e below G (T.setTop (mkF m pc' ls st))) (N : x < z → Go p e below G (T.setTop (mkF m (pc + 3) ls st))) : Go p e below G (T.setTop (mkF m pc ls (.int z :: .int x :: st))) := by
  by_cases q : x < z
  · exact g_icmpN W hd (tlt q).2.1 (N q)
  · exact g_icmpY pc' W hd ho hp (flt q).2.1 (Y q)
theorem g_if_ge {o : Int} {x : Int32} (pc' : Nat) (W : Here p l e R s m args below meth c Z F B h0 A y bytes mL ret T k n os) (hd : decode bytes pc = .ok (.ifCond .ge o, 3)) (ho : 0 ≤ (pc : Int) + o) (hp : ((pc : Int) + o).toNat = pc') (Y : ¬ (x < 0) → Go p e below G (T.setTop (mkF m pc' ls st))) (N : x < 0 → Go p e below G (T.setTop (mkF m (pc + 3) ls st))) : Go p e below G (T.setTop (mkF m pc ls (.int x :: st))) := by
  by_cases q : x < 0
  · exact g_ifN W hd (tlt q).2.1 (N q)
  · exact g_ifY pc' W hd ho hp (flt q).2.1 (Y q)
theorem g_icmp_gt {o : Int} {x z : Int32} (pc' : Nat) (W : Here p l e R s m args below meth c Z F B h0 A y bytes mL ret T k n os) (hd : decode bytes pc = .ok (.if_icmp .gt o, 3)) (ho : 0 ≤ (pc : Int) + o) (hp : ((pc : Int) + o).toNat = pc') (Y : z < x → Go p e below G (T.setTop (mkF m pc' ls st))) (N : ¬ (z < x) → Go p e below G (T.setTop (mkF m (pc + 3) ls st))) : Go p e below G (T.setTop (mkF m pc ls (.int z :: .int x :: st))) := by
  by_cases q : z < x
  · exact g_icmpY pc' W hd ho hp (tlt q).2.2.1 (Y q)
  · exact g_icmpN W hd (flt q).2.2.1 (N q)
theorem g_if_gt {o : Int} {x : Int32} (pc' : Nat) (W : Here p l e R s m args below meth c Z F B h0 A y bytes mL ret T k n os) (hd : decode bytes pc = .ok (.ifCond .gt o, 3)) (ho : 0 ≤ (pc : Int) + o) (hp : ((pc : Int) + o).toNat = pc') (Y : 0 < x → Go p e below G (T.setTop (mkF m pc' ls st))) (N : ¬ (0 < x) → Go p e below G (T.setTop (mkF m (pc + 3) ls st))) : Go p e below G (T.setTop (mkF m pc ls (.int x :: st))) := by
  by_cases q : 0 < x
  · exact g_ifY pc' W hd ho hp (tlt q).2.2.1 (Y q)
  · exact g_ifN W hd (flt q).2.2.1 (N q)
theorem g_icmp_le {o : Int} {x z : Int32} (pc' : Nat) (W : Here p l e R s m args below meth c Z F B h0 A y bytes mL ret T k n os) (hd : decode bytes pc = .ok (.if_icmp .le o, 3)) (ho : 0 ≤ (pc : Int) + o) (hp : ((pc : Int) + o).toNat = pc') (Y : ¬ (z < x) → Go p e below G (T.setTop (mkF m pc' ls st))) (N : z < x → Go p e below G (T.setTop (mkF m (pc + 3) ls st))) : Go p e below G (T.setTop (mkF m pc ls (.int z :: .int x :: st))) := by
  by_cases q : z < x
  · exact g_icmpN W hd (tlt q).2.2.2 (N q)
  · exact g_icmpY pc' W hd ho hp (flt q).2.2.2 (Y q)
theorem g_if_le {o : Int} {x : Int32} (pc' : Nat) (W : Here p l e R s m args below meth c Z F B h0 A y bytes mL ret T k n os) (hd : decode bytes pc = .ok (.ifCond .le o, 3)) (ho : 0 ≤ (pc : Int) + o) (hp : ((pc : Int) + o).toNat = pc') (Y : ¬ (0 < x) → Go p e below G (T.setTop (mkF m pc' ls st))) (N : 0 < x → Go p e below G (T.setTop (mkF m (pc + 3) ls st))) : Go p e below G (T.setTop (mkF m pc ls (.int x :: st))) := by
  by_cases q : 0 < x
  · exact g_ifN W hd (tlt q).2.2.2 (N q)
  · exact g_ifY pc' W hd ho hp (flt q).2.2.2 (Y q)
theorem g_icmp_eq {o : Int} {x z : Int32} (pc' : Nat) (W : Here p l e R s m args below meth c Z F B h0 A y bytes mL ret T k n os) (hd : decode bytes pc = .ok (.if_icmp .eq o, 3)) (ho : 0 ≤ (pc : Int) + o) (hp : ((pc : Int) + o).toNat = pc') (Y : x = z → Go p e below G (T.setTop (mkF m pc' ls st))) (N : ¬ (x = z) → Go p e below G (T.setTop (mkF m (pc + 3) ls st))) : Go p e below G (T.setTop (mkF m pc ls (.int z :: .int x :: st))) := by
  by_cases q : x = z
  · exact g_icmpY pc' W hd ho hp (teq q).1 (Y q)
  · exact g_icmpN W hd (feq q).1 (N q)
theorem g_if_eq {o : Int} {x : Int32} (pc' : Nat) (W : Here p l e R s m args below meth c Z F B h0 A y bytes mL ret T k n os) (hd : decode bytes pc = .ok (.ifCond .eq o, 3)) (ho : 0 ≤ (pc : Int) + o) (hp : ((pc : Int) + o).toNat = pc') (Y : x = 0 → Go p e below G (T.setTop (mkF m pc' ls st))) (N : ¬ (x = 0) → Go p e below G (T.setTop (mkF m (pc + 3) ls st))) : Go p e below G (T.setTop (mkF m pc ls (.int x :: st))) := by
  by_cases q : x = 0
  · exact g_ifY pc' W hd ho hp (teq q).1 (Y q)
  · exact g_ifN W hd (feq q).1 (N q)
theorem g_icmp_ne {o : Int} {x z : Int32} (pc' : Nat) (W : Here p l e R s m args below meth c Z F B h0 A y bytes mL ret T k n os) (hd : decode bytes pc = .ok (.if_icmp .ne o, 3)) (ho : 0 ≤ (pc : Int) + o) (hp : ((pc : Int) + o).toNat = pc') (Y : ¬ (x = z) → Go p e below G (T.setTop (mkF m pc' ls st))) (N : x = z → Go p e below G (T.setTop (mkF m (pc + 3) ls st))) : Go p e below G (T.setTop (mkF m pc ls (.int z :: .int x :: st))) := by
  by_cases q : x = z
  · exact g_icmpN W hd (teq q).2 (N q)
  · exact g_icmpY pc' W hd ho hp (feq q).2 (Y q)
theorem g_if_ne {o : Int} {x : Int32} (pc' : Nat) (W : Here p l e R s m args below meth c Z F B h0 A y bytes mL ret T k n os) (hd : decode bytes pc = .ok (.ifCond .ne o, 3)) (ho : 0 ≤ (pc : Int) + o) (hp : ((pc : Int) + o).toNat = pc') (Y : ¬ (x = 0) → Go p e below G (T.setTop (mkF m pc' ls st))) (N : x = 0 → Go p e below G (T.setTop (mkF m (pc + 3) ls st))) : Go p e below G (T.setTop (mkF m pc ls (.int x :: st))) := by
  by_cases q : x = 0
  · exact g_ifN W hd (teq q).2 (N q)
  · exact g_ifY pc' W hd ho hp (feq q).2 (Y q)
theorem g_lookup {dfl : Int} {pairs : Array (Int × Int)} {len : Nat} {x : Int32} (W : Here p l e R s m args below meth c Z F B h0 A y bytes mL ret T k n os) (hd : decode bytes pc = .ok (.lookupswitch dfl pairs, len)) (hs : (pairs.toList.zip (pairs.toList.drop 1)).all (fun (a, next) => a.1 < next.1) = true) (ho : ∀ q ∈ pairs.toList, 0 ≤ (pc : Int) + q.2) (ho' : 0 ≤ (pc : Int) + dfl)
    (Y : ∀ a off, (a, off) ∈ pairs.toList → x.toInt = a → Go p e below G (T.setTop (mkF m ((pc : Int) + off).toNat ls st))) (N : (∀ q ∈ pairs.toList, q.1 ≠ x.toInt) → Go p e below G (T.setTop (mkF m ((pc : Int) + dfl).toNat ls st))) : Go p e below G (T.setTop (mkF m pc ls (.int x :: st))) := by
  obtain ⟨⟨hx, hZ, hby, -⟩, locs, X, -⟩ := W
  cases hf : pairs.find? (·.1 == x.toInt) with
  | none =>
    have K := N fun q hq e => by
      rw [Array.find?_eq_none] at hf
      exact hf q (Array.mem_toList_iff.mp hq) (by simp [e])
    exact K.by fun t q => X.lookupswitchMiss hx (g := mkF m pc ls (.int x :: st)) rfl rfl (hb hby hd) hs hf ho' t q
  | some q =>
    obtain ⟨a, off⟩ := q
    have h1 := Array.find?_some hf
    have h2 := Array.mem_toList_iff.mpr (Array.mem_of_find?_eq_some hf)
    have K := Y a off h2 (by simpa using (beq_iff_eq.mp h1).symm)
    exact K.by fun t q => X.lookupswitchHit hx (g := mkF m pc ls (.int x :: st)) rfl rfl (hb hby hd) hs hf (ho _ h2) t q
theorem g_ldc_int {i : Nat} {v : Int32} (W : Here p l e R s m args below meth c Z F B h0 A y bytes mL ret T k n os) (w : (Jvm.Cond.constant y.cls i v).before a0 Z = true) (hd : decode bytes pc = .ok (.ldc i, 2)) (K : Go p e below G (T.setTop (mkF m (pc + 2) ls (.int v :: st)))) : Go p e below G (T.setTop (mkF m pc ls st)) := by
  obtain ⟨⟨hx, hZ, hby, -, hown, -⟩, locs, X, -⟩ := W
  exact K.by fun t q => X.ldcInt hx hown (mvT hZ w) (g := mkF m pc ls st) rfl (hb hby hd) t q
theorem g_ldc2_long {i : Nat} {v : Int64} (W : Here p l e R s m args below meth c Z F B h0 A y bytes mL ret T k n os) (w : (Jvm.Cond.constantLong y.cls i v).before a0 Z = true) (hd : decode bytes pc = .ok (.ldc2_w i, 3)) (K : Go p e below G (T.setTop (mkF m (pc + 3) ls (.long v :: st)))) : Go p e below G (T.setTop (mkF m pc ls st)) := by
  obtain ⟨⟨hx, hZ, hby, -, hown, -⟩, locs, X, -⟩ := W
  exact K.by fun t q => X.ldc2Long hx hown (mvT hZ w) (g := mkF m pc ls st) rfl (hb hby hd) t q
theorem g_ireturn {z : Int32} (hT : ret = some .int) {kc ks : Nat} {P : Option Value → List Ob → Prop} (W : Here p l e R s m args below meth c Z F B h0 A y bytes mL ret T k n os) (hd : decode bytes pc = .ok (.ireturn, 1)) (hk : k ≤ kc) (hn : n ≤ ks) (hp : P (some (.int z)) os) : Go p e below (Fin1 below s Z F B h0 A kc ks P) (T.setTop (mkF m pc ls (.int z :: st))) := by
  obtain ⟨⟨hx, hZ, hby, -, hown, hret, hlk, -⟩, locs, X, hL, hI⟩ := W
  obtain ⟨fs, hr, hrun, hended, hW, hsame⟩ := X.leave (v := some (.int z)) (fun h => by rw [hret, hT] at h; cases h) hlk
  exact ⟨_, retOut X hx (hret.trans hT) rfl (Or.inl ⟨rfl, Or.inl rfl, z, rfl⟩) (hb hby hd) hr, hrun, _, locs, hended, ⟨hL.1, os, hI, hp⟩, ⟨_, rfl⟩, hW, hsame.mono hk hn⟩
theorem g_zreturn {z : Int32} (hT : ret = some .boolean) (hz : z &&& 1 = z) {kc ks : Nat} {P : Option Value → List Ob → Prop} (W : Here p l e R s m args below meth c Z F B h0 A y bytes mL ret T k n os) (hd : decode bytes pc = .ok (.ireturn, 1)) (hk : k ≤ kc) (hn : n ≤ ks) (hp : P (some (.int z)) os) : Go p e below (Fin1 below s Z F B h0 A kc ks P) (T.setTop (mkF m pc ls (.int z :: st))) := by
  obtain ⟨⟨hx, hZ, hby, -, hown, hret, hlk, -⟩, locs, X, hL, hI⟩ := W
  obtain ⟨fs, hr, hrun, hended, hW, hsame⟩ := X.leave (v := some (.int z)) (fun h => by rw [hret, hT] at h; cases h) hlk
  exact ⟨_, retOut (t := .boolean) (w := .int z) X hx (hret.trans hT) (show Value.int (z &&& 1) = .int z by rw [hz]) (Or.inl ⟨rfl, Or.inr (Or.inl rfl), z, rfl⟩) (hb hby hd) hr, hrun, _, locs, hended, ⟨hL.1, os, hI, hp⟩, ⟨_, rfl⟩, hW, hsame.mono hk hn⟩
theorem g_lreturn {z : Int64} (hT : ret = some .long) {kc ks : Nat} {P : Option Value → List Ob → Prop} (W : Here p l e R s m args below meth c Z F B h0 A y bytes mL ret T k n os) (hd : decode bytes pc = .ok (.lreturn, 1)) (hk : k ≤ kc) (hn : n ≤ ks) (hp : P (some (.long z)) os) : Go p e below (Fin1 below s Z F B h0 A kc ks P) (T.setTop (mkF m pc ls (.long z :: st))) := by
  obtain ⟨⟨hx, hZ, hby, -, hown, hret, hlk, -⟩, locs, X, hL, hI⟩ := W
  obtain ⟨fs, hr, hrun, hended, hW, hsame⟩ := X.leave (v := some (.long z)) (fun h => by rw [hret, hT] at h; cases h) hlk
  exact ⟨_, retOut X hx (hret.trans hT) rfl (Or.inr (Or.inl ⟨rfl, rfl, z, rfl⟩)) (hb hby hd) hr, hrun, _, locs, hended, ⟨hL.1, os, hI, hp⟩, ⟨_, rfl⟩, hW, hsame.mono hk hn⟩
theorem g_areturn {z : Addr} {t : FieldType} (hT : ret = some t) (ht : t.isReference = true) {kc ks : Nat} {P : Option Value → List Ob → Prop} (W : Here p l e R s m args below meth c Z F B h0 A y bytes mL ret T k n os) (hd : decode bytes pc = .ok (.areturn, 1)) (hk : k ≤ kc) (hn : n ≤ ks) (hp : P (some (.ref z)) os) : Go p e below (Fin1 below s Z F B h0 A kc ks P) (T.setTop (mkF m pc ls (.ref z :: st))) := by
  obtain ⟨⟨hx, hZ, hby, -, hown, hret, hlk, -⟩, locs, X, hL, hI⟩ := W
  obtain ⟨fs, hr, hrun, hended, hW, hsame⟩ := X.leave (v := some (.ref z)) (fun h => by rw [hret, hT] at h; cases h) hlk
  exact ⟨_, retOut X hx (hret.trans hT) (by cases t <;> first | rfl | simp [FieldType.isReference] at ht) (Or.inr (Or.inr (Or.inr (Or.inr ⟨rfl, ht, rfl⟩)))) (hb hby hd) hr, hrun, _, locs, hended, ⟨hL.1, os, hI, hp⟩, ⟨_, rfl⟩, hW, hsame.mono hk hn⟩
theorem g_return (hT : ret = none) {kc ks : Nat} {P : Option Value → List Ob → Prop} (W : Here p l e R s m args below meth c Z F B h0 A y bytes mL ret T k n os) (hd : decode bytes pc = .ok (.return_, 1)) (hk : k ≤ kc) (hn : n ≤ ks) (hp : P (none) os) : Go p e below (Fin1 below s Z F B h0 A kc ks P) (T.setTop (mkF m pc ls ([]))) := by
  obtain ⟨⟨hx, hZ, hby, -, hown, hret, hlk, -⟩, locs, X, hL, hI⟩ := W
  obtain ⟨fs, hr, hrun, hended, hW, hsame⟩ := X.leave (v := none) (fun _ => rfl) hlk
  exact ⟨_, X.returnOut hx (hret.trans hT) (hb hby hd) hr, hrun, _, locs, hended, ⟨hL.1, os, hI, hp⟩, ⟨_, rfl⟩, hW, hsame.mono hk hn⟩
theorem own_bb (v : Int32) : v.toInt8.toInt32.toInt8.toInt32 = v.toInt8.toInt32 := by rw [Int8.toInt8_toInt32]
theorem g_acmp {cd : ACond} {o : Int} {v w : Value} (pc' : Nat) (same : Bool) (W : Here p l e R s m args below meth c Z F B h0 A y bytes mL ret T k n os) (hd : decode bytes pc = .ok (.if_acmp cd o, 3)) (h1 : v.isRef = true) (h2 : w.isRef = true) (hq : decide (v = w) = same) (ho : 0 ≤ (pc : Int) + o) (hp : pc' = if acV cd same = true then ((pc : Int) + o).toNat else pc + 3) (K : Go p e below G (T.setTop (mkF m pc' ls st))) : Go p e below G (T.setTop (mkF m pc ls (w :: v :: st))) := by
  obtain ⟨⟨hx, hZ, hby, -⟩, locs, X, -⟩ := W
  exact K.by fun t q => Jvm.RoadKit.acmp (g := mkF m pc ls (w :: v :: st)) X hx rfl h1 h2 rfl (hb hby hd) rfl hq ho hp q
theorem Here.re {os' : List Ob} (W : Here p l e R s m args below meth c Z F B h0 A y bytes mL ret T k n os) (h : os = os') : Here p l e R s m args below meth c Z F B h0 A y bytes mL ret T k n os' := h ▸ W
theorem Here.kn {k' n' : Nat} (W : Here p l e R s m args below meth c Z F B h0 A y bytes mL ret T k n os) (h : k = k') (h' : n = n') : Here p l e R s m args below meth c Z F B h0 A y bytes mL ret T k' n' os := by subst h h'; exact W
/-- what the sheet says of a class: its fields are laid, under names of their own -/
def Cls (Z : State) (a0 : Array Value) (F : Fm) (C : String) : Prop := (∀ x ∈ F C, Laid Z a0 C C x.1 x.2 ∧ ∃ t, parseFieldDescriptor x.2 = some t) ∧ ((F C).map (·.1)).Nodup
theorem Cls.ne {C : String} (H : Cls Z a0 F C) {i j : Nat} {x x' : String × String} (hi : (F C)[i]? = some x) (hj : (F C)[j]? = some x') (ne : i ≠ j) : Jvm.RoadKit.slotOf Z C x.1 x.2 ≠ Jvm.RoadKit.slotOf Z C x'.1 x'.2 := by
  obtain ⟨L, t, ht⟩ := H.1 x (List.mem_of_getElem? hi)
  obtain ⟨L', t', ht'⟩ := H.1 x' (List.mem_of_getElem? hj)
  refine slot_ne L L' (fun e => ne ?_) ht ht'
  obtain ⟨h1, e1⟩ := List.getElem?_eq_some_iff.mp hi
  obtain ⟨h2, e2⟩ := List.getElem?_eq_some_iff.mp hj
  refine (List.getElem_inj (xs := (F C).map (·.1)) (h₀ := by simpa using h1) (h₁ := by simpa using h2) H.2).mp ?_
  simp [e1, e2, e]
def dflt (d : String) : Value := ((parseFieldDescriptor d).map defaultValue).getD .null
theorem g_getfield {i index j : Nat} {a : Addr} {C nm d host : String} {vs : List Value} {v : Value} (W : Here p l e R s m args below meth c Z F B h0 A y bytes mL ret T k n os) (w : (Jvm.Cond.fieldLink y.cls index C nm d).before a0 Z = true ∨ (Jvm.Cond.fieldLinkNest y.cls index C nm d host).before a0 Z = true)
    (hi : os[i]? = some (a, .object C, vs)) (hf : (F C)[j]? = some (nm, d)) (hv : vs[j]? = some v) (hd : decode bytes pc = .ok (.getfield index, 3)) (K : ∀ T', Here p l e R s m args below meth c Z F B h0 A y bytes mL ret T' k n os → Go p e below G (T'.setTop (mkF m (pc + 3) ls (v :: st)))) : Go p e below G (T.setTop (mkF m pc ls (.ref a :: st))) := by
  obtain ⟨H0, locs, X, hL, hI⟩ := W
  have O : Oat F Z T.heap a (.object C) vs := hI.2.1.get hi
  obtain ⟨T', X', e', stp⟩ := getF X H0.1 H0.2.1 H0.2.2.2.2.1 w Via.refl rfl (O.2.2 j nm d v hf hv) (g := mkF m pc ls (.ref a :: st)) rfl rfl (hb H0.2.2.1 hd)
  exact (K T' ⟨H0, locs, X', hL, by rw [e']; exact hI⟩).by stp
theorem g_putfield {i index j kk : Nat} {a : Addr} {C nm d host : String} {vs : List Value} {v old : Value} {ty : FieldType} {os' : List Ob} (W : Here p l e R s m args below meth c Z F B h0 A y bytes mL ret T k n os) (w : (Jvm.Cond.fieldLink y.cls index C nm d).before a0 Z = true ∨ (Jvm.Cond.fieldLinkNest y.cls index C nm d host).before a0 Z = true)
    (hC : Cls Z a0 F C) (L : (Jvm.Cond.lays C C nm d).before a0 Z = true ∨ ((Jvm.Cond.laysFinal C C nm d).before a0 Z = true ∧ y.cls = C ∧ y.name = "<init>")) (wi : (Jvm.Cond.instantiable C kk).before a0 Z = true)
    (hi : os[i]? = some (a, .object C, vs)) (hf : (F C)[j]? = some (nm, d)) (hv : vs[j]? = some old) (hty : parseFieldDescriptor d = some ty) (hn : narrow ty v = v) (hfit : fits ty v = true) (ho : os.set i (a, .object C, vs.set j v) = os')
    (hd : decode bytes pc = .ok (.putfield index, 3)) (K : ∀ T', Here p l e R s m args below meth c Z F B h0 A y bytes mL ret T' k n os' → Go p e below G (T'.setTop (mkF m (pc + 3) ls (st)))) : Go p e below G (T.setTop (mkF m pc ls (v :: .ref a :: st))) := by
  obtain ⟨H0, locs, X, hL, hI⟩ := W
  have O : Oat F Z T.heap a (.object C) vs := hI.2.1.get hi
  obtain ⟨E, hlen, hF⟩ := O
  obtain ⟨T', h', X', e', Wr', stp⟩ := putF X H0.1 H0.2.1 H0.2.2.2.2.1 w Via.refl rfl (hF j nm d old hf hv) E (L.imp id fun q => ⟨q.1, q.2.1, H0.2.2.2.2.2.2.2.trans q.2.2⟩) wi hty hn hfit (g := mkF m pc ls (v :: .ref a :: st)) rfl rfl (hb H0.2.2.1 hd)
  refine (K T' ⟨H0, _, X', ⟨fun z hz => ?_, hL.2⟩, ?_⟩).by stp
  · rcases List.mem_append.mp hz with q | q
    · exact hL.1 z q
    · cases List.mem_singleton.mp q; exact (hI.mem hi).ge hL.2.1 hL.2.2
  · rw [e', ← ho]
    refine hI.set hi (Keep.of_wr Wr') ⟨E.wr Wr', by simpa using hlen, fun i' n' d' v' h1 h2 => ?_⟩
    rw [List.getElem?_set] at h2
    split at h2
    · rename_i e1; subst e1
      have : v' = v := by split at h2 <;> simp_all
      cases hf.symm.trans h1
      subst this
      exact (hF j nm d old hf hv).same Wr'
    · rename_i ne
      have q : Jvm.RoadKit.slotOf Z C n' d' ≠ Jvm.RoadKit.slotOf Z C nm d := hC.ne (x := (n', d')) (x' := (nm, d)) h1 hf (Ne.symm ne)
      exact (hF i' n' d' v' h1 h2).other Wr' (Or.inr q)
theorem g_new {index nsl : Nat} {C : String} {vs : List Value} (W : Here p l e R s m args below meth c Z F B h0 A y bytes mL ret T k n os) (w : (Jvm.Cond.classLink y.cls index C).before a0 Z = true) (wi : (Jvm.Cond.instantiable C nsl).before a0 Z = true) (wz : (Jvm.Cond.initialized C).before a0 Z = true) (hC : Cls Z a0 F C) (hvs : (F C).map (fun x => dflt x.2) = vs)
    (hd : decode bytes pc = .ok (.new index, 3)) (hc : k + 1 ≤ R.cells) (hs : n + nsl ≤ R.slots)
    (K : ∀ T' a, Here p l e R s m args below meth c Z F B h0 A y bytes mL ret T' (k + 1) (n + nsl) (os ++ [(a, .object C, vs)]) → Go p e below G (T'.setTop (mkF m (pc + 3) ls (.ref a :: st)))) : Go p e below G (T.setTop (mkF m pc ls st)) := by
  obtain ⟨H0, locs, X, hL, hI⟩ := W
  obtain ⟨T', h', X', e', E', A', D', -, stp⟩ := newO X H0.1 H0.2.1 H0.2.2.2.2.1 w wi wz rfl (g := mkF m pc ls st) rfl (hb H0.2.2.1 hd) hc hs
  refine (K T' T.heap.size ⟨H0, locs, X', hL, ?_⟩).by stp
  rw [e']
  refine hI.push E' ⟨A', by rw [← hvs]; simp, fun i nm d v h1 h2 => ?_⟩
  obtain ⟨La, t, ht⟩ := hC.1 _ (List.mem_of_getElem? h1)
  have q := D' La ht
  rw [← hvs, List.getElem?_map, h1] at h2
  simp only [Option.map_some, dflt, ht, Option.getD_some, Option.some.injEq] at h2
  rw [← h2]; exact q
theorem fits_dflt (aty : ArrayType) : fits (newarray.typeOf aty) (defaultValue (newarray.typeOf aty)) = true := by cases aty <;> rfl
theorem g_newarray {aty : ArrayType} {z : Int32} {ty : FieldType} {vs : List Value} (cap : Nat) (W : Here p l e R s m args below meth c Z F B h0 A y bytes mL ret T k n os) (w : (Jvm.Cond.arrayClass ty).before a0 Z = true) (hty : newarray.typeOf aty = ty) (hz : ¬ z < 0) (hcap : z.toNatClampNeg ≤ cap) (hb8 : cap * 8 ≤ 536870912) (hvs : List.replicate z.toNatClampNeg (defaultValue ty) = vs)
    (hd : decode bytes pc = .ok (.newarray aty, 2)) (hc : k + 1 ≤ R.cells) (hs : n + cap ≤ R.slots)
    (K : ∀ T' a, Here p l e R s m args below meth c Z F B h0 A y bytes mL ret T' (k + 1) (n + cap) (os ++ [(a, .array ty, vs)]) → Go p e below G (T'.setTop (mkF m (pc + 2) ls (.ref a :: st)))) : Go p e below G (T.setTop (mkF m pc ls (.int z :: st))) := by
  obtain ⟨H0, locs, X, hL, hI⟩ := W
  subst hty hvs
  obtain ⟨T', h', cA, X', e', E', A', Ex, stp⟩ := newPE X H0.1 H0.2.1 w rfl (g := mkF m pc ls (.int z :: st)) rfl (hb H0.2.2.1 hd) rfl hz hcap hb8 hc hs rfl
  refine (K T' T.heap.size ⟨H0, locs, X', hL, ?_⟩).by stp
  rw [e']
  refine hI.push E' ⟨Ex, fun v hv => ?_, _, A', by simp [newA]⟩
  rw [(List.mem_replicate.mp hv).2]; exact fits_dflt aty
theorem g_anewarray {index : Nat} {z : Int32} {C : String} {vs : List Value} (cap : Nat) (W : Here p l e R s m args below meth c Z F B h0 A y bytes mL ret T k n os) (w : (Jvm.Cond.classLink y.cls index C).before a0 Z = true) (w2 : (Jvm.Cond.arrayOver (.object C)).before a0 Z = true) (hz : ¬ z < 0) (hcap : z.toNatClampNeg ≤ cap) (hb8 : cap * 8 ≤ 536870912) (hvs : List.replicate z.toNatClampNeg .null = vs)
    (hd : decode bytes pc = .ok (.anewarray index, 3)) (hc : k + 1 ≤ R.cells) (hs : n + cap ≤ R.slots)
    (K : ∀ T' a, Here p l e R s m args below meth c Z F B h0 A y bytes mL ret T' (k + 1) (n + cap) (os ++ [(a, .array (.object C), vs)]) → Go p e below G (T'.setTop (mkF m (pc + 3) ls (.ref a :: st)))) : Go p e below G (T.setTop (mkF m pc ls (.int z :: st))) := by
  obtain ⟨H0, locs, X, hL, hI⟩ := W
  subst hvs
  obtain ⟨T', h', cA, X', e', E', A', Ex, -, stp⟩ := newRE X H0.1 H0.2.1 H0.2.2.2.2.1 w w2 rfl (g := mkF m pc ls (.int z :: st)) rfl (hb H0.2.2.1 hd) rfl hz hcap hb8 hc hs rfl
  refine (K T' T.heap.size ⟨H0, locs, X', hL, ?_⟩).by stp
  rw [e']
  refine hI.push E' ⟨Ex, fun v hv => ?_, _, A', by simp [newA, defaultValue]⟩
  rw [(List.mem_replicate.mp hv).2]; rfl
theorem inb_list {cl : Cell} {vs : List Value} {z : Int32} {v : Value} (S : cl.slots = vs.toArray) (hz : ¬ z < 0) (hv : vs[z.toNatClampNeg]? = some v) : ¬ (z < 0 ∨ cl.slots.size ≤ z.toNatClampNeg) ∧ cl.slots[z.toNatClampNeg]? = some v := by
  have h1 := (List.getElem?_eq_some_iff.mp hv).1
  refine ⟨fun q => q.elim hz fun q => ?_, by rw [S]; simpa using hv⟩
  rw [S] at q; simp at q; omega
theorem g_iaload {i : Nat} {a : Addr} {z : Int32} {vs : List Value} {v : Value} (W : Here p l e R s m args below meth c Z F B h0 A y bytes mL ret T k n os) (hi : os[i]? = some (a, .array .int, vs)) (hz : ¬ z < 0) (hv : vs[z.toNatClampNeg]? = some v) (hd : decode bytes pc = .ok (.iaload, 1)) (K : Go p e below G (T.setTop (mkF m (pc + 1) ls (v :: st)))) : Go p e below G (T.setTop (mkF m pc ls (.int z :: .ref a :: st))) := by
  obtain ⟨H0, locs, X, hL, hI⟩ := W
  have O : Oat F Z T.heap a (.array .int) vs := hI.2.1.get hi
  obtain ⟨E, -, cl, Ar, S⟩ := O
  obtain ⟨h1, h2⟩ := inb_list S hz hv
  exact K.by fun t q => X.iaload H0.1 (j := z) (v := v) Ar.1 (State.isArrayOf_alike H0.2.1.alike Ar.2.1) Ar.2.2 h1 h2 (g := mkF m pc ls (.int z :: .ref a :: st)) rfl rfl (hb H0.2.2.1 hd) t q
theorem g_laload {i : Nat} {a : Addr} {z : Int32} {vs : List Value} {v : Value} (W : Here p l e R s m args below meth c Z F B h0 A y bytes mL ret T k n os) (hi : os[i]? = some (a, .array .long, vs)) (hz : ¬ z < 0) (hv : vs[z.toNatClampNeg]? = some v) (hd : decode bytes pc = .ok (.laload, 1)) (K : Go p e below G (T.setTop (mkF m (pc + 1) ls (v :: st)))) : Go p e below G (T.setTop (mkF m pc ls (.int z :: .ref a :: st))) := by
  obtain ⟨H0, locs, X, hL, hI⟩ := W
  have O : Oat F Z T.heap a (.array .long) vs := hI.2.1.get hi
  obtain ⟨E, -, cl, Ar, S⟩ := O
  obtain ⟨h1, h2⟩ := inb_list S hz hv
  exact K.by fun t q => X.laload H0.1 (j := z) (v := v) Ar.1 (State.isArrayOf_alike H0.2.1.alike Ar.2.1) Ar.2.2 h1 h2 (g := mkF m pc ls (.int z :: .ref a :: st)) rfl rfl (hb H0.2.2.1 hd) t q
theorem g_baload {i : Nat} {a : Addr} {z : Int32} {vs : List Value} {v : Value} (W : Here p l e R s m args below meth c Z F B h0 A y bytes mL ret T k n os) (hi : os[i]? = some (a, .array .byte, vs)) (hz : ¬ z < 0) (hv : vs[z.toNatClampNeg]? = some v) (hd : decode bytes pc = .ok (.baload, 1)) (K : Go p e below G (T.setTop (mkF m (pc + 1) ls (v :: st)))) : Go p e below G (T.setTop (mkF m pc ls (.int z :: .ref a :: st))) := by
  obtain ⟨H0, locs, X, hL, hI⟩ := W
  have O : Oat F Z T.heap a (.array .byte) vs := hI.2.1.get hi
  obtain ⟨E, -, cl, Ar, S⟩ := O
  obtain ⟨h1, h2⟩ := inb_list S hz hv
  exact K.by fun t q => X.baloadBytes H0.1 (j := z) (v := v) Ar.1 (State.isArrayOf_alike H0.2.1.alike Ar.2.1) Ar.2.2 h1 h2 (g := mkF m pc ls (.int z :: .ref a :: st)) rfl rfl (hb H0.2.2.1 hd) t q
theorem g_arraylength {i : Nat} {a : Addr} {ty : FieldType} {vs : List Value} (N : Int32) (W : Here p l e R s m args below meth c Z F B h0 A y bytes mL ret T k n os) (hi : os[i]? = some (a, .array ty, vs)) (hN : vs.length.toInt32 = N) (hd : decode bytes pc = .ok (.arraylength, 1)) (K : Go p e below G (T.setTop (mkF m (pc + 1) ls (.int N :: st)))) : Go p e below G (T.setTop (mkF m pc ls (.ref a :: st))) := by
  obtain ⟨H0, locs, X, hL, hI⟩ := W
  have O : Oat F Z T.heap a (.array ty) vs := hI.2.1.get hi
  obtain ⟨E, -, cl, Ar, S⟩ := O
  have q2 : cl.slots.size.toInt32 = N := by rw [S, ← hN]; simp
  subst q2
  exact K.by fun t q => X.arraylength H0.1 Ar.1 (State.isArrayOf_alike H0.2.1.alike Ar.2.1) (g := mkF m pc ls (.ref a :: st)) rfl rfl (hb H0.2.2.1 hd) t q
theorem Oat.put {h h' : Heap} {a : Addr} {ty : FieldType} {vs : List Value} {cl : Cell} {v : Value} {j : Nat} (O : Oat F Z h a (.array ty) vs) (Ar : Arr Z h a cl ty) (S : cl.slots = vs.toArray) (hf : fits ty v = true) (Wr' : Wr h h' a j v) : Oat F Z h' a (.array ty) (vs.set j v) := by
  obtain ⟨E, f, -⟩ := O
  refine ⟨E.wr Wr', fun u hu => ?_, cl.setSlot j v, Ar.same Wr', by simp [Cell.setSlot, S]⟩
  rcases List.mem_or_eq_of_mem_set hu with q | q
  · exact f u q
  · rw [q]; exact hf
theorem g_iastore {i : Nat} {a : Addr} {z : Int32} {x : Int32} {vs : List Value} {os' : List Ob} (j : Nat) (W : Here p l e R s m args below meth c Z F B h0 A y bytes mL ret T k n os) (hi : os[i]? = some (a, .array .int, vs)) (hz : ¬ z < 0) (hj : z.toNatClampNeg = j) (hlt : j < vs.length) (ho : os.set i (a, .array .int, vs.set j (.int x)) = os')
    (hd : decode bytes pc = .ok (.iastore, 1)) (K : ∀ T', Here p l e R s m args below meth c Z F B h0 A y bytes mL ret T' k n os' → Go p e below G (T'.setTop (mkF m (pc + 1) ls (st)))) : Go p e below G (T.setTop (mkF m pc ls (.int x :: .int z :: .ref a :: st))) := by
  obtain ⟨H0, locs, X, hL, hI⟩ := W
  have O : Oat F Z T.heap a (.array .int) vs := hI.2.1.get hi
  obtain ⟨E, -, cl, Ar, S⟩ := id O
  have hin : ¬ (z < 0 ∨ cl.slots.size ≤ z.toNatClampNeg) := fun q => q.elim hz fun q => by rw [S] at q; simp at q; omega
  obtain ⟨T', h', X', e', Wr', stp⟩ := stI X H0.1 H0.2.1 rfl Ar (j := z) hin (g := mkF m pc ls (.int x :: .int z :: .ref a :: st)) rfl rfl (hb H0.2.2.1 hd)
  subst hj
  refine (K T' ⟨H0, _, X', ⟨fun z hz => ?_, hL.2⟩, ?_⟩).by stp
  · rcases List.mem_append.mp hz with q | q
    · exact hL.1 z q
    · cases List.mem_singleton.mp q; exact (hI.mem hi).ge hL.2.1 hL.2.2
  · rw [e', ← ho]
    exact hI.set hi (Keep.of_wr Wr') (O.put Ar S rfl Wr')
theorem g_lastore {i : Nat} {a : Addr} {z : Int32} {x : Int64} {vs : List Value} {os' : List Ob} (j : Nat) (W : Here p l e R s m args below meth c Z F B h0 A y bytes mL ret T k n os) (hi : os[i]? = some (a, .array .long, vs)) (hz : ¬ z < 0) (hj : z.toNatClampNeg = j) (hlt : j < vs.length) (ho : os.set i (a, .array .long, vs.set j (.long x)) = os')
    (hd : decode bytes pc = .ok (.lastore, 1)) (K : ∀ T', Here p l e R s m args below meth c Z F B h0 A y bytes mL ret T' k n os' → Go p e below G (T'.setTop (mkF m (pc + 1) ls (st)))) : Go p e below G (T.setTop (mkF m pc ls (.long x :: .int z :: .ref a :: st))) := by
  obtain ⟨H0, locs, X, hL, hI⟩ := W
  have O : Oat F Z T.heap a (.array .long) vs := hI.2.1.get hi
  obtain ⟨E, -, cl, Ar, S⟩ := id O
  have hin : ¬ (z < 0 ∨ cl.slots.size ≤ z.toNatClampNeg) := fun q => q.elim hz fun q => by rw [S] at q; simp at q; omega
  obtain ⟨T', h', X', e', Wr', stp⟩ := stJ X H0.1 H0.2.1 rfl Ar (j := z) hin (g := mkF m pc ls (.long x :: .int z :: .ref a :: st)) rfl rfl (hb H0.2.2.1 hd)
  subst hj
  refine (K T' ⟨H0, _, X', ⟨fun z hz => ?_, hL.2⟩, ?_⟩).by stp
  · rcases List.mem_append.mp hz with q | q
    · exact hL.1 z q
    · cases List.mem_singleton.mp q; exact (hI.mem hi).ge hL.2.1 hL.2.2
  · rw [e', ← ho]
    exact hI.set hi (Keep.of_wr Wr') (O.put Ar S rfl Wr')
theorem g_bastore {i : Nat} {a : Addr} {z : Int32} {x : Int32} {x' : Int32} (hx' : x.toInt8.toInt32 = x') {vs : List Value} {os' : List Ob} (j : Nat) (W : Here p l e R s m args below meth c Z F B h0 A y bytes mL ret T k n os) (hi : os[i]? = some (a, .array .byte, vs)) (hz : ¬ z < 0) (hj : z.toNatClampNeg = j) (hlt : j < vs.length) (ho : os.set i (a, .array .byte, vs.set j (.int x')) = os')
    (hd : decode bytes pc = .ok (.bastore, 1)) (K : ∀ T', Here p l e R s m args below meth c Z F B h0 A y bytes mL ret T' k n os' → Go p e below G (T'.setTop (mkF m (pc + 1) ls (st)))) : Go p e below G (T.setTop (mkF m pc ls (.int x :: .int z :: .ref a :: st))) := by
  obtain ⟨H0, locs, X, hL, hI⟩ := W
  have O : Oat F Z T.heap a (.array .byte) vs := hI.2.1.get hi
  obtain ⟨E, -, cl, Ar, S⟩ := id O
  have hin : ¬ (z < 0 ∨ cl.slots.size ≤ z.toNatClampNeg) := fun q => q.elim hz fun q => by rw [S] at q; simp at q; omega
  obtain ⟨T', h', X', e', Wr', stp⟩ := stB X H0.1 H0.2.1 rfl Ar (j := z) hin (g := mkF m pc ls (.int x :: .int z :: .ref a :: st)) rfl rfl (hb H0.2.2.1 hd)
  subst hj
  subst hx'
  refine (K T' ⟨H0, _, X', ⟨fun z hz => ?_, hL.2⟩, ?_⟩).by stp
  · rcases List.mem_append.mp hz with q | q
    · exact hL.1 z q
    · cases List.mem_singleton.mp q; exact (hI.mem hi).ge hL.2.1 hL.2.2
  · rw [e', ← ho]
    exact hI.set hi (Keep.of_wr Wr') (O.put Ar S (fits_nar_byte x) Wr')
theorem g_zastore {i : Nat} {a : Addr} {z : Int32} {x : Int32} {x' : Int32} (hx' : x &&& 1 = x') {vs : List Value} {os' : List Ob} (j : Nat) (W : Here p l e R s m args below meth c Z F B h0 A y bytes mL ret T k n os) (hi : os[i]? = some (a, .array .boolean, vs)) (hz : ¬ z < 0) (hj : z.toNatClampNeg = j) (hlt : j < vs.length) (ho : os.set i (a, .array .boolean, vs.set j (.int x')) = os')
    (hd : decode bytes pc = .ok (.bastore, 1)) (K : ∀ T', Here p l e R s m args below meth c Z F B h0 A y bytes mL ret T' k n os' → Go p e below G (T'.setTop (mkF m (pc + 1) ls (st)))) : Go p e below G (T.setTop (mkF m pc ls (.int x :: .int z :: .ref a :: st))) := by
  obtain ⟨H0, locs, X, hL, hI⟩ := W
  have O : Oat F Z T.heap a (.array .boolean) vs := hI.2.1.get hi
  obtain ⟨E, -, cl, Ar, S⟩ := id O
  have hin : ¬ (z < 0 ∨ cl.slots.size ≤ z.toNatClampNeg) := fun q => q.elim hz fun q => by rw [S] at q; simp at q; omega
  obtain ⟨T', h', X', e', Wr', stp⟩ := stZ X H0.1 H0.2.1 rfl Ar (j := z) hin (g := mkF m pc ls (.int x :: .int z :: .ref a :: st)) rfl rfl (hb H0.2.2.1 hd)
  subst hj
  subst hx'
  refine (K T' ⟨H0, _, X', ⟨fun z hz => ?_, hL.2⟩, ?_⟩).by stp
  · rcases List.mem_append.mp hz with q | q
    · exact hL.1 z q
    · cases List.mem_singleton.mp q; exact (hI.mem hi).ge hL.2.1 hL.2.2
  · rw [e', ← ho]
    exact hI.set hi (Keep.of_wr Wr') (O.put Ar S (fits_nar_bool x) Wr')
/-- os is loc and rst, in another order -/
def Spl (os loc rst : List Ob) : Prop := ∃ pm : List Nat, pm.Nodup ∧ (loc ++ rst).map some = pm.map (fun i => os[i]?)
theorem Spl.none : Spl os [] os := ⟨List.range os.length, List.nodup_range, by
  refine List.ext_getElem? fun i => ?_
  simp only [List.nil_append, List.getElem?_map]
  by_cases h : i < os.length
  · simp [h]
  · simp [h]⟩
theorem Spl.all : Spl os os [] := by obtain ⟨pm, h1, h2⟩ := Spl.none (os := os); exact ⟨pm, h1, by simpa using h2⟩
theorem Spl.mem {loc rst : List Ob} (S : Spl os loc rst) {o : Ob} (ho : o ∈ loc ++ rst) : o ∈ os := by
  obtain ⟨pm, -, h2⟩ := S
  have q : some o ∈ pm.map (fun i => os[i]?) := h2 ▸ List.mem_map.mpr ⟨o, ho, rfl⟩
  obtain ⟨i, -, hi⟩ := List.mem_map.mp q
  exact List.mem_of_getElem? hi
theorem Spl.nodup {loc rst : List Ob} (S : Spl os loc rst) (hn : (os.map (·.1)).Nodup) : ((loc ++ rst).map (·.1)).Nodup := by
  obtain ⟨pm, h1, h2⟩ := S
  generalize loc ++ rst = L at h2
  have key : ∀ i, (L[i]?).map some = (pm[i]?).map (fun j => os[j]?) := fun i => by rw [← List.getElem?_map, h2, List.getElem?_map]
  have key2 : ∀ i o, L[i]? = some o → ∃ j, pm[i]? = some j ∧ os[j]? = some o := fun i o ho => by
    have q := key i
    rw [ho] at q
    cases hp : pm[i]? with
    | none => simp [hp] at q
    | some j => simp [hp] at q; exact ⟨j, hp, q.symm⟩
  rw [List.nodup_iff_pairwise_ne, List.pairwise_iff_getElem]
  intro i j hi hj hij e
  simp only [List.length_map] at hi hj
  obtain ⟨oj, hoj⟩ : ∃ o, L[j]? = some o := ⟨L[j], List.getElem?_eq_getElem hj⟩
  obtain ⟨oi, hoi⟩ : ∃ o, L[i]? = some o := ⟨L[i], List.getElem?_eq_getElem hi⟩
  have e : oi.1 = oj.1 := by
    simp only [List.getElem_map] at e
    rw [List.getElem?_eq_getElem hi] at hoi
    rw [List.getElem?_eq_getElem hj] at hoj
    rw [← Option.some.inj hoi, ← Option.some.inj hoj]; exact e
  obtain ⟨i', p1, q1⟩ := key2 i oi hoi
  obtain ⟨j', p2, q2⟩ := key2 j oj hoj
  have e2 := nodup_at hn (i := i') (j := j') (a := oi.1) (by rw [List.getElem?_map, q1]; rfl) (by rw [List.getElem?_map, q2, e]; rfl)
  subst e2
  obtain ⟨u1, u2⟩ := List.getElem?_eq_some_iff.mp p1
  obtain ⟨u3, u4⟩ := List.getElem?_eq_some_iff.mp p2
  exact absurd ((List.getElem_inj h1).mp (u2.trans u4.symm)) (Nat.ne_of_lt hij)
theorem Spl.loc {loc rst : List Ob} {h : Heap} (S : Spl os loc rst) (H : Hp F Z h os) : Hp F Z h loc :=
  ⟨by have q := S.nodup H.1; rw [List.map_append] at q; exact (List.nodup_append.mp q).1, fun o ho => H.2 o (S.mem (List.mem_append_left _ ho))⟩
theorem Spl.after {loc rst os' : List Ob} {h h' : Heap} (S : Spl os loc rst) (I : Hin F Z h0 A h os) (I' : Hin F Z h (loc.map (·.1)) h' os') : Hin F Z h0 A h' (os' ++ rst) := by
  have nd := S.nodup I.2.1.1
  rw [List.map_append] at nd
  obtain ⟨n1, n2, n3⟩ := List.nodup_append.mp nd
  have hloc : ∀ x ∈ loc.map (·.1), Okk A h0.size x := fun x hx => by
    obtain ⟨o, ho, rfl⟩ := List.mem_map.mp hx
    exact I.2.2 o (S.mem (List.mem_append_left _ ho))
  refine ⟨I.1.trans I'.1 hloc, ⟨?_, fun o ho => ?_⟩, fun o ho => ?_⟩
  · rw [List.map_append, List.nodup_append]
    refine ⟨I'.2.1.1, n2, fun a ha b hb e => ?_⟩
    subst e
    obtain ⟨o, ho, rfl⟩ := List.mem_map.mp ha
    rcases I'.2.2 o ho with q | q
    · exact n3 _ q _ hb rfl
    · obtain ⟨o2, ho2, e2⟩ := List.mem_map.mp hb
      have := (I.2.1.2 o2 (S.mem (List.mem_append_right _ ho2))).lt
      rw [e2] at this
      exact absurd this (Nat.not_lt.mpr q)
  · rcases List.mem_append.mp ho with q | q
    · exact I'.2.1.2 o q
    · exact (I.2.1.2 o (S.mem (List.mem_append_right _ q))).keep I'.1 (fun z => n3 _ z _ (List.mem_map.mpr ⟨o, q, rfl⟩) rfl)
  · rcases List.mem_append.mp ho with q | q
    · rcases I'.2.2 o q with z | z
      · exact hloc _ z
      · exact Or.inr (Nat.le_trans I.1.1 z)
    · exact I.2.2 o (S.mem (List.mem_append_right _ q))
theorem Spl.locs {locs L : List Loc} (hL : (∀ y ∈ locs, B ≤ y.base) ∧ (∀ a ∈ A, B ≤ a) ∧ B ≤ h0.size) (hL' : ∀ y ∈ L, B ≤ y.base) : (∀ y ∈ locs ++ L, B ≤ y.base) ∧ (∀ a ∈ A, B ≤ a) ∧ B ≤ h0.size :=
  ⟨fun y hy => (List.mem_append.mp hy).elim (hL.1 y) (hL' y), hL.2⟩
theorem Spl.ge {loc rst : List Ob} {h : Heap} {locs : List Loc} (S : Spl os loc rst) (I : Hin F Z h0 A h os) (hL : (∀ y ∈ locs, B ≤ y.base) ∧ (∀ a ∈ A, B ≤ a) ∧ B ≤ h0.size) : ∀ a ∈ loc.map (·.1), B ≤ a := fun a ha => by
  obtain ⟨o, ho, e⟩ := List.mem_map.mp ha
  rw [← e]; exact (I.2.2 o (S.mem (List.mem_append_left _ ho))).ge hL.2.1 hL.2.2
theorem g_static {index Wt : Nat} {y' : MethodName} {bytes' : ByteArray} {mL' : Nat} {ret' : Option FieldType} {rm : Room} {as : Array Value} {loc rst : List Ob} {P : Option Value → List Ob → Prop} {argsL rest : List Value} {ps : List FieldType} {r : Option FieldType} (W : Here p l e R s m args below meth c Z F B h0 A y bytes mL ret T k n os) (w1 : (Jvm.Cond.methodLink y.cls index y').before a0 Z = true) (w2 : (Jvm.Cond.static y').before a0 Z = true) (w3 : (Jvm.Cond.initialized y'.cls).before a0 Z = true) (w4 : (Jvm.Cond.code y' bytes' mL' ret').before a0 Z = true)
    (hy : y'.cls ≠ "java/lang/invoke/MethodHandle" ∧ y'.cls ≠ "java/lang/invoke/VarHandle") (C : Con l Z F B y' bytes' mL' ret' rm [] as loc P) (S : Spl os loc rst) (has : as = argsL.toArray) (hpd : parseMethodDescriptor y'.desc = some ⟨ps, r⟩) (hpl : argsL.length = ps.length)
    (hst : st = argsL.reverse ++ rest) (hsz : ls.size = mL) (hW : (rest.map fun v => v.category).sum ≤ Wt) (hfr : rm.frames + 1 ≤ R.frames) (hlo : Wt + (mL' + 11) + rm.locals ≤ R.locals) (hc : k + rm.cells ≤ R.cells) (hs : n + rm.slots ≤ R.slots) (hd : decode bytes pc = .ok (.invokestatic index, 3)) (K : ∀ T' v os', P v os' → Here p l e R s m args below meth c Z F B h0 A y bytes mL ret T' (k + rm.cells) (n + rm.slots) (os' ++ rst) → Go p e below G (T'.setTop (mkF m (pc + 3) ls (v.toList ++ rest)))) : Go p e below G (T.setTop (mkF m pc ls st)) := by
  obtain ⟨H0, locs, X, hL, hI⟩ := W
  subst has hst
  obtain ⟨v, _, ⟨T', L', k', n'⟩, -, X', ⟨Lc, hQ, l1, y1, z1⟩, stp⟩ := Jvm.LawKit.callS X H0.1 (y := y') H0.2.2.2.2.1 (mvT H0.2.1 w1) (mvT H0.2.1 w2) (mvT H0.2.1 w3) (mvT H0.2.1 w4) hy (backOf (W := Wt) (C T.heap (S.loc hI.2.1) (S.ge hI hL) (Nat.le_trans hL.2.2 hI.1.1)) H0.2.1 w4 w3 hfr hlo) (g := mkF m pc ls (argsL.reverse ++ rest)) rfl (hsz.trans H0.2.2.2.1.symm) (argsL := argsL) (rest := rest) (lenOf hpd hpl) rfl (by show 2 * 0 + _ ≤ _; omega) (hb H0.2.2.1 hd) (fun _ _ => ⟨rfl, rfl, hc, hs⟩)
  dsimp only [Pt.U, Pt.locs, Pt.cells, Pt.slots] at X' l1 y1 z1 stp hQ
  subst l1 y1 z1
  obtain ⟨hLc, os', hI', hp⟩ := hQ
  exact (K T' v os' hp ⟨H0, _, X', Spl.locs hL hLc, S.after hI hI'⟩).by stp
theorem Go.to {S S' : State} (h : Steps p.tables e below S S') (g : Go p e below G S') : Go p e below G S := by
  obtain ⟨t, h', g⟩ := g; exact ⟨t, h.trans h', g⟩
theorem g_init {index Wt : Nat} {y' : MethodName} {bytes' : ByteArray} {mL' : Nat} {rm : Room} {as : Array Value} {loc rst : List Ob} {P : Option Value → List Ob → Prop} {argsL rest : List Value} {ps : List FieldType} {r : Option FieldType} {a : Addr} (W : Here p l e R s m args below meth c Z F B h0 A y bytes mL ret T k n os) (hy1 : y'.name = "<init>") (w1 : (Jvm.Cond.methodLink y.cls index y').before a0 Z = true) (w2 : (Jvm.Cond.instanceMethod y').before a0 Z = true) (w3 : (Jvm.Cond.initialized y'.cls).before a0 Z = true) (w4 : (Jvm.Cond.code y' bytes' mL' none).before a0 Z = true)
    (hy : y'.cls ≠ "java/lang/invoke/MethodHandle" ∧ y'.cls ≠ "java/lang/invoke/VarHandle") (C : Con l Z F B y' bytes' mL' none rm [] as loc P) (S : Spl os loc rst) (has : as = (.ref a :: argsL).toArray) (hpd : parseMethodDescriptor y'.desc = some ⟨ps, r⟩) (hpl : argsL.length = ps.length)
    (hst : st = argsL.reverse ++ .ref a :: rest) (hsz : ls.size = mL) (hW : (rest.map fun v => v.category).sum ≤ Wt) (hfr : rm.frames + 1 ≤ R.frames) (hlo : Wt + (mL' + 11) + rm.locals ≤ R.locals) (hc : k + rm.cells ≤ R.cells) (hs : n + rm.slots ≤ R.slots) (hd : decode bytes pc = .ok (.invokespecial index, 3)) (K : ∀ T' v os', P v os' → Here p l e R s m args below meth c Z F B h0 A y bytes mL ret T' (k + rm.cells) (n + rm.slots) (os' ++ rst) → Go p e below G (T'.setTop (mkF m (pc + 3) ls (v.toList ++ rest)))) : Go p e below G (T.setTop (mkF m pc ls st)) := by
  obtain ⟨H0, locs, X, hL, hI⟩ := W
  subst has hst
  obtain ⟨v, _, ⟨T', L', k', n'⟩, -, X', ⟨Lc, hQ, l1, y1, z1⟩, stp⟩ := X.specialBack H0.1 (y := y') hy1 H0.2.2.2.2.1 (mvT H0.2.1 w1) (mvT H0.2.1 w2) (mvT H0.2.1 w4) hy (backOf (W := Wt) (C T.heap (S.loc hI.2.1) (S.ge hI hL) (Nat.le_trans hL.2.2 hI.1.1)) H0.2.1 w4 w3 hfr hlo) (g := mkF m pc ls (argsL.reverse ++ .ref a :: rest)) rfl (hsz.trans H0.2.2.2.1.symm) (Steps.refl _) (a := a) (argsL := argsL) (rest := rest) (lenOf hpd hpl) rfl (by show 2 * 0 + _ ≤ _; omega) (hb H0.2.2.1 hd) (fun _ _ => ⟨rfl, rfl, hc, hs⟩)
  dsimp only [Pt.U, Pt.locs, Pt.cells, Pt.slots] at X' l1 y1 z1 stp hQ
  subst l1 y1 z1
  obtain ⟨hLc, os', hI', hp⟩ := hQ
  exact (K T' v os' hp ⟨H0, _, X', Spl.locs hL hLc, S.after hI hI'⟩).to stp
theorem g_virtual {index Wt : Nat} {y' : MethodName} {bytes' : ByteArray} {mL' : Nat} {ret' : Option FieldType} {rm : Room} {as : Array Value} {loc rst : List Ob} {P : Option Value → List Ob → Prop} {argsL rest : List Value} {ps : List FieldType} {r : Option FieldType} {a : Addr} {i : Nat} {vs : List Value} (W : Here p l e R s m args below meth c Z F B h0 A y bytes mL ret T k n os) (w1 : (Jvm.Cond.methodLink y.cls index y').before a0 Z = true) (w2 : (Jvm.Cond.instanceMethod y').before a0 Z = true) (w3 : (Jvm.Cond.initialized y'.cls).before a0 Z = true) (w4 : (Jvm.Cond.code y' bytes' mL' ret').before a0 Z = true)
    (w5 : (Jvm.Cond.declares y').before a0 Z = true) (w6 : (Jvm.Cond.selects y'.cls y' y').before a0 Z = true) (hi : os[i]? = some (a, .object y'.cls, vs))
    (hy : y'.cls ≠ "java/lang/invoke/MethodHandle" ∧ y'.cls ≠ "java/lang/invoke/VarHandle") (C : Con l Z F B y' bytes' mL' ret' rm [] as loc P) (S : Spl os loc rst) (has : as = (.ref a :: argsL).toArray) (hpd : parseMethodDescriptor y'.desc = some ⟨ps, r⟩) (hpl : argsL.length = ps.length)
    (hst : st = argsL.reverse ++ .ref a :: rest) (hsz : ls.size = mL) (hW : (rest.map fun v => v.category).sum ≤ Wt) (hfr : rm.frames + 1 ≤ R.frames) (hlo : Wt + (mL' + 11) + rm.locals ≤ R.locals) (hc : k + rm.cells ≤ R.cells) (hs : n + rm.slots ≤ R.slots) (hd : decode bytes pc = .ok (.invokevirtual index, 3)) (K : ∀ T' v os', P v os' → Here p l e R s m args below meth c Z F B h0 A y bytes mL ret T' (k + rm.cells) (n + rm.slots) (os' ++ rst) → Go p e below G (T'.setTop (mkF m (pc + 3) ls (v.toList ++ rest)))) : Go p e below G (T.setTop (mkF m pc ls st)) := by
  obtain ⟨H0, locs, X, hL, hI⟩ := W
  subst has hst
  have O : Oat F Z T.heap a (.object y'.cls) vs := hI.2.1.get hi
  obtain ⟨cq, kq, qa, qb, qc⟩ := isOf H0.2.1 rfl O.1
  obtain ⟨v, _, ⟨T', L', k', n'⟩, -, X', ⟨Lc, hQ, l1, y1, z1⟩, stp⟩ := X.virtualBack H0.1 (y := y') (z := y') H0.2.2.2.2.1 (mvT H0.2.1 w1) (mvT H0.2.1 w5) (notFace_of_selects (args := #[]) (mvT H0.2.1 w6)) (mvT H0.2.1 w6) (mvT H0.2.1 w2) hy (backOf (W := Wt) (C T.heap (S.loc hI.2.1) (S.ge hI hL) (Nat.le_trans hL.2.2 hI.1.1)) H0.2.1 w4 w3 hfr hlo) qa qc (g := mkF m pc ls (argsL.reverse ++ .ref a :: rest)) rfl (hsz.trans H0.2.2.2.1.symm) (Steps.refl _) (argsL := argsL) (rest := rest) (lenOf hpd hpl) rfl (by show 2 * 0 + _ ≤ _; omega) (hb H0.2.2.1 hd) (fun _ _ => ⟨rfl, rfl, hc, hs⟩)
  dsimp only [Pt.U, Pt.locs, Pt.cells, Pt.slots] at X' l1 y1 z1 stp hQ
  subst l1 y1 z1
  obtain ⟨hLc, os', hI', hp⟩ := hQ
  exact (K T' v os' hp ⟨H0, _, X', Spl.locs hL hLc, S.after hI hI'⟩).to stp
theorem g_object {index : Nat} {a : Addr} (Wt : Nat) (W : Here p l e R s m args below meth c Z F B h0 A y bytes mL ret T k n os) (w1 : (Jvm.Cond.methodLink y.cls index Lib.objectInit).before a0 Z = true) (w2 : (Jvm.Cond.instanceMethod Lib.objectInit).before a0 Z = true) (w3 : (Jvm.Cond.code Lib.objectInit ⟨#[0xb1]⟩ 1 none).before a0 Z = true)
    (hsz : ls.size = mL) (hW : (st.map fun v => v.category).sum ≤ Wt) (hfr : 1 ≤ R.frames) (hlo : Wt + 12 ≤ R.locals) (hd : decode bytes pc = .ok (.invokespecial index, 3)) (K : ∀ T', Here p l e R s m args below meth c Z F B h0 A y bytes mL ret T' k n os → Go p e below G (T'.setTop (mkF m (pc + 3) ls (st)))) : Go p e below G (T.setTop (mkF m pc ls (.ref a :: st))) := by
  obtain ⟨H0, locs, X, hL, hI⟩ := W
  obtain ⟨T', X', e', stp⟩ := initO X H0.1 H0.2.1 H0.2.2.2.2.1 w1 w2 w3 rfl (g := mkF m pc ls (.ref a :: st)) rfl (hsz.trans H0.2.2.2.1.symm) rfl (hb H0.2.2.1 hd) hfr (W := Wt) (by show 2 * 0 + _ ≤ _; omega) hlo
  exact (K T' ⟨H0, locs, X', hL, by rw [e']; exact hI⟩).by stp
theorem g_clone {index i Wt : Nat} {a : Addr} {ty : FieldType} {vs : List Value} {ad : String} (cap : Nat) (W : Here p l e R s m args below meth c Z F B h0 A y bytes mL ret T k n os) (w1 : (Jvm.Cond.methodLink y.cls index ⟨ad, "clone", "()Ljava/lang/Object;"⟩).before a0 Z = true) (w2 : (Jvm.Cond.sameMethod ad "java/lang/Object" "clone" "()Ljava/lang/Object;").before a0 Z = true) (w3 : (Jvm.Cond.native ⟨"java/lang/Object", "clone", "()Ljava/lang/Object;"⟩).before a0 Z = true)
    (w4 : (Jvm.Cond.instanceMethod ⟨"java/lang/Object", "clone", "()Ljava/lang/Object;"⟩).before a0 Z = true) (w5 : (Jvm.Cond.selects ad ⟨ad, "clone", "()Ljava/lang/Object;"⟩ ⟨"java/lang/Object", "clone", "()Ljava/lang/Object;"⟩).before a0 Z = true) (w6 : (Jvm.Cond.castable ad "java/lang/Cloneable").before a0 Z = true)
    (had : "[" ++ ty.toString = ad) (hi : os[i]? = some (a, .array ty, vs)) (hsz : ls.size = mL) (hW : (st.map fun v => v.category).sum ≤ Wt) (hfr : 1 ≤ R.frames) (hlo : Wt + 14 ≤ R.locals) (hcap : vs.length ≤ cap) (hc : k + 1 ≤ R.cells) (hs : n + cap ≤ R.slots) (hd : decode bytes pc = .ok (.invokevirtual index, 3))
    (K : ∀ T' b, Here p l e R s m args below meth c Z F B h0 A y bytes mL ret T' (k + 1) (n + cap) (os ++ [(b, .array ty, vs)]) → Go p e below G (T'.setTop (mkF m (pc + 3) ls (.ref b :: st)))) : Go p e below G (T.setTop (mkF m pc ls (.ref a :: st))) := by
  obtain ⟨H0, locs, X, hL, hI⟩ := W
  subst had
  have O : Oat F Z T.heap a (.array ty) vs := hI.2.1.get hi
  obtain ⟨E, f, cl, Ar, S⟩ := O
  have FC : FitC Z cl := fitC_of Ar fun i hi v hv => f v (by rw [S] at hv; exact List.mem_of_getElem? (by simpa using hv))
  obtain ⟨T', h', X', e', E', A', Ex, stp⟩ := cloneA X H0.1 H0.2.1 H0.2.2.2.2.1 w1 w2 w3 w4 w5 w6 rfl Ar E FC (g := mkF m pc ls (.ref a :: st)) rfl (hsz.trans H0.2.2.2.1.symm) rfl (hb H0.2.2.1 hd) hfr (W := Wt) (cap := cap) (by show 2 * 0 + _ ≤ _; omega) hlo (by rw [S]; simpa using hcap) hc hs
  refine (K T' T.heap.size ⟨H0, locs, X', hL, ?_⟩).by stp
  rw [e']
  exact hI.push E' ⟨Ex, f, _, A', S⟩
theorem g_castarr {index i : Nat} {a : Addr} {ty : FieldType} {vs : List Value} {ad : String} (W : Here p l e R s m args below meth c Z F B h0 A y bytes mL ret T k n os) (w : (Jvm.Cond.classLink y.cls index ad).before a0 Z = true) (had : "[" ++ ty.toString = ad) (hi : os[i]? = some (a, .array ty, vs)) (hd : decode bytes pc = .ok (.checkcast index, 3)) (K : ∀ T', Here p l e R s m args below meth c Z F B h0 A y bytes mL ret T' k n os → Go p e below G (T'.setTop (mkF m (pc + 3) ls (.ref a :: st)))) : Go p e below G (T.setTop (mkF m pc ls (.ref a :: st))) := by
  obtain ⟨H0, locs, X, hL, hI⟩ := W
  subst had
  have O : Oat F Z T.heap a (.array ty) vs := hI.2.1.get hi
  obtain ⟨T', X', e', stp⟩ := castY X H0.1 H0.2.1 H0.2.2.2.2.1 w rfl (Ins.self O.1) (g := mkF m pc ls (.ref a :: st)) rfl rfl (hb H0.2.2.1 hd)
  exact (K T' ⟨H0, locs, X', hL, by rw [e']; exact hI⟩).by stp
theorem Oat.arv {h : Heap} {a : Addr} {ty : FieldType} {vs : List Value} (O : Oat F Z h a (.array ty) vs) (hl : vs.length < 2 ^ 31) (d : Value) : ∃ kk, Arv Z h a kk ty vs.length.toInt32 vs d := by
  obtain ⟨E, f, cl, Ar, S⟩ := O
  have e1 : vs.length.toInt32.toInt = vs.length := len_toInt hl
  have e2 : vs.length.toInt32.toNatClampNeg = vs.length := by simp only [Int32.toNatClampNeg, e1]; omega
  have sz : cl.slots.size = vs.length := by rw [S]; simp
  have gd : ∀ i, i < vs.length → vs.getD i d = vs.getD i d ∧ vs[i]? = some (vs.getD i d) := fun i hi => ⟨rfl, by simp [List.getD_eq_getElem?_getD, List.getElem?_eq_getElem hi]⟩
  refine ⟨cl.cls, cl, Ar, rfl, by rw [e2, sz], by rw [Int32.lt_iff_toInt_lt, e1]; simp only [Int32.reduceToInt]; omega, fun i hi => ?_, fun i hi => ?_⟩
  · rw [S]; simpa using (gd i (sz ▸ hi)).2
  · exact f _ (List.mem_of_getElem? (gd i (sz ▸ hi)).2)
theorem Oat.of_arv {h h' : Heap} {a : Addr} {ty : FieldType} {vs vs' : List Value} {kk : ClassId} {z : Int32} {d : Value} (O : Oat F Z h a (.array ty) vs) {ws : List Addr} (K : Keep h h' ws) (V : Arv Z h' a kk ty z vs' d) (hz : z.toNatClampNeg = vs'.length) : Oat F Z h' a (.array ty) vs' := by
  obtain ⟨E, f, -⟩ := O
  obtain ⟨cl, Ar, -, S, -, H, G⟩ := V
  have key : ∀ i, i < vs'.length → vs'[i]? = some (vs'.getD i d) := fun i hi => by simp [List.getD_eq_getElem?_getD, List.getElem?_eq_getElem hi]
  refine ⟨E.keep K, fun v hv => ?_, cl, Ar, ?_⟩
  · obtain ⟨i, hi⟩ := List.mem_iff_getElem?.mp hv
    have hlt := (List.getElem?_eq_some_iff.mp hi).1
    have q := G i (by rw [S, hz]; exact hlt)
    rw [key i hlt] at hi
    rw [← Option.some.inj hi]; exact q
  · refine Array.ext_getElem? fun i => ?_
    by_cases hi : i < vs'.length
    · rw [H i (by rw [S, hz]; exact hi)]; simpa using (key i hi).symm
    · rw [Array.getElem?_eq_none (by rw [S, hz]; omega), Array.getElem?_eq_none (by simpa using hi)]
theorem g_arraycopy {index i j Wt : Nat} {a b : Addr} {ty : FieldType} {vs vd vd' : List Value} {sp dp nn : Int32} {os' : List Ob} (W : Here p l e R s m args below meth c Z F B h0 A y bytes mL ret T k n os) (w1 : (Jvm.Cond.methodLink y.cls index Jvm.Stand.acN).before a0 Z = true) (w2 : (Jvm.Cond.native Jvm.Stand.acN).before a0 Z = true) (w3 : (Jvm.Cond.static Jvm.Stand.acN).before a0 Z = true) (w4 : (Jvm.Cond.initialized "java/lang/System").before a0 Z = true)
    (hi : os[i]? = some (a, .array ty, vs)) (hj : os[j]? = some (b, .array ty, vd)) (hr : refKind ty = false) (h1 : ¬ sp < 0) (h2 : ¬ dp < 0) (h3 : ¬ nn < 0) (l1 : vs.length < 2 ^ 31) (l2 : vd.length < 2 ^ 31) (h4 : sp.toNatClampNeg + nn.toNatClampNeg ≤ vs.length) (h5 : dp.toNatClampNeg + nn.toNatClampNeg ≤ vd.length)
    (hv : vd.take dp.toNatClampNeg ++ ((List.range nn.toNatClampNeg).map fun i => vs.getD (sp.toNatClampNeg + i) .null) ++ vd.drop (dp.toNatClampNeg + nn.toNatClampNeg) = vd') (ho : os.set j (b, .array ty, vd') = os')
    (hsz : ls.size = mL) (hW : (st.map fun v => v.category).sum ≤ Wt) (hfr : 1 ≤ R.frames) (hlo : Wt + (nativeFrameWords "java/lang/System" "arraycopy" 5 + 11) ≤ R.locals) (hd : decode bytes pc = .ok (.invokestatic index, 3)) (K : ∀ T', Here p l e R s m args below meth c Z F B h0 A y bytes mL ret T' k n os' → Go p e below G (T'.setTop (mkF m (pc + 3) ls (st)))) : Go p e below G (T.setTop (mkF m pc ls (.int nn :: .int dp :: .ref b :: .int sp :: .ref a :: st))) := by
  obtain ⟨H0, locs, X, hL, hI⟩ := W
  have Oa : Oat F Z T.heap a (.array ty) vs := hI.2.1.get hi
  have Ob' : Oat F Z T.heap b (.array ty) vd := hI.2.1.get hj
  obtain ⟨ka, Va⟩ := Oa.arv l1 .null
  obtain ⟨kb, Vb⟩ := Ob'.arv l2 .null
  have ez : ∀ (L : List Value), L.length < 2 ^ 31 → L.length.toInt32.toNatClampNeg = L.length := fun L hl => by
    have e1 : L.length.toInt32.toInt = L.length := len_toInt hl
    simp only [Int32.toNatClampNeg, e1]; omega
  obtain ⟨T', h', L', X', e', N', Kp, V', stp⟩ := cpA X H0.1 H0.2.1 H0.2.2.2.2.1 w1 w2 w3 w4 rfl Va Vb (Or.inl ⟨rfl, hr⟩) h1 h2 h3 (by rw [ez _ l1]; exact h4) (by rw [ez _ l2]; exact h5) rfl h5 (n0 := B) hL.1 ((hI.mem hj).ge hL.2.1 hL.2.2) (g := mkF m pc ls (.int nn :: .int dp :: .ref b :: .int sp :: .ref a :: st)) rfl (hsz.trans H0.2.2.2.1.symm) rfl (hb H0.2.2.1 hd) hfr (W := Wt) (by show 2 * 0 + _ ≤ _; omega) hlo
  refine (K T' ⟨H0, L', X', ⟨N', hL.2⟩, ?_⟩).by stp
  rw [e', ← ho]
  rw [hv] at V'
  refine hI.set hj Kp (Ob'.of_arv Kp V' ?_)
  rw [ez _ l2, ← hv]
  simp only [List.length_append, List.length_take, List.length_map, List.length_range, List.length_drop]
  omega
/-- the end: what a law's own contract gives -/
theorem Con.frame {y : MethodName} {as : Array Value} {P : Option Value → List Ob → Prop} {rm : Room} {h : Heap} {v : Option Value} {hh : Heap} {L : List Loc} (Q : Qc F Z B [] h P v hh L) : ∀ y ∈ L, B ≤ y.base := Q.1
end Own
theorem wd {Z : State} {a0 : Array Value} (hw : ∀ d ∈ tables_1, d.before a0 Z = true) (k : Nat) {d : Jvm.Cond} (h : tables_1[k]? = some d) : d.before a0 Z = true := hw _ (List.mem_of_getElem? h)
abbrev O_IntPairs : FieldType := .object "com/example/metanode/metanode/graph/IntPairs"
def FM : Fm := fun c => if c = "com/example/metanode/metanode/graph/IntPairs" then [("ends", "[I"), ("count", "I")] else []
theorem cls_IntPairs {Z : State} {a0 : Array Value} (hw : ∀ d ∈ tables_1, d.before a0 Z = true) : Cls Z a0 FM "com/example/metanode/metanode/graph/IntPairs" := by
  have e : FM "com/example/metanode/metanode/graph/IntPairs" = [("ends", "[I"), ("count", "I")] := by decide
  refine ⟨fun x hx => ?_, by rw [e]; decide⟩
  rw [e] at hx
  simp only [List.mem_cons, List.not_mem_nil, or_false] at hx
  rcases hx with rfl | rfl
  · exact ⟨Or.inl (wd hw 11 rfl), (.array .int), by decide⟩
  · exact ⟨Or.inl (wd hw 18 rfl), .int, by decide⟩
theorem pd___V : parseMethodDescriptor "()V" = some ⟨[], none⟩ := by decide +kernel
theorem pd_I__I : parseMethodDescriptor "(I)I" = some ⟨[.int], some .int⟩ := by decide +kernel
theorem pd_II__I : parseMethodDescriptor "(II)I" = some ⟨[.int, .int], some .int⟩ := by decide +kernel
theorem pd_II__Z : parseMethodDescriptor "(II)Z" = some ⟨[.int, .int], some .boolean⟩ := by decide +kernel
theorem pd_IIII__Z : parseMethodDescriptor "(IIII)Z" = some ⟨[.int, .int, .int, .int], some .boolean⟩ := by decide +kernel
theorem pd_AI__AI : parseMethodDescriptor "([I)[I" = some ⟨[(.array .int)], some (.array .int)⟩ := by decide +kernel
theorem pd_AII__AI : parseMethodDescriptor "([II)[I" = some ⟨[(.array .int), .int], some (.array .int)⟩ := by decide +kernel
theorem pd_AIII__I : parseMethodDescriptor "([III)I" = some ⟨[(.array .int), .int, .int], some .int⟩ := by decide +kernel
theorem pd_AIIII__I : parseMethodDescriptor "([IIII)I" = some ⟨[(.array .int), .int, .int, .int], some .int⟩ := by decide +kernel
theorem pd_AIIAII__Z : parseMethodDescriptor "([II[II)Z" = some ⟨[(.array .int), .int, (.array .int), .int], some .boolean⟩ := by decide +kernel
theorem d_p22m1_0 : decode prog_22_method_1_code 0 = .ok (.aload_n 0, 1) := by decide +kernel
theorem d_p22m1_1 : decode prog_22_method_1_code 1 = .ok (.invokespecial 3, 3) := by decide +kernel
theorem d_p22m1_4 : decode prog_22_method_1_code 4 = .ok (.aload_n 0, 1) := by decide +kernel
theorem d_p22m1_5 : decode prog_22_method_1_code 5 = .ok (.bipush 64, 2) := by decide +kernel
theorem d_p22m1_7 : decode prog_22_method_1_code 7 = .ok (.newarray .int, 2) := by decide +kernel
theorem d_p22m1_9 : decode prog_22_method_1_code 9 = .ok (.putfield 9, 3) := by decide +kernel
theorem d_p22m1_12 : decode prog_22_method_1_code 12 = .ok (.return_, 1) := by decide +kernel
theorem c_init (l : Launch) (Z : State) (a0 : Array Value) (hw : ∀ d ∈ tables_1, d.before a0 Z = true) {B : Nat} (a0' : Addr) :
    Con l Z FM B (⟨"com/example/metanode/metanode/graph/IntPairs", "<init>", "()V"⟩ : MethodName) prog_22_method_1_code 1 none ({ frames := 1, cells := 1, slots := 64, locals := 12 } : Room) [] #[.ref a0'] [(a0', O_IntPairs, [.null, .int (0 : Int32)])] (fun v os => v = none ∧ ∃ b, os = [(a0', .object "com/example/metanode/metanode/graph/IntPairs", [.ref b, .int 0]), (b, .array .int, List.replicate 64 (.int 0))]) := by
  refine Con.of (plainFor_of_name (by first | (simp [plainName, overriddenIn]; done) | decide +kernel)) (ls := #[.val (.ref a0')]) (fun m => by first | (simp [entryFrame, mkF, argsToLocals, Value.category]; done) | rfl) ?_
  intro p_ e_ h_ s_ m_ bl_ me_ c_ T0 W0
  refine g_aload_n (pc := 0) W0 d_p22m1_0 rfl rfl ?_
  refine g_object (pc := 1) 0 W0 (wd hw 7 rfl) (wd hw 8 rfl) (wd hw 9 rfl) rfl (Nat.le_of_ble_eq_true rfl) (by decide) (by decide) d_p22m1_1 (fun T1 W2 => ?_)
  refine g_aload_n (pc := 4) W2 d_p22m1_4 rfl rfl ?_
  refine g_bipush (pc := 5) (64 : Int32) (by decide) W2 d_p22m1_5 ?_
  refine g_newarray (pc := 7) (ty := .int) (vs := (List.replicate 64 (.int (0 : Int32)))) 64 W2 (wd hw 0 rfl) rfl (by decide) (by decide) (by decide) rfl d_p22m1_7 (by decide) (by decide) (fun T4 b3 W5 => ?_)
  have W6 := W5.re (os' := [(a0', O_IntPairs, [.null, .int (0 : Int32)]), (b3, (.array .int), (List.replicate 64 (.int (0 : Int32))))]) rfl
  refine g_putfield (pc := 9) (i := 0) (j := 0) (ty := (.array .int)) (os' := [(a0', O_IntPairs, [.ref b3, .int (0 : Int32)]), (b3, (.array .int), (List.replicate 64 (.int (0 : Int32))))]) (host := "") W6 (Or.inl (wd hw 10 rfl)) (cls_IntPairs hw) (Or.inl (wd hw 11 rfl)) (wd hw 2 rfl) rfl rfl rfl (by decide) rfl rfl rfl d_p22m1_9 (fun T7 W8 => ?_)
  exact g_return (pc := 12) rfl W8 d_p22m1_12 (by decide) (by decide) ⟨rfl, b3, rfl⟩
theorem d_p22m3_0 : decode prog_22_method_3_code 0 = .ok (.iconst 2, 1) := by decide +kernel
theorem d_p22m3_1 : decode prog_22_method_3_code 1 = .ok (.aload_n 0, 1) := by decide +kernel
theorem d_p22m3_2 : decode prog_22_method_3_code 2 = .ok (.getfield 15, 3) := by decide +kernel
theorem d_p22m3_5 : decode prog_22_method_3_code 5 = .ok (.imul, 1) := by decide +kernel
theorem d_p22m3_6 : decode prog_22_method_3_code 6 = .ok (.aload_n 0, 1) := by decide +kernel
theorem d_p22m3_7 : decode prog_22_method_3_code 7 = .ok (.getfield 9, 3) := by decide +kernel
theorem d_p22m3_10 : decode prog_22_method_3_code 10 = .ok (.arraylength, 1) := by decide +kernel
theorem d_p22m3_11 : decode prog_22_method_3_code 11 = .ok (.if_icmp .ne 42, 3) := by decide +kernel
theorem d_p22m3_53 : decode prog_22_method_3_code 53 = .ok (.aload_n 0, 1) := by decide +kernel
theorem d_p22m3_54 : decode prog_22_method_3_code 54 = .ok (.getfield 9, 3) := by decide +kernel
theorem d_p22m3_57 : decode prog_22_method_3_code 57 = .ok (.iconst 2, 1) := by decide +kernel
theorem d_p22m3_58 : decode prog_22_method_3_code 58 = .ok (.aload_n 0, 1) := by decide +kernel
theorem d_p22m3_59 : decode prog_22_method_3_code 59 = .ok (.getfield 15, 3) := by decide +kernel
theorem d_p22m3_62 : decode prog_22_method_3_code 62 = .ok (.imul, 1) := by decide +kernel
theorem d_p22m3_63 : decode prog_22_method_3_code 63 = .ok (.iload_n 1, 1) := by decide +kernel
theorem d_p22m3_64 : decode prog_22_method_3_code 64 = .ok (.iastore, 1) := by decide +kernel
theorem d_p22m3_65 : decode prog_22_method_3_code 65 = .ok (.aload_n 0, 1) := by decide +kernel
theorem d_p22m3_66 : decode prog_22_method_3_code 66 = .ok (.getfield 9, 3) := by decide +kernel
theorem d_p22m3_69 : decode prog_22_method_3_code 69 = .ok (.iconst 2, 1) := by decide +kernel
theorem d_p22m3_70 : decode prog_22_method_3_code 70 = .ok (.aload_n 0, 1) := by decide +kernel
theorem d_p22m3_71 : decode prog_22_method_3_code 71 = .ok (.getfield 15, 3) := by decide +kernel
theorem d_p22m3_74 : decode prog_22_method_3_code 74 = .ok (.imul, 1) := by decide +kernel
theorem d_p22m3_75 : decode prog_22_method_3_code 75 = .ok (.iconst 1, 1) := by decide +kernel
theorem d_p22m3_76 : decode prog_22_method_3_code 76 = .ok (.iadd, 1) := by decide +kernel
theorem d_p22m3_77 : decode prog_22_method_3_code 77 = .ok (.iload_n 2, 1) := by decide +kernel
theorem d_p22m3_78 : decode prog_22_method_3_code 78 = .ok (.iastore, 1) := by decide +kernel
theorem d_p22m3_79 : decode prog_22_method_3_code 79 = .ok (.aload_n 0, 1) := by decide +kernel
theorem d_p22m3_80 : decode prog_22_method_3_code 80 = .ok (.dup, 1) := by decide +kernel
theorem d_p22m3_81 : decode prog_22_method_3_code 81 = .ok (.getfield 15, 3) := by decide +kernel
theorem d_p22m3_84 : decode prog_22_method_3_code 84 = .ok (.iconst 1, 1) := by decide +kernel
theorem d_p22m3_85 : decode prog_22_method_3_code 85 = .ok (.iadd, 1) := by decide +kernel
theorem d_p22m3_86 : decode prog_22_method_3_code 86 = .ok (.putfield 15, 3) := by decide +kernel
theorem d_p22m3_89 : decode prog_22_method_3_code 89 = .ok (.iconst 1, 1) := by decide +kernel
theorem d_p22m3_90 : decode prog_22_method_3_code 90 = .ok (.ireturn, 1) := by decide +kernel
theorem c_add (l : Launch) (Z : State) (a0 : Array Value) (hw : ∀ d ∈ tables_1, d.before a0 Z = true) {B : Nat} (a0' b : Addr) (c c' p q : Int32) (vs : List Value) (j : Nat) (hlen : vs.length = 64) (hc : c + 1 = c') (h0 : ¬ (2 * c = 64)) (h1 : ¬ 2 * c < 0) (h2 : (2 * c).toNatClampNeg = j) (h3 : ¬ 2 * c + 1 < 0) (h4 : (2 * c + 1).toNatClampNeg = j + 1) (h5 : j + 1 < 64) :
    Con l Z FM B (⟨"com/example/metanode/metanode/graph/IntPairs", "add", "(II)Z"⟩ : MethodName) prog_22_method_3_code 3 (some .boolean) ({ frames := 0, cells := 0, slots := 0, locals := 0 } : Room) [] #[.ref a0', .int p, .int q] [(a0', O_IntPairs, [.ref b, .int c]), (b, (.array .int), vs)] (fun v os => v = some (.int 1) ∧ os = [(a0', .object "com/example/metanode/metanode/graph/IntPairs", [.ref b, .int c']), (b, .array .int, (vs.set j (.int p)).set (j + 1) (.int q))]) := by
  refine Con.of (plainFor_of_name (by first | (simp [plainName, overriddenIn]; done) | decide +kernel)) (ls := #[.val (.ref a0'), .val (.int p), .val (.int q)]) (fun m => by first | (simp [entryFrame, mkF, argsToLocals, Value.category]; done) | rfl) ?_
  intro p_ e_ h_ s_ m_ bl_ me_ c_ T0 W0
  refine g_iconst (pc := 0) (2 : Int32) (by decide) W0 d_p22m3_0 ?_
  refine g_aload_n (pc := 1) W0 d_p22m3_1 rfl rfl ?_
  refine g_getfield (pc := 2) (i := 0) (j := 1) (host := "") W0 (Or.inl (wd hw 17 rfl)) rfl rfl rfl d_p22m3_2 (fun T1 W2 => ?_)
  refine g_imul (pc := 5) W2 d_p22m3_5 ?_
  refine g_aload_n (pc := 6) W2 d_p22m3_6 rfl rfl ?_
  refine g_getfield (pc := 7) (i := 0) (j := 0) (host := "") W2 (Or.inl (wd hw 10 rfl)) rfl rfl rfl d_p22m3_7 (fun T3 W4 => ?_)
  refine g_arraylength (pc := 10) (i := 1) (64 : Int32) W4 rfl (by rw [hlen]; rfl) d_p22m3_10 ?_
  refine g_icmpY 53 (pc := 11) W4 d_p22m3_11 (by decide) (by decide) (feq h0).2 ?_
  refine g_aload_n (pc := 53) W4 d_p22m3_53 rfl rfl ?_
  refine g_getfield (pc := 54) (i := 0) (j := 0) (host := "") W4 (Or.inl (wd hw 10 rfl)) rfl rfl rfl d_p22m3_54 (fun T5 W6 => ?_)
  refine g_iconst (pc := 57) (2 : Int32) (by decide) W6 d_p22m3_57 ?_
  refine g_aload_n (pc := 58) W6 d_p22m3_58 rfl rfl ?_
  refine g_getfield (pc := 59) (i := 0) (j := 1) (host := "") W6 (Or.inl (wd hw 17 rfl)) rfl rfl rfl d_p22m3_59 (fun T7 W8 => ?_)
  refine g_imul (pc := 62) W8 d_p22m3_62 ?_
  refine g_iload_n (pc := 63) W8 d_p22m3_63 rfl ?_
  refine g_iastore (pc := 64) (i := 1) (os' := [(a0', O_IntPairs, [.ref b, .int c]), (b, (.array .int), (vs.set j (.int p)))]) j W8 rfl h1 h2 (by omega) rfl d_p22m3_64 (fun T9 W10 => ?_)
  refine g_aload_n (pc := 65) W10 d_p22m3_65 rfl rfl ?_
  refine g_getfield (pc := 66) (i := 0) (j := 0) (host := "") W10 (Or.inl (wd hw 10 rfl)) rfl rfl rfl d_p22m3_66 (fun T11 W12 => ?_)
  refine g_iconst (pc := 69) (2 : Int32) (by decide) W12 d_p22m3_69 ?_
  refine g_aload_n (pc := 70) W12 d_p22m3_70 rfl rfl ?_
  refine g_getfield (pc := 71) (i := 0) (j := 1) (host := "") W12 (Or.inl (wd hw 17 rfl)) rfl rfl rfl d_p22m3_71 (fun T13 W14 => ?_)
  refine g_imul (pc := 74) W14 d_p22m3_74 ?_
  refine g_iconst (pc := 75) (1 : Int32) (by decide) W14 d_p22m3_75 ?_
  refine g_iadd (pc := 76) W14 d_p22m3_76 ?_
  refine g_iload_n (pc := 77) W14 d_p22m3_77 rfl ?_
  refine g_iastore (pc := 78) (i := 1) (os' := [(a0', O_IntPairs, [.ref b, .int c]), (b, (.array .int), ((vs.set j (.int p)).set (j + 1) (.int q)))]) (j + 1) W14 rfl h3 h4 (by simp only [List.length_set]; omega) rfl d_p22m3_78 (fun T15 W16 => ?_)
  refine g_aload_n (pc := 79) W16 d_p22m3_79 rfl rfl ?_
  refine g_dup (pc := 80) W16 d_p22m3_80 rfl ?_
  refine g_getfield (pc := 81) (i := 0) (j := 1) (host := "") W16 (Or.inl (wd hw 17 rfl)) rfl rfl rfl d_p22m3_81 (fun T17 W18 => ?_)
  refine g_iconst (pc := 84) (1 : Int32) (by decide) W18 d_p22m3_84 ?_
  refine g_iadd (pc := 85) W18 d_p22m3_85 ?_
  refine g_putfield (pc := 86) (i := 0) (j := 1) (ty := .int) (os' := [(a0', O_IntPairs, [.ref b, .int (c + (1 : Int32))]), (b, (.array .int), ((vs.set j (.int p)).set (j + 1) (.int q)))]) (host := "") W18 (Or.inl (wd hw 17 rfl)) (cls_IntPairs hw) (Or.inl (wd hw 18 rfl)) (wd hw 2 rfl) rfl rfl rfl (by decide) rfl rfl rfl d_p22m3_86 (fun T19 W20 => ?_)
  refine g_iconst (pc := 89) (1 : Int32) (by decide) W20 d_p22m3_89 ?_
  exact g_zreturn (pc := 90) rfl (by decide) W20 d_p22m3_90 (by decide) (by decide) ⟨rfl, by rw [hc]⟩
theorem d_p22m9_0 : decode prog_22_method_9_code 0 = .ok (.aload_n 0, 1) := by decide +kernel
theorem d_p22m9_1 : decode prog_22_method_9_code 1 = .ok (.getfield 9, 3) := by decide +kernel
theorem d_p22m9_4 : decode prog_22_method_9_code 4 = .ok (.iconst 2, 1) := by decide +kernel
theorem d_p22m9_5 : decode prog_22_method_9_code 5 = .ok (.iload_n 1, 1) := by decide +kernel
theorem d_p22m9_6 : decode prog_22_method_9_code 6 = .ok (.imul, 1) := by decide +kernel
theorem d_p22m9_7 : decode prog_22_method_9_code 7 = .ok (.iaload, 1) := by decide +kernel
theorem d_p22m9_8 : decode prog_22_method_9_code 8 = .ok (.ireturn, 1) := by decide +kernel
theorem c_first (l : Launch) (Z : State) (a0 : Array Value) (hw : ∀ d ∈ tables_1, d.before a0 Z = true) {B : Nat} (a0' b : Addr) (c i r : Int32) (vs : List Value) (h1 : ¬ 2 * i < 0) (h2 : vs[(2 * i).toNatClampNeg]? = some (.int r)) :
    Con l Z FM B (⟨"com/example/metanode/metanode/graph/IntPairs", "first", "(I)I"⟩ : MethodName) prog_22_method_9_code 2 (some .int) ({ frames := 0, cells := 0, slots := 0, locals := 0 } : Room) [] #[.ref a0', .int i] [(a0', O_IntPairs, [.ref b, .int c]), (b, (.array .int), vs)] (fun v os => v = some (.int r) ∧ os = [(a0', O_IntPairs, [.ref b, .int c]), (b, (.array .int), vs)]) := by
  refine Con.of (plainFor_of_name (by first | (simp [plainName, overriddenIn]; done) | decide +kernel)) (ls := #[.val (.ref a0'), .val (.int i)]) (fun m => by first | (simp [entryFrame, mkF, argsToLocals, Value.category]; done) | rfl) ?_
  intro p_ e_ h_ s_ m_ bl_ me_ c_ T0 W0
  refine g_aload_n (pc := 0) W0 d_p22m9_0 rfl rfl ?_
  refine g_getfield (pc := 1) (i := 0) (j := 0) (host := "") W0 (Or.inl (wd hw 10 rfl)) rfl rfl rfl d_p22m9_1 (fun T1 W2 => ?_)
  refine g_iconst (pc := 4) (2 : Int32) (by decide) W2 d_p22m9_4 ?_
  refine g_iload_n (pc := 5) W2 d_p22m9_5 rfl ?_
  refine g_imul (pc := 6) W2 d_p22m9_6 ?_
  refine g_iaload (pc := 7) (i := 1) (v := .int r) W2 rfl h1 h2 d_p22m9_7 ?_
  exact g_ireturn (pc := 8) rfl W2 d_p22m9_8 (by decide) (by decide) ⟨rfl, rfl⟩
theorem d_p22m10_0 : decode prog_22_method_10_code 0 = .ok (.aload_n 0, 1) := by decide +kernel
theorem d_p22m10_1 : decode prog_22_method_10_code 1 = .ok (.getfield 9, 3) := by decide +kernel
theorem d_p22m10_4 : decode prog_22_method_10_code 4 = .ok (.iconst 2, 1) := by decide +kernel
theorem d_p22m10_5 : decode prog_22_method_10_code 5 = .ok (.iload_n 1, 1) := by decide +kernel
theorem d_p22m10_6 : decode prog_22_method_10_code 6 = .ok (.imul, 1) := by decide +kernel
theorem d_p22m10_7 : decode prog_22_method_10_code 7 = .ok (.iconst 1, 1) := by decide +kernel
theorem d_p22m10_8 : decode prog_22_method_10_code 8 = .ok (.iadd, 1) := by decide +kernel
theorem d_p22m10_9 : decode prog_22_method_10_code 9 = .ok (.iaload, 1) := by decide +kernel
theorem d_p22m10_10 : decode prog_22_method_10_code 10 = .ok (.ireturn, 1) := by decide +kernel
theorem c_second (l : Launch) (Z : State) (a0 : Array Value) (hw : ∀ d ∈ tables_1, d.before a0 Z = true) {B : Nat} (a0' b : Addr) (c i r : Int32) (vs : List Value) (h1 : ¬ 2 * i + 1 < 0) (h2 : vs[(2 * i + 1).toNatClampNeg]? = some (.int r)) :
    Con l Z FM B (⟨"com/example/metanode/metanode/graph/IntPairs", "second", "(I)I"⟩ : MethodName) prog_22_method_10_code 2 (some .int) ({ frames := 0, cells := 0, slots := 0, locals := 0 } : Room) [] #[.ref a0', .int i] [(a0', O_IntPairs, [.ref b, .int c]), (b, (.array .int), vs)] (fun v os => v = some (.int r) ∧ os = [(a0', O_IntPairs, [.ref b, .int c]), (b, (.array .int), vs)]) := by
  refine Con.of (plainFor_of_name (by first | (simp [plainName, overriddenIn]; done) | decide +kernel)) (ls := #[.val (.ref a0'), .val (.int i)]) (fun m => by first | (simp [entryFrame, mkF, argsToLocals, Value.category]; done) | rfl) ?_
  intro p_ e_ h_ s_ m_ bl_ me_ c_ T0 W0
  refine g_aload_n (pc := 0) W0 d_p22m10_0 rfl rfl ?_
  refine g_getfield (pc := 1) (i := 0) (j := 0) (host := "") W0 (Or.inl (wd hw 10 rfl)) rfl rfl rfl d_p22m10_1 (fun T1 W2 => ?_)
  refine g_iconst (pc := 4) (2 : Int32) (by decide) W2 d_p22m10_4 ?_
  refine g_iload_n (pc := 5) W2 d_p22m10_5 rfl ?_
  refine g_imul (pc := 6) W2 d_p22m10_6 ?_
  refine g_iconst (pc := 7) (1 : Int32) (by decide) W2 d_p22m10_7 ?_
  refine g_iadd (pc := 8) W2 d_p22m10_8 ?_
  refine g_iaload (pc := 9) (i := 1) (v := .int r) W2 rfl h1 h2 d_p22m10_9 ?_
  exact g_ireturn (pc := 10) rfl W2 d_p22m10_10 (by decide) (by decide) ⟨rfl, rfl⟩
/-! a list by a function -/
def fl (n : Nat) (g : Nat → Int32) : List Value := (List.range n).map (fun u => Value.int (g u))
def put (g : Nat → Int32) (i : Nat) (v : Int32) : Nat → Int32 := fun u => if u = i then v else g u
def inc (g : Nat → Int32) (i : Nat) : Nat → Int32 := put g i (g i + 1)
def acc (g : Nat → Int32) (v : Nat) : Nat → Int32 := put g (v + 1) (g (v + 1) + g v)
theorem fl_len (n : Nat) (g : Nat → Int32) : (fl n g).length = n := by simp [fl]
theorem fl_get {n : Nat} {g : Nat → Int32} {i : Nat} (h : i < n) : (fl n g)[i]? = some (.int (g i)) := by simp [fl, h]
theorem fl_set (n : Nat) (g : Nat → Int32) (i : Nat) (v : Int32) : (fl n g).set i (.int v) = fl n (put g i v) := by
  refine List.ext_getElem? fun j => ?_
  rw [List.getElem?_set]
  by_cases hj : j < n
  · rw [fl_get hj, fl_get hj, fl_len]
    by_cases e : i = j
    · subst e; simp [hj, put]
    · simp [e, put, Ne.symm e]
  · rw [List.getElem?_eq_none (by rw [fl_len]; omega), List.getElem?_eq_none (by rw [fl_len]; omega), fl_len]
    split
    · rw [if_neg (by omega)]
    · rfl
theorem inc_val (g : Nat → Int32) (i w : Nat) : inc g i w = g w + (if w = i then 1 else 0) := by
  unfold inc put
  split
  · rename_i e; subst e; rfl
  · simp
/-- the sum of g 0 .. g u -/
def sm (g : Nat → Int32) : Nat → Int32
  | 0 => g 0
  | u + 1 => g (u + 1) + sm g u
theorem sm_inc (g : Nat → Int32) (i u : Nat) : sm (inc g i) u = sm g u + (if i ≤ u then 1 else 0) := by
  induction u with
  | zero =>
    show inc g i 0 = _
    rw [inc_val]
    by_cases e : i = 0
    · subst e; rfl
    · rw [if_neg (fun q => e q.symm), if_neg (by omega)]; rfl
  | succ u ih =>
    show inc g i (u + 1) + sm (inc g i) u = (g (u + 1) + sm g u) + _
    rw [inc_val, ih]
    by_cases e : u + 1 = i
    · subst e
      rw [if_pos rfl, if_neg (by omega), if_pos (Nat.le_refl _), Int32.add_zero, Int32.add_assoc, Int32.add_comm 1, ← Int32.add_assoc]
    · rw [if_neg e, Int32.add_zero, ← Int32.add_assoc]
      by_cases f : i ≤ u
      · rw [if_pos f, if_pos (by omega)]
      · rw [if_neg f, if_neg (by omega)]
def zf : Nat → Int32 := fun _ => 0
theorem sm_zf (u : Nat) : sm zf u = 0 := by
  induction u with
  | zero => rfl
  | succ u ih => show (0 : Int32) + sm zf u = 0; rw [ih]; rfl
def ac (g : Nat → Int32) : Nat → (Nat → Int32)
  | 0 => g
  | v + 1 => acc (ac g v) v
theorem ac_sm (g : Nat → Int32) {u : Nat} (h : u ≤ 8) : ac g 8 u = sm g u := by
  rcases (by omega : u = 0 ∨ u = 1 ∨ u = 2 ∨ u = 3 ∨ u = 4 ∨ u = 5 ∨ u = 6 ∨ u = 7 ∨ u = 8) with rfl | rfl | rfl | rfl | rfl | rfl | rfl | rfl | rfl <;> rfl
def g1 (ns : List Nat) : Nat → Int32 := ns.foldl (fun g n => inc g (n + 1)) zf
def NX (ns : List Nat) (j : Nat) : Nat → Int32 := (ns.take j).foldl inc (ac (g1 ns) 8)
def ps (ns : List Nat) (j : Nat) : Int32 := NX ns j (ns.getD j 0)
def HH (ns : List Nat) (j : Nat) : Nat → Int32 := (List.range j).foldl (fun h i => put h (ps ns i).toNatClampNeg (Int32.ofNat (ns.getD (i ^^^ 1) 0))) zf
theorem own_ofNat {n : Nat} (h : n < 8) : (Int32.ofNat n).toInt = n := Int32.toInt_ofNat_of_lt (by omega)
theorem own_ix {n : Nat} (h : n < 8) : ¬ Int32.ofNat n < 0 ∧ (Int32.ofNat n).toNatClampNeg = n ∧ ¬ Int32.ofNat n + 1 < 0 ∧ (Int32.ofNat n + 1).toNatClampNeg = n + 1 := by
  have e := own_ofNat h
  have s := c_iadd (Int32.ofNat n) 1
  have r := rng32 (Int32.ofNat n + 1)
  have e1 : (1 : Int32).toInt = 1 := by decide
  have e0 : (0 : Int32).toInt = 0 := by decide
  rw [e, e1] at s
  have q : (Int32.ofNat n + 1).toInt = n + 1 := by omega
  simp only [Int32.lt_iff_toInt_lt, e0, Int32.toNatClampNeg, e, q]
  omega
theorem own_e (a : Int32) : ∃ n, n < 8 ∧ a &&& 7 = Int32.ofNat n := by
  have e : (a &&& 7).toInt = a.toInt % 2 ^ 3 := Jvm.Kit.i32_mask a 7 (k := 3) (by decide) (by decide)
  refine ⟨(a &&& 7).toInt.toNat, by omega, Int32.toInt_inj.mp ?_⟩
  rw [own_ofNat (by omega)]; omega
theorem own_lt {n u : Nat} (h : n < 8) (hu : u < 9) : (Int32.ofNat n < Int32.ofNat u) ↔ n + 1 ≤ u := by
  rw [Int32.lt_iff_toInt_lt, own_ofNat h, Int32.toInt_ofNat_of_lt (by omega)]; omega
theorem own_eqn {n u : Nat} (h : n < 8) (hu : u < 8) : (Int32.ofNat n = Int32.ofNat u) ↔ u = n := by
  rw [← Int32.toInt_inj, own_ofNat h, own_ofNat hu]; omega
theorem own_b01 (x : Int32) (p : Prop) [Decidable p] {n : Int} (h : x.toInt = n) (h0 : 0 ≤ n) (h1 : n < 100) : (x + (if p then (1 : Int32) else 0)).toInt = n + (if p then 1 else 0) := by
  have e1 : (1 : Int32).toInt = 1 := by decide
  have e0 : (0 : Int32).toInt = 0 := by decide
  split
  · have s := c_iadd x 1; have r := rng32 (x + 1); rw [e1] at s; omega
  · have s := c_iadd x 0; have r := rng32 (x + 0); rw [e0] at s; omega
theorem t_le {l i j : Nat} (h : i < j) : (if l + 1 ≤ i then (1 : Int) else 0) + (if i = l then 1 else 0) ≤ (if l + 1 ≤ j then 1 else 0) := by
  repeat' split
  all_goals omega
theorem t_le1 {l i j : Nat} (h : i ≤ j) : (if l + 1 ≤ i then (1 : Int) else 0) ≤ (if l + 1 ≤ j then 1 else 0) := by
  repeat' split
  all_goals omega
theorem t_01 (l i : Nat) : 0 ≤ (if l + 1 ≤ i then (1 : Int) else 0) ∧ 0 ≤ (if i = l then (1 : Int) else 0) ∧ (if l + 1 ≤ i then (1 : Int) else 0) + (if i = l then 1 else 0) ≤ 1 := by
  repeat' split
  all_goals omega
theorem d_j29m69_0 : decode jdk_29_method_69_code 0 = .ok (.iload_n 0, 1) := by decide +kernel
theorem d_j29m69_1 : decode jdk_29_method_69_code 1 = .ok (.iload_n 1, 1) := by decide +kernel
theorem d_j29m69_2 : decode jdk_29_method_69_code 2 = .ok (.if_icmp .gt 7, 3) := by decide +kernel
theorem d_j29m69_9 : decode jdk_29_method_69_code 9 = .ok (.iload_n 1, 1) := by decide +kernel
theorem d_j29m69_10 : decode jdk_29_method_69_code 10 = .ok (.ireturn, 1) := by decide +kernel
theorem c_min (l : Launch) (Z : State) (a0 : Array Value) (hw : ∀ d ∈ tables_1, d.before a0 Z = true) {B : Nat}  :
    Con l Z FM B (⟨"java/lang/Math", "min", "(II)I"⟩ : MethodName) jdk_29_method_69_code 2 (some .int) ({ frames := 0, cells := 0, slots := 0, locals := 0 } : Room) [] #[.int (9 : Int32), .int (8 : Int32)] [] (fun rv_ ro_ => rv_ = some (.int (8 : Int32)) ∧ ro_ = []) := by
  refine Con.of (JP.mathPlain rfl (by decide +kernel)) (ls := #[.val (.int (9 : Int32)), .val (.int (8 : Int32))]) (fun m => by first | (simp [entryFrame, mkF, argsToLocals, Value.category]; done) | rfl) ?_
  intro p_ e_ h_ s_ m_ bl_ me_ c_ T0 W0
  refine g_iload_n (pc := 0) W0 d_j29m69_0 rfl ?_
  refine g_iload_n (pc := 1) W0 d_j29m69_1 rfl ?_
  refine g_icmpY 9 (pc := 2) W0 d_j29m69_2 (by decide) (by decide) (by decide) ?_
  refine g_iload_n (pc := 9) W0 d_j29m69_9 rfl ?_
  exact g_ireturn (pc := 10) rfl W0 d_j29m69_10 (by decide) (by decide) ⟨rfl, rfl⟩
theorem d_j65m123_0 : decode jdk_65_method_123_code 0 = .ok (.iload_n 1, 1) := by decide +kernel
theorem d_j65m123_1 : decode jdk_65_method_123_code 1 = .ok (.aload_n 0, 1) := by decide +kernel
theorem d_j65m123_2 : decode jdk_65_method_123_code 2 = .ok (.arraylength, 1) := by decide +kernel
theorem d_j65m123_3 : decode jdk_65_method_123_code 3 = .ok (.if_icmp .ne 11, 3) := by decide +kernel
theorem d_j65m123_14 : decode jdk_65_method_123_code 14 = .ok (.iload_n 1, 1) := by decide +kernel
theorem d_j65m123_15 : decode jdk_65_method_123_code 15 = .ok (.newarray .int, 2) := by decide +kernel
theorem d_j65m123_17 : decode jdk_65_method_123_code 17 = .ok (.astore_n 2, 1) := by decide +kernel
theorem d_j65m123_18 : decode jdk_65_method_123_code 18 = .ok (.aload_n 0, 1) := by decide +kernel
theorem d_j65m123_19 : decode jdk_65_method_123_code 19 = .ok (.iconst 0, 1) := by decide +kernel
theorem d_j65m123_20 : decode jdk_65_method_123_code 20 = .ok (.aload_n 2, 1) := by decide +kernel
theorem d_j65m123_21 : decode jdk_65_method_123_code 21 = .ok (.iconst 0, 1) := by decide +kernel
theorem d_j65m123_22 : decode jdk_65_method_123_code 22 = .ok (.aload_n 0, 1) := by decide +kernel
theorem d_j65m123_23 : decode jdk_65_method_123_code 23 = .ok (.arraylength, 1) := by decide +kernel
theorem d_j65m123_24 : decode jdk_65_method_123_code 24 = .ok (.iload_n 1, 1) := by decide +kernel
theorem d_j65m123_25 : decode jdk_65_method_123_code 25 = .ok (.invokestatic 304, 3) := by decide +kernel
theorem d_j65m123_28 : decode jdk_65_method_123_code 28 = .ok (.invokestatic 150, 3) := by decide +kernel
theorem d_j65m123_31 : decode jdk_65_method_123_code 31 = .ok (.aload_n 2, 1) := by decide +kernel
theorem d_j65m123_32 : decode jdk_65_method_123_code 32 = .ok (.areturn, 1) := by decide +kernel
theorem c_cp (l : Launch) (Z : State) (a0 : Array Value) (hw : ∀ d ∈ tables_1, d.before a0 Z = true) {B : Nat} (a : Addr) (g : Nat → Int32) :
    Con l Z FM B (⟨"java/util/Arrays", "copyOf", "([II)[I"⟩ : MethodName) jdk_65_method_123_code 3 (some (.array .int)) ({ frames := 1, cells := 1, slots := 8, locals := 18 } : Room) [] #[.ref a, .int (8 : Int32)] [(a, (.array .int), (fl 9 g))] (fun rv_ ro_ => ∃ b1, rv_ = some (.ref b1) ∧ ro_ = [(a, (.array .int), (fl 9 g)), (b1, (.array .int), (fl 8 g))]) := by
  refine Con.of (plainFor_of_name (by first | (simp [plainName, overriddenIn]; done) | decide +kernel)) (ls := #[.val (.ref a), .val (.int (8 : Int32)), .unset]) (fun m => by first | (simp [entryFrame, mkF, argsToLocals, Value.category]; done) | rfl) ?_
  intro p_ e_ h_ s_ m_ bl_ me_ c_ T0 W0
  refine g_iload_n (pc := 0) W0 d_j65m123_0 rfl ?_
  refine g_aload_n (pc := 1) W0 d_j65m123_1 rfl rfl ?_
  refine g_arraylength (pc := 2) (i := 0) (9 : Int32) W0 rfl (by rw [fl_len]; rfl) d_j65m123_2 ?_
  refine g_icmpY 14 (pc := 3) W0 d_j65m123_3 (by decide) (by decide) (by decide) ?_
  refine g_iload_n (pc := 14) W0 d_j65m123_14 rfl ?_
  refine g_newarray (pc := 15) (ty := .int) (vs := [.int (0 : Int32), .int (0 : Int32), .int (0 : Int32), .int (0 : Int32), .int (0 : Int32), .int (0 : Int32), .int (0 : Int32), .int (0 : Int32)]) 8 W0 (wd hw 0 rfl) rfl (by decide) (by decide) (by decide) rfl d_j65m123_15 (by decide) (by decide) (fun T2 b1 W3 => ?_)
  have W4 := W3.re (os' := [(a, (.array .int), (fl 9 g)), (b1, (.array .int), [.int (0 : Int32), .int (0 : Int32), .int (0 : Int32), .int (0 : Int32), .int (0 : Int32), .int (0 : Int32), .int (0 : Int32), .int (0 : Int32)])]) rfl
  refine g_astore_n (pc := 17) (ls' := #[.val (.ref a), .val (.int (8 : Int32)), .val (.ref b1)]) W4 d_j65m123_17 rfl rfl ?_
  refine g_aload_n (pc := 18) W4 d_j65m123_18 rfl rfl ?_
  refine g_iconst (pc := 19) (0 : Int32) (by decide) W4 d_j65m123_19 ?_
  refine g_aload_n (pc := 20) W4 d_j65m123_20 rfl rfl ?_
  refine g_iconst (pc := 21) (0 : Int32) (by decide) W4 d_j65m123_21 ?_
  refine g_aload_n (pc := 22) W4 d_j65m123_22 rfl rfl ?_
  refine g_arraylength (pc := 23) (i := 0) (9 : Int32) W4 rfl (by rw [fl_len]; rfl) d_j65m123_23 ?_
  refine g_iload_n (pc := 24) W4 d_j65m123_24 rfl ?_
  refine g_static (pc := 25) (Wt := 4) (argsL := [.int (9 : Int32), .int (8 : Int32)]) (rest := [.int (0 : Int32), .ref b1, .int (0 : Int32), .ref a]) (loc := []) (rst := [(a, (.array .int), (fl 9 g)), (b1, (.array .int), [.int (0 : Int32), .int (0 : Int32), .int (0 : Int32), .int (0 : Int32), .int (0 : Int32), .int (0 : Int32), .int (0 : Int32), .int (0 : Int32)])]) W4 (wd hw 38 rfl) (wd hw 39 rfl) (wd hw 40 rfl) (wd hw 41 rfl) (by decide) (c_min l Z a0 hw ) Spl.none rfl pd_II__I rfl rfl rfl (Nat.le_of_ble_eq_true rfl) (by decide) (by decide) (by decide) (by decide) d_j65m123_25 ?_
  rintro T5 _ _ ⟨rfl, rfl⟩ W6
  have W7 := W6.re (os' := [(a, (.array .int), (fl 9 g)), (b1, (.array .int), [.int (0 : Int32), .int (0 : Int32), .int (0 : Int32), .int (0 : Int32), .int (0 : Int32), .int (0 : Int32), .int (0 : Int32), .int (0 : Int32)])]) rfl
  show Go p_ e_ bl_ _ (T5.setTop (mkF m_ 28 _ [.int (8 : Int32), .int (0 : Int32), .ref b1, .int (0 : Int32), .ref a]))
  refine g_arraycopy (pc := 28) (i := 0) (j := 1) (Wt := 0) (vd' := (fl 8 g)) (os' := [(a, (.array .int), (fl 9 g)), (b1, (.array .int), (fl 8 g))]) W7 (wd hw 42 rfl) (wd hw 45 rfl) (wd hw 43 rfl) (wd hw 44 rfl) rfl rfl rfl (by decide) (by decide) (by decide) (by rw [fl_len]; decide) (by decide) (by rw [fl_len]; decide) (by decide) rfl rfl rfl (Nat.le_of_ble_eq_true rfl) (by decide) (by decide) d_j65m123_28 (fun T8 W9 => ?_)
  refine g_aload_n (pc := 31) W9 d_j65m123_31 rfl rfl ?_
  exact g_areturn (pc := 32) rfl rfl W9 d_j65m123_32 (by decide) (by decide) ⟨b1, rfl, rfl⟩
theorem d_p22m4_0 : decode prog_22_method_4_code 0 = .ok (.aload_n 1, 1) := by decide +kernel
theorem d_p22m4_1 : decode prog_22_method_4_code 1 = .ok (.arraylength, 1) := by decide +kernel
theorem d_p22m4_2 : decode prog_22_method_4_code 2 = .ok (.iconst 1, 1) := by decide +kernel
theorem d_p22m4_3 : decode prog_22_method_4_code 3 = .ok (.isub, 1) := by decide +kernel
theorem d_p22m4_4 : decode prog_22_method_4_code 4 = .ok (.istore_n 2, 1) := by decide +kernel
theorem d_p22m4_5 : decode prog_22_method_4_code 5 = .ok (.iconst 0, 1) := by decide +kernel
theorem d_p22m4_6 : decode prog_22_method_4_code 6 = .ok (.istore_n 3, 1) := by decide +kernel
theorem d_p22m4_7 : decode prog_22_method_4_code 7 = .ok (.iload_n 3, 1) := by decide +kernel
theorem d_p22m4_8 : decode prog_22_method_4_code 8 = .ok (.aload_n 0, 1) := by decide +kernel
theorem d_p22m4_9 : decode prog_22_method_4_code 9 = .ok (.getfield 15, 3) := by decide +kernel
theorem d_p22m4_12 : decode prog_22_method_4_code 12 = .ok (.if_icmp .ge 35, 3) := by decide +kernel
theorem d_p22m4_47 : decode prog_22_method_4_code 47 = .ok (.iconst 0, 1) := by decide +kernel
theorem d_p22m4_48 : decode prog_22_method_4_code 48 = .ok (.istore_n 3, 1) := by decide +kernel
theorem d_p22m4_49 : decode prog_22_method_4_code 49 = .ok (.iload_n 3, 1) := by decide +kernel
theorem d_p22m4_50 : decode prog_22_method_4_code 50 = .ok (.iload_n 2, 1) := by decide +kernel
theorem d_p22m4_51 : decode prog_22_method_4_code 51 = .ok (.if_icmp .ge 20, 3) := by decide +kernel
theorem d_p22m4_54 : decode prog_22_method_4_code 54 = .ok (.aload_n 1, 1) := by decide +kernel
theorem d_p22m4_55 : decode prog_22_method_4_code 55 = .ok (.iload_n 3, 1) := by decide +kernel
theorem d_p22m4_56 : decode prog_22_method_4_code 56 = .ok (.iconst 1, 1) := by decide +kernel
theorem d_p22m4_57 : decode prog_22_method_4_code 57 = .ok (.iadd, 1) := by decide +kernel
theorem d_p22m4_58 : decode prog_22_method_4_code 58 = .ok (.dup2, 1) := by decide +kernel
theorem d_p22m4_59 : decode prog_22_method_4_code 59 = .ok (.iaload, 1) := by decide +kernel
theorem d_p22m4_60 : decode prog_22_method_4_code 60 = .ok (.aload_n 1, 1) := by decide +kernel
theorem d_p22m4_61 : decode prog_22_method_4_code 61 = .ok (.iload_n 3, 1) := by decide +kernel
theorem d_p22m4_62 : decode prog_22_method_4_code 62 = .ok (.iaload, 1) := by decide +kernel
theorem d_p22m4_63 : decode prog_22_method_4_code 63 = .ok (.iadd, 1) := by decide +kernel
theorem d_p22m4_64 : decode prog_22_method_4_code 64 = .ok (.iastore, 1) := by decide +kernel
theorem d_p22m4_65 : decode prog_22_method_4_code 65 = .ok (.iinc 3 1, 3) := by decide +kernel
theorem d_p22m4_68 : decode prog_22_method_4_code 68 = .ok (.goto (-19), 3) := by decide +kernel
theorem d_p22m4_71 : decode prog_22_method_4_code 71 = .ok (.aload_n 1, 1) := by decide +kernel
theorem d_p22m4_72 : decode prog_22_method_4_code 72 = .ok (.iload_n 2, 1) := by decide +kernel
theorem d_p22m4_73 : decode prog_22_method_4_code 73 = .ok (.invokestatic 30, 3) := by decide +kernel
theorem d_p22m4_76 : decode prog_22_method_4_code 76 = .ok (.astore_n 3, 1) := by decide +kernel
theorem d_p22m4_77 : decode prog_22_method_4_code 77 = .ok (.iconst 2, 1) := by decide +kernel
theorem d_p22m4_78 : decode prog_22_method_4_code 78 = .ok (.aload_n 0, 1) := by decide +kernel
theorem d_p22m4_79 : decode prog_22_method_4_code 79 = .ok (.getfield 15, 3) := by decide +kernel
theorem d_p22m4_82 : decode prog_22_method_4_code 82 = .ok (.imul, 1) := by decide +kernel
theorem d_p22m4_83 : decode prog_22_method_4_code 83 = .ok (.newarray .int, 2) := by decide +kernel
theorem d_p22m4_85 : decode prog_22_method_4_code 85 = .ok (.astore 4, 2) := by decide +kernel
theorem d_p22m4_87 : decode prog_22_method_4_code 87 = .ok (.iconst 0, 1) := by decide +kernel
theorem d_p22m4_88 : decode prog_22_method_4_code 88 = .ok (.istore 5, 2) := by decide +kernel
theorem d_p22m4_90 : decode prog_22_method_4_code 90 = .ok (.iload 5, 2) := by decide +kernel
theorem d_p22m4_92 : decode prog_22_method_4_code 92 = .ok (.aload_n 0, 1) := by decide +kernel
theorem d_p22m4_93 : decode prog_22_method_4_code 93 = .ok (.getfield 15, 3) := by decide +kernel
theorem d_p22m4_96 : decode prog_22_method_4_code 96 = .ok (.if_icmp .ge 53, 3) := by decide +kernel
theorem d_p22m4_149 : decode prog_22_method_4_code 149 = .ok (.aload 4, 2) := by decide +kernel
theorem d_p22m4_151 : decode prog_22_method_4_code 151 = .ok (.areturn, 1) := by decide +kernel
theorem c_part0 (l : Launch) (Z : State) (a0 : Array Value) (hw : ∀ d ∈ tables_1, d.before a0 Z = true) {B : Nat} (a b o : Addr) (vs : List Value) :
    Con l Z FM B (⟨"com/example/metanode/metanode/graph/IntPairs", "partners", "([I)[I"⟩ : MethodName) prog_22_method_4_code 8 (some (.array .int)) ({ frames := 2, cells := 2, slots := 8, locals := 32 } : Room) [] #[.ref a, .ref o] [(a, O_IntPairs, [.ref b, .int (0 : Int32)]), (b, (.array .int), vs), (o, (.array .int), (fl 9 zf))] (fun rv_ ro_ => ∃ b21, ∃ b27, rv_ = some (.ref b27) ∧ ro_ = [(o, (.array .int), (fl 9 (ac (g1 []) 8))), (b21, (.array .int), (fl 8 (NX [] 0))), (a, O_IntPairs, [.ref b, .int (0 : Int32)]), (b, (.array .int), vs), (b27, (.array .int), (fl 0 (HH [] 0)))]) := by
  refine Con.of (plainFor_of_name (by first | (simp [plainName, overriddenIn]; done) | decide +kernel)) (ls := #[.val (.ref a), .val (.ref o), .unset, .unset, .unset, .unset, .unset, .unset]) (fun m => by first | (simp [entryFrame, mkF, argsToLocals, Value.category]; done) | rfl) ?_
  intro p_ e_ h_ s_ m_ bl_ me_ c_ T0 W0
  refine g_aload_n (pc := 0) W0 d_p22m4_0 rfl rfl ?_
  refine g_arraylength (pc := 1) (i := 2) (9 : Int32) W0 rfl (by rw [fl_len]; rfl) d_p22m4_1 ?_
  refine g_iconst (pc := 2) (1 : Int32) (by decide) W0 d_p22m4_2 ?_
  refine g_isub (pc := 3) W0 d_p22m4_3 ?_
  show Go p_ e_ bl_ _ (T0.setTop (mkF m_ 4 _ [.int (8 : Int32)]))
  refine g_istore_n (pc := 4) (ls' := #[.val (.ref a), .val (.ref o), .val (.int (8 : Int32)), .unset, .unset, .unset, .unset, .unset]) W0 d_p22m4_4 rfl ?_
  have W1 := W0.re (os' := [(a, O_IntPairs, [.ref b, .int (0 : Int32)]), (b, (.array .int), vs), (o, (.array .int), (fl 9 (g1 [])))]) rfl
  refine g_iconst (pc := 5) (0 : Int32) (by decide) W1 d_p22m4_5 ?_
  refine g_istore_n (pc := 6) (ls' := #[.val (.ref a), .val (.ref o), .val (.int (8 : Int32)), .val (.int (0 : Int32)), .unset, .unset, .unset, .unset]) W1 d_p22m4_6 rfl ?_
  refine g_iload_n (pc := 7) W1 d_p22m4_7 rfl ?_
  refine g_aload_n (pc := 8) W1 d_p22m4_8 rfl rfl ?_
  refine g_getfield (pc := 9) (i := 0) (j := 1) (host := "") W1 (Or.inl (wd hw 17 rfl)) rfl rfl rfl d_p22m4_9 (fun T2 W3 => ?_)
  refine g_icmpY 47 (pc := 12) W3 d_p22m4_12 (by decide) (by decide) (by decide) ?_
  have W4 := W3.re (os' := [(a, O_IntPairs, [.ref b, .int (0 : Int32)]), (b, (.array .int), vs), (o, (.array .int), (fl 9 (ac (g1 []) 0)))]) rfl
  refine g_iconst (pc := 47) (0 : Int32) (by decide) W4 d_p22m4_47 ?_
  refine g_istore_n (pc := 48) (ls' := #[.val (.ref a), .val (.ref o), .val (.int (8 : Int32)), .val (.int (0 : Int32)), .unset, .unset, .unset, .unset]) W4 d_p22m4_48 rfl ?_
  refine g_iload_n (pc := 49) W4 d_p22m4_49 rfl ?_
  refine g_iload_n (pc := 50) W4 d_p22m4_50 rfl ?_
  refine g_icmpN (pc := 51) W4 d_p22m4_51 (by decide) ?_
  refine g_aload_n (pc := 54) W4 d_p22m4_54 rfl rfl ?_
  refine g_iload_n (pc := 55) W4 d_p22m4_55 rfl ?_
  refine g_iconst (pc := 56) (1 : Int32) (by decide) W4 d_p22m4_56 ?_
  refine g_iadd (pc := 57) W4 d_p22m4_57 ?_
  show Go p_ e_ bl_ _ (T2.setTop (mkF m_ 58 _ [.int (1 : Int32), .ref o]))
  refine g_dup2 (pc := 58) W4 d_p22m4_58 rfl rfl ?_
  refine g_iaload (pc := 59) (i := 2) (v := .int ((ac (g1 []) 0) 1)) W4 rfl (by decide) (fl_get (i := 1) (by decide)) d_p22m4_59 ?_
  refine g_aload_n (pc := 60) W4 d_p22m4_60 rfl rfl ?_
  refine g_iload_n (pc := 61) W4 d_p22m4_61 rfl ?_
  refine g_iaload (pc := 62) (i := 2) (v := .int ((ac (g1 []) 0) 0)) W4 rfl (by decide) (fl_get (i := 0) (by decide)) d_p22m4_62 ?_
  refine g_iadd (pc := 63) W4 d_p22m4_63 ?_
  refine g_iastore (pc := 64) (i := 2) (os' := [(a, O_IntPairs, [.ref b, .int (0 : Int32)]), (b, (.array .int), vs), (o, (.array .int), (fl 9 (ac (g1 []) 1)))]) 1 W4 rfl (by decide) (by decide) (by rw [fl_len]; decide) (by rw [fl_set]; rfl) d_p22m4_64 (fun T5 W6 => ?_)
  refine g_iinc (pc := 65) (ls' := #[.val (.ref a), .val (.ref o), .val (.int (8 : Int32)), .val (.int (1 : Int32)), .unset, .unset, .unset, .unset]) (1 : Int32) (by decide) W6 d_p22m4_65 rfl rfl ?_
  refine g_goto 49 (pc := 68) W6 d_p22m4_68 (by decide) (by decide) ?_
  refine g_iload_n (pc := 49) W6 d_p22m4_49 rfl ?_
  refine g_iload_n (pc := 50) W6 d_p22m4_50 rfl ?_
  refine g_icmpN (pc := 51) W6 d_p22m4_51 (by decide) ?_
  refine g_aload_n (pc := 54) W6 d_p22m4_54 rfl rfl ?_
  refine g_iload_n (pc := 55) W6 d_p22m4_55 rfl ?_
  refine g_iconst (pc := 56) (1 : Int32) (by decide) W6 d_p22m4_56 ?_
  refine g_iadd (pc := 57) W6 d_p22m4_57 ?_
  show Go p_ e_ bl_ _ (T5.setTop (mkF m_ 58 _ [.int (2 : Int32), .ref o]))
  refine g_dup2 (pc := 58) W6 d_p22m4_58 rfl rfl ?_
  refine g_iaload (pc := 59) (i := 2) (v := .int ((ac (g1 []) 1) 2)) W6 rfl (by decide) (fl_get (i := 2) (by decide)) d_p22m4_59 ?_
  refine g_aload_n (pc := 60) W6 d_p22m4_60 rfl rfl ?_
  refine g_iload_n (pc := 61) W6 d_p22m4_61 rfl ?_
  refine g_iaload (pc := 62) (i := 2) (v := .int ((ac (g1 []) 1) 1)) W6 rfl (by decide) (fl_get (i := 1) (by decide)) d_p22m4_62 ?_
  refine g_iadd (pc := 63) W6 d_p22m4_63 ?_
  refine g_iastore (pc := 64) (i := 2) (os' := [(a, O_IntPairs, [.ref b, .int (0 : Int32)]), (b, (.array .int), vs), (o, (.array .int), (fl 9 (ac (g1 []) 2)))]) 2 W6 rfl (by decide) (by decide) (by rw [fl_len]; decide) (by rw [fl_set]; rfl) d_p22m4_64 (fun T7 W8 => ?_)
  refine g_iinc (pc := 65) (ls' := #[.val (.ref a), .val (.ref o), .val (.int (8 : Int32)), .val (.int (2 : Int32)), .unset, .unset, .unset, .unset]) (1 : Int32) (by decide) W8 d_p22m4_65 rfl rfl ?_
  refine g_goto 49 (pc := 68) W8 d_p22m4_68 (by decide) (by decide) ?_
  refine g_iload_n (pc := 49) W8 d_p22m4_49 rfl ?_
  refine g_iload_n (pc := 50) W8 d_p22m4_50 rfl ?_
  refine g_icmpN (pc := 51) W8 d_p22m4_51 (by decide) ?_
  refine g_aload_n (pc := 54) W8 d_p22m4_54 rfl rfl ?_
  refine g_iload_n (pc := 55) W8 d_p22m4_55 rfl ?_
  refine g_iconst (pc := 56) (1 : Int32) (by decide) W8 d_p22m4_56 ?_
  refine g_iadd (pc := 57) W8 d_p22m4_57 ?_
  show Go p_ e_ bl_ _ (T7.setTop (mkF m_ 58 _ [.int (3 : Int32), .ref o]))
  refine g_dup2 (pc := 58) W8 d_p22m4_58 rfl rfl ?_
  refine g_iaload (pc := 59) (i := 2) (v := .int ((ac (g1 []) 2) 3)) W8 rfl (by decide) (fl_get (i := 3) (by decide)) d_p22m4_59 ?_
  refine g_aload_n (pc := 60) W8 d_p22m4_60 rfl rfl ?_
  refine g_iload_n (pc := 61) W8 d_p22m4_61 rfl ?_
  refine g_iaload (pc := 62) (i := 2) (v := .int ((ac (g1 []) 2) 2)) W8 rfl (by decide) (fl_get (i := 2) (by decide)) d_p22m4_62 ?_
  refine g_iadd (pc := 63) W8 d_p22m4_63 ?_
  refine g_iastore (pc := 64) (i := 2) (os' := [(a, O_IntPairs, [.ref b, .int (0 : Int32)]), (b, (.array .int), vs), (o, (.array .int), (fl 9 (ac (g1 []) 3)))]) 3 W8 rfl (by decide) (by decide) (by rw [fl_len]; decide) (by rw [fl_set]; rfl) d_p22m4_64 (fun T9 W10 => ?_)
  refine g_iinc (pc := 65) (ls' := #[.val (.ref a), .val (.ref o), .val (.int (8 : Int32)), .val (.int (3 : Int32)), .unset, .unset, .unset, .unset]) (1 : Int32) (by decide) W10 d_p22m4_65 rfl rfl ?_
  refine g_goto 49 (pc := 68) W10 d_p22m4_68 (by decide) (by decide) ?_
  refine g_iload_n (pc := 49) W10 d_p22m4_49 rfl ?_
  refine g_iload_n (pc := 50) W10 d_p22m4_50 rfl ?_
  refine g_icmpN (pc := 51) W10 d_p22m4_51 (by decide) ?_
  refine g_aload_n (pc := 54) W10 d_p22m4_54 rfl rfl ?_
  refine g_iload_n (pc := 55) W10 d_p22m4_55 rfl ?_
  refine g_iconst (pc := 56) (1 : Int32) (by decide) W10 d_p22m4_56 ?_
  refine g_iadd (pc := 57) W10 d_p22m4_57 ?_
  show Go p_ e_ bl_ _ (T9.setTop (mkF m_ 58 _ [.int (4 : Int32), .ref o]))
  refine g_dup2 (pc := 58) W10 d_p22m4_58 rfl rfl ?_
  refine g_iaload (pc := 59) (i := 2) (v := .int ((ac (g1 []) 3) 4)) W10 rfl (by decide) (fl_get (i := 4) (by decide)) d_p22m4_59 ?_
  refine g_aload_n (pc := 60) W10 d_p22m4_60 rfl rfl ?_
  refine g_iload_n (pc := 61) W10 d_p22m4_61 rfl ?_
  refine g_iaload (pc := 62) (i := 2) (v := .int ((ac (g1 []) 3) 3)) W10 rfl (by decide) (fl_get (i := 3) (by decide)) d_p22m4_62 ?_
  refine g_iadd (pc := 63) W10 d_p22m4_63 ?_
  refine g_iastore (pc := 64) (i := 2) (os' := [(a, O_IntPairs, [.ref b, .int (0 : Int32)]), (b, (.array .int), vs), (o, (.array .int), (fl 9 (ac (g1 []) 4)))]) 4 W10 rfl (by decide) (by decide) (by rw [fl_len]; decide) (by rw [fl_set]; rfl) d_p22m4_64 (fun T11 W12 => ?_)
  refine g_iinc (pc := 65) (ls' := #[.val (.ref a), .val (.ref o), .val (.int (8 : Int32)), .val (.int (4 : Int32)), .unset, .unset, .unset, .unset]) (1 : Int32) (by decide) W12 d_p22m4_65 rfl rfl ?_
  refine g_goto 49 (pc := 68) W12 d_p22m4_68 (by decide) (by decide) ?_
  refine g_iload_n (pc := 49) W12 d_p22m4_49 rfl ?_
  refine g_iload_n (pc := 50) W12 d_p22m4_50 rfl ?_
  refine g_icmpN (pc := 51) W12 d_p22m4_51 (by decide) ?_
  refine g_aload_n (pc := 54) W12 d_p22m4_54 rfl rfl ?_
  refine g_iload_n (pc := 55) W12 d_p22m4_55 rfl ?_
  refine g_iconst (pc := 56) (1 : Int32) (by decide) W12 d_p22m4_56 ?_
  refine g_iadd (pc := 57) W12 d_p22m4_57 ?_
  show Go p_ e_ bl_ _ (T11.setTop (mkF m_ 58 _ [.int (5 : Int32), .ref o]))
  refine g_dup2 (pc := 58) W12 d_p22m4_58 rfl rfl ?_
  refine g_iaload (pc := 59) (i := 2) (v := .int ((ac (g1 []) 4) 5)) W12 rfl (by decide) (fl_get (i := 5) (by decide)) d_p22m4_59 ?_
  refine g_aload_n (pc := 60) W12 d_p22m4_60 rfl rfl ?_
  refine g_iload_n (pc := 61) W12 d_p22m4_61 rfl ?_
  refine g_iaload (pc := 62) (i := 2) (v := .int ((ac (g1 []) 4) 4)) W12 rfl (by decide) (fl_get (i := 4) (by decide)) d_p22m4_62 ?_
  refine g_iadd (pc := 63) W12 d_p22m4_63 ?_
  refine g_iastore (pc := 64) (i := 2) (os' := [(a, O_IntPairs, [.ref b, .int (0 : Int32)]), (b, (.array .int), vs), (o, (.array .int), (fl 9 (ac (g1 []) 5)))]) 5 W12 rfl (by decide) (by decide) (by rw [fl_len]; decide) (by rw [fl_set]; rfl) d_p22m4_64 (fun T13 W14 => ?_)
  refine g_iinc (pc := 65) (ls' := #[.val (.ref a), .val (.ref o), .val (.int (8 : Int32)), .val (.int (5 : Int32)), .unset, .unset, .unset, .unset]) (1 : Int32) (by decide) W14 d_p22m4_65 rfl rfl ?_
  refine g_goto 49 (pc := 68) W14 d_p22m4_68 (by decide) (by decide) ?_
  refine g_iload_n (pc := 49) W14 d_p22m4_49 rfl ?_
  refine g_iload_n (pc := 50) W14 d_p22m4_50 rfl ?_
  refine g_icmpN (pc := 51) W14 d_p22m4_51 (by decide) ?_
  refine g_aload_n (pc := 54) W14 d_p22m4_54 rfl rfl ?_
  refine g_iload_n (pc := 55) W14 d_p22m4_55 rfl ?_
  refine g_iconst (pc := 56) (1 : Int32) (by decide) W14 d_p22m4_56 ?_
  refine g_iadd (pc := 57) W14 d_p22m4_57 ?_
  show Go p_ e_ bl_ _ (T13.setTop (mkF m_ 58 _ [.int (6 : Int32), .ref o]))
  refine g_dup2 (pc := 58) W14 d_p22m4_58 rfl rfl ?_
  refine g_iaload (pc := 59) (i := 2) (v := .int ((ac (g1 []) 5) 6)) W14 rfl (by decide) (fl_get (i := 6) (by decide)) d_p22m4_59 ?_
  refine g_aload_n (pc := 60) W14 d_p22m4_60 rfl rfl ?_
  refine g_iload_n (pc := 61) W14 d_p22m4_61 rfl ?_
  refine g_iaload (pc := 62) (i := 2) (v := .int ((ac (g1 []) 5) 5)) W14 rfl (by decide) (fl_get (i := 5) (by decide)) d_p22m4_62 ?_
  refine g_iadd (pc := 63) W14 d_p22m4_63 ?_
  refine g_iastore (pc := 64) (i := 2) (os' := [(a, O_IntPairs, [.ref b, .int (0 : Int32)]), (b, (.array .int), vs), (o, (.array .int), (fl 9 (ac (g1 []) 6)))]) 6 W14 rfl (by decide) (by decide) (by rw [fl_len]; decide) (by rw [fl_set]; rfl) d_p22m4_64 (fun T15 W16 => ?_)
  refine g_iinc (pc := 65) (ls' := #[.val (.ref a), .val (.ref o), .val (.int (8 : Int32)), .val (.int (6 : Int32)), .unset, .unset, .unset, .unset]) (1 : Int32) (by decide) W16 d_p22m4_65 rfl rfl ?_
  refine g_goto 49 (pc := 68) W16 d_p22m4_68 (by decide) (by decide) ?_
  refine g_iload_n (pc := 49) W16 d_p22m4_49 rfl ?_
  refine g_iload_n (pc := 50) W16 d_p22m4_50 rfl ?_
  refine g_icmpN (pc := 51) W16 d_p22m4_51 (by decide) ?_
  refine g_aload_n (pc := 54) W16 d_p22m4_54 rfl rfl ?_
  refine g_iload_n (pc := 55) W16 d_p22m4_55 rfl ?_
  refine g_iconst (pc := 56) (1 : Int32) (by decide) W16 d_p22m4_56 ?_
  refine g_iadd (pc := 57) W16 d_p22m4_57 ?_
  show Go p_ e_ bl_ _ (T15.setTop (mkF m_ 58 _ [.int (7 : Int32), .ref o]))
  refine g_dup2 (pc := 58) W16 d_p22m4_58 rfl rfl ?_
  refine g_iaload (pc := 59) (i := 2) (v := .int ((ac (g1 []) 6) 7)) W16 rfl (by decide) (fl_get (i := 7) (by decide)) d_p22m4_59 ?_
  refine g_aload_n (pc := 60) W16 d_p22m4_60 rfl rfl ?_
  refine g_iload_n (pc := 61) W16 d_p22m4_61 rfl ?_
  refine g_iaload (pc := 62) (i := 2) (v := .int ((ac (g1 []) 6) 6)) W16 rfl (by decide) (fl_get (i := 6) (by decide)) d_p22m4_62 ?_
  refine g_iadd (pc := 63) W16 d_p22m4_63 ?_
  refine g_iastore (pc := 64) (i := 2) (os' := [(a, O_IntPairs, [.ref b, .int (0 : Int32)]), (b, (.array .int), vs), (o, (.array .int), (fl 9 (ac (g1 []) 7)))]) 7 W16 rfl (by decide) (by decide) (by rw [fl_len]; decide) (by rw [fl_set]; rfl) d_p22m4_64 (fun T17 W18 => ?_)
  refine g_iinc (pc := 65) (ls' := #[.val (.ref a), .val (.ref o), .val (.int (8 : Int32)), .val (.int (7 : Int32)), .unset, .unset, .unset, .unset]) (1 : Int32) (by decide) W18 d_p22m4_65 rfl rfl ?_
  refine g_goto 49 (pc := 68) W18 d_p22m4_68 (by decide) (by decide) ?_
  refine g_iload_n (pc := 49) W18 d_p22m4_49 rfl ?_
  refine g_iload_n (pc := 50) W18 d_p22m4_50 rfl ?_
  refine g_icmpN (pc := 51) W18 d_p22m4_51 (by decide) ?_
  refine g_aload_n (pc := 54) W18 d_p22m4_54 rfl rfl ?_
  refine g_iload_n (pc := 55) W18 d_p22m4_55 rfl ?_
  refine g_iconst (pc := 56) (1 : Int32) (by decide) W18 d_p22m4_56 ?_
  refine g_iadd (pc := 57) W18 d_p22m4_57 ?_
  show Go p_ e_ bl_ _ (T17.setTop (mkF m_ 58 _ [.int (8 : Int32), .ref o]))
  refine g_dup2 (pc := 58) W18 d_p22m4_58 rfl rfl ?_
  refine g_iaload (pc := 59) (i := 2) (v := .int ((ac (g1 []) 7) 8)) W18 rfl (by decide) (fl_get (i := 8) (by decide)) d_p22m4_59 ?_
  refine g_aload_n (pc := 60) W18 d_p22m4_60 rfl rfl ?_
  refine g_iload_n (pc := 61) W18 d_p22m4_61 rfl ?_
  refine g_iaload (pc := 62) (i := 2) (v := .int ((ac (g1 []) 7) 7)) W18 rfl (by decide) (fl_get (i := 7) (by decide)) d_p22m4_62 ?_
  refine g_iadd (pc := 63) W18 d_p22m4_63 ?_
  refine g_iastore (pc := 64) (i := 2) (os' := [(a, O_IntPairs, [.ref b, .int (0 : Int32)]), (b, (.array .int), vs), (o, (.array .int), (fl 9 (ac (g1 []) 8)))]) 8 W18 rfl (by decide) (by decide) (by rw [fl_len]; decide) (by rw [fl_set]; rfl) d_p22m4_64 (fun T19 W20 => ?_)
  refine g_iinc (pc := 65) (ls' := #[.val (.ref a), .val (.ref o), .val (.int (8 : Int32)), .val (.int (8 : Int32)), .unset, .unset, .unset, .unset]) (1 : Int32) (by decide) W20 d_p22m4_65 rfl rfl ?_
  refine g_goto 49 (pc := 68) W20 d_p22m4_68 (by decide) (by decide) ?_
  refine g_iload_n (pc := 49) W20 d_p22m4_49 rfl ?_
  refine g_iload_n (pc := 50) W20 d_p22m4_50 rfl ?_
  refine g_icmpY 71 (pc := 51) W20 d_p22m4_51 (by decide) (by decide) (by decide) ?_
  refine g_aload_n (pc := 71) W20 d_p22m4_71 rfl rfl ?_
  refine g_iload_n (pc := 72) W20 d_p22m4_72 rfl ?_
  refine g_static (pc := 73) (Wt := 0) (argsL := [.ref o, .int (8 : Int32)]) (rest := []) (loc := [(o, (.array .int), (fl 9 (ac (g1 []) 8)))]) (rst := [(a, O_IntPairs, [.ref b, .int (0 : Int32)]), (b, (.array .int), vs)]) W20 (wd hw 34 rfl) (wd hw 35 rfl) (wd hw 36 rfl) (wd hw 37 rfl) (by decide) (c_cp l Z a0 hw o (ac (g1 []) 8)) ⟨[2, 0, 1], by decide, rfl⟩ rfl pd_AII__AI rfl rfl rfl (Nat.le_of_ble_eq_true rfl) (by decide) (by decide) (by decide) (by decide) d_p22m4_73 ?_
  rintro T22 _ _ ⟨b21, rfl, rfl⟩ W23
  have W24 := W23.re (os' := [(o, (.array .int), (fl 9 (ac (g1 []) 8))), (b21, (.array .int), (fl 8 (NX [] 0))), (a, O_IntPairs, [.ref b, .int (0 : Int32)]), (b, (.array .int), vs)]) rfl
  show Go p_ e_ bl_ _ (T22.setTop (mkF m_ 76 _ [.ref b21]))
  refine g_astore_n (pc := 76) (ls' := #[.val (.ref a), .val (.ref o), .val (.int (8 : Int32)), .val (.ref b21), .unset, .unset, .unset, .unset]) W24 d_p22m4_76 rfl rfl ?_
  refine g_iconst (pc := 77) (2 : Int32) (by decide) W24 d_p22m4_77 ?_
  refine g_aload_n (pc := 78) W24 d_p22m4_78 rfl rfl ?_
  refine g_getfield (pc := 79) (i := 2) (j := 1) (host := "") W24 (Or.inl (wd hw 17 rfl)) rfl rfl rfl d_p22m4_79 (fun T25 W26 => ?_)
  refine g_imul (pc := 82) W26 d_p22m4_82 ?_
  show Go p_ e_ bl_ _ (T25.setTop (mkF m_ 83 _ [.int (0 : Int32)]))
  refine g_newarray (pc := 83) (ty := .int) (vs := []) 0 W26 (wd hw 0 rfl) rfl (by decide) (by decide) (by decide) rfl d_p22m4_83 (by decide) (by decide) (fun T28 b27 W29 => ?_)
  have W30 := W29.re (os' := [(o, (.array .int), (fl 9 (ac (g1 []) 8))), (b21, (.array .int), (fl 8 (NX [] 0))), (a, O_IntPairs, [.ref b, .int (0 : Int32)]), (b, (.array .int), vs), (b27, (.array .int), [])]) rfl
  have W31 := W30.re (os' := [(o, (.array .int), (fl 9 (ac (g1 []) 8))), (b21, (.array .int), (fl 8 (NX [] 0))), (a, O_IntPairs, [.ref b, .int (0 : Int32)]), (b, (.array .int), vs), (b27, (.array .int), (fl 0 (HH [] 0)))]) rfl
  refine g_astore (pc := 85) (ls' := #[.val (.ref a), .val (.ref o), .val (.int (8 : Int32)), .val (.ref b21), .val (.ref b27), .unset, .unset, .unset]) W31 d_p22m4_85 rfl rfl ?_
  refine g_iconst (pc := 87) (0 : Int32) (by decide) W31 d_p22m4_87 ?_
  refine g_istore (pc := 88) (ls' := #[.val (.ref a), .val (.ref o), .val (.int (8 : Int32)), .val (.ref b21), .val (.ref b27), .val (.int (0 : Int32)), .unset, .unset]) W31 d_p22m4_88 rfl ?_
  refine g_iload (pc := 90) W31 d_p22m4_90 rfl ?_
  refine g_aload_n (pc := 92) W31 d_p22m4_92 rfl rfl ?_
  refine g_getfield (pc := 93) (i := 2) (j := 1) (host := "") W31 (Or.inl (wd hw 17 rfl)) rfl rfl rfl d_p22m4_93 (fun T32 W33 => ?_)
  refine g_icmpY 149 (pc := 96) W33 d_p22m4_96 (by decide) (by decide) (by decide) ?_
  refine g_aload (pc := 149) W33 d_p22m4_149 rfl rfl ?_
  exact g_areturn (pc := 151) rfl rfl W33 d_p22m4_151 (by decide) (by decide) ⟨b21, b27, rfl, rfl⟩
theorem d_p22m4_15 : decode prog_22_method_4_code 15 = .ok (.aload_n 1, 1) := by decide +kernel
theorem d_p22m4_16 : decode prog_22_method_4_code 16 = .ok (.aload_n 0, 1) := by decide +kernel
theorem d_p22m4_17 : decode prog_22_method_4_code 17 = .ok (.iload_n 3, 1) := by decide +kernel
theorem d_p22m4_18 : decode prog_22_method_4_code 18 = .ok (.invokevirtual 36, 3) := by decide +kernel
theorem d_p22m4_21 : decode prog_22_method_4_code 21 = .ok (.iconst 1, 1) := by decide +kernel
theorem d_p22m4_22 : decode prog_22_method_4_code 22 = .ok (.iadd, 1) := by decide +kernel
theorem d_p22m4_23 : decode prog_22_method_4_code 23 = .ok (.dup2, 1) := by decide +kernel
theorem d_p22m4_24 : decode prog_22_method_4_code 24 = .ok (.iaload, 1) := by decide +kernel
theorem d_p22m4_25 : decode prog_22_method_4_code 25 = .ok (.iconst 1, 1) := by decide +kernel
theorem d_p22m4_26 : decode prog_22_method_4_code 26 = .ok (.iadd, 1) := by decide +kernel
theorem d_p22m4_27 : decode prog_22_method_4_code 27 = .ok (.iastore, 1) := by decide +kernel
theorem d_p22m4_28 : decode prog_22_method_4_code 28 = .ok (.aload_n 1, 1) := by decide +kernel
theorem d_p22m4_29 : decode prog_22_method_4_code 29 = .ok (.aload_n 0, 1) := by decide +kernel
theorem d_p22m4_30 : decode prog_22_method_4_code 30 = .ok (.iload_n 3, 1) := by decide +kernel
theorem d_p22m4_31 : decode prog_22_method_4_code 31 = .ok (.invokevirtual 40, 3) := by decide +kernel
theorem d_p22m4_34 : decode prog_22_method_4_code 34 = .ok (.iconst 1, 1) := by decide +kernel
theorem d_p22m4_35 : decode prog_22_method_4_code 35 = .ok (.iadd, 1) := by decide +kernel
theorem d_p22m4_36 : decode prog_22_method_4_code 36 = .ok (.dup2, 1) := by decide +kernel
theorem d_p22m4_37 : decode prog_22_method_4_code 37 = .ok (.iaload, 1) := by decide +kernel
theorem d_p22m4_38 : decode prog_22_method_4_code 38 = .ok (.iconst 1, 1) := by decide +kernel
theorem d_p22m4_39 : decode prog_22_method_4_code 39 = .ok (.iadd, 1) := by decide +kernel
theorem d_p22m4_40 : decode prog_22_method_4_code 40 = .ok (.iastore, 1) := by decide +kernel
theorem d_p22m4_41 : decode prog_22_method_4_code 41 = .ok (.iinc 3 1, 3) := by decide +kernel
theorem d_p22m4_44 : decode prog_22_method_4_code 44 = .ok (.goto (-37), 3) := by decide +kernel
theorem d_p22m4_99 : decode prog_22_method_4_code 99 = .ok (.aload_n 0, 1) := by decide +kernel
theorem d_p22m4_100 : decode prog_22_method_4_code 100 = .ok (.iload 5, 2) := by decide +kernel
theorem d_p22m4_102 : decode prog_22_method_4_code 102 = .ok (.invokevirtual 36, 3) := by decide +kernel
theorem d_p22m4_105 : decode prog_22_method_4_code 105 = .ok (.istore 6, 2) := by decide +kernel
theorem d_p22m4_107 : decode prog_22_method_4_code 107 = .ok (.aload_n 0, 1) := by decide +kernel
theorem d_p22m4_108 : decode prog_22_method_4_code 108 = .ok (.iload 5, 2) := by decide +kernel
theorem d_p22m4_110 : decode prog_22_method_4_code 110 = .ok (.invokevirtual 40, 3) := by decide +kernel
theorem d_p22m4_113 : decode prog_22_method_4_code 113 = .ok (.istore 7, 2) := by decide +kernel
theorem d_p22m4_115 : decode prog_22_method_4_code 115 = .ok (.aload 4, 2) := by decide +kernel
theorem d_p22m4_117 : decode prog_22_method_4_code 117 = .ok (.aload_n 3, 1) := by decide +kernel
theorem d_p22m4_118 : decode prog_22_method_4_code 118 = .ok (.iload 6, 2) := by decide +kernel
theorem d_p22m4_120 : decode prog_22_method_4_code 120 = .ok (.dup2, 1) := by decide +kernel
theorem d_p22m4_121 : decode prog_22_method_4_code 121 = .ok (.iaload, 1) := by decide +kernel
theorem d_p22m4_122 : decode prog_22_method_4_code 122 = .ok (.dup_x2, 1) := by decide +kernel
theorem d_p22m4_123 : decode prog_22_method_4_code 123 = .ok (.iconst 1, 1) := by decide +kernel
theorem d_p22m4_124 : decode prog_22_method_4_code 124 = .ok (.iadd, 1) := by decide +kernel
theorem d_p22m4_125 : decode prog_22_method_4_code 125 = .ok (.iastore, 1) := by decide +kernel
theorem d_p22m4_126 : decode prog_22_method_4_code 126 = .ok (.iload 7, 2) := by decide +kernel
theorem d_p22m4_128 : decode prog_22_method_4_code 128 = .ok (.iastore, 1) := by decide +kernel
theorem d_p22m4_129 : decode prog_22_method_4_code 129 = .ok (.aload 4, 2) := by decide +kernel
theorem d_p22m4_131 : decode prog_22_method_4_code 131 = .ok (.aload_n 3, 1) := by decide +kernel
theorem d_p22m4_132 : decode prog_22_method_4_code 132 = .ok (.iload 7, 2) := by decide +kernel
theorem d_p22m4_134 : decode prog_22_method_4_code 134 = .ok (.dup2, 1) := by decide +kernel
theorem d_p22m4_135 : decode prog_22_method_4_code 135 = .ok (.iaload, 1) := by decide +kernel
theorem d_p22m4_136 : decode prog_22_method_4_code 136 = .ok (.dup_x2, 1) := by decide +kernel
theorem d_p22m4_137 : decode prog_22_method_4_code 137 = .ok (.iconst 1, 1) := by decide +kernel
theorem d_p22m4_138 : decode prog_22_method_4_code 138 = .ok (.iadd, 1) := by decide +kernel
theorem d_p22m4_139 : decode prog_22_method_4_code 139 = .ok (.iastore, 1) := by decide +kernel
theorem d_p22m4_140 : decode prog_22_method_4_code 140 = .ok (.iload 6, 2) := by decide +kernel
theorem d_p22m4_142 : decode prog_22_method_4_code 142 = .ok (.iastore, 1) := by decide +kernel
theorem d_p22m4_143 : decode prog_22_method_4_code 143 = .ok (.iinc 5 1, 3) := by decide +kernel
theorem d_p22m4_146 : decode prog_22_method_4_code 146 = .ok (.goto (-56), 3) := by decide +kernel
theorem c_part1 (l : Launch) (Z : State) (a0 : Array Value) (hw : ∀ d ∈ tables_1, d.before a0 Z = true) {B : Nat} (a b o : Addr) (vs : List Value) (n0 n1 : Nat) (h0 : n0 < 8) (h1 : n1 < 8) (q0 : vs[0]? = some (.int (Int32.ofNat n0))) (q1 : vs[1]? = some (.int (Int32.ofNat n1))) (hp0 : ¬ ps [n0, n1] 0 < 0) (hq0 : (ps [n0, n1] 0).toNatClampNeg < 2) (hp1 : ¬ ps [n0, n1] 1 < 0) (hq1 : (ps [n0, n1] 1).toNatClampNeg < 2) :
    Con l Z FM B (⟨"com/example/metanode/metanode/graph/IntPairs", "partners", "([I)[I"⟩ : MethodName) prog_22_method_4_code 8 (some (.array .int)) ({ frames := 2, cells := 2, slots := 10, locals := 32 } : Room) [] #[.ref a, .ref o] [(a, O_IntPairs, [.ref b, .int (1 : Int32)]), (b, (.array .int), vs), (o, (.array .int), (fl 9 zf))] (fun rv_ ro_ => ∃ b33, ∃ b39, rv_ = some (.ref b39) ∧ ro_ = [(a, O_IntPairs, [.ref b, .int (1 : Int32)]), (b, (.array .int), vs), (o, (.array .int), (fl 9 (ac (g1 [n0, n1]) 8))), (b33, (.array .int), (fl 8 (NX [n0, n1] 2))), (b39, (.array .int), (fl 2 (HH [n0, n1] 2)))]) := by
  refine Con.of (plainFor_of_name (by first | (simp [plainName, overriddenIn]; done) | decide +kernel)) (ls := #[.val (.ref a), .val (.ref o), .unset, .unset, .unset, .unset, .unset, .unset]) (fun m => by first | (simp [entryFrame, mkF, argsToLocals, Value.category]; done) | rfl) ?_
  intro p_ e_ h_ s_ m_ bl_ me_ c_ T0 W0
  refine g_aload_n (pc := 0) W0 d_p22m4_0 rfl rfl ?_
  refine g_arraylength (pc := 1) (i := 2) (9 : Int32) W0 rfl (by rw [fl_len]; rfl) d_p22m4_1 ?_
  refine g_iconst (pc := 2) (1 : Int32) (by decide) W0 d_p22m4_2 ?_
  refine g_isub (pc := 3) W0 d_p22m4_3 ?_
  show Go p_ e_ bl_ _ (T0.setTop (mkF m_ 4 _ [.int (8 : Int32)]))
  refine g_istore_n (pc := 4) (ls' := #[.val (.ref a), .val (.ref o), .val (.int (8 : Int32)), .unset, .unset, .unset, .unset, .unset]) W0 d_p22m4_4 rfl ?_
  have W1 := W0.re (os' := [(a, O_IntPairs, [.ref b, .int (1 : Int32)]), (b, (.array .int), vs), (o, (.array .int), (fl 9 (g1 [])))]) rfl
  refine g_iconst (pc := 5) (0 : Int32) (by decide) W1 d_p22m4_5 ?_
  refine g_istore_n (pc := 6) (ls' := #[.val (.ref a), .val (.ref o), .val (.int (8 : Int32)), .val (.int (0 : Int32)), .unset, .unset, .unset, .unset]) W1 d_p22m4_6 rfl ?_
  refine g_iload_n (pc := 7) W1 d_p22m4_7 rfl ?_
  refine g_aload_n (pc := 8) W1 d_p22m4_8 rfl rfl ?_
  refine g_getfield (pc := 9) (i := 0) (j := 1) (host := "") W1 (Or.inl (wd hw 17 rfl)) rfl rfl rfl d_p22m4_9 (fun T2 W3 => ?_)
  refine g_icmpN (pc := 12) W3 d_p22m4_12 (by decide) ?_
  refine g_aload_n (pc := 15) W3 d_p22m4_15 rfl rfl ?_
  refine g_aload_n (pc := 16) W3 d_p22m4_16 rfl rfl ?_
  refine g_iload_n (pc := 17) W3 d_p22m4_17 rfl ?_
  refine g_virtual (i := 0) (pc := 18) (Wt := 1) (argsL := [.int (0 : Int32)]) (rest := [.ref o]) (loc := [(a, O_IntPairs, [.ref b, .int (1 : Int32)]), (b, (.array .int), vs)]) (rst := [(o, (.array .int), (fl 9 (g1 [])))]) W3 (wd hw 24 rfl) (wd hw 26 rfl) (wd hw 3 rfl) (wd hw 28 rfl) (wd hw 25 rfl) (wd hw 27 rfl) rfl (by decide) (c_first l Z a0 hw a b (1 : Int32) (0 : Int32) (Int32.ofNat n0) vs (by decide) q0) ⟨[0, 1, 2], by decide, rfl⟩ rfl pd_I__I rfl rfl rfl (Nat.le_of_ble_eq_true rfl) (by decide) (by decide) (by decide) (by decide) d_p22m4_18 ?_
  rintro T4 _ _ ⟨rfl, rfl⟩ W5
  have W6 := W5.re (os' := [(a, O_IntPairs, [.ref b, .int (1 : Int32)]), (b, (.array .int), vs), (o, (.array .int), (fl 9 (g1 [])))]) rfl
  show Go p_ e_ bl_ _ (T4.setTop (mkF m_ 21 _ [.int (Int32.ofNat n0), .ref o]))
  refine g_iconst (pc := 21) (1 : Int32) (by decide) W6 d_p22m4_21 ?_
  refine g_iadd (pc := 22) W6 d_p22m4_22 ?_
  refine g_dup2 (pc := 23) W6 d_p22m4_23 rfl rfl ?_
  refine g_iaload (pc := 24) (i := 2) (v := .int (g1 [] (n0 + 1))) W6 rfl (own_ix h0).2.2.1 (by rw [(own_ix h0).2.2.2]; exact fl_get (by omega)) d_p22m4_24 ?_
  refine g_iconst (pc := 25) (1 : Int32) (by decide) W6 d_p22m4_25 ?_
  refine g_iadd (pc := 26) W6 d_p22m4_26 ?_
  refine g_iastore (pc := 27) (i := 2) (os' := [(a, O_IntPairs, [.ref b, .int (1 : Int32)]), (b, (.array .int), vs), (o, (.array .int), (fl 9 (g1 [n0])))]) (n0 + 1) W6 rfl (own_ix h0).2.2.1 (own_ix h0).2.2.2 (by rw [fl_len]; omega) (by rw [fl_set]; rfl) d_p22m4_27 (fun T7 W8 => ?_)
  refine g_aload_n (pc := 28) W8 d_p22m4_28 rfl rfl ?_
  refine g_aload_n (pc := 29) W8 d_p22m4_29 rfl rfl ?_
  refine g_iload_n (pc := 30) W8 d_p22m4_30 rfl ?_
  refine g_virtual (i := 0) (pc := 31) (Wt := 1) (argsL := [.int (0 : Int32)]) (rest := [.ref o]) (loc := [(a, O_IntPairs, [.ref b, .int (1 : Int32)]), (b, (.array .int), vs)]) (rst := [(o, (.array .int), (fl 9 (g1 [n0])))]) W8 (wd hw 29 rfl) (wd hw 31 rfl) (wd hw 3 rfl) (wd hw 33 rfl) (wd hw 30 rfl) (wd hw 32 rfl) rfl (by decide) (c_second l Z a0 hw a b (1 : Int32) (0 : Int32) (Int32.ofNat n1) vs (by decide) q1) ⟨[0, 1, 2], by decide, rfl⟩ rfl pd_I__I rfl rfl rfl (Nat.le_of_ble_eq_true rfl) (by decide) (by decide) (by decide) (by decide) d_p22m4_31 ?_
  rintro T9 _ _ ⟨rfl, rfl⟩ W10
  have W11 := W10.re (os' := [(a, O_IntPairs, [.ref b, .int (1 : Int32)]), (b, (.array .int), vs), (o, (.array .int), (fl 9 (g1 [n0])))]) rfl
  show Go p_ e_ bl_ _ (T9.setTop (mkF m_ 34 _ [.int (Int32.ofNat n1), .ref o]))
  refine g_iconst (pc := 34) (1 : Int32) (by decide) W11 d_p22m4_34 ?_
  refine g_iadd (pc := 35) W11 d_p22m4_35 ?_
  refine g_dup2 (pc := 36) W11 d_p22m4_36 rfl rfl ?_
  refine g_iaload (pc := 37) (i := 2) (v := .int (g1 [n0] (n1 + 1))) W11 rfl (own_ix h1).2.2.1 (by rw [(own_ix h1).2.2.2]; exact fl_get (by omega)) d_p22m4_37 ?_
  refine g_iconst (pc := 38) (1 : Int32) (by decide) W11 d_p22m4_38 ?_
  refine g_iadd (pc := 39) W11 d_p22m4_39 ?_
  refine g_iastore (pc := 40) (i := 2) (os' := [(a, O_IntPairs, [.ref b, .int (1 : Int32)]), (b, (.array .int), vs), (o, (.array .int), (fl 9 (g1 [n0, n1])))]) (n1 + 1) W11 rfl (own_ix h1).2.2.1 (own_ix h1).2.2.2 (by rw [fl_len]; omega) (by rw [fl_set]; rfl) d_p22m4_40 (fun T12 W13 => ?_)
  refine g_iinc (pc := 41) (ls' := #[.val (.ref a), .val (.ref o), .val (.int (8 : Int32)), .val (.int (1 : Int32)), .unset, .unset, .unset, .unset]) (1 : Int32) (by decide) W13 d_p22m4_41 rfl rfl ?_
  refine g_goto 7 (pc := 44) W13 d_p22m4_44 (by decide) (by decide) ?_
  refine g_iload_n (pc := 7) W13 d_p22m4_7 rfl ?_
  refine g_aload_n (pc := 8) W13 d_p22m4_8 rfl rfl ?_
  refine g_getfield (pc := 9) (i := 0) (j := 1) (host := "") W13 (Or.inl (wd hw 17 rfl)) rfl rfl rfl d_p22m4_9 (fun T14 W15 => ?_)
  refine g_icmpY 47 (pc := 12) W15 d_p22m4_12 (by decide) (by decide) (by decide) ?_
  have W16 := W15.re (os' := [(a, O_IntPairs, [.ref b, .int (1 : Int32)]), (b, (.array .int), vs), (o, (.array .int), (fl 9 (ac (g1 [n0, n1]) 0)))]) rfl
  refine g_iconst (pc := 47) (0 : Int32) (by decide) W16 d_p22m4_47 ?_
  refine g_istore_n (pc := 48) (ls' := #[.val (.ref a), .val (.ref o), .val (.int (8 : Int32)), .val (.int (0 : Int32)), .unset, .unset, .unset, .unset]) W16 d_p22m4_48 rfl ?_
  refine g_iload_n (pc := 49) W16 d_p22m4_49 rfl ?_
  refine g_iload_n (pc := 50) W16 d_p22m4_50 rfl ?_
  refine g_icmpN (pc := 51) W16 d_p22m4_51 (by decide) ?_
  refine g_aload_n (pc := 54) W16 d_p22m4_54 rfl rfl ?_
  refine g_iload_n (pc := 55) W16 d_p22m4_55 rfl ?_
  refine g_iconst (pc := 56) (1 : Int32) (by decide) W16 d_p22m4_56 ?_
  refine g_iadd (pc := 57) W16 d_p22m4_57 ?_
  show Go p_ e_ bl_ _ (T14.setTop (mkF m_ 58 _ [.int (1 : Int32), .ref o]))
  refine g_dup2 (pc := 58) W16 d_p22m4_58 rfl rfl ?_
  refine g_iaload (pc := 59) (i := 2) (v := .int ((ac (g1 [n0, n1]) 0) 1)) W16 rfl (by decide) (fl_get (i := 1) (by decide)) d_p22m4_59 ?_
  refine g_aload_n (pc := 60) W16 d_p22m4_60 rfl rfl ?_
  refine g_iload_n (pc := 61) W16 d_p22m4_61 rfl ?_
  refine g_iaload (pc := 62) (i := 2) (v := .int ((ac (g1 [n0, n1]) 0) 0)) W16 rfl (by decide) (fl_get (i := 0) (by decide)) d_p22m4_62 ?_
  refine g_iadd (pc := 63) W16 d_p22m4_63 ?_
  refine g_iastore (pc := 64) (i := 2) (os' := [(a, O_IntPairs, [.ref b, .int (1 : Int32)]), (b, (.array .int), vs), (o, (.array .int), (fl 9 (ac (g1 [n0, n1]) 1)))]) 1 W16 rfl (by decide) (by decide) (by rw [fl_len]; decide) (by rw [fl_set]; rfl) d_p22m4_64 (fun T17 W18 => ?_)
  refine g_iinc (pc := 65) (ls' := #[.val (.ref a), .val (.ref o), .val (.int (8 : Int32)), .val (.int (1 : Int32)), .unset, .unset, .unset, .unset]) (1 : Int32) (by decide) W18 d_p22m4_65 rfl rfl ?_
  refine g_goto 49 (pc := 68) W18 d_p22m4_68 (by decide) (by decide) ?_
  refine g_iload_n (pc := 49) W18 d_p22m4_49 rfl ?_
  refine g_iload_n (pc := 50) W18 d_p22m4_50 rfl ?_
  refine g_icmpN (pc := 51) W18 d_p22m4_51 (by decide) ?_
  refine g_aload_n (pc := 54) W18 d_p22m4_54 rfl rfl ?_
  refine g_iload_n (pc := 55) W18 d_p22m4_55 rfl ?_
  refine g_iconst (pc := 56) (1 : Int32) (by decide) W18 d_p22m4_56 ?_
  refine g_iadd (pc := 57) W18 d_p22m4_57 ?_
  show Go p_ e_ bl_ _ (T17.setTop (mkF m_ 58 _ [.int (2 : Int32), .ref o]))
  refine g_dup2 (pc := 58) W18 d_p22m4_58 rfl rfl ?_
  refine g_iaload (pc := 59) (i := 2) (v := .int ((ac (g1 [n0, n1]) 1) 2)) W18 rfl (by decide) (fl_get (i := 2) (by decide)) d_p22m4_59 ?_
  refine g_aload_n (pc := 60) W18 d_p22m4_60 rfl rfl ?_
  refine g_iload_n (pc := 61) W18 d_p22m4_61 rfl ?_
  refine g_iaload (pc := 62) (i := 2) (v := .int ((ac (g1 [n0, n1]) 1) 1)) W18 rfl (by decide) (fl_get (i := 1) (by decide)) d_p22m4_62 ?_
  refine g_iadd (pc := 63) W18 d_p22m4_63 ?_
  refine g_iastore (pc := 64) (i := 2) (os' := [(a, O_IntPairs, [.ref b, .int (1 : Int32)]), (b, (.array .int), vs), (o, (.array .int), (fl 9 (ac (g1 [n0, n1]) 2)))]) 2 W18 rfl (by decide) (by decide) (by rw [fl_len]; decide) (by rw [fl_set]; rfl) d_p22m4_64 (fun T19 W20 => ?_)
  refine g_iinc (pc := 65) (ls' := #[.val (.ref a), .val (.ref o), .val (.int (8 : Int32)), .val (.int (2 : Int32)), .unset, .unset, .unset, .unset]) (1 : Int32) (by decide) W20 d_p22m4_65 rfl rfl ?_
  refine g_goto 49 (pc := 68) W20 d_p22m4_68 (by decide) (by decide) ?_
  refine g_iload_n (pc := 49) W20 d_p22m4_49 rfl ?_
  refine g_iload_n (pc := 50) W20 d_p22m4_50 rfl ?_
  refine g_icmpN (pc := 51) W20 d_p22m4_51 (by decide) ?_
  refine g_aload_n (pc := 54) W20 d_p22m4_54 rfl rfl ?_
  refine g_iload_n (pc := 55) W20 d_p22m4_55 rfl ?_
  refine g_iconst (pc := 56) (1 : Int32) (by decide) W20 d_p22m4_56 ?_
  refine g_iadd (pc := 57) W20 d_p22m4_57 ?_
  show Go p_ e_ bl_ _ (T19.setTop (mkF m_ 58 _ [.int (3 : Int32), .ref o]))
  refine g_dup2 (pc := 58) W20 d_p22m4_58 rfl rfl ?_
  refine g_iaload (pc := 59) (i := 2) (v := .int ((ac (g1 [n0, n1]) 2) 3)) W20 rfl (by decide) (fl_get (i := 3) (by decide)) d_p22m4_59 ?_
  refine g_aload_n (pc := 60) W20 d_p22m4_60 rfl rfl ?_
  refine g_iload_n (pc := 61) W20 d_p22m4_61 rfl ?_
  refine g_iaload (pc := 62) (i := 2) (v := .int ((ac (g1 [n0, n1]) 2) 2)) W20 rfl (by decide) (fl_get (i := 2) (by decide)) d_p22m4_62 ?_
  refine g_iadd (pc := 63) W20 d_p22m4_63 ?_
  refine g_iastore (pc := 64) (i := 2) (os' := [(a, O_IntPairs, [.ref b, .int (1 : Int32)]), (b, (.array .int), vs), (o, (.array .int), (fl 9 (ac (g1 [n0, n1]) 3)))]) 3 W20 rfl (by decide) (by decide) (by rw [fl_len]; decide) (by rw [fl_set]; rfl) d_p22m4_64 (fun T21 W22 => ?_)
  refine g_iinc (pc := 65) (ls' := #[.val (.ref a), .val (.ref o), .val (.int (8 : Int32)), .val (.int (3 : Int32)), .unset, .unset, .unset, .unset]) (1 : Int32) (by decide) W22 d_p22m4_65 rfl rfl ?_
  refine g_goto 49 (pc := 68) W22 d_p22m4_68 (by decide) (by decide) ?_
  refine g_iload_n (pc := 49) W22 d_p22m4_49 rfl ?_
  refine g_iload_n (pc := 50) W22 d_p22m4_50 rfl ?_
  refine g_icmpN (pc := 51) W22 d_p22m4_51 (by decide) ?_
  refine g_aload_n (pc := 54) W22 d_p22m4_54 rfl rfl ?_
  refine g_iload_n (pc := 55) W22 d_p22m4_55 rfl ?_
  refine g_iconst (pc := 56) (1 : Int32) (by decide) W22 d_p22m4_56 ?_
  refine g_iadd (pc := 57) W22 d_p22m4_57 ?_
  show Go p_ e_ bl_ _ (T21.setTop (mkF m_ 58 _ [.int (4 : Int32), .ref o]))
  refine g_dup2 (pc := 58) W22 d_p22m4_58 rfl rfl ?_
  refine g_iaload (pc := 59) (i := 2) (v := .int ((ac (g1 [n0, n1]) 3) 4)) W22 rfl (by decide) (fl_get (i := 4) (by decide)) d_p22m4_59 ?_
  refine g_aload_n (pc := 60) W22 d_p22m4_60 rfl rfl ?_
  refine g_iload_n (pc := 61) W22 d_p22m4_61 rfl ?_
  refine g_iaload (pc := 62) (i := 2) (v := .int ((ac (g1 [n0, n1]) 3) 3)) W22 rfl (by decide) (fl_get (i := 3) (by decide)) d_p22m4_62 ?_
  refine g_iadd (pc := 63) W22 d_p22m4_63 ?_
  refine g_iastore (pc := 64) (i := 2) (os' := [(a, O_IntPairs, [.ref b, .int (1 : Int32)]), (b, (.array .int), vs), (o, (.array .int), (fl 9 (ac (g1 [n0, n1]) 4)))]) 4 W22 rfl (by decide) (by decide) (by rw [fl_len]; decide) (by rw [fl_set]; rfl) d_p22m4_64 (fun T23 W24 => ?_)
  refine g_iinc (pc := 65) (ls' := #[.val (.ref a), .val (.ref o), .val (.int (8 : Int32)), .val (.int (4 : Int32)), .unset, .unset, .unset, .unset]) (1 : Int32) (by decide) W24 d_p22m4_65 rfl rfl ?_
  refine g_goto 49 (pc := 68) W24 d_p22m4_68 (by decide) (by decide) ?_
  refine g_iload_n (pc := 49) W24 d_p22m4_49 rfl ?_
  refine g_iload_n (pc := 50) W24 d_p22m4_50 rfl ?_
  refine g_icmpN (pc := 51) W24 d_p22m4_51 (by decide) ?_
  refine g_aload_n (pc := 54) W24 d_p22m4_54 rfl rfl ?_
  refine g_iload_n (pc := 55) W24 d_p22m4_55 rfl ?_
  refine g_iconst (pc := 56) (1 : Int32) (by decide) W24 d_p22m4_56 ?_
  refine g_iadd (pc := 57) W24 d_p22m4_57 ?_
  show Go p_ e_ bl_ _ (T23.setTop (mkF m_ 58 _ [.int (5 : Int32), .ref o]))
  refine g_dup2 (pc := 58) W24 d_p22m4_58 rfl rfl ?_
  refine g_iaload (pc := 59) (i := 2) (v := .int ((ac (g1 [n0, n1]) 4) 5)) W24 rfl (by decide) (fl_get (i := 5) (by decide)) d_p22m4_59 ?_
  refine g_aload_n (pc := 60) W24 d_p22m4_60 rfl rfl ?_
  refine g_iload_n (pc := 61) W24 d_p22m4_61 rfl ?_
  refine g_iaload (pc := 62) (i := 2) (v := .int ((ac (g1 [n0, n1]) 4) 4)) W24 rfl (by decide) (fl_get (i := 4) (by decide)) d_p22m4_62 ?_
  refine g_iadd (pc := 63) W24 d_p22m4_63 ?_
  refine g_iastore (pc := 64) (i := 2) (os' := [(a, O_IntPairs, [.ref b, .int (1 : Int32)]), (b, (.array .int), vs), (o, (.array .int), (fl 9 (ac (g1 [n0, n1]) 5)))]) 5 W24 rfl (by decide) (by decide) (by rw [fl_len]; decide) (by rw [fl_set]; rfl) d_p22m4_64 (fun T25 W26 => ?_)
  refine g_iinc (pc := 65) (ls' := #[.val (.ref a), .val (.ref o), .val (.int (8 : Int32)), .val (.int (5 : Int32)), .unset, .unset, .unset, .unset]) (1 : Int32) (by decide) W26 d_p22m4_65 rfl rfl ?_
  refine g_goto 49 (pc := 68) W26 d_p22m4_68 (by decide) (by decide) ?_
  refine g_iload_n (pc := 49) W26 d_p22m4_49 rfl ?_
  refine g_iload_n (pc := 50) W26 d_p22m4_50 rfl ?_
  refine g_icmpN (pc := 51) W26 d_p22m4_51 (by decide) ?_
  refine g_aload_n (pc := 54) W26 d_p22m4_54 rfl rfl ?_
  refine g_iload_n (pc := 55) W26 d_p22m4_55 rfl ?_
  refine g_iconst (pc := 56) (1 : Int32) (by decide) W26 d_p22m4_56 ?_
  refine g_iadd (pc := 57) W26 d_p22m4_57 ?_
  show Go p_ e_ bl_ _ (T25.setTop (mkF m_ 58 _ [.int (6 : Int32), .ref o]))
  refine g_dup2 (pc := 58) W26 d_p22m4_58 rfl rfl ?_
  refine g_iaload (pc := 59) (i := 2) (v := .int ((ac (g1 [n0, n1]) 5) 6)) W26 rfl (by decide) (fl_get (i := 6) (by decide)) d_p22m4_59 ?_
  refine g_aload_n (pc := 60) W26 d_p22m4_60 rfl rfl ?_
  refine g_iload_n (pc := 61) W26 d_p22m4_61 rfl ?_
  refine g_iaload (pc := 62) (i := 2) (v := .int ((ac (g1 [n0, n1]) 5) 5)) W26 rfl (by decide) (fl_get (i := 5) (by decide)) d_p22m4_62 ?_
  refine g_iadd (pc := 63) W26 d_p22m4_63 ?_
  refine g_iastore (pc := 64) (i := 2) (os' := [(a, O_IntPairs, [.ref b, .int (1 : Int32)]), (b, (.array .int), vs), (o, (.array .int), (fl 9 (ac (g1 [n0, n1]) 6)))]) 6 W26 rfl (by decide) (by decide) (by rw [fl_len]; decide) (by rw [fl_set]; rfl) d_p22m4_64 (fun T27 W28 => ?_)
  refine g_iinc (pc := 65) (ls' := #[.val (.ref a), .val (.ref o), .val (.int (8 : Int32)), .val (.int (6 : Int32)), .unset, .unset, .unset, .unset]) (1 : Int32) (by decide) W28 d_p22m4_65 rfl rfl ?_
  refine g_goto 49 (pc := 68) W28 d_p22m4_68 (by decide) (by decide) ?_
  refine g_iload_n (pc := 49) W28 d_p22m4_49 rfl ?_
  refine g_iload_n (pc := 50) W28 d_p22m4_50 rfl ?_
  refine g_icmpN (pc := 51) W28 d_p22m4_51 (by decide) ?_
  refine g_aload_n (pc := 54) W28 d_p22m4_54 rfl rfl ?_
  refine g_iload_n (pc := 55) W28 d_p22m4_55 rfl ?_
  refine g_iconst (pc := 56) (1 : Int32) (by decide) W28 d_p22m4_56 ?_
  refine g_iadd (pc := 57) W28 d_p22m4_57 ?_
  show Go p_ e_ bl_ _ (T27.setTop (mkF m_ 58 _ [.int (7 : Int32), .ref o]))
  refine g_dup2 (pc := 58) W28 d_p22m4_58 rfl rfl ?_
  refine g_iaload (pc := 59) (i := 2) (v := .int ((ac (g1 [n0, n1]) 6) 7)) W28 rfl (by decide) (fl_get (i := 7) (by decide)) d_p22m4_59 ?_
  refine g_aload_n (pc := 60) W28 d_p22m4_60 rfl rfl ?_
  refine g_iload_n (pc := 61) W28 d_p22m4_61 rfl ?_
  refine g_iaload (pc := 62) (i := 2) (v := .int ((ac (g1 [n0, n1]) 6) 6)) W28 rfl (by decide) (fl_get (i := 6) (by decide)) d_p22m4_62 ?_
  refine g_iadd (pc := 63) W28 d_p22m4_63 ?_
  refine g_iastore (pc := 64) (i := 2) (os' := [(a, O_IntPairs, [.ref b, .int (1 : Int32)]), (b, (.array .int), vs), (o, (.array .int), (fl 9 (ac (g1 [n0, n1]) 7)))]) 7 W28 rfl (by decide) (by decide) (by rw [fl_len]; decide) (by rw [fl_set]; rfl) d_p22m4_64 (fun T29 W30 => ?_)
  refine g_iinc (pc := 65) (ls' := #[.val (.ref a), .val (.ref o), .val (.int (8 : Int32)), .val (.int (7 : Int32)), .unset, .unset, .unset, .unset]) (1 : Int32) (by decide) W30 d_p22m4_65 rfl rfl ?_
  refine g_goto 49 (pc := 68) W30 d_p22m4_68 (by decide) (by decide) ?_
  refine g_iload_n (pc := 49) W30 d_p22m4_49 rfl ?_
  refine g_iload_n (pc := 50) W30 d_p22m4_50 rfl ?_
  refine g_icmpN (pc := 51) W30 d_p22m4_51 (by decide) ?_
  refine g_aload_n (pc := 54) W30 d_p22m4_54 rfl rfl ?_
  refine g_iload_n (pc := 55) W30 d_p22m4_55 rfl ?_
  refine g_iconst (pc := 56) (1 : Int32) (by decide) W30 d_p22m4_56 ?_
  refine g_iadd (pc := 57) W30 d_p22m4_57 ?_
  show Go p_ e_ bl_ _ (T29.setTop (mkF m_ 58 _ [.int (8 : Int32), .ref o]))
  refine g_dup2 (pc := 58) W30 d_p22m4_58 rfl rfl ?_
  refine g_iaload (pc := 59) (i := 2) (v := .int ((ac (g1 [n0, n1]) 7) 8)) W30 rfl (by decide) (fl_get (i := 8) (by decide)) d_p22m4_59 ?_
  refine g_aload_n (pc := 60) W30 d_p22m4_60 rfl rfl ?_
  refine g_iload_n (pc := 61) W30 d_p22m4_61 rfl ?_
  refine g_iaload (pc := 62) (i := 2) (v := .int ((ac (g1 [n0, n1]) 7) 7)) W30 rfl (by decide) (fl_get (i := 7) (by decide)) d_p22m4_62 ?_
  refine g_iadd (pc := 63) W30 d_p22m4_63 ?_
  refine g_iastore (pc := 64) (i := 2) (os' := [(a, O_IntPairs, [.ref b, .int (1 : Int32)]), (b, (.array .int), vs), (o, (.array .int), (fl 9 (ac (g1 [n0, n1]) 8)))]) 8 W30 rfl (by decide) (by decide) (by rw [fl_len]; decide) (by rw [fl_set]; rfl) d_p22m4_64 (fun T31 W32 => ?_)
  refine g_iinc (pc := 65) (ls' := #[.val (.ref a), .val (.ref o), .val (.int (8 : Int32)), .val (.int (8 : Int32)), .unset, .unset, .unset, .unset]) (1 : Int32) (by decide) W32 d_p22m4_65 rfl rfl ?_
  refine g_goto 49 (pc := 68) W32 d_p22m4_68 (by decide) (by decide) ?_
  refine g_iload_n (pc := 49) W32 d_p22m4_49 rfl ?_
  refine g_iload_n (pc := 50) W32 d_p22m4_50 rfl ?_
  refine g_icmpY 71 (pc := 51) W32 d_p22m4_51 (by decide) (by decide) (by decide) ?_
  refine g_aload_n (pc := 71) W32 d_p22m4_71 rfl rfl ?_
  refine g_iload_n (pc := 72) W32 d_p22m4_72 rfl ?_
  refine g_static (pc := 73) (Wt := 0) (argsL := [.ref o, .int (8 : Int32)]) (rest := []) (loc := [(o, (.array .int), (fl 9 (ac (g1 [n0, n1]) 8)))]) (rst := [(a, O_IntPairs, [.ref b, .int (1 : Int32)]), (b, (.array .int), vs)]) W32 (wd hw 34 rfl) (wd hw 35 rfl) (wd hw 36 rfl) (wd hw 37 rfl) (by decide) (c_cp l Z a0 hw o (ac (g1 [n0, n1]) 8)) ⟨[2, 0, 1], by decide, rfl⟩ rfl pd_AII__AI rfl rfl rfl (Nat.le_of_ble_eq_true rfl) (by decide) (by decide) (by decide) (by decide) d_p22m4_73 ?_
  rintro T34 _ _ ⟨b33, rfl, rfl⟩ W35
  have W36 := W35.re (os' := [(o, (.array .int), (fl 9 (ac (g1 [n0, n1]) 8))), (b33, (.array .int), (fl 8 (NX [n0, n1] 0))), (a, O_IntPairs, [.ref b, .int (1 : Int32)]), (b, (.array .int), vs)]) rfl
  show Go p_ e_ bl_ _ (T34.setTop (mkF m_ 76 _ [.ref b33]))
  refine g_astore_n (pc := 76) (ls' := #[.val (.ref a), .val (.ref o), .val (.int (8 : Int32)), .val (.ref b33), .unset, .unset, .unset, .unset]) W36 d_p22m4_76 rfl rfl ?_
  refine g_iconst (pc := 77) (2 : Int32) (by decide) W36 d_p22m4_77 ?_
  refine g_aload_n (pc := 78) W36 d_p22m4_78 rfl rfl ?_
  refine g_getfield (pc := 79) (i := 2) (j := 1) (host := "") W36 (Or.inl (wd hw 17 rfl)) rfl rfl rfl d_p22m4_79 (fun T37 W38 => ?_)
  refine g_imul (pc := 82) W38 d_p22m4_82 ?_
  show Go p_ e_ bl_ _ (T37.setTop (mkF m_ 83 _ [.int (2 : Int32)]))
  refine g_newarray (pc := 83) (ty := .int) (vs := [.int (0 : Int32), .int (0 : Int32)]) 2 W38 (wd hw 0 rfl) rfl (by decide) (by decide) (by decide) rfl d_p22m4_83 (by decide) (by decide) (fun T40 b39 W41 => ?_)
  have W42 := W41.re (os' := [(o, (.array .int), (fl 9 (ac (g1 [n0, n1]) 8))), (b33, (.array .int), (fl 8 (NX [n0, n1] 0))), (a, O_IntPairs, [.ref b, .int (1 : Int32)]), (b, (.array .int), vs), (b39, (.array .int), [.int (0 : Int32), .int (0 : Int32)])]) rfl
  have W43 := W42.re (os' := [(o, (.array .int), (fl 9 (ac (g1 [n0, n1]) 8))), (b33, (.array .int), (fl 8 (NX [n0, n1] 0))), (a, O_IntPairs, [.ref b, .int (1 : Int32)]), (b, (.array .int), vs), (b39, (.array .int), (fl 2 (HH [n0, n1] 0)))]) rfl
  refine g_astore (pc := 85) (ls' := #[.val (.ref a), .val (.ref o), .val (.int (8 : Int32)), .val (.ref b33), .val (.ref b39), .unset, .unset, .unset]) W43 d_p22m4_85 rfl rfl ?_
  refine g_iconst (pc := 87) (0 : Int32) (by decide) W43 d_p22m4_87 ?_
  refine g_istore (pc := 88) (ls' := #[.val (.ref a), .val (.ref o), .val (.int (8 : Int32)), .val (.ref b33), .val (.ref b39), .val (.int (0 : Int32)), .unset, .unset]) W43 d_p22m4_88 rfl ?_
  refine g_iload (pc := 90) W43 d_p22m4_90 rfl ?_
  refine g_aload_n (pc := 92) W43 d_p22m4_92 rfl rfl ?_
  refine g_getfield (pc := 93) (i := 2) (j := 1) (host := "") W43 (Or.inl (wd hw 17 rfl)) rfl rfl rfl d_p22m4_93 (fun T44 W45 => ?_)
  refine g_icmpN (pc := 96) W45 d_p22m4_96 (by decide) ?_
  refine g_aload_n (pc := 99) W45 d_p22m4_99 rfl rfl ?_
  refine g_iload (pc := 100) W45 d_p22m4_100 rfl ?_
  refine g_virtual (i := 2) (pc := 102) (Wt := 0) (argsL := [.int (0 : Int32)]) (rest := []) (loc := [(a, O_IntPairs, [.ref b, .int (1 : Int32)]), (b, (.array .int), vs)]) (rst := [(o, (.array .int), (fl 9 (ac (g1 [n0, n1]) 8))), (b33, (.array .int), (fl 8 (NX [n0, n1] 0))), (b39, (.array .int), (fl 2 (HH [n0, n1] 0)))]) W45 (wd hw 24 rfl) (wd hw 26 rfl) (wd hw 3 rfl) (wd hw 28 rfl) (wd hw 25 rfl) (wd hw 27 rfl) rfl (by decide) (c_first l Z a0 hw a b (1 : Int32) (0 : Int32) (Int32.ofNat n0) vs (by decide) q0) ⟨[2, 3, 0, 1, 4], by decide, rfl⟩ rfl pd_I__I rfl rfl rfl (Nat.le_of_ble_eq_true rfl) (by decide) (by decide) (by decide) (by decide) d_p22m4_102 ?_
  rintro T46 _ _ ⟨rfl, rfl⟩ W47
  have W48 := W47.re (os' := [(a, O_IntPairs, [.ref b, .int (1 : Int32)]), (b, (.array .int), vs), (o, (.array .int), (fl 9 (ac (g1 [n0, n1]) 8))), (b33, (.array .int), (fl 8 (NX [n0, n1] 0))), (b39, (.array .int), (fl 2 (HH [n0, n1] 0)))]) rfl
  show Go p_ e_ bl_ _ (T46.setTop (mkF m_ 105 _ [.int (Int32.ofNat n0)]))
  refine g_istore (pc := 105) (ls' := #[.val (.ref a), .val (.ref o), .val (.int (8 : Int32)), .val (.ref b33), .val (.ref b39), .val (.int (0 : Int32)), .val (.int (Int32.ofNat n0)), .unset]) W48 d_p22m4_105 rfl ?_
  refine g_aload_n (pc := 107) W48 d_p22m4_107 rfl rfl ?_
  refine g_iload (pc := 108) W48 d_p22m4_108 rfl ?_
  refine g_virtual (i := 0) (pc := 110) (Wt := 0) (argsL := [.int (0 : Int32)]) (rest := []) (loc := [(a, O_IntPairs, [.ref b, .int (1 : Int32)]), (b, (.array .int), vs)]) (rst := [(o, (.array .int), (fl 9 (ac (g1 [n0, n1]) 8))), (b33, (.array .int), (fl 8 (NX [n0, n1] 0))), (b39, (.array .int), (fl 2 (HH [n0, n1] 0)))]) W48 (wd hw 29 rfl) (wd hw 31 rfl) (wd hw 3 rfl) (wd hw 33 rfl) (wd hw 30 rfl) (wd hw 32 rfl) rfl (by decide) (c_second l Z a0 hw a b (1 : Int32) (0 : Int32) (Int32.ofNat n1) vs (by decide) q1) ⟨[0, 1, 2, 3, 4], by decide, rfl⟩ rfl pd_I__I rfl rfl rfl (Nat.le_of_ble_eq_true rfl) (by decide) (by decide) (by decide) (by decide) d_p22m4_110 ?_
  rintro T49 _ _ ⟨rfl, rfl⟩ W50
  have W51 := W50.re (os' := [(a, O_IntPairs, [.ref b, .int (1 : Int32)]), (b, (.array .int), vs), (o, (.array .int), (fl 9 (ac (g1 [n0, n1]) 8))), (b33, (.array .int), (fl 8 (NX [n0, n1] 0))), (b39, (.array .int), (fl 2 (HH [n0, n1] 0)))]) rfl
  show Go p_ e_ bl_ _ (T49.setTop (mkF m_ 113 _ [.int (Int32.ofNat n1)]))
  refine g_istore (pc := 113) (ls' := #[.val (.ref a), .val (.ref o), .val (.int (8 : Int32)), .val (.ref b33), .val (.ref b39), .val (.int (0 : Int32)), .val (.int (Int32.ofNat n0)), .val (.int (Int32.ofNat n1))]) W51 d_p22m4_113 rfl ?_
  refine g_aload (pc := 115) W51 d_p22m4_115 rfl rfl ?_
  refine g_aload_n (pc := 117) W51 d_p22m4_117 rfl rfl ?_
  refine g_iload (pc := 118) W51 d_p22m4_118 rfl ?_
  refine g_dup2 (pc := 120) W51 d_p22m4_120 rfl rfl ?_
  refine g_iaload (pc := 121) (i := 3) (v := .int (ps [n0, n1] 0)) W51 rfl (own_ix h0).1 (by rw [(own_ix h0).2.1]; exact fl_get h0) d_p22m4_121 ?_
  refine g_dup_x2 (pc := 122) W51 d_p22m4_122 rfl rfl rfl ?_
  refine g_iconst (pc := 123) (1 : Int32) (by decide) W51 d_p22m4_123 ?_
  refine g_iadd (pc := 124) W51 d_p22m4_124 ?_
  refine g_iastore (pc := 125) (i := 3) (os' := [(a, O_IntPairs, [.ref b, .int (1 : Int32)]), (b, (.array .int), vs), (o, (.array .int), (fl 9 (ac (g1 [n0, n1]) 8))), (b33, (.array .int), (fl 8 (NX [n0, n1] 1))), (b39, (.array .int), (fl 2 (HH [n0, n1] 0)))]) n0 W51 rfl (own_ix h0).1 (own_ix h0).2.1 (by rw [fl_len]; exact h0) (by rw [fl_set]; rfl) d_p22m4_125 (fun T52 W53 => ?_)
  refine g_iload (pc := 126) W53 d_p22m4_126 rfl ?_
  refine g_iastore (pc := 128) (i := 4) (os' := [(a, O_IntPairs, [.ref b, .int (1 : Int32)]), (b, (.array .int), vs), (o, (.array .int), (fl 9 (ac (g1 [n0, n1]) 8))), (b33, (.array .int), (fl 8 (NX [n0, n1] 1))), (b39, (.array .int), (fl 2 (HH [n0, n1] 1)))]) (ps [n0, n1] 0).toNatClampNeg W53 rfl hp0 rfl (by rw [fl_len]; exact hq0) (by rw [fl_set]; rfl) d_p22m4_128 (fun T54 W55 => ?_)
  refine g_aload (pc := 129) W55 d_p22m4_129 rfl rfl ?_
  refine g_aload_n (pc := 131) W55 d_p22m4_131 rfl rfl ?_
  refine g_iload (pc := 132) W55 d_p22m4_132 rfl ?_
  refine g_dup2 (pc := 134) W55 d_p22m4_134 rfl rfl ?_
  refine g_iaload (pc := 135) (i := 3) (v := .int (ps [n0, n1] 1)) W55 rfl (own_ix h1).1 (by rw [(own_ix h1).2.1]; exact fl_get h1) d_p22m4_135 ?_
  refine g_dup_x2 (pc := 136) W55 d_p22m4_136 rfl rfl rfl ?_
  refine g_iconst (pc := 137) (1 : Int32) (by decide) W55 d_p22m4_137 ?_
  refine g_iadd (pc := 138) W55 d_p22m4_138 ?_
  refine g_iastore (pc := 139) (i := 3) (os' := [(a, O_IntPairs, [.ref b, .int (1 : Int32)]), (b, (.array .int), vs), (o, (.array .int), (fl 9 (ac (g1 [n0, n1]) 8))), (b33, (.array .int), (fl 8 (NX [n0, n1] 2))), (b39, (.array .int), (fl 2 (HH [n0, n1] 1)))]) n1 W55 rfl (own_ix h1).1 (own_ix h1).2.1 (by rw [fl_len]; exact h1) (by rw [fl_set]; rfl) d_p22m4_139 (fun T56 W57 => ?_)
  refine g_iload (pc := 140) W57 d_p22m4_140 rfl ?_
  refine g_iastore (pc := 142) (i := 4) (os' := [(a, O_IntPairs, [.ref b, .int (1 : Int32)]), (b, (.array .int), vs), (o, (.array .int), (fl 9 (ac (g1 [n0, n1]) 8))), (b33, (.array .int), (fl 8 (NX [n0, n1] 2))), (b39, (.array .int), (fl 2 (HH [n0, n1] 2)))]) (ps [n0, n1] 1).toNatClampNeg W57 rfl hp1 rfl (by rw [fl_len]; exact hq1) (by rw [fl_set]; rfl) d_p22m4_142 (fun T58 W59 => ?_)
  refine g_iinc (pc := 143) (ls' := #[.val (.ref a), .val (.ref o), .val (.int (8 : Int32)), .val (.ref b33), .val (.ref b39), .val (.int (1 : Int32)), .val (.int (Int32.ofNat n0)), .val (.int (Int32.ofNat n1))]) (1 : Int32) (by decide) W59 d_p22m4_143 rfl rfl ?_
  refine g_goto 90 (pc := 146) W59 d_p22m4_146 (by decide) (by decide) ?_
  refine g_iload (pc := 90) W59 d_p22m4_90 rfl ?_
  refine g_aload_n (pc := 92) W59 d_p22m4_92 rfl rfl ?_
  refine g_getfield (pc := 93) (i := 0) (j := 1) (host := "") W59 (Or.inl (wd hw 17 rfl)) rfl rfl rfl d_p22m4_93 (fun T60 W61 => ?_)
  refine g_icmpY 149 (pc := 96) W61 d_p22m4_96 (by decide) (by decide) (by decide) ?_
  refine g_aload (pc := 149) W61 d_p22m4_149 rfl rfl ?_
  exact g_areturn (pc := 151) rfl rfl W61 d_p22m4_151 (by decide) (by decide) ⟨b33, b39, rfl, rfl⟩
theorem c_part2 (l : Launch) (Z : State) (a0 : Array Value) (hw : ∀ d ∈ tables_1, d.before a0 Z = true) {B : Nat} (a b o : Addr) (vs : List Value) (n0 n1 n2 n3 : Nat) (h0 : n0 < 8) (h1 : n1 < 8) (h2 : n2 < 8) (h3 : n3 < 8) (q0 : vs[0]? = some (.int (Int32.ofNat n0))) (q1 : vs[1]? = some (.int (Int32.ofNat n1))) (q2 : vs[2]? = some (.int (Int32.ofNat n2))) (q3 : vs[3]? = some (.int (Int32.ofNat n3))) (hp0 : ¬ ps [n0, n1, n2, n3] 0 < 0) (hq0 : (ps [n0, n1, n2, n3] 0).toNatClampNeg < 4) (hp1 : ¬ ps [n0, n1, n2, n3] 1 < 0) (hq1 : (ps [n0, n1, n2, n3] 1).toNatClampNeg < 4) (hp2 : ¬ ps [n0, n1, n2, n3] 2 < 0) (hq2 : (ps [n0, n1, n2, n3] 2).toNatClampNeg < 4) (hp3 : ¬ ps [n0, n1, n2, n3] 3 < 0) (hq3 : (ps [n0, n1, n2, n3] 3).toNatClampNeg < 4) :
    Con l Z FM B (⟨"com/example/metanode/metanode/graph/IntPairs", "partners", "([I)[I"⟩ : MethodName) prog_22_method_4_code 8 (some (.array .int)) ({ frames := 2, cells := 2, slots := 12, locals := 32 } : Room) [] #[.ref a, .ref o] [(a, O_IntPairs, [.ref b, .int (2 : Int32)]), (b, (.array .int), vs), (o, (.array .int), (fl 9 zf))] (fun rv_ ro_ => ∃ b45, ∃ b51, rv_ = some (.ref b51) ∧ ro_ = [(a, O_IntPairs, [.ref b, .int (2 : Int32)]), (b, (.array .int), vs), (o, (.array .int), (fl 9 (ac (g1 [n0, n1, n2, n3]) 8))), (b45, (.array .int), (fl 8 (NX [n0, n1, n2, n3] 4))), (b51, (.array .int), (fl 4 (HH [n0, n1, n2, n3] 4)))]) := by
  refine Con.of (plainFor_of_name (by first | (simp [plainName, overriddenIn]; done) | decide +kernel)) (ls := #[.val (.ref a), .val (.ref o), .unset, .unset, .unset, .unset, .unset, .unset]) (fun m => by first | (simp [entryFrame, mkF, argsToLocals, Value.category]; done) | rfl) ?_
  intro p_ e_ h_ s_ m_ bl_ me_ c_ T0 W0
  refine g_aload_n (pc := 0) W0 d_p22m4_0 rfl rfl ?_
  refine g_arraylength (pc := 1) (i := 2) (9 : Int32) W0 rfl (by rw [fl_len]; rfl) d_p22m4_1 ?_
  refine g_iconst (pc := 2) (1 : Int32) (by decide) W0 d_p22m4_2 ?_
  refine g_isub (pc := 3) W0 d_p22m4_3 ?_
  show Go p_ e_ bl_ _ (T0.setTop (mkF m_ 4 _ [.int (8 : Int32)]))
  refine g_istore_n (pc := 4) (ls' := #[.val (.ref a), .val (.ref o), .val (.int (8 : Int32)), .unset, .unset, .unset, .unset, .unset]) W0 d_p22m4_4 rfl ?_
  have W1 := W0.re (os' := [(a, O_IntPairs, [.ref b, .int (2 : Int32)]), (b, (.array .int), vs), (o, (.array .int), (fl 9 (g1 [])))]) rfl
  refine g_iconst (pc := 5) (0 : Int32) (by decide) W1 d_p22m4_5 ?_
  refine g_istore_n (pc := 6) (ls' := #[.val (.ref a), .val (.ref o), .val (.int (8 : Int32)), .val (.int (0 : Int32)), .unset, .unset, .unset, .unset]) W1 d_p22m4_6 rfl ?_
  refine g_iload_n (pc := 7) W1 d_p22m4_7 rfl ?_
  refine g_aload_n (pc := 8) W1 d_p22m4_8 rfl rfl ?_
  refine g_getfield (pc := 9) (i := 0) (j := 1) (host := "") W1 (Or.inl (wd hw 17 rfl)) rfl rfl rfl d_p22m4_9 (fun T2 W3 => ?_)
  refine g_icmpN (pc := 12) W3 d_p22m4_12 (by decide) ?_
  refine g_aload_n (pc := 15) W3 d_p22m4_15 rfl rfl ?_
  refine g_aload_n (pc := 16) W3 d_p22m4_16 rfl rfl ?_
  refine g_iload_n (pc := 17) W3 d_p22m4_17 rfl ?_
  refine g_virtual (i := 0) (pc := 18) (Wt := 1) (argsL := [.int (0 : Int32)]) (rest := [.ref o]) (loc := [(a, O_IntPairs, [.ref b, .int (2 : Int32)]), (b, (.array .int), vs)]) (rst := [(o, (.array .int), (fl 9 (g1 [])))]) W3 (wd hw 24 rfl) (wd hw 26 rfl) (wd hw 3 rfl) (wd hw 28 rfl) (wd hw 25 rfl) (wd hw 27 rfl) rfl (by decide) (c_first l Z a0 hw a b (2 : Int32) (0 : Int32) (Int32.ofNat n0) vs (by decide) q0) ⟨[0, 1, 2], by decide, rfl⟩ rfl pd_I__I rfl rfl rfl (Nat.le_of_ble_eq_true rfl) (by decide) (by decide) (by decide) (by decide) d_p22m4_18 ?_
  rintro T4 _ _ ⟨rfl, rfl⟩ W5
  have W6 := W5.re (os' := [(a, O_IntPairs, [.ref b, .int (2 : Int32)]), (b, (.array .int), vs), (o, (.array .int), (fl 9 (g1 [])))]) rfl
  show Go p_ e_ bl_ _ (T4.setTop (mkF m_ 21 _ [.int (Int32.ofNat n0), .ref o]))
  refine g_iconst (pc := 21) (1 : Int32) (by decide) W6 d_p22m4_21 ?_
  refine g_iadd (pc := 22) W6 d_p22m4_22 ?_
  refine g_dup2 (pc := 23) W6 d_p22m4_23 rfl rfl ?_
  refine g_iaload (pc := 24) (i := 2) (v := .int (g1 [] (n0 + 1))) W6 rfl (own_ix h0).2.2.1 (by rw [(own_ix h0).2.2.2]; exact fl_get (by omega)) d_p22m4_24 ?_
  refine g_iconst (pc := 25) (1 : Int32) (by decide) W6 d_p22m4_25 ?_
  refine g_iadd (pc := 26) W6 d_p22m4_26 ?_
  refine g_iastore (pc := 27) (i := 2) (os' := [(a, O_IntPairs, [.ref b, .int (2 : Int32)]), (b, (.array .int), vs), (o, (.array .int), (fl 9 (g1 [n0])))]) (n0 + 1) W6 rfl (own_ix h0).2.2.1 (own_ix h0).2.2.2 (by rw [fl_len]; omega) (by rw [fl_set]; rfl) d_p22m4_27 (fun T7 W8 => ?_)
  refine g_aload_n (pc := 28) W8 d_p22m4_28 rfl rfl ?_
  refine g_aload_n (pc := 29) W8 d_p22m4_29 rfl rfl ?_
  refine g_iload_n (pc := 30) W8 d_p22m4_30 rfl ?_
  refine g_virtual (i := 0) (pc := 31) (Wt := 1) (argsL := [.int (0 : Int32)]) (rest := [.ref o]) (loc := [(a, O_IntPairs, [.ref b, .int (2 : Int32)]), (b, (.array .int), vs)]) (rst := [(o, (.array .int), (fl 9 (g1 [n0])))]) W8 (wd hw 29 rfl) (wd hw 31 rfl) (wd hw 3 rfl) (wd hw 33 rfl) (wd hw 30 rfl) (wd hw 32 rfl) rfl (by decide) (c_second l Z a0 hw a b (2 : Int32) (0 : Int32) (Int32.ofNat n1) vs (by decide) q1) ⟨[0, 1, 2], by decide, rfl⟩ rfl pd_I__I rfl rfl rfl (Nat.le_of_ble_eq_true rfl) (by decide) (by decide) (by decide) (by decide) d_p22m4_31 ?_
  rintro T9 _ _ ⟨rfl, rfl⟩ W10
  have W11 := W10.re (os' := [(a, O_IntPairs, [.ref b, .int (2 : Int32)]), (b, (.array .int), vs), (o, (.array .int), (fl 9 (g1 [n0])))]) rfl
  show Go p_ e_ bl_ _ (T9.setTop (mkF m_ 34 _ [.int (Int32.ofNat n1), .ref o]))
  refine g_iconst (pc := 34) (1 : Int32) (by decide) W11 d_p22m4_34 ?_
  refine g_iadd (pc := 35) W11 d_p22m4_35 ?_
  refine g_dup2 (pc := 36) W11 d_p22m4_36 rfl rfl ?_
  refine g_iaload (pc := 37) (i := 2) (v := .int (g1 [n0] (n1 + 1))) W11 rfl (own_ix h1).2.2.1 (by rw [(own_ix h1).2.2.2]; exact fl_get (by omega)) d_p22m4_37 ?_
  refine g_iconst (pc := 38) (1 : Int32) (by decide) W11 d_p22m4_38 ?_
  refine g_iadd (pc := 39) W11 d_p22m4_39 ?_
  refine g_iastore (pc := 40) (i := 2) (os' := [(a, O_IntPairs, [.ref b, .int (2 : Int32)]), (b, (.array .int), vs), (o, (.array .int), (fl 9 (g1 [n0, n1])))]) (n1 + 1) W11 rfl (own_ix h1).2.2.1 (own_ix h1).2.2.2 (by rw [fl_len]; omega) (by rw [fl_set]; rfl) d_p22m4_40 (fun T12 W13 => ?_)
  refine g_iinc (pc := 41) (ls' := #[.val (.ref a), .val (.ref o), .val (.int (8 : Int32)), .val (.int (1 : Int32)), .unset, .unset, .unset, .unset]) (1 : Int32) (by decide) W13 d_p22m4_41 rfl rfl ?_
  refine g_goto 7 (pc := 44) W13 d_p22m4_44 (by decide) (by decide) ?_
  refine g_iload_n (pc := 7) W13 d_p22m4_7 rfl ?_
  refine g_aload_n (pc := 8) W13 d_p22m4_8 rfl rfl ?_
  refine g_getfield (pc := 9) (i := 0) (j := 1) (host := "") W13 (Or.inl (wd hw 17 rfl)) rfl rfl rfl d_p22m4_9 (fun T14 W15 => ?_)
  refine g_icmpN (pc := 12) W15 d_p22m4_12 (by decide) ?_
  refine g_aload_n (pc := 15) W15 d_p22m4_15 rfl rfl ?_
  refine g_aload_n (pc := 16) W15 d_p22m4_16 rfl rfl ?_
  refine g_iload_n (pc := 17) W15 d_p22m4_17 rfl ?_
  refine g_virtual (i := 0) (pc := 18) (Wt := 1) (argsL := [.int (1 : Int32)]) (rest := [.ref o]) (loc := [(a, O_IntPairs, [.ref b, .int (2 : Int32)]), (b, (.array .int), vs)]) (rst := [(o, (.array .int), (fl 9 (g1 [n0, n1])))]) W15 (wd hw 24 rfl) (wd hw 26 rfl) (wd hw 3 rfl) (wd hw 28 rfl) (wd hw 25 rfl) (wd hw 27 rfl) rfl (by decide) (c_first l Z a0 hw a b (2 : Int32) (1 : Int32) (Int32.ofNat n2) vs (by decide) q2) ⟨[0, 1, 2], by decide, rfl⟩ rfl pd_I__I rfl rfl rfl (Nat.le_of_ble_eq_true rfl) (by decide) (by decide) (by decide) (by decide) d_p22m4_18 ?_
  rintro T16 _ _ ⟨rfl, rfl⟩ W17
  have W18 := W17.re (os' := [(a, O_IntPairs, [.ref b, .int (2 : Int32)]), (b, (.array .int), vs), (o, (.array .int), (fl 9 (g1 [n0, n1])))]) rfl
  show Go p_ e_ bl_ _ (T16.setTop (mkF m_ 21 _ [.int (Int32.ofNat n2), .ref o]))
  refine g_iconst (pc := 21) (1 : Int32) (by decide) W18 d_p22m4_21 ?_
  refine g_iadd (pc := 22) W18 d_p22m4_22 ?_
  refine g_dup2 (pc := 23) W18 d_p22m4_23 rfl rfl ?_
  refine g_iaload (pc := 24) (i := 2) (v := .int (g1 [n0, n1] (n2 + 1))) W18 rfl (own_ix h2).2.2.1 (by rw [(own_ix h2).2.2.2]; exact fl_get (by omega)) d_p22m4_24 ?_
  refine g_iconst (pc := 25) (1 : Int32) (by decide) W18 d_p22m4_25 ?_
  refine g_iadd (pc := 26) W18 d_p22m4_26 ?_
  refine g_iastore (pc := 27) (i := 2) (os' := [(a, O_IntPairs, [.ref b, .int (2 : Int32)]), (b, (.array .int), vs), (o, (.array .int), (fl 9 (g1 [n0, n1, n2])))]) (n2 + 1) W18 rfl (own_ix h2).2.2.1 (own_ix h2).2.2.2 (by rw [fl_len]; omega) (by rw [fl_set]; rfl) d_p22m4_27 (fun T19 W20 => ?_)
  refine g_aload_n (pc := 28) W20 d_p22m4_28 rfl rfl ?_
  refine g_aload_n (pc := 29) W20 d_p22m4_29 rfl rfl ?_
  refine g_iload_n (pc := 30) W20 d_p22m4_30 rfl ?_
  refine g_virtual (i := 0) (pc := 31) (Wt := 1) (argsL := [.int (1 : Int32)]) (rest := [.ref o]) (loc := [(a, O_IntPairs, [.ref b, .int (2 : Int32)]), (b, (.array .int), vs)]) (rst := [(o, (.array .int), (fl 9 (g1 [n0, n1, n2])))]) W20 (wd hw 29 rfl) (wd hw 31 rfl) (wd hw 3 rfl) (wd hw 33 rfl) (wd hw 30 rfl) (wd hw 32 rfl) rfl (by decide) (c_second l Z a0 hw a b (2 : Int32) (1 : Int32) (Int32.ofNat n3) vs (by decide) q3) ⟨[0, 1, 2], by decide, rfl⟩ rfl pd_I__I rfl rfl rfl (Nat.le_of_ble_eq_true rfl) (by decide) (by decide) (by decide) (by decide) d_p22m4_31 ?_
  rintro T21 _ _ ⟨rfl, rfl⟩ W22
  have W23 := W22.re (os' := [(a, O_IntPairs, [.ref b, .int (2 : Int32)]), (b, (.array .int), vs), (o, (.array .int), (fl 9 (g1 [n0, n1, n2])))]) rfl
  show Go p_ e_ bl_ _ (T21.setTop (mkF m_ 34 _ [.int (Int32.ofNat n3), .ref o]))
  refine g_iconst (pc := 34) (1 : Int32) (by decide) W23 d_p22m4_34 ?_
  refine g_iadd (pc := 35) W23 d_p22m4_35 ?_
  refine g_dup2 (pc := 36) W23 d_p22m4_36 rfl rfl ?_
  refine g_iaload (pc := 37) (i := 2) (v := .int (g1 [n0, n1, n2] (n3 + 1))) W23 rfl (own_ix h3).2.2.1 (by rw [(own_ix h3).2.2.2]; exact fl_get (by omega)) d_p22m4_37 ?_
  refine g_iconst (pc := 38) (1 : Int32) (by decide) W23 d_p22m4_38 ?_
  refine g_iadd (pc := 39) W23 d_p22m4_39 ?_
  refine g_iastore (pc := 40) (i := 2) (os' := [(a, O_IntPairs, [.ref b, .int (2 : Int32)]), (b, (.array .int), vs), (o, (.array .int), (fl 9 (g1 [n0, n1, n2, n3])))]) (n3 + 1) W23 rfl (own_ix h3).2.2.1 (own_ix h3).2.2.2 (by rw [fl_len]; omega) (by rw [fl_set]; rfl) d_p22m4_40 (fun T24 W25 => ?_)
  refine g_iinc (pc := 41) (ls' := #[.val (.ref a), .val (.ref o), .val (.int (8 : Int32)), .val (.int (2 : Int32)), .unset, .unset, .unset, .unset]) (1 : Int32) (by decide) W25 d_p22m4_41 rfl rfl ?_
  refine g_goto 7 (pc := 44) W25 d_p22m4_44 (by decide) (by decide) ?_
  refine g_iload_n (pc := 7) W25 d_p22m4_7 rfl ?_
  refine g_aload_n (pc := 8) W25 d_p22m4_8 rfl rfl ?_
  refine g_getfield (pc := 9) (i := 0) (j := 1) (host := "") W25 (Or.inl (wd hw 17 rfl)) rfl rfl rfl d_p22m4_9 (fun T26 W27 => ?_)
  refine g_icmpY 47 (pc := 12) W27 d_p22m4_12 (by decide) (by decide) (by decide) ?_
  have W28 := W27.re (os' := [(a, O_IntPairs, [.ref b, .int (2 : Int32)]), (b, (.array .int), vs), (o, (.array .int), (fl 9 (ac (g1 [n0, n1, n2, n3]) 0)))]) rfl
  refine g_iconst (pc := 47) (0 : Int32) (by decide) W28 d_p22m4_47 ?_
  refine g_istore_n (pc := 48) (ls' := #[.val (.ref a), .val (.ref o), .val (.int (8 : Int32)), .val (.int (0 : Int32)), .unset, .unset, .unset, .unset]) W28 d_p22m4_48 rfl ?_
  refine g_iload_n (pc := 49) W28 d_p22m4_49 rfl ?_
  refine g_iload_n (pc := 50) W28 d_p22m4_50 rfl ?_
  refine g_icmpN (pc := 51) W28 d_p22m4_51 (by decide) ?_
  refine g_aload_n (pc := 54) W28 d_p22m4_54 rfl rfl ?_
  refine g_iload_n (pc := 55) W28 d_p22m4_55 rfl ?_
  refine g_iconst (pc := 56) (1 : Int32) (by decide) W28 d_p22m4_56 ?_
  refine g_iadd (pc := 57) W28 d_p22m4_57 ?_
  show Go p_ e_ bl_ _ (T26.setTop (mkF m_ 58 _ [.int (1 : Int32), .ref o]))
  refine g_dup2 (pc := 58) W28 d_p22m4_58 rfl rfl ?_
  refine g_iaload (pc := 59) (i := 2) (v := .int ((ac (g1 [n0, n1, n2, n3]) 0) 1)) W28 rfl (by decide) (fl_get (i := 1) (by decide)) d_p22m4_59 ?_
  refine g_aload_n (pc := 60) W28 d_p22m4_60 rfl rfl ?_
  refine g_iload_n (pc := 61) W28 d_p22m4_61 rfl ?_
  refine g_iaload (pc := 62) (i := 2) (v := .int ((ac (g1 [n0, n1, n2, n3]) 0) 0)) W28 rfl (by decide) (fl_get (i := 0) (by decide)) d_p22m4_62 ?_
  refine g_iadd (pc := 63) W28 d_p22m4_63 ?_
  refine g_iastore (pc := 64) (i := 2) (os' := [(a, O_IntPairs, [.ref b, .int (2 : Int32)]), (b, (.array .int), vs), (o, (.array .int), (fl 9 (ac (g1 [n0, n1, n2, n3]) 1)))]) 1 W28 rfl (by decide) (by decide) (by rw [fl_len]; decide) (by rw [fl_set]; rfl) d_p22m4_64 (fun T29 W30 => ?_)
  refine g_iinc (pc := 65) (ls' := #[.val (.ref a), .val (.ref o), .val (.int (8 : Int32)), .val (.int (1 : Int32)), .unset, .unset, .unset, .unset]) (1 : Int32) (by decide) W30 d_p22m4_65 rfl rfl ?_
  refine g_goto 49 (pc := 68) W30 d_p22m4_68 (by decide) (by decide) ?_
  refine g_iload_n (pc := 49) W30 d_p22m4_49 rfl ?_
  refine g_iload_n (pc := 50) W30 d_p22m4_50 rfl ?_
  refine g_icmpN (pc := 51) W30 d_p22m4_51 (by decide) ?_
  refine g_aload_n (pc := 54) W30 d_p22m4_54 rfl rfl ?_
  refine g_iload_n (pc := 55) W30 d_p22m4_55 rfl ?_
  refine g_iconst (pc := 56) (1 : Int32) (by decide) W30 d_p22m4_56 ?_
  refine g_iadd (pc := 57) W30 d_p22m4_57 ?_
  show Go p_ e_ bl_ _ (T29.setTop (mkF m_ 58 _ [.int (2 : Int32), .ref o]))
  refine g_dup2 (pc := 58) W30 d_p22m4_58 rfl rfl ?_
  refine g_iaload (pc := 59) (i := 2) (v := .int ((ac (g1 [n0, n1, n2, n3]) 1) 2)) W30 rfl (by decide) (fl_get (i := 2) (by decide)) d_p22m4_59 ?_
  refine g_aload_n (pc := 60) W30 d_p22m4_60 rfl rfl ?_
  refine g_iload_n (pc := 61) W30 d_p22m4_61 rfl ?_
  refine g_iaload (pc := 62) (i := 2) (v := .int ((ac (g1 [n0, n1, n2, n3]) 1) 1)) W30 rfl (by decide) (fl_get (i := 1) (by decide)) d_p22m4_62 ?_
  refine g_iadd (pc := 63) W30 d_p22m4_63 ?_
  refine g_iastore (pc := 64) (i := 2) (os' := [(a, O_IntPairs, [.ref b, .int (2 : Int32)]), (b, (.array .int), vs), (o, (.array .int), (fl 9 (ac (g1 [n0, n1, n2, n3]) 2)))]) 2 W30 rfl (by decide) (by decide) (by rw [fl_len]; decide) (by rw [fl_set]; rfl) d_p22m4_64 (fun T31 W32 => ?_)
  refine g_iinc (pc := 65) (ls' := #[.val (.ref a), .val (.ref o), .val (.int (8 : Int32)), .val (.int (2 : Int32)), .unset, .unset, .unset, .unset]) (1 : Int32) (by decide) W32 d_p22m4_65 rfl rfl ?_
  refine g_goto 49 (pc := 68) W32 d_p22m4_68 (by decide) (by decide) ?_
  refine g_iload_n (pc := 49) W32 d_p22m4_49 rfl ?_
  refine g_iload_n (pc := 50) W32 d_p22m4_50 rfl ?_
  refine g_icmpN (pc := 51) W32 d_p22m4_51 (by decide) ?_
  refine g_aload_n (pc := 54) W32 d_p22m4_54 rfl rfl ?_
  refine g_iload_n (pc := 55) W32 d_p22m4_55 rfl ?_
  refine g_iconst (pc := 56) (1 : Int32) (by decide) W32 d_p22m4_56 ?_
  refine g_iadd (pc := 57) W32 d_p22m4_57 ?_
  show Go p_ e_ bl_ _ (T31.setTop (mkF m_ 58 _ [.int (3 : Int32), .ref o]))
  refine g_dup2 (pc := 58) W32 d_p22m4_58 rfl rfl ?_
  refine g_iaload (pc := 59) (i := 2) (v := .int ((ac (g1 [n0, n1, n2, n3]) 2) 3)) W32 rfl (by decide) (fl_get (i := 3) (by decide)) d_p22m4_59 ?_
  refine g_aload_n (pc := 60) W32 d_p22m4_60 rfl rfl ?_
  refine g_iload_n (pc := 61) W32 d_p22m4_61 rfl ?_
  refine g_iaload (pc := 62) (i := 2) (v := .int ((ac (g1 [n0, n1, n2, n3]) 2) 2)) W32 rfl (by decide) (fl_get (i := 2) (by decide)) d_p22m4_62 ?_
  refine g_iadd (pc := 63) W32 d_p22m4_63 ?_
  refine g_iastore (pc := 64) (i := 2) (os' := [(a, O_IntPairs, [.ref b, .int (2 : Int32)]), (b, (.array .int), vs), (o, (.array .int), (fl 9 (ac (g1 [n0, n1, n2, n3]) 3)))]) 3 W32 rfl (by decide) (by decide) (by rw [fl_len]; decide) (by rw [fl_set]; rfl) d_p22m4_64 (fun T33 W34 => ?_)
  refine g_iinc (pc := 65) (ls' := #[.val (.ref a), .val (.ref o), .val (.int (8 : Int32)), .val (.int (3 : Int32)), .unset, .unset, .unset, .unset]) (1 : Int32) (by decide) W34 d_p22m4_65 rfl rfl ?_
  refine g_goto 49 (pc := 68) W34 d_p22m4_68 (by decide) (by decide) ?_
  refine g_iload_n (pc := 49) W34 d_p22m4_49 rfl ?_
  refine g_iload_n (pc := 50) W34 d_p22m4_50 rfl ?_
  refine g_icmpN (pc := 51) W34 d_p22m4_51 (by decide) ?_
  refine g_aload_n (pc := 54) W34 d_p22m4_54 rfl rfl ?_
  refine g_iload_n (pc := 55) W34 d_p22m4_55 rfl ?_
  refine g_iconst (pc := 56) (1 : Int32) (by decide) W34 d_p22m4_56 ?_
  refine g_iadd (pc := 57) W34 d_p22m4_57 ?_
  show Go p_ e_ bl_ _ (T33.setTop (mkF m_ 58 _ [.int (4 : Int32), .ref o]))
  refine g_dup2 (pc := 58) W34 d_p22m4_58 rfl rfl ?_
  refine g_iaload (pc := 59) (i := 2) (v := .int ((ac (g1 [n0, n1, n2, n3]) 3) 4)) W34 rfl (by decide) (fl_get (i := 4) (by decide)) d_p22m4_59 ?_
  refine g_aload_n (pc := 60) W34 d_p22m4_60 rfl rfl ?_
  refine g_iload_n (pc := 61) W34 d_p22m4_61 rfl ?_
  refine g_iaload (pc := 62) (i := 2) (v := .int ((ac (g1 [n0, n1, n2, n3]) 3) 3)) W34 rfl (by decide) (fl_get (i := 3) (by decide)) d_p22m4_62 ?_
  refine g_iadd (pc := 63) W34 d_p22m4_63 ?_
  refine g_iastore (pc := 64) (i := 2) (os' := [(a, O_IntPairs, [.ref b, .int (2 : Int32)]), (b, (.array .int), vs), (o, (.array .int), (fl 9 (ac (g1 [n0, n1, n2, n3]) 4)))]) 4 W34 rfl (by decide) (by decide) (by rw [fl_len]; decide) (by rw [fl_set]; rfl) d_p22m4_64 (fun T35 W36 => ?_)
  refine g_iinc (pc := 65) (ls' := #[.val (.ref a), .val (.ref o), .val (.int (8 : Int32)), .val (.int (4 : Int32)), .unset, .unset, .unset, .unset]) (1 : Int32) (by decide) W36 d_p22m4_65 rfl rfl ?_
  refine g_goto 49 (pc := 68) W36 d_p22m4_68 (by decide) (by decide) ?_
  refine g_iload_n (pc := 49) W36 d_p22m4_49 rfl ?_
  refine g_iload_n (pc := 50) W36 d_p22m4_50 rfl ?_
  refine g_icmpN (pc := 51) W36 d_p22m4_51 (by decide) ?_
  refine g_aload_n (pc := 54) W36 d_p22m4_54 rfl rfl ?_
  refine g_iload_n (pc := 55) W36 d_p22m4_55 rfl ?_
  refine g_iconst (pc := 56) (1 : Int32) (by decide) W36 d_p22m4_56 ?_
  refine g_iadd (pc := 57) W36 d_p22m4_57 ?_
  show Go p_ e_ bl_ _ (T35.setTop (mkF m_ 58 _ [.int (5 : Int32), .ref o]))
  refine g_dup2 (pc := 58) W36 d_p22m4_58 rfl rfl ?_
  refine g_iaload (pc := 59) (i := 2) (v := .int ((ac (g1 [n0, n1, n2, n3]) 4) 5)) W36 rfl (by decide) (fl_get (i := 5) (by decide)) d_p22m4_59 ?_
  refine g_aload_n (pc := 60) W36 d_p22m4_60 rfl rfl ?_
  refine g_iload_n (pc := 61) W36 d_p22m4_61 rfl ?_
  refine g_iaload (pc := 62) (i := 2) (v := .int ((ac (g1 [n0, n1, n2, n3]) 4) 4)) W36 rfl (by decide) (fl_get (i := 4) (by decide)) d_p22m4_62 ?_
  refine g_iadd (pc := 63) W36 d_p22m4_63 ?_
  refine g_iastore (pc := 64) (i := 2) (os' := [(a, O_IntPairs, [.ref b, .int (2 : Int32)]), (b, (.array .int), vs), (o, (.array .int), (fl 9 (ac (g1 [n0, n1, n2, n3]) 5)))]) 5 W36 rfl (by decide) (by decide) (by rw [fl_len]; decide) (by rw [fl_set]; rfl) d_p22m4_64 (fun T37 W38 => ?_)
  refine g_iinc (pc := 65) (ls' := #[.val (.ref a), .val (.ref o), .val (.int (8 : Int32)), .val (.int (5 : Int32)), .unset, .unset, .unset, .unset]) (1 : Int32) (by decide) W38 d_p22m4_65 rfl rfl ?_
  refine g_goto 49 (pc := 68) W38 d_p22m4_68 (by decide) (by decide) ?_
  refine g_iload_n (pc := 49) W38 d_p22m4_49 rfl ?_
  refine g_iload_n (pc := 50) W38 d_p22m4_50 rfl ?_
  refine g_icmpN (pc := 51) W38 d_p22m4_51 (by decide) ?_
  refine g_aload_n (pc := 54) W38 d_p22m4_54 rfl rfl ?_
  refine g_iload_n (pc := 55) W38 d_p22m4_55 rfl ?_
  refine g_iconst (pc := 56) (1 : Int32) (by decide) W38 d_p22m4_56 ?_
  refine g_iadd (pc := 57) W38 d_p22m4_57 ?_
  show Go p_ e_ bl_ _ (T37.setTop (mkF m_ 58 _ [.int (6 : Int32), .ref o]))
  refine g_dup2 (pc := 58) W38 d_p22m4_58 rfl rfl ?_
  refine g_iaload (pc := 59) (i := 2) (v := .int ((ac (g1 [n0, n1, n2, n3]) 5) 6)) W38 rfl (by decide) (fl_get (i := 6) (by decide)) d_p22m4_59 ?_
  refine g_aload_n (pc := 60) W38 d_p22m4_60 rfl rfl ?_
  refine g_iload_n (pc := 61) W38 d_p22m4_61 rfl ?_
  refine g_iaload (pc := 62) (i := 2) (v := .int ((ac (g1 [n0, n1, n2, n3]) 5) 5)) W38 rfl (by decide) (fl_get (i := 5) (by decide)) d_p22m4_62 ?_
  refine g_iadd (pc := 63) W38 d_p22m4_63 ?_
  refine g_iastore (pc := 64) (i := 2) (os' := [(a, O_IntPairs, [.ref b, .int (2 : Int32)]), (b, (.array .int), vs), (o, (.array .int), (fl 9 (ac (g1 [n0, n1, n2, n3]) 6)))]) 6 W38 rfl (by decide) (by decide) (by rw [fl_len]; decide) (by rw [fl_set]; rfl) d_p22m4_64 (fun T39 W40 => ?_)
  refine g_iinc (pc := 65) (ls' := #[.val (.ref a), .val (.ref o), .val (.int (8 : Int32)), .val (.int (6 : Int32)), .unset, .unset, .unset, .unset]) (1 : Int32) (by decide) W40 d_p22m4_65 rfl rfl ?_
  refine g_goto 49 (pc := 68) W40 d_p22m4_68 (by decide) (by decide) ?_
  refine g_iload_n (pc := 49) W40 d_p22m4_49 rfl ?_
  refine g_iload_n (pc := 50) W40 d_p22m4_50 rfl ?_
  refine g_icmpN (pc := 51) W40 d_p22m4_51 (by decide) ?_
  refine g_aload_n (pc := 54) W40 d_p22m4_54 rfl rfl ?_
  refine g_iload_n (pc := 55) W40 d_p22m4_55 rfl ?_
  refine g_iconst (pc := 56) (1 : Int32) (by decide) W40 d_p22m4_56 ?_
  refine g_iadd (pc := 57) W40 d_p22m4_57 ?_
  show Go p_ e_ bl_ _ (T39.setTop (mkF m_ 58 _ [.int (7 : Int32), .ref o]))
  refine g_dup2 (pc := 58) W40 d_p22m4_58 rfl rfl ?_
  refine g_iaload (pc := 59) (i := 2) (v := .int ((ac (g1 [n0, n1, n2, n3]) 6) 7)) W40 rfl (by decide) (fl_get (i := 7) (by decide)) d_p22m4_59 ?_
  refine g_aload_n (pc := 60) W40 d_p22m4_60 rfl rfl ?_
  refine g_iload_n (pc := 61) W40 d_p22m4_61 rfl ?_
  refine g_iaload (pc := 62) (i := 2) (v := .int ((ac (g1 [n0, n1, n2, n3]) 6) 6)) W40 rfl (by decide) (fl_get (i := 6) (by decide)) d_p22m4_62 ?_
  refine g_iadd (pc := 63) W40 d_p22m4_63 ?_
  refine g_iastore (pc := 64) (i := 2) (os' := [(a, O_IntPairs, [.ref b, .int (2 : Int32)]), (b, (.array .int), vs), (o, (.array .int), (fl 9 (ac (g1 [n0, n1, n2, n3]) 7)))]) 7 W40 rfl (by decide) (by decide) (by rw [fl_len]; decide) (by rw [fl_set]; rfl) d_p22m4_64 (fun T41 W42 => ?_)
  refine g_iinc (pc := 65) (ls' := #[.val (.ref a), .val (.ref o), .val (.int (8 : Int32)), .val (.int (7 : Int32)), .unset, .unset, .unset, .unset]) (1 : Int32) (by decide) W42 d_p22m4_65 rfl rfl ?_
  refine g_goto 49 (pc := 68) W42 d_p22m4_68 (by decide) (by decide) ?_
  refine g_iload_n (pc := 49) W42 d_p22m4_49 rfl ?_
  refine g_iload_n (pc := 50) W42 d_p22m4_50 rfl ?_
  refine g_icmpN (pc := 51) W42 d_p22m4_51 (by decide) ?_
  refine g_aload_n (pc := 54) W42 d_p22m4_54 rfl rfl ?_
  refine g_iload_n (pc := 55) W42 d_p22m4_55 rfl ?_
  refine g_iconst (pc := 56) (1 : Int32) (by decide) W42 d_p22m4_56 ?_
  refine g_iadd (pc := 57) W42 d_p22m4_57 ?_
  show Go p_ e_ bl_ _ (T41.setTop (mkF m_ 58 _ [.int (8 : Int32), .ref o]))
  refine g_dup2 (pc := 58) W42 d_p22m4_58 rfl rfl ?_
  refine g_iaload (pc := 59) (i := 2) (v := .int ((ac (g1 [n0, n1, n2, n3]) 7) 8)) W42 rfl (by decide) (fl_get (i := 8) (by decide)) d_p22m4_59 ?_
  refine g_aload_n (pc := 60) W42 d_p22m4_60 rfl rfl ?_
  refine g_iload_n (pc := 61) W42 d_p22m4_61 rfl ?_
  refine g_iaload (pc := 62) (i := 2) (v := .int ((ac (g1 [n0, n1, n2, n3]) 7) 7)) W42 rfl (by decide) (fl_get (i := 7) (by decide)) d_p22m4_62 ?_
  refine g_iadd (pc := 63) W42 d_p22m4_63 ?_
  refine g_iastore (pc := 64) (i := 2) (os' := [(a, O_IntPairs, [.ref b, .int (2 : Int32)]), (b, (.array .int), vs), (o, (.array .int), (fl 9 (ac (g1 [n0, n1, n2, n3]) 8)))]) 8 W42 rfl (by decide) (by decide) (by rw [fl_len]; decide) (by rw [fl_set]; rfl) d_p22m4_64 (fun T43 W44 => ?_)
  refine g_iinc (pc := 65) (ls' := #[.val (.ref a), .val (.ref o), .val (.int (8 : Int32)), .val (.int (8 : Int32)), .unset, .unset, .unset, .unset]) (1 : Int32) (by decide) W44 d_p22m4_65 rfl rfl ?_
  refine g_goto 49 (pc := 68) W44 d_p22m4_68 (by decide) (by decide) ?_
  refine g_iload_n (pc := 49) W44 d_p22m4_49 rfl ?_
  refine g_iload_n (pc := 50) W44 d_p22m4_50 rfl ?_
  refine g_icmpY 71 (pc := 51) W44 d_p22m4_51 (by decide) (by decide) (by decide) ?_
  refine g_aload_n (pc := 71) W44 d_p22m4_71 rfl rfl ?_
  refine g_iload_n (pc := 72) W44 d_p22m4_72 rfl ?_
  refine g_static (pc := 73) (Wt := 0) (argsL := [.ref o, .int (8 : Int32)]) (rest := []) (loc := [(o, (.array .int), (fl 9 (ac (g1 [n0, n1, n2, n3]) 8)))]) (rst := [(a, O_IntPairs, [.ref b, .int (2 : Int32)]), (b, (.array .int), vs)]) W44 (wd hw 34 rfl) (wd hw 35 rfl) (wd hw 36 rfl) (wd hw 37 rfl) (by decide) (c_cp l Z a0 hw o (ac (g1 [n0, n1, n2, n3]) 8)) ⟨[2, 0, 1], by decide, rfl⟩ rfl pd_AII__AI rfl rfl rfl (Nat.le_of_ble_eq_true rfl) (by decide) (by decide) (by decide) (by decide) d_p22m4_73 ?_
  rintro T46 _ _ ⟨b45, rfl, rfl⟩ W47
  have W48 := W47.re (os' := [(o, (.array .int), (fl 9 (ac (g1 [n0, n1, n2, n3]) 8))), (b45, (.array .int), (fl 8 (NX [n0, n1, n2, n3] 0))), (a, O_IntPairs, [.ref b, .int (2 : Int32)]), (b, (.array .int), vs)]) rfl
  show Go p_ e_ bl_ _ (T46.setTop (mkF m_ 76 _ [.ref b45]))
  refine g_astore_n (pc := 76) (ls' := #[.val (.ref a), .val (.ref o), .val (.int (8 : Int32)), .val (.ref b45), .unset, .unset, .unset, .unset]) W48 d_p22m4_76 rfl rfl ?_
  refine g_iconst (pc := 77) (2 : Int32) (by decide) W48 d_p22m4_77 ?_
  refine g_aload_n (pc := 78) W48 d_p22m4_78 rfl rfl ?_
  refine g_getfield (pc := 79) (i := 2) (j := 1) (host := "") W48 (Or.inl (wd hw 17 rfl)) rfl rfl rfl d_p22m4_79 (fun T49 W50 => ?_)
  refine g_imul (pc := 82) W50 d_p22m4_82 ?_
  show Go p_ e_ bl_ _ (T49.setTop (mkF m_ 83 _ [.int (4 : Int32)]))
  refine g_newarray (pc := 83) (ty := .int) (vs := [.int (0 : Int32), .int (0 : Int32), .int (0 : Int32), .int (0 : Int32)]) 4 W50 (wd hw 0 rfl) rfl (by decide) (by decide) (by decide) rfl d_p22m4_83 (by decide) (by decide) (fun T52 b51 W53 => ?_)
  have W54 := W53.re (os' := [(o, (.array .int), (fl 9 (ac (g1 [n0, n1, n2, n3]) 8))), (b45, (.array .int), (fl 8 (NX [n0, n1, n2, n3] 0))), (a, O_IntPairs, [.ref b, .int (2 : Int32)]), (b, (.array .int), vs), (b51, (.array .int), [.int (0 : Int32), .int (0 : Int32), .int (0 : Int32), .int (0 : Int32)])]) rfl
  have W55 := W54.re (os' := [(o, (.array .int), (fl 9 (ac (g1 [n0, n1, n2, n3]) 8))), (b45, (.array .int), (fl 8 (NX [n0, n1, n2, n3] 0))), (a, O_IntPairs, [.ref b, .int (2 : Int32)]), (b, (.array .int), vs), (b51, (.array .int), (fl 4 (HH [n0, n1, n2, n3] 0)))]) rfl
  refine g_astore (pc := 85) (ls' := #[.val (.ref a), .val (.ref o), .val (.int (8 : Int32)), .val (.ref b45), .val (.ref b51), .unset, .unset, .unset]) W55 d_p22m4_85 rfl rfl ?_
  refine g_iconst (pc := 87) (0 : Int32) (by decide) W55 d_p22m4_87 ?_
  refine g_istore (pc := 88) (ls' := #[.val (.ref a), .val (.ref o), .val (.int (8 : Int32)), .val (.ref b45), .val (.ref b51), .val (.int (0 : Int32)), .unset, .unset]) W55 d_p22m4_88 rfl ?_
  refine g_iload (pc := 90) W55 d_p22m4_90 rfl ?_
  refine g_aload_n (pc := 92) W55 d_p22m4_92 rfl rfl ?_
  refine g_getfield (pc := 93) (i := 2) (j := 1) (host := "") W55 (Or.inl (wd hw 17 rfl)) rfl rfl rfl d_p22m4_93 (fun T56 W57 => ?_)
  refine g_icmpN (pc := 96) W57 d_p22m4_96 (by decide) ?_
  refine g_aload_n (pc := 99) W57 d_p22m4_99 rfl rfl ?_
  refine g_iload (pc := 100) W57 d_p22m4_100 rfl ?_
  refine g_virtual (i := 2) (pc := 102) (Wt := 0) (argsL := [.int (0 : Int32)]) (rest := []) (loc := [(a, O_IntPairs, [.ref b, .int (2 : Int32)]), (b, (.array .int), vs)]) (rst := [(o, (.array .int), (fl 9 (ac (g1 [n0, n1, n2, n3]) 8))), (b45, (.array .int), (fl 8 (NX [n0, n1, n2, n3] 0))), (b51, (.array .int), (fl 4 (HH [n0, n1, n2, n3] 0)))]) W57 (wd hw 24 rfl) (wd hw 26 rfl) (wd hw 3 rfl) (wd hw 28 rfl) (wd hw 25 rfl) (wd hw 27 rfl) rfl (by decide) (c_first l Z a0 hw a b (2 : Int32) (0 : Int32) (Int32.ofNat n0) vs (by decide) q0) ⟨[2, 3, 0, 1, 4], by decide, rfl⟩ rfl pd_I__I rfl rfl rfl (Nat.le_of_ble_eq_true rfl) (by decide) (by decide) (by decide) (by decide) d_p22m4_102 ?_
  rintro T58 _ _ ⟨rfl, rfl⟩ W59
  have W60 := W59.re (os' := [(a, O_IntPairs, [.ref b, .int (2 : Int32)]), (b, (.array .int), vs), (o, (.array .int), (fl 9 (ac (g1 [n0, n1, n2, n3]) 8))), (b45, (.array .int), (fl 8 (NX [n0, n1, n2, n3] 0))), (b51, (.array .int), (fl 4 (HH [n0, n1, n2, n3] 0)))]) rfl
  show Go p_ e_ bl_ _ (T58.setTop (mkF m_ 105 _ [.int (Int32.ofNat n0)]))
  refine g_istore (pc := 105) (ls' := #[.val (.ref a), .val (.ref o), .val (.int (8 : Int32)), .val (.ref b45), .val (.ref b51), .val (.int (0 : Int32)), .val (.int (Int32.ofNat n0)), .unset]) W60 d_p22m4_105 rfl ?_
  refine g_aload_n (pc := 107) W60 d_p22m4_107 rfl rfl ?_
  refine g_iload (pc := 108) W60 d_p22m4_108 rfl ?_
  refine g_virtual (i := 0) (pc := 110) (Wt := 0) (argsL := [.int (0 : Int32)]) (rest := []) (loc := [(a, O_IntPairs, [.ref b, .int (2 : Int32)]), (b, (.array .int), vs)]) (rst := [(o, (.array .int), (fl 9 (ac (g1 [n0, n1, n2, n3]) 8))), (b45, (.array .int), (fl 8 (NX [n0, n1, n2, n3] 0))), (b51, (.array .int), (fl 4 (HH [n0, n1, n2, n3] 0)))]) W60 (wd hw 29 rfl) (wd hw 31 rfl) (wd hw 3 rfl) (wd hw 33 rfl) (wd hw 30 rfl) (wd hw 32 rfl) rfl (by decide) (c_second l Z a0 hw a b (2 : Int32) (0 : Int32) (Int32.ofNat n1) vs (by decide) q1) ⟨[0, 1, 2, 3, 4], by decide, rfl⟩ rfl pd_I__I rfl rfl rfl (Nat.le_of_ble_eq_true rfl) (by decide) (by decide) (by decide) (by decide) d_p22m4_110 ?_
  rintro T61 _ _ ⟨rfl, rfl⟩ W62
  have W63 := W62.re (os' := [(a, O_IntPairs, [.ref b, .int (2 : Int32)]), (b, (.array .int), vs), (o, (.array .int), (fl 9 (ac (g1 [n0, n1, n2, n3]) 8))), (b45, (.array .int), (fl 8 (NX [n0, n1, n2, n3] 0))), (b51, (.array .int), (fl 4 (HH [n0, n1, n2, n3] 0)))]) rfl
  show Go p_ e_ bl_ _ (T61.setTop (mkF m_ 113 _ [.int (Int32.ofNat n1)]))
  refine g_istore (pc := 113) (ls' := #[.val (.ref a), .val (.ref o), .val (.int (8 : Int32)), .val (.ref b45), .val (.ref b51), .val (.int (0 : Int32)), .val (.int (Int32.ofNat n0)), .val (.int (Int32.ofNat n1))]) W63 d_p22m4_113 rfl ?_
  refine g_aload (pc := 115) W63 d_p22m4_115 rfl rfl ?_
  refine g_aload_n (pc := 117) W63 d_p22m4_117 rfl rfl ?_
  refine g_iload (pc := 118) W63 d_p22m4_118 rfl ?_
  refine g_dup2 (pc := 120) W63 d_p22m4_120 rfl rfl ?_
  refine g_iaload (pc := 121) (i := 3) (v := .int (ps [n0, n1, n2, n3] 0)) W63 rfl (own_ix h0).1 (by rw [(own_ix h0).2.1]; exact fl_get h0) d_p22m4_121 ?_
  refine g_dup_x2 (pc := 122) W63 d_p22m4_122 rfl rfl rfl ?_
  refine g_iconst (pc := 123) (1 : Int32) (by decide) W63 d_p22m4_123 ?_
  refine g_iadd (pc := 124) W63 d_p22m4_124 ?_
  refine g_iastore (pc := 125) (i := 3) (os' := [(a, O_IntPairs, [.ref b, .int (2 : Int32)]), (b, (.array .int), vs), (o, (.array .int), (fl 9 (ac (g1 [n0, n1, n2, n3]) 8))), (b45, (.array .int), (fl 8 (NX [n0, n1, n2, n3] 1))), (b51, (.array .int), (fl 4 (HH [n0, n1, n2, n3] 0)))]) n0 W63 rfl (own_ix h0).1 (own_ix h0).2.1 (by rw [fl_len]; exact h0) (by rw [fl_set]; rfl) d_p22m4_125 (fun T64 W65 => ?_)
  refine g_iload (pc := 126) W65 d_p22m4_126 rfl ?_
  refine g_iastore (pc := 128) (i := 4) (os' := [(a, O_IntPairs, [.ref b, .int (2 : Int32)]), (b, (.array .int), vs), (o, (.array .int), (fl 9 (ac (g1 [n0, n1, n2, n3]) 8))), (b45, (.array .int), (fl 8 (NX [n0, n1, n2, n3] 1))), (b51, (.array .int), (fl 4 (HH [n0, n1, n2, n3] 1)))]) (ps [n0, n1, n2, n3] 0).toNatClampNeg W65 rfl hp0 rfl (by rw [fl_len]; exact hq0) (by rw [fl_set]; rfl) d_p22m4_128 (fun T66 W67 => ?_)
  refine g_aload (pc := 129) W67 d_p22m4_129 rfl rfl ?_
  refine g_aload_n (pc := 131) W67 d_p22m4_131 rfl rfl ?_
  refine g_iload (pc := 132) W67 d_p22m4_132 rfl ?_
  refine g_dup2 (pc := 134) W67 d_p22m4_134 rfl rfl ?_
  refine g_iaload (pc := 135) (i := 3) (v := .int (ps [n0, n1, n2, n3] 1)) W67 rfl (own_ix h1).1 (by rw [(own_ix h1).2.1]; exact fl_get h1) d_p22m4_135 ?_
  refine g_dup_x2 (pc := 136) W67 d_p22m4_136 rfl rfl rfl ?_
  refine g_iconst (pc := 137) (1 : Int32) (by decide) W67 d_p22m4_137 ?_
  refine g_iadd (pc := 138) W67 d_p22m4_138 ?_
  refine g_iastore (pc := 139) (i := 3) (os' := [(a, O_IntPairs, [.ref b, .int (2 : Int32)]), (b, (.array .int), vs), (o, (.array .int), (fl 9 (ac (g1 [n0, n1, n2, n3]) 8))), (b45, (.array .int), (fl 8 (NX [n0, n1, n2, n3] 2))), (b51, (.array .int), (fl 4 (HH [n0, n1, n2, n3] 1)))]) n1 W67 rfl (own_ix h1).1 (own_ix h1).2.1 (by rw [fl_len]; exact h1) (by rw [fl_set]; rfl) d_p22m4_139 (fun T68 W69 => ?_)
  refine g_iload (pc := 140) W69 d_p22m4_140 rfl ?_
  refine g_iastore (pc := 142) (i := 4) (os' := [(a, O_IntPairs, [.ref b, .int (2 : Int32)]), (b, (.array .int), vs), (o, (.array .int), (fl 9 (ac (g1 [n0, n1, n2, n3]) 8))), (b45, (.array .int), (fl 8 (NX [n0, n1, n2, n3] 2))), (b51, (.array .int), (fl 4 (HH [n0, n1, n2, n3] 2)))]) (ps [n0, n1, n2, n3] 1).toNatClampNeg W69 rfl hp1 rfl (by rw [fl_len]; exact hq1) (by rw [fl_set]; rfl) d_p22m4_142 (fun T70 W71 => ?_)
  refine g_iinc (pc := 143) (ls' := #[.val (.ref a), .val (.ref o), .val (.int (8 : Int32)), .val (.ref b45), .val (.ref b51), .val (.int (1 : Int32)), .val (.int (Int32.ofNat n0)), .val (.int (Int32.ofNat n1))]) (1 : Int32) (by decide) W71 d_p22m4_143 rfl rfl ?_
  refine g_goto 90 (pc := 146) W71 d_p22m4_146 (by decide) (by decide) ?_
  refine g_iload (pc := 90) W71 d_p22m4_90 rfl ?_
  refine g_aload_n (pc := 92) W71 d_p22m4_92 rfl rfl ?_
  refine g_getfield (pc := 93) (i := 0) (j := 1) (host := "") W71 (Or.inl (wd hw 17 rfl)) rfl rfl rfl d_p22m4_93 (fun T72 W73 => ?_)
  refine g_icmpN (pc := 96) W73 d_p22m4_96 (by decide) ?_
  refine g_aload_n (pc := 99) W73 d_p22m4_99 rfl rfl ?_
  refine g_iload (pc := 100) W73 d_p22m4_100 rfl ?_
  refine g_virtual (i := 0) (pc := 102) (Wt := 0) (argsL := [.int (1 : Int32)]) (rest := []) (loc := [(a, O_IntPairs, [.ref b, .int (2 : Int32)]), (b, (.array .int), vs)]) (rst := [(o, (.array .int), (fl 9 (ac (g1 [n0, n1, n2, n3]) 8))), (b45, (.array .int), (fl 8 (NX [n0, n1, n2, n3] 2))), (b51, (.array .int), (fl 4 (HH [n0, n1, n2, n3] 2)))]) W73 (wd hw 24 rfl) (wd hw 26 rfl) (wd hw 3 rfl) (wd hw 28 rfl) (wd hw 25 rfl) (wd hw 27 rfl) rfl (by decide) (c_first l Z a0 hw a b (2 : Int32) (1 : Int32) (Int32.ofNat n2) vs (by decide) q2) ⟨[0, 1, 2, 3, 4], by decide, rfl⟩ rfl pd_I__I rfl rfl rfl (Nat.le_of_ble_eq_true rfl) (by decide) (by decide) (by decide) (by decide) d_p22m4_102 ?_
  rintro T74 _ _ ⟨rfl, rfl⟩ W75
  have W76 := W75.re (os' := [(a, O_IntPairs, [.ref b, .int (2 : Int32)]), (b, (.array .int), vs), (o, (.array .int), (fl 9 (ac (g1 [n0, n1, n2, n3]) 8))), (b45, (.array .int), (fl 8 (NX [n0, n1, n2, n3] 2))), (b51, (.array .int), (fl 4 (HH [n0, n1, n2, n3] 2)))]) rfl
  show Go p_ e_ bl_ _ (T74.setTop (mkF m_ 105 _ [.int (Int32.ofNat n2)]))
  refine g_istore (pc := 105) (ls' := #[.val (.ref a), .val (.ref o), .val (.int (8 : Int32)), .val (.ref b45), .val (.ref b51), .val (.int (1 : Int32)), .val (.int (Int32.ofNat n2)), .val (.int (Int32.ofNat n1))]) W76 d_p22m4_105 rfl ?_
  refine g_aload_n (pc := 107) W76 d_p22m4_107 rfl rfl ?_
  refine g_iload (pc := 108) W76 d_p22m4_108 rfl ?_
  refine g_virtual (i := 0) (pc := 110) (Wt := 0) (argsL := [.int (1 : Int32)]) (rest := []) (loc := [(a, O_IntPairs, [.ref b, .int (2 : Int32)]), (b, (.array .int), vs)]) (rst := [(o, (.array .int), (fl 9 (ac (g1 [n0, n1, n2, n3]) 8))), (b45, (.array .int), (fl 8 (NX [n0, n1, n2, n3] 2))), (b51, (.array .int), (fl 4 (HH [n0, n1, n2, n3] 2)))]) W76 (wd hw 29 rfl) (wd hw 31 rfl) (wd hw 3 rfl) (wd hw 33 rfl) (wd hw 30 rfl) (wd hw 32 rfl) rfl (by decide) (c_second l Z a0 hw a b (2 : Int32) (1 : Int32) (Int32.ofNat n3) vs (by decide) q3) ⟨[0, 1, 2, 3, 4], by decide, rfl⟩ rfl pd_I__I rfl rfl rfl (Nat.le_of_ble_eq_true rfl) (by decide) (by decide) (by decide) (by decide) d_p22m4_110 ?_
  rintro T77 _ _ ⟨rfl, rfl⟩ W78
  have W79 := W78.re (os' := [(a, O_IntPairs, [.ref b, .int (2 : Int32)]), (b, (.array .int), vs), (o, (.array .int), (fl 9 (ac (g1 [n0, n1, n2, n3]) 8))), (b45, (.array .int), (fl 8 (NX [n0, n1, n2, n3] 2))), (b51, (.array .int), (fl 4 (HH [n0, n1, n2, n3] 2)))]) rfl
  show Go p_ e_ bl_ _ (T77.setTop (mkF m_ 113 _ [.int (Int32.ofNat n3)]))
  refine g_istore (pc := 113) (ls' := #[.val (.ref a), .val (.ref o), .val (.int (8 : Int32)), .val (.ref b45), .val (.ref b51), .val (.int (1 : Int32)), .val (.int (Int32.ofNat n2)), .val (.int (Int32.ofNat n3))]) W79 d_p22m4_113 rfl ?_
  refine g_aload (pc := 115) W79 d_p22m4_115 rfl rfl ?_
  refine g_aload_n (pc := 117) W79 d_p22m4_117 rfl rfl ?_
  refine g_iload (pc := 118) W79 d_p22m4_118 rfl ?_
  refine g_dup2 (pc := 120) W79 d_p22m4_120 rfl rfl ?_
  refine g_iaload (pc := 121) (i := 3) (v := .int (ps [n0, n1, n2, n3] 2)) W79 rfl (own_ix h2).1 (by rw [(own_ix h2).2.1]; exact fl_get h2) d_p22m4_121 ?_
  refine g_dup_x2 (pc := 122) W79 d_p22m4_122 rfl rfl rfl ?_
  refine g_iconst (pc := 123) (1 : Int32) (by decide) W79 d_p22m4_123 ?_
  refine g_iadd (pc := 124) W79 d_p22m4_124 ?_
  refine g_iastore (pc := 125) (i := 3) (os' := [(a, O_IntPairs, [.ref b, .int (2 : Int32)]), (b, (.array .int), vs), (o, (.array .int), (fl 9 (ac (g1 [n0, n1, n2, n3]) 8))), (b45, (.array .int), (fl 8 (NX [n0, n1, n2, n3] 3))), (b51, (.array .int), (fl 4 (HH [n0, n1, n2, n3] 2)))]) n2 W79 rfl (own_ix h2).1 (own_ix h2).2.1 (by rw [fl_len]; exact h2) (by rw [fl_set]; rfl) d_p22m4_125 (fun T80 W81 => ?_)
  refine g_iload (pc := 126) W81 d_p22m4_126 rfl ?_
  refine g_iastore (pc := 128) (i := 4) (os' := [(a, O_IntPairs, [.ref b, .int (2 : Int32)]), (b, (.array .int), vs), (o, (.array .int), (fl 9 (ac (g1 [n0, n1, n2, n3]) 8))), (b45, (.array .int), (fl 8 (NX [n0, n1, n2, n3] 3))), (b51, (.array .int), (fl 4 (HH [n0, n1, n2, n3] 3)))]) (ps [n0, n1, n2, n3] 2).toNatClampNeg W81 rfl hp2 rfl (by rw [fl_len]; exact hq2) (by rw [fl_set]; rfl) d_p22m4_128 (fun T82 W83 => ?_)
  refine g_aload (pc := 129) W83 d_p22m4_129 rfl rfl ?_
  refine g_aload_n (pc := 131) W83 d_p22m4_131 rfl rfl ?_
  refine g_iload (pc := 132) W83 d_p22m4_132 rfl ?_
  refine g_dup2 (pc := 134) W83 d_p22m4_134 rfl rfl ?_
  refine g_iaload (pc := 135) (i := 3) (v := .int (ps [n0, n1, n2, n3] 3)) W83 rfl (own_ix h3).1 (by rw [(own_ix h3).2.1]; exact fl_get h3) d_p22m4_135 ?_
  refine g_dup_x2 (pc := 136) W83 d_p22m4_136 rfl rfl rfl ?_
  refine g_iconst (pc := 137) (1 : Int32) (by decide) W83 d_p22m4_137 ?_
  refine g_iadd (pc := 138) W83 d_p22m4_138 ?_
  refine g_iastore (pc := 139) (i := 3) (os' := [(a, O_IntPairs, [.ref b, .int (2 : Int32)]), (b, (.array .int), vs), (o, (.array .int), (fl 9 (ac (g1 [n0, n1, n2, n3]) 8))), (b45, (.array .int), (fl 8 (NX [n0, n1, n2, n3] 4))), (b51, (.array .int), (fl 4 (HH [n0, n1, n2, n3] 3)))]) n3 W83 rfl (own_ix h3).1 (own_ix h3).2.1 (by rw [fl_len]; exact h3) (by rw [fl_set]; rfl) d_p22m4_139 (fun T84 W85 => ?_)
  refine g_iload (pc := 140) W85 d_p22m4_140 rfl ?_
  refine g_iastore (pc := 142) (i := 4) (os' := [(a, O_IntPairs, [.ref b, .int (2 : Int32)]), (b, (.array .int), vs), (o, (.array .int), (fl 9 (ac (g1 [n0, n1, n2, n3]) 8))), (b45, (.array .int), (fl 8 (NX [n0, n1, n2, n3] 4))), (b51, (.array .int), (fl 4 (HH [n0, n1, n2, n3] 4)))]) (ps [n0, n1, n2, n3] 3).toNatClampNeg W85 rfl hp3 rfl (by rw [fl_len]; exact hq3) (by rw [fl_set]; rfl) d_p22m4_142 (fun T86 W87 => ?_)
  refine g_iinc (pc := 143) (ls' := #[.val (.ref a), .val (.ref o), .val (.int (8 : Int32)), .val (.ref b45), .val (.ref b51), .val (.int (2 : Int32)), .val (.int (Int32.ofNat n2)), .val (.int (Int32.ofNat n3))]) (1 : Int32) (by decide) W87 d_p22m4_143 rfl rfl ?_
  refine g_goto 90 (pc := 146) W87 d_p22m4_146 (by decide) (by decide) ?_
  refine g_iload (pc := 90) W87 d_p22m4_90 rfl ?_
  refine g_aload_n (pc := 92) W87 d_p22m4_92 rfl rfl ?_
  refine g_getfield (pc := 93) (i := 0) (j := 1) (host := "") W87 (Or.inl (wd hw 17 rfl)) rfl rfl rfl d_p22m4_93 (fun T88 W89 => ?_)
  refine g_icmpY 149 (pc := 96) W89 d_p22m4_96 (by decide) (by decide) (by decide) ?_
  refine g_aload (pc := 149) W89 d_p22m4_149 rfl rfl ?_
  exact g_areturn (pc := 151) rfl rfl W89 d_p22m4_151 (by decide) (by decide) ⟨b45, b51, rfl, rfl⟩
theorem c_part3 (l : Launch) (Z : State) (a0 : Array Value) (hw : ∀ d ∈ tables_1, d.before a0 Z = true) {B : Nat} (a b o : Addr) (vs : List Value) (n0 n1 n2 n3 n4 n5 : Nat) (h0 : n0 < 8) (h1 : n1 < 8) (h2 : n2 < 8) (h3 : n3 < 8) (h4 : n4 < 8) (h5 : n5 < 8) (q0 : vs[0]? = some (.int (Int32.ofNat n0))) (q1 : vs[1]? = some (.int (Int32.ofNat n1))) (q2 : vs[2]? = some (.int (Int32.ofNat n2))) (q3 : vs[3]? = some (.int (Int32.ofNat n3))) (q4 : vs[4]? = some (.int (Int32.ofNat n4))) (q5 : vs[5]? = some (.int (Int32.ofNat n5))) (hp0 : ¬ ps [n0, n1, n2, n3, n4, n5] 0 < 0) (hq0 : (ps [n0, n1, n2, n3, n4, n5] 0).toNatClampNeg < 6) (hp1 : ¬ ps [n0, n1, n2, n3, n4, n5] 1 < 0) (hq1 : (ps [n0, n1, n2, n3, n4, n5] 1).toNatClampNeg < 6) (hp2 : ¬ ps [n0, n1, n2, n3, n4, n5] 2 < 0) (hq2 : (ps [n0, n1, n2, n3, n4, n5] 2).toNatClampNeg < 6) (hp3 : ¬ ps [n0, n1, n2, n3, n4, n5] 3 < 0) (hq3 : (ps [n0, n1, n2, n3, n4, n5] 3).toNatClampNeg < 6) (hp4 : ¬ ps [n0, n1, n2, n3, n4, n5] 4 < 0) (hq4 : (ps [n0, n1, n2, n3, n4, n5] 4).toNatClampNeg < 6) (hp5 : ¬ ps [n0, n1, n2, n3, n4, n5] 5 < 0) (hq5 : (ps [n0, n1, n2, n3, n4, n5] 5).toNatClampNeg < 6) :
    Con l Z FM B (⟨"com/example/metanode/metanode/graph/IntPairs", "partners", "([I)[I"⟩ : MethodName) prog_22_method_4_code 8 (some (.array .int)) ({ frames := 2, cells := 2, slots := 14, locals := 32 } : Room) [] #[.ref a, .ref o] [(a, O_IntPairs, [.ref b, .int (3 : Int32)]), (b, (.array .int), vs), (o, (.array .int), (fl 9 zf))] (fun rv_ ro_ => ∃ b57, ∃ b63, rv_ = some (.ref b63) ∧ ro_ = [(a, O_IntPairs, [.ref b, .int (3 : Int32)]), (b, (.array .int), vs), (o, (.array .int), (fl 9 (ac (g1 [n0, n1, n2, n3, n4, n5]) 8))), (b57, (.array .int), (fl 8 (NX [n0, n1, n2, n3, n4, n5] 6))), (b63, (.array .int), (fl 6 (HH [n0, n1, n2, n3, n4, n5] 6)))]) := by
  refine Con.of (plainFor_of_name (by first | (simp [plainName, overriddenIn]; done) | decide +kernel)) (ls := #[.val (.ref a), .val (.ref o), .unset, .unset, .unset, .unset, .unset, .unset]) (fun m => by first | (simp [entryFrame, mkF, argsToLocals, Value.category]; done) | rfl) ?_
  intro p_ e_ h_ s_ m_ bl_ me_ c_ T0 W0
  refine g_aload_n (pc := 0) W0 d_p22m4_0 rfl rfl ?_
  refine g_arraylength (pc := 1) (i := 2) (9 : Int32) W0 rfl (by rw [fl_len]; rfl) d_p22m4_1 ?_
  refine g_iconst (pc := 2) (1 : Int32) (by decide) W0 d_p22m4_2 ?_
  refine g_isub (pc := 3) W0 d_p22m4_3 ?_
  show Go p_ e_ bl_ _ (T0.setTop (mkF m_ 4 _ [.int (8 : Int32)]))
  refine g_istore_n (pc := 4) (ls' := #[.val (.ref a), .val (.ref o), .val (.int (8 : Int32)), .unset, .unset, .unset, .unset, .unset]) W0 d_p22m4_4 rfl ?_
  have W1 := W0.re (os' := [(a, O_IntPairs, [.ref b, .int (3 : Int32)]), (b, (.array .int), vs), (o, (.array .int), (fl 9 (g1 [])))]) rfl
  refine g_iconst (pc := 5) (0 : Int32) (by decide) W1 d_p22m4_5 ?_
  refine g_istore_n (pc := 6) (ls' := #[.val (.ref a), .val (.ref o), .val (.int (8 : Int32)), .val (.int (0 : Int32)), .unset, .unset, .unset, .unset]) W1 d_p22m4_6 rfl ?_
  refine g_iload_n (pc := 7) W1 d_p22m4_7 rfl ?_
  refine g_aload_n (pc := 8) W1 d_p22m4_8 rfl rfl ?_
  refine g_getfield (pc := 9) (i := 0) (j := 1) (host := "") W1 (Or.inl (wd hw 17 rfl)) rfl rfl rfl d_p22m4_9 (fun T2 W3 => ?_)
  refine g_icmpN (pc := 12) W3 d_p22m4_12 (by decide) ?_
  refine g_aload_n (pc := 15) W3 d_p22m4_15 rfl rfl ?_
  refine g_aload_n (pc := 16) W3 d_p22m4_16 rfl rfl ?_
  refine g_iload_n (pc := 17) W3 d_p22m4_17 rfl ?_
  refine g_virtual (i := 0) (pc := 18) (Wt := 1) (argsL := [.int (0 : Int32)]) (rest := [.ref o]) (loc := [(a, O_IntPairs, [.ref b, .int (3 : Int32)]), (b, (.array .int), vs)]) (rst := [(o, (.array .int), (fl 9 (g1 [])))]) W3 (wd hw 24 rfl) (wd hw 26 rfl) (wd hw 3 rfl) (wd hw 28 rfl) (wd hw 25 rfl) (wd hw 27 rfl) rfl (by decide) (c_first l Z a0 hw a b (3 : Int32) (0 : Int32) (Int32.ofNat n0) vs (by decide) q0) ⟨[0, 1, 2], by decide, rfl⟩ rfl pd_I__I rfl rfl rfl (Nat.le_of_ble_eq_true rfl) (by decide) (by decide) (by decide) (by decide) d_p22m4_18 ?_
  rintro T4 _ _ ⟨rfl, rfl⟩ W5
  have W6 := W5.re (os' := [(a, O_IntPairs, [.ref b, .int (3 : Int32)]), (b, (.array .int), vs), (o, (.array .int), (fl 9 (g1 [])))]) rfl
  show Go p_ e_ bl_ _ (T4.setTop (mkF m_ 21 _ [.int (Int32.ofNat n0), .ref o]))
  refine g_iconst (pc := 21) (1 : Int32) (by decide) W6 d_p22m4_21 ?_
  refine g_iadd (pc := 22) W6 d_p22m4_22 ?_
  refine g_dup2 (pc := 23) W6 d_p22m4_23 rfl rfl ?_
  refine g_iaload (pc := 24) (i := 2) (v := .int (g1 [] (n0 + 1))) W6 rfl (own_ix h0).2.2.1 (by rw [(own_ix h0).2.2.2]; exact fl_get (by omega)) d_p22m4_24 ?_
  refine g_iconst (pc := 25) (1 : Int32) (by decide) W6 d_p22m4_25 ?_
  refine g_iadd (pc := 26) W6 d_p22m4_26 ?_
  refine g_iastore (pc := 27) (i := 2) (os' := [(a, O_IntPairs, [.ref b, .int (3 : Int32)]), (b, (.array .int), vs), (o, (.array .int), (fl 9 (g1 [n0])))]) (n0 + 1) W6 rfl (own_ix h0).2.2.1 (own_ix h0).2.2.2 (by rw [fl_len]; omega) (by rw [fl_set]; rfl) d_p22m4_27 (fun T7 W8 => ?_)
  refine g_aload_n (pc := 28) W8 d_p22m4_28 rfl rfl ?_
  refine g_aload_n (pc := 29) W8 d_p22m4_29 rfl rfl ?_
  refine g_iload_n (pc := 30) W8 d_p22m4_30 rfl ?_
  refine g_virtual (i := 0) (pc := 31) (Wt := 1) (argsL := [.int (0 : Int32)]) (rest := [.ref o]) (loc := [(a, O_IntPairs, [.ref b, .int (3 : Int32)]), (b, (.array .int), vs)]) (rst := [(o, (.array .int), (fl 9 (g1 [n0])))]) W8 (wd hw 29 rfl) (wd hw 31 rfl) (wd hw 3 rfl) (wd hw 33 rfl) (wd hw 30 rfl) (wd hw 32 rfl) rfl (by decide) (c_second l Z a0 hw a b (3 : Int32) (0 : Int32) (Int32.ofNat n1) vs (by decide) q1) ⟨[0, 1, 2], by decide, rfl⟩ rfl pd_I__I rfl rfl rfl (Nat.le_of_ble_eq_true rfl) (by decide) (by decide) (by decide) (by decide) d_p22m4_31 ?_
  rintro T9 _ _ ⟨rfl, rfl⟩ W10
  have W11 := W10.re (os' := [(a, O_IntPairs, [.ref b, .int (3 : Int32)]), (b, (.array .int), vs), (o, (.array .int), (fl 9 (g1 [n0])))]) rfl
  show Go p_ e_ bl_ _ (T9.setTop (mkF m_ 34 _ [.int (Int32.ofNat n1), .ref o]))
  refine g_iconst (pc := 34) (1 : Int32) (by decide) W11 d_p22m4_34 ?_
  refine g_iadd (pc := 35) W11 d_p22m4_35 ?_
  refine g_dup2 (pc := 36) W11 d_p22m4_36 rfl rfl ?_
  refine g_iaload (pc := 37) (i := 2) (v := .int (g1 [n0] (n1 + 1))) W11 rfl (own_ix h1).2.2.1 (by rw [(own_ix h1).2.2.2]; exact fl_get (by omega)) d_p22m4_37 ?_
  refine g_iconst (pc := 38) (1 : Int32) (by decide) W11 d_p22m4_38 ?_
  refine g_iadd (pc := 39) W11 d_p22m4_39 ?_
  refine g_iastore (pc := 40) (i := 2) (os' := [(a, O_IntPairs, [.ref b, .int (3 : Int32)]), (b, (.array .int), vs), (o, (.array .int), (fl 9 (g1 [n0, n1])))]) (n1 + 1) W11 rfl (own_ix h1).2.2.1 (own_ix h1).2.2.2 (by rw [fl_len]; omega) (by rw [fl_set]; rfl) d_p22m4_40 (fun T12 W13 => ?_)
  refine g_iinc (pc := 41) (ls' := #[.val (.ref a), .val (.ref o), .val (.int (8 : Int32)), .val (.int (1 : Int32)), .unset, .unset, .unset, .unset]) (1 : Int32) (by decide) W13 d_p22m4_41 rfl rfl ?_
  refine g_goto 7 (pc := 44) W13 d_p22m4_44 (by decide) (by decide) ?_
  refine g_iload_n (pc := 7) W13 d_p22m4_7 rfl ?_
  refine g_aload_n (pc := 8) W13 d_p22m4_8 rfl rfl ?_
  refine g_getfield (pc := 9) (i := 0) (j := 1) (host := "") W13 (Or.inl (wd hw 17 rfl)) rfl rfl rfl d_p22m4_9 (fun T14 W15 => ?_)
  refine g_icmpN (pc := 12) W15 d_p22m4_12 (by decide) ?_
  refine g_aload_n (pc := 15) W15 d_p22m4_15 rfl rfl ?_
  refine g_aload_n (pc := 16) W15 d_p22m4_16 rfl rfl ?_
  refine g_iload_n (pc := 17) W15 d_p22m4_17 rfl ?_
  refine g_virtual (i := 0) (pc := 18) (Wt := 1) (argsL := [.int (1 : Int32)]) (rest := [.ref o]) (loc := [(a, O_IntPairs, [.ref b, .int (3 : Int32)]), (b, (.array .int), vs)]) (rst := [(o, (.array .int), (fl 9 (g1 [n0, n1])))]) W15 (wd hw 24 rfl) (wd hw 26 rfl) (wd hw 3 rfl) (wd hw 28 rfl) (wd hw 25 rfl) (wd hw 27 rfl) rfl (by decide) (c_first l Z a0 hw a b (3 : Int32) (1 : Int32) (Int32.ofNat n2) vs (by decide) q2) ⟨[0, 1, 2], by decide, rfl⟩ rfl pd_I__I rfl rfl rfl (Nat.le_of_ble_eq_true rfl) (by decide) (by decide) (by decide) (by decide) d_p22m4_18 ?_
  rintro T16 _ _ ⟨rfl, rfl⟩ W17
  have W18 := W17.re (os' := [(a, O_IntPairs, [.ref b, .int (3 : Int32)]), (b, (.array .int), vs), (o, (.array .int), (fl 9 (g1 [n0, n1])))]) rfl
  show Go p_ e_ bl_ _ (T16.setTop (mkF m_ 21 _ [.int (Int32.ofNat n2), .ref o]))
  refine g_iconst (pc := 21) (1 : Int32) (by decide) W18 d_p22m4_21 ?_
  refine g_iadd (pc := 22) W18 d_p22m4_22 ?_
  refine g_dup2 (pc := 23) W18 d_p22m4_23 rfl rfl ?_
  refine g_iaload (pc := 24) (i := 2) (v := .int (g1 [n0, n1] (n2 + 1))) W18 rfl (own_ix h2).2.2.1 (by rw [(own_ix h2).2.2.2]; exact fl_get (by omega)) d_p22m4_24 ?_
  refine g_iconst (pc := 25) (1 : Int32) (by decide) W18 d_p22m4_25 ?_
  refine g_iadd (pc := 26) W18 d_p22m4_26 ?_
  refine g_iastore (pc := 27) (i := 2) (os' := [(a, O_IntPairs, [.ref b, .int (3 : Int32)]), (b, (.array .int), vs), (o, (.array .int), (fl 9 (g1 [n0, n1, n2])))]) (n2 + 1) W18 rfl (own_ix h2).2.2.1 (own_ix h2).2.2.2 (by rw [fl_len]; omega) (by rw [fl_set]; rfl) d_p22m4_27 (fun T19 W20 => ?_)
  refine g_aload_n (pc := 28) W20 d_p22m4_28 rfl rfl ?_
  refine g_aload_n (pc := 29) W20 d_p22m4_29 rfl rfl ?_
  refine g_iload_n (pc := 30) W20 d_p22m4_30 rfl ?_
  refine g_virtual (i := 0) (pc := 31) (Wt := 1) (argsL := [.int (1 : Int32)]) (rest := [.ref o]) (loc := [(a, O_IntPairs, [.ref b, .int (3 : Int32)]), (b, (.array .int), vs)]) (rst := [(o, (.array .int), (fl 9 (g1 [n0, n1, n2])))]) W20 (wd hw 29 rfl) (wd hw 31 rfl) (wd hw 3 rfl) (wd hw 33 rfl) (wd hw 30 rfl) (wd hw 32 rfl) rfl (by decide) (c_second l Z a0 hw a b (3 : Int32) (1 : Int32) (Int32.ofNat n3) vs (by decide) q3) ⟨[0, 1, 2], by decide, rfl⟩ rfl pd_I__I rfl rfl rfl (Nat.le_of_ble_eq_true rfl) (by decide) (by decide) (by decide) (by decide) d_p22m4_31 ?_
  rintro T21 _ _ ⟨rfl, rfl⟩ W22
  have W23 := W22.re (os' := [(a, O_IntPairs, [.ref b, .int (3 : Int32)]), (b, (.array .int), vs), (o, (.array .int), (fl 9 (g1 [n0, n1, n2])))]) rfl
  show Go p_ e_ bl_ _ (T21.setTop (mkF m_ 34 _ [.int (Int32.ofNat n3), .ref o]))
  refine g_iconst (pc := 34) (1 : Int32) (by decide) W23 d_p22m4_34 ?_
  refine g_iadd (pc := 35) W23 d_p22m4_35 ?_
  refine g_dup2 (pc := 36) W23 d_p22m4_36 rfl rfl ?_
  refine g_iaload (pc := 37) (i := 2) (v := .int (g1 [n0, n1, n2] (n3 + 1))) W23 rfl (own_ix h3).2.2.1 (by rw [(own_ix h3).2.2.2]; exact fl_get (by omega)) d_p22m4_37 ?_
  refine g_iconst (pc := 38) (1 : Int32) (by decide) W23 d_p22m4_38 ?_
  refine g_iadd (pc := 39) W23 d_p22m4_39 ?_
  refine g_iastore (pc := 40) (i := 2) (os' := [(a, O_IntPairs, [.ref b, .int (3 : Int32)]), (b, (.array .int), vs), (o, (.array .int), (fl 9 (g1 [n0, n1, n2, n3])))]) (n3 + 1) W23 rfl (own_ix h3).2.2.1 (own_ix h3).2.2.2 (by rw [fl_len]; omega) (by rw [fl_set]; rfl) d_p22m4_40 (fun T24 W25 => ?_)
  refine g_iinc (pc := 41) (ls' := #[.val (.ref a), .val (.ref o), .val (.int (8 : Int32)), .val (.int (2 : Int32)), .unset, .unset, .unset, .unset]) (1 : Int32) (by decide) W25 d_p22m4_41 rfl rfl ?_
  refine g_goto 7 (pc := 44) W25 d_p22m4_44 (by decide) (by decide) ?_
  refine g_iload_n (pc := 7) W25 d_p22m4_7 rfl ?_
  refine g_aload_n (pc := 8) W25 d_p22m4_8 rfl rfl ?_
  refine g_getfield (pc := 9) (i := 0) (j := 1) (host := "") W25 (Or.inl (wd hw 17 rfl)) rfl rfl rfl d_p22m4_9 (fun T26 W27 => ?_)
  refine g_icmpN (pc := 12) W27 d_p22m4_12 (by decide) ?_
  refine g_aload_n (pc := 15) W27 d_p22m4_15 rfl rfl ?_
  refine g_aload_n (pc := 16) W27 d_p22m4_16 rfl rfl ?_
  refine g_iload_n (pc := 17) W27 d_p22m4_17 rfl ?_
  refine g_virtual (i := 0) (pc := 18) (Wt := 1) (argsL := [.int (2 : Int32)]) (rest := [.ref o]) (loc := [(a, O_IntPairs, [.ref b, .int (3 : Int32)]), (b, (.array .int), vs)]) (rst := [(o, (.array .int), (fl 9 (g1 [n0, n1, n2, n3])))]) W27 (wd hw 24 rfl) (wd hw 26 rfl) (wd hw 3 rfl) (wd hw 28 rfl) (wd hw 25 rfl) (wd hw 27 rfl) rfl (by decide) (c_first l Z a0 hw a b (3 : Int32) (2 : Int32) (Int32.ofNat n4) vs (by decide) q4) ⟨[0, 1, 2], by decide, rfl⟩ rfl pd_I__I rfl rfl rfl (Nat.le_of_ble_eq_true rfl) (by decide) (by decide) (by decide) (by decide) d_p22m4_18 ?_
  rintro T28 _ _ ⟨rfl, rfl⟩ W29
  have W30 := W29.re (os' := [(a, O_IntPairs, [.ref b, .int (3 : Int32)]), (b, (.array .int), vs), (o, (.array .int), (fl 9 (g1 [n0, n1, n2, n3])))]) rfl
  show Go p_ e_ bl_ _ (T28.setTop (mkF m_ 21 _ [.int (Int32.ofNat n4), .ref o]))
  refine g_iconst (pc := 21) (1 : Int32) (by decide) W30 d_p22m4_21 ?_
  refine g_iadd (pc := 22) W30 d_p22m4_22 ?_
  refine g_dup2 (pc := 23) W30 d_p22m4_23 rfl rfl ?_
  refine g_iaload (pc := 24) (i := 2) (v := .int (g1 [n0, n1, n2, n3] (n4 + 1))) W30 rfl (own_ix h4).2.2.1 (by rw [(own_ix h4).2.2.2]; exact fl_get (by omega)) d_p22m4_24 ?_
  refine g_iconst (pc := 25) (1 : Int32) (by decide) W30 d_p22m4_25 ?_
  refine g_iadd (pc := 26) W30 d_p22m4_26 ?_
  refine g_iastore (pc := 27) (i := 2) (os' := [(a, O_IntPairs, [.ref b, .int (3 : Int32)]), (b, (.array .int), vs), (o, (.array .int), (fl 9 (g1 [n0, n1, n2, n3, n4])))]) (n4 + 1) W30 rfl (own_ix h4).2.2.1 (own_ix h4).2.2.2 (by rw [fl_len]; omega) (by rw [fl_set]; rfl) d_p22m4_27 (fun T31 W32 => ?_)
  refine g_aload_n (pc := 28) W32 d_p22m4_28 rfl rfl ?_
  refine g_aload_n (pc := 29) W32 d_p22m4_29 rfl rfl ?_
  refine g_iload_n (pc := 30) W32 d_p22m4_30 rfl ?_
  refine g_virtual (i := 0) (pc := 31) (Wt := 1) (argsL := [.int (2 : Int32)]) (rest := [.ref o]) (loc := [(a, O_IntPairs, [.ref b, .int (3 : Int32)]), (b, (.array .int), vs)]) (rst := [(o, (.array .int), (fl 9 (g1 [n0, n1, n2, n3, n4])))]) W32 (wd hw 29 rfl) (wd hw 31 rfl) (wd hw 3 rfl) (wd hw 33 rfl) (wd hw 30 rfl) (wd hw 32 rfl) rfl (by decide) (c_second l Z a0 hw a b (3 : Int32) (2 : Int32) (Int32.ofNat n5) vs (by decide) q5) ⟨[0, 1, 2], by decide, rfl⟩ rfl pd_I__I rfl rfl rfl (Nat.le_of_ble_eq_true rfl) (by decide) (by decide) (by decide) (by decide) d_p22m4_31 ?_
  rintro T33 _ _ ⟨rfl, rfl⟩ W34
  have W35 := W34.re (os' := [(a, O_IntPairs, [.ref b, .int (3 : Int32)]), (b, (.array .int), vs), (o, (.array .int), (fl 9 (g1 [n0, n1, n2, n3, n4])))]) rfl
  show Go p_ e_ bl_ _ (T33.setTop (mkF m_ 34 _ [.int (Int32.ofNat n5), .ref o]))
  refine g_iconst (pc := 34) (1 : Int32) (by decide) W35 d_p22m4_34 ?_
  refine g_iadd (pc := 35) W35 d_p22m4_35 ?_
  refine g_dup2 (pc := 36) W35 d_p22m4_36 rfl rfl ?_
  refine g_iaload (pc := 37) (i := 2) (v := .int (g1 [n0, n1, n2, n3, n4] (n5 + 1))) W35 rfl (own_ix h5).2.2.1 (by rw [(own_ix h5).2.2.2]; exact fl_get (by omega)) d_p22m4_37 ?_
  refine g_iconst (pc := 38) (1 : Int32) (by decide) W35 d_p22m4_38 ?_
  refine g_iadd (pc := 39) W35 d_p22m4_39 ?_
  refine g_iastore (pc := 40) (i := 2) (os' := [(a, O_IntPairs, [.ref b, .int (3 : Int32)]), (b, (.array .int), vs), (o, (.array .int), (fl 9 (g1 [n0, n1, n2, n3, n4, n5])))]) (n5 + 1) W35 rfl (own_ix h5).2.2.1 (own_ix h5).2.2.2 (by rw [fl_len]; omega) (by rw [fl_set]; rfl) d_p22m4_40 (fun T36 W37 => ?_)
  refine g_iinc (pc := 41) (ls' := #[.val (.ref a), .val (.ref o), .val (.int (8 : Int32)), .val (.int (3 : Int32)), .unset, .unset, .unset, .unset]) (1 : Int32) (by decide) W37 d_p22m4_41 rfl rfl ?_
  refine g_goto 7 (pc := 44) W37 d_p22m4_44 (by decide) (by decide) ?_
  refine g_iload_n (pc := 7) W37 d_p22m4_7 rfl ?_
  refine g_aload_n (pc := 8) W37 d_p22m4_8 rfl rfl ?_
  refine g_getfield (pc := 9) (i := 0) (j := 1) (host := "") W37 (Or.inl (wd hw 17 rfl)) rfl rfl rfl d_p22m4_9 (fun T38 W39 => ?_)
  refine g_icmpY 47 (pc := 12) W39 d_p22m4_12 (by decide) (by decide) (by decide) ?_
  have W40 := W39.re (os' := [(a, O_IntPairs, [.ref b, .int (3 : Int32)]), (b, (.array .int), vs), (o, (.array .int), (fl 9 (ac (g1 [n0, n1, n2, n3, n4, n5]) 0)))]) rfl
  refine g_iconst (pc := 47) (0 : Int32) (by decide) W40 d_p22m4_47 ?_
  refine g_istore_n (pc := 48) (ls' := #[.val (.ref a), .val (.ref o), .val (.int (8 : Int32)), .val (.int (0 : Int32)), .unset, .unset, .unset, .unset]) W40 d_p22m4_48 rfl ?_
  refine g_iload_n (pc := 49) W40 d_p22m4_49 rfl ?_
  refine g_iload_n (pc := 50) W40 d_p22m4_50 rfl ?_
  refine g_icmpN (pc := 51) W40 d_p22m4_51 (by decide) ?_
  refine g_aload_n (pc := 54) W40 d_p22m4_54 rfl rfl ?_
  refine g_iload_n (pc := 55) W40 d_p22m4_55 rfl ?_
  refine g_iconst (pc := 56) (1 : Int32) (by decide) W40 d_p22m4_56 ?_
  refine g_iadd (pc := 57) W40 d_p22m4_57 ?_
  show Go p_ e_ bl_ _ (T38.setTop (mkF m_ 58 _ [.int (1 : Int32), .ref o]))
  refine g_dup2 (pc := 58) W40 d_p22m4_58 rfl rfl ?_
  refine g_iaload (pc := 59) (i := 2) (v := .int ((ac (g1 [n0, n1, n2, n3, n4, n5]) 0) 1)) W40 rfl (by decide) (fl_get (i := 1) (by decide)) d_p22m4_59 ?_
  refine g_aload_n (pc := 60) W40 d_p22m4_60 rfl rfl ?_
  refine g_iload_n (pc := 61) W40 d_p22m4_61 rfl ?_
  refine g_iaload (pc := 62) (i := 2) (v := .int ((ac (g1 [n0, n1, n2, n3, n4, n5]) 0) 0)) W40 rfl (by decide) (fl_get (i := 0) (by decide)) d_p22m4_62 ?_
  refine g_iadd (pc := 63) W40 d_p22m4_63 ?_
  refine g_iastore (pc := 64) (i := 2) (os' := [(a, O_IntPairs, [.ref b, .int (3 : Int32)]), (b, (.array .int), vs), (o, (.array .int), (fl 9 (ac (g1 [n0, n1, n2, n3, n4, n5]) 1)))]) 1 W40 rfl (by decide) (by decide) (by rw [fl_len]; decide) (by rw [fl_set]; rfl) d_p22m4_64 (fun T41 W42 => ?_)
  refine g_iinc (pc := 65) (ls' := #[.val (.ref a), .val (.ref o), .val (.int (8 : Int32)), .val (.int (1 : Int32)), .unset, .unset, .unset, .unset]) (1 : Int32) (by decide) W42 d_p22m4_65 rfl rfl ?_
  refine g_goto 49 (pc := 68) W42 d_p22m4_68 (by decide) (by decide) ?_
  refine g_iload_n (pc := 49) W42 d_p22m4_49 rfl ?_
  refine g_iload_n (pc := 50) W42 d_p22m4_50 rfl ?_
  refine g_icmpN (pc := 51) W42 d_p22m4_51 (by decide) ?_
  refine g_aload_n (pc := 54) W42 d_p22m4_54 rfl rfl ?_
  refine g_iload_n (pc := 55) W42 d_p22m4_55 rfl ?_
  refine g_iconst (pc := 56) (1 : Int32) (by decide) W42 d_p22m4_56 ?_
  refine g_iadd (pc := 57) W42 d_p22m4_57 ?_
  show Go p_ e_ bl_ _ (T41.setTop (mkF m_ 58 _ [.int (2 : Int32), .ref o]))
  refine g_dup2 (pc := 58) W42 d_p22m4_58 rfl rfl ?_
  refine g_iaload (pc := 59) (i := 2) (v := .int ((ac (g1 [n0, n1, n2, n3, n4, n5]) 1) 2)) W42 rfl (by decide) (fl_get (i := 2) (by decide)) d_p22m4_59 ?_
  refine g_aload_n (pc := 60) W42 d_p22m4_60 rfl rfl ?_
  refine g_iload_n (pc := 61) W42 d_p22m4_61 rfl ?_
  refine g_iaload (pc := 62) (i := 2) (v := .int ((ac (g1 [n0, n1, n2, n3, n4, n5]) 1) 1)) W42 rfl (by decide) (fl_get (i := 1) (by decide)) d_p22m4_62 ?_
  refine g_iadd (pc := 63) W42 d_p22m4_63 ?_
  refine g_iastore (pc := 64) (i := 2) (os' := [(a, O_IntPairs, [.ref b, .int (3 : Int32)]), (b, (.array .int), vs), (o, (.array .int), (fl 9 (ac (g1 [n0, n1, n2, n3, n4, n5]) 2)))]) 2 W42 rfl (by decide) (by decide) (by rw [fl_len]; decide) (by rw [fl_set]; rfl) d_p22m4_64 (fun T43 W44 => ?_)
  refine g_iinc (pc := 65) (ls' := #[.val (.ref a), .val (.ref o), .val (.int (8 : Int32)), .val (.int (2 : Int32)), .unset, .unset, .unset, .unset]) (1 : Int32) (by decide) W44 d_p22m4_65 rfl rfl ?_
  refine g_goto 49 (pc := 68) W44 d_p22m4_68 (by decide) (by decide) ?_
  refine g_iload_n (pc := 49) W44 d_p22m4_49 rfl ?_
  refine g_iload_n (pc := 50) W44 d_p22m4_50 rfl ?_
  refine g_icmpN (pc := 51) W44 d_p22m4_51 (by decide) ?_
  refine g_aload_n (pc := 54) W44 d_p22m4_54 rfl rfl ?_
  refine g_iload_n (pc := 55) W44 d_p22m4_55 rfl ?_
  refine g_iconst (pc := 56) (1 : Int32) (by decide) W44 d_p22m4_56 ?_
  refine g_iadd (pc := 57) W44 d_p22m4_57 ?_
  show Go p_ e_ bl_ _ (T43.setTop (mkF m_ 58 _ [.int (3 : Int32), .ref o]))
  refine g_dup2 (pc := 58) W44 d_p22m4_58 rfl rfl ?_
  refine g_iaload (pc := 59) (i := 2) (v := .int ((ac (g1 [n0, n1, n2, n3, n4, n5]) 2) 3)) W44 rfl (by decide) (fl_get (i := 3) (by decide)) d_p22m4_59 ?_
  refine g_aload_n (pc := 60) W44 d_p22m4_60 rfl rfl ?_
  refine g_iload_n (pc := 61) W44 d_p22m4_61 rfl ?_
  refine g_iaload (pc := 62) (i := 2) (v := .int ((ac (g1 [n0, n1, n2, n3, n4, n5]) 2) 2)) W44 rfl (by decide) (fl_get (i := 2) (by decide)) d_p22m4_62 ?_
  refine g_iadd (pc := 63) W44 d_p22m4_63 ?_
  refine g_iastore (pc := 64) (i := 2) (os' := [(a, O_IntPairs, [.ref b, .int (3 : Int32)]), (b, (.array .int), vs), (o, (.array .int), (fl 9 (ac (g1 [n0, n1, n2, n3, n4, n5]) 3)))]) 3 W44 rfl (by decide) (by decide) (by rw [fl_len]; decide) (by rw [fl_set]; rfl) d_p22m4_64 (fun T45 W46 => ?_)
  refine g_iinc (pc := 65) (ls' := #[.val (.ref a), .val (.ref o), .val (.int (8 : Int32)), .val (.int (3 : Int32)), .unset, .unset, .unset, .unset]) (1 : Int32) (by decide) W46 d_p22m4_65 rfl rfl ?_
  refine g_goto 49 (pc := 68) W46 d_p22m4_68 (by decide) (by decide) ?_
  refine g_iload_n (pc := 49) W46 d_p22m4_49 rfl ?_
  refine g_iload_n (pc := 50) W46 d_p22m4_50 rfl ?_
  refine g_icmpN (pc := 51) W46 d_p22m4_51 (by decide) ?_
  refine g_aload_n (pc := 54) W46 d_p22m4_54 rfl rfl ?_
  refine g_iload_n (pc := 55) W46 d_p22m4_55 rfl ?_
  refine g_iconst (pc := 56) (1 : Int32) (by decide) W46 d_p22m4_56 ?_
  refine g_iadd (pc := 57) W46 d_p22m4_57 ?_
  show Go p_ e_ bl_ _ (T45.setTop (mkF m_ 58 _ [.int (4 : Int32), .ref o]))
  refine g_dup2 (pc := 58) W46 d_p22m4_58 rfl rfl ?_
  refine g_iaload (pc := 59) (i := 2) (v := .int ((ac (g1 [n0, n1, n2, n3, n4, n5]) 3) 4)) W46 rfl (by decide) (fl_get (i := 4) (by decide)) d_p22m4_59 ?_
  refine g_aload_n (pc := 60) W46 d_p22m4_60 rfl rfl ?_
  refine g_iload_n (pc := 61) W46 d_p22m4_61 rfl ?_
  refine g_iaload (pc := 62) (i := 2) (v := .int ((ac (g1 [n0, n1, n2, n3, n4, n5]) 3) 3)) W46 rfl (by decide) (fl_get (i := 3) (by decide)) d_p22m4_62 ?_
  refine g_iadd (pc := 63) W46 d_p22m4_63 ?_
  refine g_iastore (pc := 64) (i := 2) (os' := [(a, O_IntPairs, [.ref b, .int (3 : Int32)]), (b, (.array .int), vs), (o, (.array .int), (fl 9 (ac (g1 [n0, n1, n2, n3, n4, n5]) 4)))]) 4 W46 rfl (by decide) (by decide) (by rw [fl_len]; decide) (by rw [fl_set]; rfl) d_p22m4_64 (fun T47 W48 => ?_)
  refine g_iinc (pc := 65) (ls' := #[.val (.ref a), .val (.ref o), .val (.int (8 : Int32)), .val (.int (4 : Int32)), .unset, .unset, .unset, .unset]) (1 : Int32) (by decide) W48 d_p22m4_65 rfl rfl ?_
  refine g_goto 49 (pc := 68) W48 d_p22m4_68 (by decide) (by decide) ?_
  refine g_iload_n (pc := 49) W48 d_p22m4_49 rfl ?_
  refine g_iload_n (pc := 50) W48 d_p22m4_50 rfl ?_
  refine g_icmpN (pc := 51) W48 d_p22m4_51 (by decide) ?_
  refine g_aload_n (pc := 54) W48 d_p22m4_54 rfl rfl ?_
  refine g_iload_n (pc := 55) W48 d_p22m4_55 rfl ?_
  refine g_iconst (pc := 56) (1 : Int32) (by decide) W48 d_p22m4_56 ?_
  refine g_iadd (pc := 57) W48 d_p22m4_57 ?_
  show Go p_ e_ bl_ _ (T47.setTop (mkF m_ 58 _ [.int (5 : Int32), .ref o]))
  refine g_dup2 (pc := 58) W48 d_p22m4_58 rfl rfl ?_
  refine g_iaload (pc := 59) (i := 2) (v := .int ((ac (g1 [n0, n1, n2, n3, n4, n5]) 4) 5)) W48 rfl (by decide) (fl_get (i := 5) (by decide)) d_p22m4_59 ?_
  refine g_aload_n (pc := 60) W48 d_p22m4_60 rfl rfl ?_
  refine g_iload_n (pc := 61) W48 d_p22m4_61 rfl ?_
  refine g_iaload (pc := 62) (i := 2) (v := .int ((ac (g1 [n0, n1, n2, n3, n4, n5]) 4) 4)) W48 rfl (by decide) (fl_get (i := 4) (by decide)) d_p22m4_62 ?_
  refine g_iadd (pc := 63) W48 d_p22m4_63 ?_
  refine g_iastore (pc := 64) (i := 2) (os' := [(a, O_IntPairs, [.ref b, .int (3 : Int32)]), (b, (.array .int), vs), (o, (.array .int), (fl 9 (ac (g1 [n0, n1, n2, n3, n4, n5]) 5)))]) 5 W48 rfl (by decide) (by decide) (by rw [fl_len]; decide) (by rw [fl_set]; rfl) d_p22m4_64 (fun T49 W50 => ?_)
  refine g_iinc (pc := 65) (ls' := #[.val (.ref a), .val (.ref o), .val (.int (8 : Int32)), .val (.int (5 : Int32)), .unset, .unset, .unset, .unset]) (1 : Int32) (by decide) W50 d_p22m4_65 rfl rfl ?_
  refine g_goto 49 (pc := 68) W50 d_p22m4_68 (by decide) (by decide) ?_
  refine g_iload_n (pc := 49) W50 d_p22m4_49 rfl ?_
  refine g_iload_n (pc := 50) W50 d_p22m4_50 rfl ?_
  refine g_icmpN (pc := 51) W50 d_p22m4_51 (by decide) ?_
  refine g_aload_n (pc := 54) W50 d_p22m4_54 rfl rfl ?_
  refine g_iload_n (pc := 55) W50 d_p22m4_55 rfl ?_
  refine g_iconst (pc := 56) (1 : Int32) (by decide) W50 d_p22m4_56 ?_
  refine g_iadd (pc := 57) W50 d_p22m4_57 ?_
  show Go p_ e_ bl_ _ (T49.setTop (mkF m_ 58 _ [.int (6 : Int32), .ref o]))
  refine g_dup2 (pc := 58) W50 d_p22m4_58 rfl rfl ?_
  refine g_iaload (pc := 59) (i := 2) (v := .int ((ac (g1 [n0, n1, n2, n3, n4, n5]) 5) 6)) W50 rfl (by decide) (fl_get (i := 6) (by decide)) d_p22m4_59 ?_
  refine g_aload_n (pc := 60) W50 d_p22m4_60 rfl rfl ?_
  refine g_iload_n (pc := 61) W50 d_p22m4_61 rfl ?_
  refine g_iaload (pc := 62) (i := 2) (v := .int ((ac (g1 [n0, n1, n2, n3, n4, n5]) 5) 5)) W50 rfl (by decide) (fl_get (i := 5) (by decide)) d_p22m4_62 ?_
  refine g_iadd (pc := 63) W50 d_p22m4_63 ?_
  refine g_iastore (pc := 64) (i := 2) (os' := [(a, O_IntPairs, [.ref b, .int (3 : Int32)]), (b, (.array .int), vs), (o, (.array .int), (fl 9 (ac (g1 [n0, n1, n2, n3, n4, n5]) 6)))]) 6 W50 rfl (by decide) (by decide) (by rw [fl_len]; decide) (by rw [fl_set]; rfl) d_p22m4_64 (fun T51 W52 => ?_)
  refine g_iinc (pc := 65) (ls' := #[.val (.ref a), .val (.ref o), .val (.int (8 : Int32)), .val (.int (6 : Int32)), .unset, .unset, .unset, .unset]) (1 : Int32) (by decide) W52 d_p22m4_65 rfl rfl ?_
  refine g_goto 49 (pc := 68) W52 d_p22m4_68 (by decide) (by decide) ?_
  refine g_iload_n (pc := 49) W52 d_p22m4_49 rfl ?_
  refine g_iload_n (pc := 50) W52 d_p22m4_50 rfl ?_
  refine g_icmpN (pc := 51) W52 d_p22m4_51 (by decide) ?_
  refine g_aload_n (pc := 54) W52 d_p22m4_54 rfl rfl ?_
  refine g_iload_n (pc := 55) W52 d_p22m4_55 rfl ?_
  refine g_iconst (pc := 56) (1 : Int32) (by decide) W52 d_p22m4_56 ?_
  refine g_iadd (pc := 57) W52 d_p22m4_57 ?_
  show Go p_ e_ bl_ _ (T51.setTop (mkF m_ 58 _ [.int (7 : Int32), .ref o]))
  refine g_dup2 (pc := 58) W52 d_p22m4_58 rfl rfl ?_
  refine g_iaload (pc := 59) (i := 2) (v := .int ((ac (g1 [n0, n1, n2, n3, n4, n5]) 6) 7)) W52 rfl (by decide) (fl_get (i := 7) (by decide)) d_p22m4_59 ?_
  refine g_aload_n (pc := 60) W52 d_p22m4_60 rfl rfl ?_
  refine g_iload_n (pc := 61) W52 d_p22m4_61 rfl ?_
  refine g_iaload (pc := 62) (i := 2) (v := .int ((ac (g1 [n0, n1, n2, n3, n4, n5]) 6) 6)) W52 rfl (by decide) (fl_get (i := 6) (by decide)) d_p22m4_62 ?_
  refine g_iadd (pc := 63) W52 d_p22m4_63 ?_
  refine g_iastore (pc := 64) (i := 2) (os' := [(a, O_IntPairs, [.ref b, .int (3 : Int32)]), (b, (.array .int), vs), (o, (.array .int), (fl 9 (ac (g1 [n0, n1, n2, n3, n4, n5]) 7)))]) 7 W52 rfl (by decide) (by decide) (by rw [fl_len]; decide) (by rw [fl_set]; rfl) d_p22m4_64 (fun T53 W54 => ?_)
  refine g_iinc (pc := 65) (ls' := #[.val (.ref a), .val (.ref o), .val (.int (8 : Int32)), .val (.int (7 : Int32)), .unset, .unset, .unset, .unset]) (1 : Int32) (by decide) W54 d_p22m4_65 rfl rfl ?_
  refine g_goto 49 (pc := 68) W54 d_p22m4_68 (by decide) (by decide) ?_
  refine g_iload_n (pc := 49) W54 d_p22m4_49 rfl ?_
  refine g_iload_n (pc := 50) W54 d_p22m4_50 rfl ?_
  refine g_icmpN (pc := 51) W54 d_p22m4_51 (by decide) ?_
  refine g_aload_n (pc := 54) W54 d_p22m4_54 rfl rfl ?_
  refine g_iload_n (pc := 55) W54 d_p22m4_55 rfl ?_
  refine g_iconst (pc := 56) (1 : Int32) (by decide) W54 d_p22m4_56 ?_
  refine g_iadd (pc := 57) W54 d_p22m4_57 ?_
  show Go p_ e_ bl_ _ (T53.setTop (mkF m_ 58 _ [.int (8 : Int32), .ref o]))
  refine g_dup2 (pc := 58) W54 d_p22m4_58 rfl rfl ?_
  refine g_iaload (pc := 59) (i := 2) (v := .int ((ac (g1 [n0, n1, n2, n3, n4, n5]) 7) 8)) W54 rfl (by decide) (fl_get (i := 8) (by decide)) d_p22m4_59 ?_
  refine g_aload_n (pc := 60) W54 d_p22m4_60 rfl rfl ?_
  refine g_iload_n (pc := 61) W54 d_p22m4_61 rfl ?_
  refine g_iaload (pc := 62) (i := 2) (v := .int ((ac (g1 [n0, n1, n2, n3, n4, n5]) 7) 7)) W54 rfl (by decide) (fl_get (i := 7) (by decide)) d_p22m4_62 ?_
  refine g_iadd (pc := 63) W54 d_p22m4_63 ?_
  refine g_iastore (pc := 64) (i := 2) (os' := [(a, O_IntPairs, [.ref b, .int (3 : Int32)]), (b, (.array .int), vs), (o, (.array .int), (fl 9 (ac (g1 [n0, n1, n2, n3, n4, n5]) 8)))]) 8 W54 rfl (by decide) (by decide) (by rw [fl_len]; decide) (by rw [fl_set]; rfl) d_p22m4_64 (fun T55 W56 => ?_)
  refine g_iinc (pc := 65) (ls' := #[.val (.ref a), .val (.ref o), .val (.int (8 : Int32)), .val (.int (8 : Int32)), .unset, .unset, .unset, .unset]) (1 : Int32) (by decide) W56 d_p22m4_65 rfl rfl ?_
  refine g_goto 49 (pc := 68) W56 d_p22m4_68 (by decide) (by decide) ?_
  refine g_iload_n (pc := 49) W56 d_p22m4_49 rfl ?_
  refine g_iload_n (pc := 50) W56 d_p22m4_50 rfl ?_
  refine g_icmpY 71 (pc := 51) W56 d_p22m4_51 (by decide) (by decide) (by decide) ?_
  refine g_aload_n (pc := 71) W56 d_p22m4_71 rfl rfl ?_
  refine g_iload_n (pc := 72) W56 d_p22m4_72 rfl ?_
  refine g_static (pc := 73) (Wt := 0) (argsL := [.ref o, .int (8 : Int32)]) (rest := []) (loc := [(o, (.array .int), (fl 9 (ac (g1 [n0, n1, n2, n3, n4, n5]) 8)))]) (rst := [(a, O_IntPairs, [.ref b, .int (3 : Int32)]), (b, (.array .int), vs)]) W56 (wd hw 34 rfl) (wd hw 35 rfl) (wd hw 36 rfl) (wd hw 37 rfl) (by decide) (c_cp l Z a0 hw o (ac (g1 [n0, n1, n2, n3, n4, n5]) 8)) ⟨[2, 0, 1], by decide, rfl⟩ rfl pd_AII__AI rfl rfl rfl (Nat.le_of_ble_eq_true rfl) (by decide) (by decide) (by decide) (by decide) d_p22m4_73 ?_
  rintro T58 _ _ ⟨b57, rfl, rfl⟩ W59
  have W60 := W59.re (os' := [(o, (.array .int), (fl 9 (ac (g1 [n0, n1, n2, n3, n4, n5]) 8))), (b57, (.array .int), (fl 8 (NX [n0, n1, n2, n3, n4, n5] 0))), (a, O_IntPairs, [.ref b, .int (3 : Int32)]), (b, (.array .int), vs)]) rfl
  show Go p_ e_ bl_ _ (T58.setTop (mkF m_ 76 _ [.ref b57]))
  refine g_astore_n (pc := 76) (ls' := #[.val (.ref a), .val (.ref o), .val (.int (8 : Int32)), .val (.ref b57), .unset, .unset, .unset, .unset]) W60 d_p22m4_76 rfl rfl ?_
  refine g_iconst (pc := 77) (2 : Int32) (by decide) W60 d_p22m4_77 ?_
  refine g_aload_n (pc := 78) W60 d_p22m4_78 rfl rfl ?_
  refine g_getfield (pc := 79) (i := 2) (j := 1) (host := "") W60 (Or.inl (wd hw 17 rfl)) rfl rfl rfl d_p22m4_79 (fun T61 W62 => ?_)
  refine g_imul (pc := 82) W62 d_p22m4_82 ?_
  show Go p_ e_ bl_ _ (T61.setTop (mkF m_ 83 _ [.int (6 : Int32)]))
  refine g_newarray (pc := 83) (ty := .int) (vs := [.int (0 : Int32), .int (0 : Int32), .int (0 : Int32), .int (0 : Int32), .int (0 : Int32), .int (0 : Int32)]) 6 W62 (wd hw 0 rfl) rfl (by decide) (by decide) (by decide) rfl d_p22m4_83 (by decide) (by decide) (fun T64 b63 W65 => ?_)
  have W66 := W65.re (os' := [(o, (.array .int), (fl 9 (ac (g1 [n0, n1, n2, n3, n4, n5]) 8))), (b57, (.array .int), (fl 8 (NX [n0, n1, n2, n3, n4, n5] 0))), (a, O_IntPairs, [.ref b, .int (3 : Int32)]), (b, (.array .int), vs), (b63, (.array .int), [.int (0 : Int32), .int (0 : Int32), .int (0 : Int32), .int (0 : Int32), .int (0 : Int32), .int (0 : Int32)])]) rfl
  have W67 := W66.re (os' := [(o, (.array .int), (fl 9 (ac (g1 [n0, n1, n2, n3, n4, n5]) 8))), (b57, (.array .int), (fl 8 (NX [n0, n1, n2, n3, n4, n5] 0))), (a, O_IntPairs, [.ref b, .int (3 : Int32)]), (b, (.array .int), vs), (b63, (.array .int), (fl 6 (HH [n0, n1, n2, n3, n4, n5] 0)))]) rfl
  refine g_astore (pc := 85) (ls' := #[.val (.ref a), .val (.ref o), .val (.int (8 : Int32)), .val (.ref b57), .val (.ref b63), .unset, .unset, .unset]) W67 d_p22m4_85 rfl rfl ?_
  refine g_iconst (pc := 87) (0 : Int32) (by decide) W67 d_p22m4_87 ?_
  refine g_istore (pc := 88) (ls' := #[.val (.ref a), .val (.ref o), .val (.int (8 : Int32)), .val (.ref b57), .val (.ref b63), .val (.int (0 : Int32)), .unset, .unset]) W67 d_p22m4_88 rfl ?_
  refine g_iload (pc := 90) W67 d_p22m4_90 rfl ?_
  refine g_aload_n (pc := 92) W67 d_p22m4_92 rfl rfl ?_
  refine g_getfield (pc := 93) (i := 2) (j := 1) (host := "") W67 (Or.inl (wd hw 17 rfl)) rfl rfl rfl d_p22m4_93 (fun T68 W69 => ?_)
  refine g_icmpN (pc := 96) W69 d_p22m4_96 (by decide) ?_
  refine g_aload_n (pc := 99) W69 d_p22m4_99 rfl rfl ?_
  refine g_iload (pc := 100) W69 d_p22m4_100 rfl ?_
  refine g_virtual (i := 2) (pc := 102) (Wt := 0) (argsL := [.int (0 : Int32)]) (rest := []) (loc := [(a, O_IntPairs, [.ref b, .int (3 : Int32)]), (b, (.array .int), vs)]) (rst := [(o, (.array .int), (fl 9 (ac (g1 [n0, n1, n2, n3, n4, n5]) 8))), (b57, (.array .int), (fl 8 (NX [n0, n1, n2, n3, n4, n5] 0))), (b63, (.array .int), (fl 6 (HH [n0, n1, n2, n3, n4, n5] 0)))]) W69 (wd hw 24 rfl) (wd hw 26 rfl) (wd hw 3 rfl) (wd hw 28 rfl) (wd hw 25 rfl) (wd hw 27 rfl) rfl (by decide) (c_first l Z a0 hw a b (3 : Int32) (0 : Int32) (Int32.ofNat n0) vs (by decide) q0) ⟨[2, 3, 0, 1, 4], by decide, rfl⟩ rfl pd_I__I rfl rfl rfl (Nat.le_of_ble_eq_true rfl) (by decide) (by decide) (by decide) (by decide) d_p22m4_102 ?_
  rintro T70 _ _ ⟨rfl, rfl⟩ W71
  have W72 := W71.re (os' := [(a, O_IntPairs, [.ref b, .int (3 : Int32)]), (b, (.array .int), vs), (o, (.array .int), (fl 9 (ac (g1 [n0, n1, n2, n3, n4, n5]) 8))), (b57, (.array .int), (fl 8 (NX [n0, n1, n2, n3, n4, n5] 0))), (b63, (.array .int), (fl 6 (HH [n0, n1, n2, n3, n4, n5] 0)))]) rfl
  show Go p_ e_ bl_ _ (T70.setTop (mkF m_ 105 _ [.int (Int32.ofNat n0)]))
  refine g_istore (pc := 105) (ls' := #[.val (.ref a), .val (.ref o), .val (.int (8 : Int32)), .val (.ref b57), .val (.ref b63), .val (.int (0 : Int32)), .val (.int (Int32.ofNat n0)), .unset]) W72 d_p22m4_105 rfl ?_
  refine g_aload_n (pc := 107) W72 d_p22m4_107 rfl rfl ?_
  refine g_iload (pc := 108) W72 d_p22m4_108 rfl ?_
  refine g_virtual (i := 0) (pc := 110) (Wt := 0) (argsL := [.int (0 : Int32)]) (rest := []) (loc := [(a, O_IntPairs, [.ref b, .int (3 : Int32)]), (b, (.array .int), vs)]) (rst := [(o, (.array .int), (fl 9 (ac (g1 [n0, n1, n2, n3, n4, n5]) 8))), (b57, (.array .int), (fl 8 (NX [n0, n1, n2, n3, n4, n5] 0))), (b63, (.array .int), (fl 6 (HH [n0, n1, n2, n3, n4, n5] 0)))]) W72 (wd hw 29 rfl) (wd hw 31 rfl) (wd hw 3 rfl) (wd hw 33 rfl) (wd hw 30 rfl) (wd hw 32 rfl) rfl (by decide) (c_second l Z a0 hw a b (3 : Int32) (0 : Int32) (Int32.ofNat n1) vs (by decide) q1) ⟨[0, 1, 2, 3, 4], by decide, rfl⟩ rfl pd_I__I rfl rfl rfl (Nat.le_of_ble_eq_true rfl) (by decide) (by decide) (by decide) (by decide) d_p22m4_110 ?_
  rintro T73 _ _ ⟨rfl, rfl⟩ W74
  have W75 := W74.re (os' := [(a, O_IntPairs, [.ref b, .int (3 : Int32)]), (b, (.array .int), vs), (o, (.array .int), (fl 9 (ac (g1 [n0, n1, n2, n3, n4, n5]) 8))), (b57, (.array .int), (fl 8 (NX [n0, n1, n2, n3, n4, n5] 0))), (b63, (.array .int), (fl 6 (HH [n0, n1, n2, n3, n4, n5] 0)))]) rfl
  show Go p_ e_ bl_ _ (T73.setTop (mkF m_ 113 _ [.int (Int32.ofNat n1)]))
  refine g_istore (pc := 113) (ls' := #[.val (.ref a), .val (.ref o), .val (.int (8 : Int32)), .val (.ref b57), .val (.ref b63), .val (.int (0 : Int32)), .val (.int (Int32.ofNat n0)), .val (.int (Int32.ofNat n1))]) W75 d_p22m4_113 rfl ?_
  refine g_aload (pc := 115) W75 d_p22m4_115 rfl rfl ?_
  refine g_aload_n (pc := 117) W75 d_p22m4_117 rfl rfl ?_
  refine g_iload (pc := 118) W75 d_p22m4_118 rfl ?_
  refine g_dup2 (pc := 120) W75 d_p22m4_120 rfl rfl ?_
  refine g_iaload (pc := 121) (i := 3) (v := .int (ps [n0, n1, n2, n3, n4, n5] 0)) W75 rfl (own_ix h0).1 (by rw [(own_ix h0).2.1]; exact fl_get h0) d_p22m4_121 ?_
  refine g_dup_x2 (pc := 122) W75 d_p22m4_122 rfl rfl rfl ?_
  refine g_iconst (pc := 123) (1 : Int32) (by decide) W75 d_p22m4_123 ?_
  refine g_iadd (pc := 124) W75 d_p22m4_124 ?_
  refine g_iastore (pc := 125) (i := 3) (os' := [(a, O_IntPairs, [.ref b, .int (3 : Int32)]), (b, (.array .int), vs), (o, (.array .int), (fl 9 (ac (g1 [n0, n1, n2, n3, n4, n5]) 8))), (b57, (.array .int), (fl 8 (NX [n0, n1, n2, n3, n4, n5] 1))), (b63, (.array .int), (fl 6 (HH [n0, n1, n2, n3, n4, n5] 0)))]) n0 W75 rfl (own_ix h0).1 (own_ix h0).2.1 (by rw [fl_len]; exact h0) (by rw [fl_set]; rfl) d_p22m4_125 (fun T76 W77 => ?_)
  refine g_iload (pc := 126) W77 d_p22m4_126 rfl ?_
  refine g_iastore (pc := 128) (i := 4) (os' := [(a, O_IntPairs, [.ref b, .int (3 : Int32)]), (b, (.array .int), vs), (o, (.array .int), (fl 9 (ac (g1 [n0, n1, n2, n3, n4, n5]) 8))), (b57, (.array .int), (fl 8 (NX [n0, n1, n2, n3, n4, n5] 1))), (b63, (.array .int), (fl 6 (HH [n0, n1, n2, n3, n4, n5] 1)))]) (ps [n0, n1, n2, n3, n4, n5] 0).toNatClampNeg W77 rfl hp0 rfl (by rw [fl_len]; exact hq0) (by rw [fl_set]; rfl) d_p22m4_128 (fun T78 W79 => ?_)
  refine g_aload (pc := 129) W79 d_p22m4_129 rfl rfl ?_
  refine g_aload_n (pc := 131) W79 d_p22m4_131 rfl rfl ?_
  refine g_iload (pc := 132) W79 d_p22m4_132 rfl ?_
  refine g_dup2 (pc := 134) W79 d_p22m4_134 rfl rfl ?_
  refine g_iaload (pc := 135) (i := 3) (v := .int (ps [n0, n1, n2, n3, n4, n5] 1)) W79 rfl (own_ix h1).1 (by rw [(own_ix h1).2.1]; exact fl_get h1) d_p22m4_135 ?_
  refine g_dup_x2 (pc := 136) W79 d_p22m4_136 rfl rfl rfl ?_
  refine g_iconst (pc := 137) (1 : Int32) (by decide) W79 d_p22m4_137 ?_
  refine g_iadd (pc := 138) W79 d_p22m4_138 ?_
  refine g_iastore (pc := 139) (i := 3) (os' := [(a, O_IntPairs, [.ref b, .int (3 : Int32)]), (b, (.array .int), vs), (o, (.array .int), (fl 9 (ac (g1 [n0, n1, n2, n3, n4, n5]) 8))), (b57, (.array .int), (fl 8 (NX [n0, n1, n2, n3, n4, n5] 2))), (b63, (.array .int), (fl 6 (HH [n0, n1, n2, n3, n4, n5] 1)))]) n1 W79 rfl (own_ix h1).1 (own_ix h1).2.1 (by rw [fl_len]; exact h1) (by rw [fl_set]; rfl) d_p22m4_139 (fun T80 W81 => ?_)
  refine g_iload (pc := 140) W81 d_p22m4_140 rfl ?_
  refine g_iastore (pc := 142) (i := 4) (os' := [(a, O_IntPairs, [.ref b, .int (3 : Int32)]), (b, (.array .int), vs), (o, (.array .int), (fl 9 (ac (g1 [n0, n1, n2, n3, n4, n5]) 8))), (b57, (.array .int), (fl 8 (NX [n0, n1, n2, n3, n4, n5] 2))), (b63, (.array .int), (fl 6 (HH [n0, n1, n2, n3, n4, n5] 2)))]) (ps [n0, n1, n2, n3, n4, n5] 1).toNatClampNeg W81 rfl hp1 rfl (by rw [fl_len]; exact hq1) (by rw [fl_set]; rfl) d_p22m4_142 (fun T82 W83 => ?_)
  refine g_iinc (pc := 143) (ls' := #[.val (.ref a), .val (.ref o), .val (.int (8 : Int32)), .val (.ref b57), .val (.ref b63), .val (.int (1 : Int32)), .val (.int (Int32.ofNat n0)), .val (.int (Int32.ofNat n1))]) (1 : Int32) (by decide) W83 d_p22m4_143 rfl rfl ?_
  refine g_goto 90 (pc := 146) W83 d_p22m4_146 (by decide) (by decide) ?_
  refine g_iload (pc := 90) W83 d_p22m4_90 rfl ?_
  refine g_aload_n (pc := 92) W83 d_p22m4_92 rfl rfl ?_
  refine g_getfield (pc := 93) (i := 0) (j := 1) (host := "") W83 (Or.inl (wd hw 17 rfl)) rfl rfl rfl d_p22m4_93 (fun T84 W85 => ?_)
  refine g_icmpN (pc := 96) W85 d_p22m4_96 (by decide) ?_
  refine g_aload_n (pc := 99) W85 d_p22m4_99 rfl rfl ?_
  refine g_iload (pc := 100) W85 d_p22m4_100 rfl ?_
  refine g_virtual (i := 0) (pc := 102) (Wt := 0) (argsL := [.int (1 : Int32)]) (rest := []) (loc := [(a, O_IntPairs, [.ref b, .int (3 : Int32)]), (b, (.array .int), vs)]) (rst := [(o, (.array .int), (fl 9 (ac (g1 [n0, n1, n2, n3, n4, n5]) 8))), (b57, (.array .int), (fl 8 (NX [n0, n1, n2, n3, n4, n5] 2))), (b63, (.array .int), (fl 6 (HH [n0, n1, n2, n3, n4, n5] 2)))]) W85 (wd hw 24 rfl) (wd hw 26 rfl) (wd hw 3 rfl) (wd hw 28 rfl) (wd hw 25 rfl) (wd hw 27 rfl) rfl (by decide) (c_first l Z a0 hw a b (3 : Int32) (1 : Int32) (Int32.ofNat n2) vs (by decide) q2) ⟨[0, 1, 2, 3, 4], by decide, rfl⟩ rfl pd_I__I rfl rfl rfl (Nat.le_of_ble_eq_true rfl) (by decide) (by decide) (by decide) (by decide) d_p22m4_102 ?_
  rintro T86 _ _ ⟨rfl, rfl⟩ W87
  have W88 := W87.re (os' := [(a, O_IntPairs, [.ref b, .int (3 : Int32)]), (b, (.array .int), vs), (o, (.array .int), (fl 9 (ac (g1 [n0, n1, n2, n3, n4, n5]) 8))), (b57, (.array .int), (fl 8 (NX [n0, n1, n2, n3, n4, n5] 2))), (b63, (.array .int), (fl 6 (HH [n0, n1, n2, n3, n4, n5] 2)))]) rfl
  show Go p_ e_ bl_ _ (T86.setTop (mkF m_ 105 _ [.int (Int32.ofNat n2)]))
  refine g_istore (pc := 105) (ls' := #[.val (.ref a), .val (.ref o), .val (.int (8 : Int32)), .val (.ref b57), .val (.ref b63), .val (.int (1 : Int32)), .val (.int (Int32.ofNat n2)), .val (.int (Int32.ofNat n1))]) W88 d_p22m4_105 rfl ?_
  refine g_aload_n (pc := 107) W88 d_p22m4_107 rfl rfl ?_
  refine g_iload (pc := 108) W88 d_p22m4_108 rfl ?_
  refine g_virtual (i := 0) (pc := 110) (Wt := 0) (argsL := [.int (1 : Int32)]) (rest := []) (loc := [(a, O_IntPairs, [.ref b, .int (3 : Int32)]), (b, (.array .int), vs)]) (rst := [(o, (.array .int), (fl 9 (ac (g1 [n0, n1, n2, n3, n4, n5]) 8))), (b57, (.array .int), (fl 8 (NX [n0, n1, n2, n3, n4, n5] 2))), (b63, (.array .int), (fl 6 (HH [n0, n1, n2, n3, n4, n5] 2)))]) W88 (wd hw 29 rfl) (wd hw 31 rfl) (wd hw 3 rfl) (wd hw 33 rfl) (wd hw 30 rfl) (wd hw 32 rfl) rfl (by decide) (c_second l Z a0 hw a b (3 : Int32) (1 : Int32) (Int32.ofNat n3) vs (by decide) q3) ⟨[0, 1, 2, 3, 4], by decide, rfl⟩ rfl pd_I__I rfl rfl rfl (Nat.le_of_ble_eq_true rfl) (by decide) (by decide) (by decide) (by decide) d_p22m4_110 ?_
  rintro T89 _ _ ⟨rfl, rfl⟩ W90
  have W91 := W90.re (os' := [(a, O_IntPairs, [.ref b, .int (3 : Int32)]), (b, (.array .int), vs), (o, (.array .int), (fl 9 (ac (g1 [n0, n1, n2, n3, n4, n5]) 8))), (b57, (.array .int), (fl 8 (NX [n0, n1, n2, n3, n4, n5] 2))), (b63, (.array .int), (fl 6 (HH [n0, n1, n2, n3, n4, n5] 2)))]) rfl
  show Go p_ e_ bl_ _ (T89.setTop (mkF m_ 113 _ [.int (Int32.ofNat n3)]))
  refine g_istore (pc := 113) (ls' := #[.val (.ref a), .val (.ref o), .val (.int (8 : Int32)), .val (.ref b57), .val (.ref b63), .val (.int (1 : Int32)), .val (.int (Int32.ofNat n2)), .val (.int (Int32.ofNat n3))]) W91 d_p22m4_113 rfl ?_
  refine g_aload (pc := 115) W91 d_p22m4_115 rfl rfl ?_
  refine g_aload_n (pc := 117) W91 d_p22m4_117 rfl rfl ?_
  refine g_iload (pc := 118) W91 d_p22m4_118 rfl ?_
  refine g_dup2 (pc := 120) W91 d_p22m4_120 rfl rfl ?_
  refine g_iaload (pc := 121) (i := 3) (v := .int (ps [n0, n1, n2, n3, n4, n5] 2)) W91 rfl (own_ix h2).1 (by rw [(own_ix h2).2.1]; exact fl_get h2) d_p22m4_121 ?_
  refine g_dup_x2 (pc := 122) W91 d_p22m4_122 rfl rfl rfl ?_
  refine g_iconst (pc := 123) (1 : Int32) (by decide) W91 d_p22m4_123 ?_
  refine g_iadd (pc := 124) W91 d_p22m4_124 ?_
  refine g_iastore (pc := 125) (i := 3) (os' := [(a, O_IntPairs, [.ref b, .int (3 : Int32)]), (b, (.array .int), vs), (o, (.array .int), (fl 9 (ac (g1 [n0, n1, n2, n3, n4, n5]) 8))), (b57, (.array .int), (fl 8 (NX [n0, n1, n2, n3, n4, n5] 3))), (b63, (.array .int), (fl 6 (HH [n0, n1, n2, n3, n4, n5] 2)))]) n2 W91 rfl (own_ix h2).1 (own_ix h2).2.1 (by rw [fl_len]; exact h2) (by rw [fl_set]; rfl) d_p22m4_125 (fun T92 W93 => ?_)
  refine g_iload (pc := 126) W93 d_p22m4_126 rfl ?_
  refine g_iastore (pc := 128) (i := 4) (os' := [(a, O_IntPairs, [.ref b, .int (3 : Int32)]), (b, (.array .int), vs), (o, (.array .int), (fl 9 (ac (g1 [n0, n1, n2, n3, n4, n5]) 8))), (b57, (.array .int), (fl 8 (NX [n0, n1, n2, n3, n4, n5] 3))), (b63, (.array .int), (fl 6 (HH [n0, n1, n2, n3, n4, n5] 3)))]) (ps [n0, n1, n2, n3, n4, n5] 2).toNatClampNeg W93 rfl hp2 rfl (by rw [fl_len]; exact hq2) (by rw [fl_set]; rfl) d_p22m4_128 (fun T94 W95 => ?_)
  refine g_aload (pc := 129) W95 d_p22m4_129 rfl rfl ?_
  refine g_aload_n (pc := 131) W95 d_p22m4_131 rfl rfl ?_
  refine g_iload (pc := 132) W95 d_p22m4_132 rfl ?_
  refine g_dup2 (pc := 134) W95 d_p22m4_134 rfl rfl ?_
  refine g_iaload (pc := 135) (i := 3) (v := .int (ps [n0, n1, n2, n3, n4, n5] 3)) W95 rfl (own_ix h3).1 (by rw [(own_ix h3).2.1]; exact fl_get h3) d_p22m4_135 ?_
  refine g_dup_x2 (pc := 136) W95 d_p22m4_136 rfl rfl rfl ?_
  refine g_iconst (pc := 137) (1 : Int32) (by decide) W95 d_p22m4_137 ?_
  refine g_iadd (pc := 138) W95 d_p22m4_138 ?_
  refine g_iastore (pc := 139) (i := 3) (os' := [(a, O_IntPairs, [.ref b, .int (3 : Int32)]), (b, (.array .int), vs), (o, (.array .int), (fl 9 (ac (g1 [n0, n1, n2, n3, n4, n5]) 8))), (b57, (.array .int), (fl 8 (NX [n0, n1, n2, n3, n4, n5] 4))), (b63, (.array .int), (fl 6 (HH [n0, n1, n2, n3, n4, n5] 3)))]) n3 W95 rfl (own_ix h3).1 (own_ix h3).2.1 (by rw [fl_len]; exact h3) (by rw [fl_set]; rfl) d_p22m4_139 (fun T96 W97 => ?_)
  refine g_iload (pc := 140) W97 d_p22m4_140 rfl ?_
  refine g_iastore (pc := 142) (i := 4) (os' := [(a, O_IntPairs, [.ref b, .int (3 : Int32)]), (b, (.array .int), vs), (o, (.array .int), (fl 9 (ac (g1 [n0, n1, n2, n3, n4, n5]) 8))), (b57, (.array .int), (fl 8 (NX [n0, n1, n2, n3, n4, n5] 4))), (b63, (.array .int), (fl 6 (HH [n0, n1, n2, n3, n4, n5] 4)))]) (ps [n0, n1, n2, n3, n4, n5] 3).toNatClampNeg W97 rfl hp3 rfl (by rw [fl_len]; exact hq3) (by rw [fl_set]; rfl) d_p22m4_142 (fun T98 W99 => ?_)
  refine g_iinc (pc := 143) (ls' := #[.val (.ref a), .val (.ref o), .val (.int (8 : Int32)), .val (.ref b57), .val (.ref b63), .val (.int (2 : Int32)), .val (.int (Int32.ofNat n2)), .val (.int (Int32.ofNat n3))]) (1 : Int32) (by decide) W99 d_p22m4_143 rfl rfl ?_
  refine g_goto 90 (pc := 146) W99 d_p22m4_146 (by decide) (by decide) ?_
  refine g_iload (pc := 90) W99 d_p22m4_90 rfl ?_
  refine g_aload_n (pc := 92) W99 d_p22m4_92 rfl rfl ?_
  refine g_getfield (pc := 93) (i := 0) (j := 1) (host := "") W99 (Or.inl (wd hw 17 rfl)) rfl rfl rfl d_p22m4_93 (fun T100 W101 => ?_)
  refine g_icmpN (pc := 96) W101 d_p22m4_96 (by decide) ?_
  refine g_aload_n (pc := 99) W101 d_p22m4_99 rfl rfl ?_
  refine g_iload (pc := 100) W101 d_p22m4_100 rfl ?_
  refine g_virtual (i := 0) (pc := 102) (Wt := 0) (argsL := [.int (2 : Int32)]) (rest := []) (loc := [(a, O_IntPairs, [.ref b, .int (3 : Int32)]), (b, (.array .int), vs)]) (rst := [(o, (.array .int), (fl 9 (ac (g1 [n0, n1, n2, n3, n4, n5]) 8))), (b57, (.array .int), (fl 8 (NX [n0, n1, n2, n3, n4, n5] 4))), (b63, (.array .int), (fl 6 (HH [n0, n1, n2, n3, n4, n5] 4)))]) W101 (wd hw 24 rfl) (wd hw 26 rfl) (wd hw 3 rfl) (wd hw 28 rfl) (wd hw 25 rfl) (wd hw 27 rfl) rfl (by decide) (c_first l Z a0 hw a b (3 : Int32) (2 : Int32) (Int32.ofNat n4) vs (by decide) q4) ⟨[0, 1, 2, 3, 4], by decide, rfl⟩ rfl pd_I__I rfl rfl rfl (Nat.le_of_ble_eq_true rfl) (by decide) (by decide) (by decide) (by decide) d_p22m4_102 ?_
  rintro T102 _ _ ⟨rfl, rfl⟩ W103
  have W104 := W103.re (os' := [(a, O_IntPairs, [.ref b, .int (3 : Int32)]), (b, (.array .int), vs), (o, (.array .int), (fl 9 (ac (g1 [n0, n1, n2, n3, n4, n5]) 8))), (b57, (.array .int), (fl 8 (NX [n0, n1, n2, n3, n4, n5] 4))), (b63, (.array .int), (fl 6 (HH [n0, n1, n2, n3, n4, n5] 4)))]) rfl
  show Go p_ e_ bl_ _ (T102.setTop (mkF m_ 105 _ [.int (Int32.ofNat n4)]))
  refine g_istore (pc := 105) (ls' := #[.val (.ref a), .val (.ref o), .val (.int (8 : Int32)), .val (.ref b57), .val (.ref b63), .val (.int (2 : Int32)), .val (.int (Int32.ofNat n4)), .val (.int (Int32.ofNat n3))]) W104 d_p22m4_105 rfl ?_
  refine g_aload_n (pc := 107) W104 d_p22m4_107 rfl rfl ?_
  refine g_iload (pc := 108) W104 d_p22m4_108 rfl ?_
  refine g_virtual (i := 0) (pc := 110) (Wt := 0) (argsL := [.int (2 : Int32)]) (rest := []) (loc := [(a, O_IntPairs, [.ref b, .int (3 : Int32)]), (b, (.array .int), vs)]) (rst := [(o, (.array .int), (fl 9 (ac (g1 [n0, n1, n2, n3, n4, n5]) 8))), (b57, (.array .int), (fl 8 (NX [n0, n1, n2, n3, n4, n5] 4))), (b63, (.array .int), (fl 6 (HH [n0, n1, n2, n3, n4, n5] 4)))]) W104 (wd hw 29 rfl) (wd hw 31 rfl) (wd hw 3 rfl) (wd hw 33 rfl) (wd hw 30 rfl) (wd hw 32 rfl) rfl (by decide) (c_second l Z a0 hw a b (3 : Int32) (2 : Int32) (Int32.ofNat n5) vs (by decide) q5) ⟨[0, 1, 2, 3, 4], by decide, rfl⟩ rfl pd_I__I rfl rfl rfl (Nat.le_of_ble_eq_true rfl) (by decide) (by decide) (by decide) (by decide) d_p22m4_110 ?_
  rintro T105 _ _ ⟨rfl, rfl⟩ W106
  have W107 := W106.re (os' := [(a, O_IntPairs, [.ref b, .int (3 : Int32)]), (b, (.array .int), vs), (o, (.array .int), (fl 9 (ac (g1 [n0, n1, n2, n3, n4, n5]) 8))), (b57, (.array .int), (fl 8 (NX [n0, n1, n2, n3, n4, n5] 4))), (b63, (.array .int), (fl 6 (HH [n0, n1, n2, n3, n4, n5] 4)))]) rfl
  show Go p_ e_ bl_ _ (T105.setTop (mkF m_ 113 _ [.int (Int32.ofNat n5)]))
  refine g_istore (pc := 113) (ls' := #[.val (.ref a), .val (.ref o), .val (.int (8 : Int32)), .val (.ref b57), .val (.ref b63), .val (.int (2 : Int32)), .val (.int (Int32.ofNat n4)), .val (.int (Int32.ofNat n5))]) W107 d_p22m4_113 rfl ?_
  refine g_aload (pc := 115) W107 d_p22m4_115 rfl rfl ?_
  refine g_aload_n (pc := 117) W107 d_p22m4_117 rfl rfl ?_
  refine g_iload (pc := 118) W107 d_p22m4_118 rfl ?_
  refine g_dup2 (pc := 120) W107 d_p22m4_120 rfl rfl ?_
  refine g_iaload (pc := 121) (i := 3) (v := .int (ps [n0, n1, n2, n3, n4, n5] 4)) W107 rfl (own_ix h4).1 (by rw [(own_ix h4).2.1]; exact fl_get h4) d_p22m4_121 ?_
  refine g_dup_x2 (pc := 122) W107 d_p22m4_122 rfl rfl rfl ?_
  refine g_iconst (pc := 123) (1 : Int32) (by decide) W107 d_p22m4_123 ?_
  refine g_iadd (pc := 124) W107 d_p22m4_124 ?_
  refine g_iastore (pc := 125) (i := 3) (os' := [(a, O_IntPairs, [.ref b, .int (3 : Int32)]), (b, (.array .int), vs), (o, (.array .int), (fl 9 (ac (g1 [n0, n1, n2, n3, n4, n5]) 8))), (b57, (.array .int), (fl 8 (NX [n0, n1, n2, n3, n4, n5] 5))), (b63, (.array .int), (fl 6 (HH [n0, n1, n2, n3, n4, n5] 4)))]) n4 W107 rfl (own_ix h4).1 (own_ix h4).2.1 (by rw [fl_len]; exact h4) (by rw [fl_set]; rfl) d_p22m4_125 (fun T108 W109 => ?_)
  refine g_iload (pc := 126) W109 d_p22m4_126 rfl ?_
  refine g_iastore (pc := 128) (i := 4) (os' := [(a, O_IntPairs, [.ref b, .int (3 : Int32)]), (b, (.array .int), vs), (o, (.array .int), (fl 9 (ac (g1 [n0, n1, n2, n3, n4, n5]) 8))), (b57, (.array .int), (fl 8 (NX [n0, n1, n2, n3, n4, n5] 5))), (b63, (.array .int), (fl 6 (HH [n0, n1, n2, n3, n4, n5] 5)))]) (ps [n0, n1, n2, n3, n4, n5] 4).toNatClampNeg W109 rfl hp4 rfl (by rw [fl_len]; exact hq4) (by rw [fl_set]; rfl) d_p22m4_128 (fun T110 W111 => ?_)
  refine g_aload (pc := 129) W111 d_p22m4_129 rfl rfl ?_
  refine g_aload_n (pc := 131) W111 d_p22m4_131 rfl rfl ?_
  refine g_iload (pc := 132) W111 d_p22m4_132 rfl ?_
  refine g_dup2 (pc := 134) W111 d_p22m4_134 rfl rfl ?_
  refine g_iaload (pc := 135) (i := 3) (v := .int (ps [n0, n1, n2, n3, n4, n5] 5)) W111 rfl (own_ix h5).1 (by rw [(own_ix h5).2.1]; exact fl_get h5) d_p22m4_135 ?_
  refine g_dup_x2 (pc := 136) W111 d_p22m4_136 rfl rfl rfl ?_
  refine g_iconst (pc := 137) (1 : Int32) (by decide) W111 d_p22m4_137 ?_
  refine g_iadd (pc := 138) W111 d_p22m4_138 ?_
  refine g_iastore (pc := 139) (i := 3) (os' := [(a, O_IntPairs, [.ref b, .int (3 : Int32)]), (b, (.array .int), vs), (o, (.array .int), (fl 9 (ac (g1 [n0, n1, n2, n3, n4, n5]) 8))), (b57, (.array .int), (fl 8 (NX [n0, n1, n2, n3, n4, n5] 6))), (b63, (.array .int), (fl 6 (HH [n0, n1, n2, n3, n4, n5] 5)))]) n5 W111 rfl (own_ix h5).1 (own_ix h5).2.1 (by rw [fl_len]; exact h5) (by rw [fl_set]; rfl) d_p22m4_139 (fun T112 W113 => ?_)
  refine g_iload (pc := 140) W113 d_p22m4_140 rfl ?_
  refine g_iastore (pc := 142) (i := 4) (os' := [(a, O_IntPairs, [.ref b, .int (3 : Int32)]), (b, (.array .int), vs), (o, (.array .int), (fl 9 (ac (g1 [n0, n1, n2, n3, n4, n5]) 8))), (b57, (.array .int), (fl 8 (NX [n0, n1, n2, n3, n4, n5] 6))), (b63, (.array .int), (fl 6 (HH [n0, n1, n2, n3, n4, n5] 6)))]) (ps [n0, n1, n2, n3, n4, n5] 5).toNatClampNeg W113 rfl hp5 rfl (by rw [fl_len]; exact hq5) (by rw [fl_set]; rfl) d_p22m4_142 (fun T114 W115 => ?_)
  refine g_iinc (pc := 143) (ls' := #[.val (.ref a), .val (.ref o), .val (.int (8 : Int32)), .val (.ref b57), .val (.ref b63), .val (.int (3 : Int32)), .val (.int (Int32.ofNat n4)), .val (.int (Int32.ofNat n5))]) (1 : Int32) (by decide) W115 d_p22m4_143 rfl rfl ?_
  refine g_goto 90 (pc := 146) W115 d_p22m4_146 (by decide) (by decide) ?_
  refine g_iload (pc := 90) W115 d_p22m4_90 rfl ?_
  refine g_aload_n (pc := 92) W115 d_p22m4_92 rfl rfl ?_
  refine g_getfield (pc := 93) (i := 0) (j := 1) (host := "") W115 (Or.inl (wd hw 17 rfl)) rfl rfl rfl d_p22m4_93 (fun T116 W117 => ?_)
  refine g_icmpY 149 (pc := 96) W117 d_p22m4_96 (by decide) (by decide) (by decide) ?_
  refine g_aload (pc := 149) W117 d_p22m4_149 rfl rfl ?_
  exact g_areturn (pc := 151) rfl rfl W117 d_p22m4_151 (by decide) (by decide) ⟨b57, b63, rfl, rfl⟩
theorem d_m3_0 : decode method_3_code 0 = .ok (.iload_n 1, 1) := by decide +kernel
theorem d_m3_1 : decode method_3_code 1 = .ok (.iload_n 2, 1) := by decide +kernel
theorem d_m3_2 : decode method_3_code 2 = .ok (.if_icmp .ge 14, 3) := by decide +kernel
theorem d_m3_16 : decode method_3_code 16 = .ok (.iconst 0, 1) := by decide +kernel
theorem d_m3_17 : decode method_3_code 17 = .ok (.ireturn, 1) := by decide +kernel
theorem c_lt00 (l : Launch) (Z : State) (a0 : Array Value) (hw : ∀ d ∈ tables_1, d.before a0 Z = true) {B : Nat} (a : Addr) (v x0 x1 x2 x3 x4 x5 : Int32) :
    Con l Z FM B (⟨"com/example/metanode/metanode/graph/IntPairsPartnersPinLaw", "lt", "([IIII)I"⟩ : MethodName) method_3_code 4 (some .int) ({ frames := 0, cells := 0, slots := 0, locals := 0 } : Room) [] #[.ref a, .int (0 : Int32), .int (0 : Int32), .int v] [(a, (.array .int), [.int x0, .int x1, .int x2, .int x3, .int x4, .int x5])] (fun rr os => rr = some (.int (0 : Int32)) ∧ os = [(a, (.array .int), [.int x0, .int x1, .int x2, .int x3, .int x4, .int x5])]) := by
  refine Con.of (plainFor_of_name (by first | (simp [plainName, overriddenIn]; done) | decide +kernel)) (ls := #[.val (.ref a), .val (.int (0 : Int32)), .val (.int (0 : Int32)), .val (.int v)]) (fun m => by first | (simp [entryFrame, mkF, argsToLocals, Value.category]; done) | rfl) ?_
  intro p_ e_ h_ s_ m_ bl_ me_ c_ T0 W0
  refine g_iload_n (pc := 0) W0 d_m3_0 rfl ?_
  refine g_iload_n (pc := 1) W0 d_m3_1 rfl ?_
  refine g_icmpY 16 (pc := 2) W0 d_m3_2 (by decide) (by decide) (by decide) ?_
  refine g_iconst (pc := 16) (0 : Int32) (by decide) W0 d_m3_16 ?_
  exact g_ireturn (pc := 17) rfl W0 d_m3_17 (by decide) (by decide) ⟨rfl, rfl⟩
theorem c_lt01 (l : Launch) (Z : State) (a0 : Array Value) (hw : ∀ d ∈ tables_1, d.before a0 Z = true) {B : Nat} (a : Addr) (v x0 x1 x2 x3 x4 x5 : Int32) :
    Con l Z FM B (⟨"com/example/metanode/metanode/graph/IntPairsPartnersPinLaw", "lt", "([IIII)I"⟩ : MethodName) method_3_code 4 (some .int) ({ frames := 0, cells := 0, slots := 0, locals := 0 } : Room) [] #[.ref a, .int (1 : Int32), .int (0 : Int32), .int v] [(a, (.array .int), [.int x0, .int x1, .int x2, .int x3, .int x4, .int x5])] (fun rr os => rr = some (.int (0 : Int32)) ∧ os = [(a, (.array .int), [.int x0, .int x1, .int x2, .int x3, .int x4, .int x5])]) := by
  refine Con.of (plainFor_of_name (by first | (simp [plainName, overriddenIn]; done) | decide +kernel)) (ls := #[.val (.ref a), .val (.int (1 : Int32)), .val (.int (0 : Int32)), .val (.int v)]) (fun m => by first | (simp [entryFrame, mkF, argsToLocals, Value.category]; done) | rfl) ?_
  intro p_ e_ h_ s_ m_ bl_ me_ c_ T0 W0
  refine g_iload_n (pc := 0) W0 d_m3_0 rfl ?_
  refine g_iload_n (pc := 1) W0 d_m3_1 rfl ?_
  refine g_icmpY 16 (pc := 2) W0 d_m3_2 (by decide) (by decide) (by decide) ?_
  refine g_iconst (pc := 16) (0 : Int32) (by decide) W0 d_m3_16 ?_
  exact g_ireturn (pc := 17) rfl W0 d_m3_17 (by decide) (by decide) ⟨rfl, rfl⟩
theorem c_lt02 (l : Launch) (Z : State) (a0 : Array Value) (hw : ∀ d ∈ tables_1, d.before a0 Z = true) {B : Nat} (a : Addr) (v x0 x1 x2 x3 x4 x5 : Int32) :
    Con l Z FM B (⟨"com/example/metanode/metanode/graph/IntPairsPartnersPinLaw", "lt", "([IIII)I"⟩ : MethodName) method_3_code 4 (some .int) ({ frames := 0, cells := 0, slots := 0, locals := 0 } : Room) [] #[.ref a, .int (2 : Int32), .int (0 : Int32), .int v] [(a, (.array .int), [.int x0, .int x1, .int x2, .int x3, .int x4, .int x5])] (fun rr os => rr = some (.int (0 : Int32)) ∧ os = [(a, (.array .int), [.int x0, .int x1, .int x2, .int x3, .int x4, .int x5])]) := by
  refine Con.of (plainFor_of_name (by first | (simp [plainName, overriddenIn]; done) | decide +kernel)) (ls := #[.val (.ref a), .val (.int (2 : Int32)), .val (.int (0 : Int32)), .val (.int v)]) (fun m => by first | (simp [entryFrame, mkF, argsToLocals, Value.category]; done) | rfl) ?_
  intro p_ e_ h_ s_ m_ bl_ me_ c_ T0 W0
  refine g_iload_n (pc := 0) W0 d_m3_0 rfl ?_
  refine g_iload_n (pc := 1) W0 d_m3_1 rfl ?_
  refine g_icmpY 16 (pc := 2) W0 d_m3_2 (by decide) (by decide) (by decide) ?_
  refine g_iconst (pc := 16) (0 : Int32) (by decide) W0 d_m3_16 ?_
  exact g_ireturn (pc := 17) rfl W0 d_m3_17 (by decide) (by decide) ⟨rfl, rfl⟩
theorem c_lt03 (l : Launch) (Z : State) (a0 : Array Value) (hw : ∀ d ∈ tables_1, d.before a0 Z = true) {B : Nat} (a : Addr) (v x0 x1 x2 x3 x4 x5 : Int32) :
    Con l Z FM B (⟨"com/example/metanode/metanode/graph/IntPairsPartnersPinLaw", "lt", "([IIII)I"⟩ : MethodName) method_3_code 4 (some .int) ({ frames := 0, cells := 0, slots := 0, locals := 0 } : Room) [] #[.ref a, .int (3 : Int32), .int (0 : Int32), .int v] [(a, (.array .int), [.int x0, .int x1, .int x2, .int x3, .int x4, .int x5])] (fun rr os => rr = some (.int (0 : Int32)) ∧ os = [(a, (.array .int), [.int x0, .int x1, .int x2, .int x3, .int x4, .int x5])]) := by
  refine Con.of (plainFor_of_name (by first | (simp [plainName, overriddenIn]; done) | decide +kernel)) (ls := #[.val (.ref a), .val (.int (3 : Int32)), .val (.int (0 : Int32)), .val (.int v)]) (fun m => by first | (simp [entryFrame, mkF, argsToLocals, Value.category]; done) | rfl) ?_
  intro p_ e_ h_ s_ m_ bl_ me_ c_ T0 W0
  refine g_iload_n (pc := 0) W0 d_m3_0 rfl ?_
  refine g_iload_n (pc := 1) W0 d_m3_1 rfl ?_
  refine g_icmpY 16 (pc := 2) W0 d_m3_2 (by decide) (by decide) (by decide) ?_
  refine g_iconst (pc := 16) (0 : Int32) (by decide) W0 d_m3_16 ?_
  exact g_ireturn (pc := 17) rfl W0 d_m3_17 (by decide) (by decide) ⟨rfl, rfl⟩
theorem c_lt04 (l : Launch) (Z : State) (a0 : Array Value) (hw : ∀ d ∈ tables_1, d.before a0 Z = true) {B : Nat} (a : Addr) (v x0 x1 x2 x3 x4 x5 : Int32) :
    Con l Z FM B (⟨"com/example/metanode/metanode/graph/IntPairsPartnersPinLaw", "lt", "([IIII)I"⟩ : MethodName) method_3_code 4 (some .int) ({ frames := 0, cells := 0, slots := 0, locals := 0 } : Room) [] #[.ref a, .int (4 : Int32), .int (0 : Int32), .int v] [(a, (.array .int), [.int x0, .int x1, .int x2, .int x3, .int x4, .int x5])] (fun rr os => rr = some (.int (0 : Int32)) ∧ os = [(a, (.array .int), [.int x0, .int x1, .int x2, .int x3, .int x4, .int x5])]) := by
  refine Con.of (plainFor_of_name (by first | (simp [plainName, overriddenIn]; done) | decide +kernel)) (ls := #[.val (.ref a), .val (.int (4 : Int32)), .val (.int (0 : Int32)), .val (.int v)]) (fun m => by first | (simp [entryFrame, mkF, argsToLocals, Value.category]; done) | rfl) ?_
  intro p_ e_ h_ s_ m_ bl_ me_ c_ T0 W0
  refine g_iload_n (pc := 0) W0 d_m3_0 rfl ?_
  refine g_iload_n (pc := 1) W0 d_m3_1 rfl ?_
  refine g_icmpY 16 (pc := 2) W0 d_m3_2 (by decide) (by decide) (by decide) ?_
  refine g_iconst (pc := 16) (0 : Int32) (by decide) W0 d_m3_16 ?_
  exact g_ireturn (pc := 17) rfl W0 d_m3_17 (by decide) (by decide) ⟨rfl, rfl⟩
theorem c_lt05 (l : Launch) (Z : State) (a0 : Array Value) (hw : ∀ d ∈ tables_1, d.before a0 Z = true) {B : Nat} (a : Addr) (v x0 x1 x2 x3 x4 x5 : Int32) :
    Con l Z FM B (⟨"com/example/metanode/metanode/graph/IntPairsPartnersPinLaw", "lt", "([IIII)I"⟩ : MethodName) method_3_code 4 (some .int) ({ frames := 0, cells := 0, slots := 0, locals := 0 } : Room) [] #[.ref a, .int (5 : Int32), .int (0 : Int32), .int v] [(a, (.array .int), [.int x0, .int x1, .int x2, .int x3, .int x4, .int x5])] (fun rr os => rr = some (.int (0 : Int32)) ∧ os = [(a, (.array .int), [.int x0, .int x1, .int x2, .int x3, .int x4, .int x5])]) := by
  refine Con.of (plainFor_of_name (by first | (simp [plainName, overriddenIn]; done) | decide +kernel)) (ls := #[.val (.ref a), .val (.int (5 : Int32)), .val (.int (0 : Int32)), .val (.int v)]) (fun m => by first | (simp [entryFrame, mkF, argsToLocals, Value.category]; done) | rfl) ?_
  intro p_ e_ h_ s_ m_ bl_ me_ c_ T0 W0
  refine g_iload_n (pc := 0) W0 d_m3_0 rfl ?_
  refine g_iload_n (pc := 1) W0 d_m3_1 rfl ?_
  refine g_icmpY 16 (pc := 2) W0 d_m3_2 (by decide) (by decide) (by decide) ?_
  refine g_iconst (pc := 16) (0 : Int32) (by decide) W0 d_m3_16 ?_
  exact g_ireturn (pc := 17) rfl W0 d_m3_17 (by decide) (by decide) ⟨rfl, rfl⟩
theorem d_m3_5 : decode method_3_code 5 = .ok (.aload_n 0, 1) := by decide +kernel
theorem d_m3_6 : decode method_3_code 6 = .ok (.iload_n 1, 1) := by decide +kernel
theorem d_m3_7 : decode method_3_code 7 = .ok (.iaload, 1) := by decide +kernel
theorem d_m3_8 : decode method_3_code 8 = .ok (.iload_n 3, 1) := by decide +kernel
theorem d_m3_9 : decode method_3_code 9 = .ok (.if_icmp .ge 7, 3) := by decide +kernel
theorem d_m3_12 : decode method_3_code 12 = .ok (.iconst 1, 1) := by decide +kernel
theorem d_m3_13 : decode method_3_code 13 = .ok (.goto 4, 3) := by decide +kernel
theorem c_lt20 (l : Launch) (Z : State) (a0 : Array Value) (hw : ∀ d ∈ tables_1, d.before a0 Z = true) {B : Nat} (a : Addr) (v x0 x1 x2 x3 x4 x5 : Int32) :
    Con l Z FM B (⟨"com/example/metanode/metanode/graph/IntPairsPartnersPinLaw", "lt", "([IIII)I"⟩ : MethodName) method_3_code 4 (some .int) ({ frames := 0, cells := 0, slots := 0, locals := 0 } : Room) [] #[.ref a, .int (0 : Int32), .int (2 : Int32), .int v] [(a, (.array .int), [.int x0, .int x1, .int x2, .int x3, .int x4, .int x5])] (fun rr os => rr = some (.int (if x0 < v then (1 : Int32) else (0 : Int32))) ∧ os = [(a, (.array .int), [.int x0, .int x1, .int x2, .int x3, .int x4, .int x5])]) := by
  refine Con.of (plainFor_of_name (by first | (simp [plainName, overriddenIn]; done) | decide +kernel)) (ls := #[.val (.ref a), .val (.int (0 : Int32)), .val (.int (2 : Int32)), .val (.int v)]) (fun m => by first | (simp [entryFrame, mkF, argsToLocals, Value.category]; done) | rfl) ?_
  intro p_ e_ h_ s_ m_ bl_ me_ c_ T0 W0
  refine g_iload_n (pc := 0) W0 d_m3_0 rfl ?_
  refine g_iload_n (pc := 1) W0 d_m3_1 rfl ?_
  refine g_icmpN (pc := 2) W0 d_m3_2 (by decide) ?_
  refine g_aload_n (pc := 5) W0 d_m3_5 rfl rfl ?_
  refine g_iload_n (pc := 6) W0 d_m3_6 rfl ?_
  refine g_iaload (pc := 7) (i := 0) (v := .int x0) W0 rfl (by decide) rfl d_m3_7 ?_
  refine g_iload_n (pc := 8) W0 d_m3_8 rfl ?_
  refine g_icmp_ge 16 (pc := 9) W0 d_m3_9 (by decide) (by decide) (fun c1 => ?_) (fun c1 => ?_)
  · refine g_iconst (pc := 16) (0 : Int32) (by decide) W0 d_m3_16 ?_
    exact g_ireturn (pc := 17) rfl W0 d_m3_17 (by decide) (by decide) ⟨by rw [if_neg c1], rfl⟩
  · refine g_iconst (pc := 12) (1 : Int32) (by decide) W0 d_m3_12 ?_
    refine g_goto 17 (pc := 13) W0 d_m3_13 (by decide) (by decide) ?_
    exact g_ireturn (pc := 17) rfl W0 d_m3_17 (by decide) (by decide) ⟨by rw [if_pos c1], rfl⟩
theorem c_lt21 (l : Launch) (Z : State) (a0 : Array Value) (hw : ∀ d ∈ tables_1, d.before a0 Z = true) {B : Nat} (a : Addr) (v x0 x1 x2 x3 x4 x5 : Int32) :
    Con l Z FM B (⟨"com/example/metanode/metanode/graph/IntPairsPartnersPinLaw", "lt", "([IIII)I"⟩ : MethodName) method_3_code 4 (some .int) ({ frames := 0, cells := 0, slots := 0, locals := 0 } : Room) [] #[.ref a, .int (1 : Int32), .int (2 : Int32), .int v] [(a, (.array .int), [.int x0, .int x1, .int x2, .int x3, .int x4, .int x5])] (fun rr os => rr = some (.int (if x1 < v then (1 : Int32) else (0 : Int32))) ∧ os = [(a, (.array .int), [.int x0, .int x1, .int x2, .int x3, .int x4, .int x5])]) := by
  refine Con.of (plainFor_of_name (by first | (simp [plainName, overriddenIn]; done) | decide +kernel)) (ls := #[.val (.ref a), .val (.int (1 : Int32)), .val (.int (2 : Int32)), .val (.int v)]) (fun m => by first | (simp [entryFrame, mkF, argsToLocals, Value.category]; done) | rfl) ?_
  intro p_ e_ h_ s_ m_ bl_ me_ c_ T0 W0
  refine g_iload_n (pc := 0) W0 d_m3_0 rfl ?_
  refine g_iload_n (pc := 1) W0 d_m3_1 rfl ?_
  refine g_icmpN (pc := 2) W0 d_m3_2 (by decide) ?_
  refine g_aload_n (pc := 5) W0 d_m3_5 rfl rfl ?_
  refine g_iload_n (pc := 6) W0 d_m3_6 rfl ?_
  refine g_iaload (pc := 7) (i := 0) (v := .int x1) W0 rfl (by decide) rfl d_m3_7 ?_
  refine g_iload_n (pc := 8) W0 d_m3_8 rfl ?_
  refine g_icmp_ge 16 (pc := 9) W0 d_m3_9 (by decide) (by decide) (fun c1 => ?_) (fun c1 => ?_)
  · refine g_iconst (pc := 16) (0 : Int32) (by decide) W0 d_m3_16 ?_
    exact g_ireturn (pc := 17) rfl W0 d_m3_17 (by decide) (by decide) ⟨by rw [if_neg c1], rfl⟩
  · refine g_iconst (pc := 12) (1 : Int32) (by decide) W0 d_m3_12 ?_
    refine g_goto 17 (pc := 13) W0 d_m3_13 (by decide) (by decide) ?_
    exact g_ireturn (pc := 17) rfl W0 d_m3_17 (by decide) (by decide) ⟨by rw [if_pos c1], rfl⟩
theorem c_lt22 (l : Launch) (Z : State) (a0 : Array Value) (hw : ∀ d ∈ tables_1, d.before a0 Z = true) {B : Nat} (a : Addr) (v x0 x1 x2 x3 x4 x5 : Int32) :
    Con l Z FM B (⟨"com/example/metanode/metanode/graph/IntPairsPartnersPinLaw", "lt", "([IIII)I"⟩ : MethodName) method_3_code 4 (some .int) ({ frames := 0, cells := 0, slots := 0, locals := 0 } : Room) [] #[.ref a, .int (2 : Int32), .int (2 : Int32), .int v] [(a, (.array .int), [.int x0, .int x1, .int x2, .int x3, .int x4, .int x5])] (fun rr os => rr = some (.int (0 : Int32)) ∧ os = [(a, (.array .int), [.int x0, .int x1, .int x2, .int x3, .int x4, .int x5])]) := by
  refine Con.of (plainFor_of_name (by first | (simp [plainName, overriddenIn]; done) | decide +kernel)) (ls := #[.val (.ref a), .val (.int (2 : Int32)), .val (.int (2 : Int32)), .val (.int v)]) (fun m => by first | (simp [entryFrame, mkF, argsToLocals, Value.category]; done) | rfl) ?_
  intro p_ e_ h_ s_ m_ bl_ me_ c_ T0 W0
  refine g_iload_n (pc := 0) W0 d_m3_0 rfl ?_
  refine g_iload_n (pc := 1) W0 d_m3_1 rfl ?_
  refine g_icmpY 16 (pc := 2) W0 d_m3_2 (by decide) (by decide) (by decide) ?_
  refine g_iconst (pc := 16) (0 : Int32) (by decide) W0 d_m3_16 ?_
  exact g_ireturn (pc := 17) rfl W0 d_m3_17 (by decide) (by decide) ⟨rfl, rfl⟩
theorem c_lt23 (l : Launch) (Z : State) (a0 : Array Value) (hw : ∀ d ∈ tables_1, d.before a0 Z = true) {B : Nat} (a : Addr) (v x0 x1 x2 x3 x4 x5 : Int32) :
    Con l Z FM B (⟨"com/example/metanode/metanode/graph/IntPairsPartnersPinLaw", "lt", "([IIII)I"⟩ : MethodName) method_3_code 4 (some .int) ({ frames := 0, cells := 0, slots := 0, locals := 0 } : Room) [] #[.ref a, .int (3 : Int32), .int (2 : Int32), .int v] [(a, (.array .int), [.int x0, .int x1, .int x2, .int x3, .int x4, .int x5])] (fun rr os => rr = some (.int (0 : Int32)) ∧ os = [(a, (.array .int), [.int x0, .int x1, .int x2, .int x3, .int x4, .int x5])]) := by
  refine Con.of (plainFor_of_name (by first | (simp [plainName, overriddenIn]; done) | decide +kernel)) (ls := #[.val (.ref a), .val (.int (3 : Int32)), .val (.int (2 : Int32)), .val (.int v)]) (fun m => by first | (simp [entryFrame, mkF, argsToLocals, Value.category]; done) | rfl) ?_
  intro p_ e_ h_ s_ m_ bl_ me_ c_ T0 W0
  refine g_iload_n (pc := 0) W0 d_m3_0 rfl ?_
  refine g_iload_n (pc := 1) W0 d_m3_1 rfl ?_
  refine g_icmpY 16 (pc := 2) W0 d_m3_2 (by decide) (by decide) (by decide) ?_
  refine g_iconst (pc := 16) (0 : Int32) (by decide) W0 d_m3_16 ?_
  exact g_ireturn (pc := 17) rfl W0 d_m3_17 (by decide) (by decide) ⟨rfl, rfl⟩
theorem c_lt24 (l : Launch) (Z : State) (a0 : Array Value) (hw : ∀ d ∈ tables_1, d.before a0 Z = true) {B : Nat} (a : Addr) (v x0 x1 x2 x3 x4 x5 : Int32) :
    Con l Z FM B (⟨"com/example/metanode/metanode/graph/IntPairsPartnersPinLaw", "lt", "([IIII)I"⟩ : MethodName) method_3_code 4 (some .int) ({ frames := 0, cells := 0, slots := 0, locals := 0 } : Room) [] #[.ref a, .int (4 : Int32), .int (2 : Int32), .int v] [(a, (.array .int), [.int x0, .int x1, .int x2, .int x3, .int x4, .int x5])] (fun rr os => rr = some (.int (0 : Int32)) ∧ os = [(a, (.array .int), [.int x0, .int x1, .int x2, .int x3, .int x4, .int x5])]) := by
  refine Con.of (plainFor_of_name (by first | (simp [plainName, overriddenIn]; done) | decide +kernel)) (ls := #[.val (.ref a), .val (.int (4 : Int32)), .val (.int (2 : Int32)), .val (.int v)]) (fun m => by first | (simp [entryFrame, mkF, argsToLocals, Value.category]; done) | rfl) ?_
  intro p_ e_ h_ s_ m_ bl_ me_ c_ T0 W0
  refine g_iload_n (pc := 0) W0 d_m3_0 rfl ?_
  refine g_iload_n (pc := 1) W0 d_m3_1 rfl ?_
  refine g_icmpY 16 (pc := 2) W0 d_m3_2 (by decide) (by decide) (by decide) ?_
  refine g_iconst (pc := 16) (0 : Int32) (by decide) W0 d_m3_16 ?_
  exact g_ireturn (pc := 17) rfl W0 d_m3_17 (by decide) (by decide) ⟨rfl, rfl⟩
theorem c_lt25 (l : Launch) (Z : State) (a0 : Array Value) (hw : ∀ d ∈ tables_1, d.before a0 Z = true) {B : Nat} (a : Addr) (v x0 x1 x2 x3 x4 x5 : Int32) :
    Con l Z FM B (⟨"com/example/metanode/metanode/graph/IntPairsPartnersPinLaw", "lt", "([IIII)I"⟩ : MethodName) method_3_code 4 (some .int) ({ frames := 0, cells := 0, slots := 0, locals := 0 } : Room) [] #[.ref a, .int (5 : Int32), .int (2 : Int32), .int v] [(a, (.array .int), [.int x0, .int x1, .int x2, .int x3, .int x4, .int x5])] (fun rr os => rr = some (.int (0 : Int32)) ∧ os = [(a, (.array .int), [.int x0, .int x1, .int x2, .int x3, .int x4, .int x5])]) := by
  refine Con.of (plainFor_of_name (by first | (simp [plainName, overriddenIn]; done) | decide +kernel)) (ls := #[.val (.ref a), .val (.int (5 : Int32)), .val (.int (2 : Int32)), .val (.int v)]) (fun m => by first | (simp [entryFrame, mkF, argsToLocals, Value.category]; done) | rfl) ?_
  intro p_ e_ h_ s_ m_ bl_ me_ c_ T0 W0
  refine g_iload_n (pc := 0) W0 d_m3_0 rfl ?_
  refine g_iload_n (pc := 1) W0 d_m3_1 rfl ?_
  refine g_icmpY 16 (pc := 2) W0 d_m3_2 (by decide) (by decide) (by decide) ?_
  refine g_iconst (pc := 16) (0 : Int32) (by decide) W0 d_m3_16 ?_
  exact g_ireturn (pc := 17) rfl W0 d_m3_17 (by decide) (by decide) ⟨rfl, rfl⟩
theorem c_lt40 (l : Launch) (Z : State) (a0 : Array Value) (hw : ∀ d ∈ tables_1, d.before a0 Z = true) {B : Nat} (a : Addr) (v x0 x1 x2 x3 x4 x5 : Int32) :
    Con l Z FM B (⟨"com/example/metanode/metanode/graph/IntPairsPartnersPinLaw", "lt", "([IIII)I"⟩ : MethodName) method_3_code 4 (some .int) ({ frames := 0, cells := 0, slots := 0, locals := 0 } : Room) [] #[.ref a, .int (0 : Int32), .int (4 : Int32), .int v] [(a, (.array .int), [.int x0, .int x1, .int x2, .int x3, .int x4, .int x5])] (fun rr os => rr = some (.int (if x0 < v then (1 : Int32) else (0 : Int32))) ∧ os = [(a, (.array .int), [.int x0, .int x1, .int x2, .int x3, .int x4, .int x5])]) := by
  refine Con.of (plainFor_of_name (by first | (simp [plainName, overriddenIn]; done) | decide +kernel)) (ls := #[.val (.ref a), .val (.int (0 : Int32)), .val (.int (4 : Int32)), .val (.int v)]) (fun m => by first | (simp [entryFrame, mkF, argsToLocals, Value.category]; done) | rfl) ?_
  intro p_ e_ h_ s_ m_ bl_ me_ c_ T0 W0
  refine g_iload_n (pc := 0) W0 d_m3_0 rfl ?_
  refine g_iload_n (pc := 1) W0 d_m3_1 rfl ?_
  refine g_icmpN (pc := 2) W0 d_m3_2 (by decide) ?_
  refine g_aload_n (pc := 5) W0 d_m3_5 rfl rfl ?_
  refine g_iload_n (pc := 6) W0 d_m3_6 rfl ?_
  refine g_iaload (pc := 7) (i := 0) (v := .int x0) W0 rfl (by decide) rfl d_m3_7 ?_
  refine g_iload_n (pc := 8) W0 d_m3_8 rfl ?_
  refine g_icmp_ge 16 (pc := 9) W0 d_m3_9 (by decide) (by decide) (fun c1 => ?_) (fun c1 => ?_)
  · refine g_iconst (pc := 16) (0 : Int32) (by decide) W0 d_m3_16 ?_
    exact g_ireturn (pc := 17) rfl W0 d_m3_17 (by decide) (by decide) ⟨by rw [if_neg c1], rfl⟩
  · refine g_iconst (pc := 12) (1 : Int32) (by decide) W0 d_m3_12 ?_
    refine g_goto 17 (pc := 13) W0 d_m3_13 (by decide) (by decide) ?_
    exact g_ireturn (pc := 17) rfl W0 d_m3_17 (by decide) (by decide) ⟨by rw [if_pos c1], rfl⟩
theorem c_lt41 (l : Launch) (Z : State) (a0 : Array Value) (hw : ∀ d ∈ tables_1, d.before a0 Z = true) {B : Nat} (a : Addr) (v x0 x1 x2 x3 x4 x5 : Int32) :
    Con l Z FM B (⟨"com/example/metanode/metanode/graph/IntPairsPartnersPinLaw", "lt", "([IIII)I"⟩ : MethodName) method_3_code 4 (some .int) ({ frames := 0, cells := 0, slots := 0, locals := 0 } : Room) [] #[.ref a, .int (1 : Int32), .int (4 : Int32), .int v] [(a, (.array .int), [.int x0, .int x1, .int x2, .int x3, .int x4, .int x5])] (fun rr os => rr = some (.int (if x1 < v then (1 : Int32) else (0 : Int32))) ∧ os = [(a, (.array .int), [.int x0, .int x1, .int x2, .int x3, .int x4, .int x5])]) := by
  refine Con.of (plainFor_of_name (by first | (simp [plainName, overriddenIn]; done) | decide +kernel)) (ls := #[.val (.ref a), .val (.int (1 : Int32)), .val (.int (4 : Int32)), .val (.int v)]) (fun m => by first | (simp [entryFrame, mkF, argsToLocals, Value.category]; done) | rfl) ?_
  intro p_ e_ h_ s_ m_ bl_ me_ c_ T0 W0
  refine g_iload_n (pc := 0) W0 d_m3_0 rfl ?_
  refine g_iload_n (pc := 1) W0 d_m3_1 rfl ?_
  refine g_icmpN (pc := 2) W0 d_m3_2 (by decide) ?_
  refine g_aload_n (pc := 5) W0 d_m3_5 rfl rfl ?_
  refine g_iload_n (pc := 6) W0 d_m3_6 rfl ?_
  refine g_iaload (pc := 7) (i := 0) (v := .int x1) W0 rfl (by decide) rfl d_m3_7 ?_
  refine g_iload_n (pc := 8) W0 d_m3_8 rfl ?_
  refine g_icmp_ge 16 (pc := 9) W0 d_m3_9 (by decide) (by decide) (fun c1 => ?_) (fun c1 => ?_)
  · refine g_iconst (pc := 16) (0 : Int32) (by decide) W0 d_m3_16 ?_
    exact g_ireturn (pc := 17) rfl W0 d_m3_17 (by decide) (by decide) ⟨by rw [if_neg c1], rfl⟩
  · refine g_iconst (pc := 12) (1 : Int32) (by decide) W0 d_m3_12 ?_
    refine g_goto 17 (pc := 13) W0 d_m3_13 (by decide) (by decide) ?_
    exact g_ireturn (pc := 17) rfl W0 d_m3_17 (by decide) (by decide) ⟨by rw [if_pos c1], rfl⟩
theorem c_lt42 (l : Launch) (Z : State) (a0 : Array Value) (hw : ∀ d ∈ tables_1, d.before a0 Z = true) {B : Nat} (a : Addr) (v x0 x1 x2 x3 x4 x5 : Int32) :
    Con l Z FM B (⟨"com/example/metanode/metanode/graph/IntPairsPartnersPinLaw", "lt", "([IIII)I"⟩ : MethodName) method_3_code 4 (some .int) ({ frames := 0, cells := 0, slots := 0, locals := 0 } : Room) [] #[.ref a, .int (2 : Int32), .int (4 : Int32), .int v] [(a, (.array .int), [.int x0, .int x1, .int x2, .int x3, .int x4, .int x5])] (fun rr os => rr = some (.int (if x2 < v then (1 : Int32) else (0 : Int32))) ∧ os = [(a, (.array .int), [.int x0, .int x1, .int x2, .int x3, .int x4, .int x5])]) := by
  refine Con.of (plainFor_of_name (by first | (simp [plainName, overriddenIn]; done) | decide +kernel)) (ls := #[.val (.ref a), .val (.int (2 : Int32)), .val (.int (4 : Int32)), .val (.int v)]) (fun m => by first | (simp [entryFrame, mkF, argsToLocals, Value.category]; done) | rfl) ?_
  intro p_ e_ h_ s_ m_ bl_ me_ c_ T0 W0
  refine g_iload_n (pc := 0) W0 d_m3_0 rfl ?_
  refine g_iload_n (pc := 1) W0 d_m3_1 rfl ?_
  refine g_icmpN (pc := 2) W0 d_m3_2 (by decide) ?_
  refine g_aload_n (pc := 5) W0 d_m3_5 rfl rfl ?_
  refine g_iload_n (pc := 6) W0 d_m3_6 rfl ?_
  refine g_iaload (pc := 7) (i := 0) (v := .int x2) W0 rfl (by decide) rfl d_m3_7 ?_
  refine g_iload_n (pc := 8) W0 d_m3_8 rfl ?_
  refine g_icmp_ge 16 (pc := 9) W0 d_m3_9 (by decide) (by decide) (fun c1 => ?_) (fun c1 => ?_)
  · refine g_iconst (pc := 16) (0 : Int32) (by decide) W0 d_m3_16 ?_
    exact g_ireturn (pc := 17) rfl W0 d_m3_17 (by decide) (by decide) ⟨by rw [if_neg c1], rfl⟩
  · refine g_iconst (pc := 12) (1 : Int32) (by decide) W0 d_m3_12 ?_
    refine g_goto 17 (pc := 13) W0 d_m3_13 (by decide) (by decide) ?_
    exact g_ireturn (pc := 17) rfl W0 d_m3_17 (by decide) (by decide) ⟨by rw [if_pos c1], rfl⟩
theorem c_lt43 (l : Launch) (Z : State) (a0 : Array Value) (hw : ∀ d ∈ tables_1, d.before a0 Z = true) {B : Nat} (a : Addr) (v x0 x1 x2 x3 x4 x5 : Int32) :
    Con l Z FM B (⟨"com/example/metanode/metanode/graph/IntPairsPartnersPinLaw", "lt", "([IIII)I"⟩ : MethodName) method_3_code 4 (some .int) ({ frames := 0, cells := 0, slots := 0, locals := 0 } : Room) [] #[.ref a, .int (3 : Int32), .int (4 : Int32), .int v] [(a, (.array .int), [.int x0, .int x1, .int x2, .int x3, .int x4, .int x5])] (fun rr os => rr = some (.int (if x3 < v then (1 : Int32) else (0 : Int32))) ∧ os = [(a, (.array .int), [.int x0, .int x1, .int x2, .int x3, .int x4, .int x5])]) := by
  refine Con.of (plainFor_of_name (by first | (simp [plainName, overriddenIn]; done) | decide +kernel)) (ls := #[.val (.ref a), .val (.int (3 : Int32)), .val (.int (4 : Int32)), .val (.int v)]) (fun m => by first | (simp [entryFrame, mkF, argsToLocals, Value.category]; done) | rfl) ?_
  intro p_ e_ h_ s_ m_ bl_ me_ c_ T0 W0
  refine g_iload_n (pc := 0) W0 d_m3_0 rfl ?_
  refine g_iload_n (pc := 1) W0 d_m3_1 rfl ?_
  refine g_icmpN (pc := 2) W0 d_m3_2 (by decide) ?_
  refine g_aload_n (pc := 5) W0 d_m3_5 rfl rfl ?_
  refine g_iload_n (pc := 6) W0 d_m3_6 rfl ?_
  refine g_iaload (pc := 7) (i := 0) (v := .int x3) W0 rfl (by decide) rfl d_m3_7 ?_
  refine g_iload_n (pc := 8) W0 d_m3_8 rfl ?_
  refine g_icmp_ge 16 (pc := 9) W0 d_m3_9 (by decide) (by decide) (fun c1 => ?_) (fun c1 => ?_)
  · refine g_iconst (pc := 16) (0 : Int32) (by decide) W0 d_m3_16 ?_
    exact g_ireturn (pc := 17) rfl W0 d_m3_17 (by decide) (by decide) ⟨by rw [if_neg c1], rfl⟩
  · refine g_iconst (pc := 12) (1 : Int32) (by decide) W0 d_m3_12 ?_
    refine g_goto 17 (pc := 13) W0 d_m3_13 (by decide) (by decide) ?_
    exact g_ireturn (pc := 17) rfl W0 d_m3_17 (by decide) (by decide) ⟨by rw [if_pos c1], rfl⟩
theorem c_lt44 (l : Launch) (Z : State) (a0 : Array Value) (hw : ∀ d ∈ tables_1, d.before a0 Z = true) {B : Nat} (a : Addr) (v x0 x1 x2 x3 x4 x5 : Int32) :
    Con l Z FM B (⟨"com/example/metanode/metanode/graph/IntPairsPartnersPinLaw", "lt", "([IIII)I"⟩ : MethodName) method_3_code 4 (some .int) ({ frames := 0, cells := 0, slots := 0, locals := 0 } : Room) [] #[.ref a, .int (4 : Int32), .int (4 : Int32), .int v] [(a, (.array .int), [.int x0, .int x1, .int x2, .int x3, .int x4, .int x5])] (fun rr os => rr = some (.int (0 : Int32)) ∧ os = [(a, (.array .int), [.int x0, .int x1, .int x2, .int x3, .int x4, .int x5])]) := by
  refine Con.of (plainFor_of_name (by first | (simp [plainName, overriddenIn]; done) | decide +kernel)) (ls := #[.val (.ref a), .val (.int (4 : Int32)), .val (.int (4 : Int32)), .val (.int v)]) (fun m => by first | (simp [entryFrame, mkF, argsToLocals, Value.category]; done) | rfl) ?_
  intro p_ e_ h_ s_ m_ bl_ me_ c_ T0 W0
  refine g_iload_n (pc := 0) W0 d_m3_0 rfl ?_
  refine g_iload_n (pc := 1) W0 d_m3_1 rfl ?_
  refine g_icmpY 16 (pc := 2) W0 d_m3_2 (by decide) (by decide) (by decide) ?_
  refine g_iconst (pc := 16) (0 : Int32) (by decide) W0 d_m3_16 ?_
  exact g_ireturn (pc := 17) rfl W0 d_m3_17 (by decide) (by decide) ⟨rfl, rfl⟩
theorem c_lt45 (l : Launch) (Z : State) (a0 : Array Value) (hw : ∀ d ∈ tables_1, d.before a0 Z = true) {B : Nat} (a : Addr) (v x0 x1 x2 x3 x4 x5 : Int32) :
    Con l Z FM B (⟨"com/example/metanode/metanode/graph/IntPairsPartnersPinLaw", "lt", "([IIII)I"⟩ : MethodName) method_3_code 4 (some .int) ({ frames := 0, cells := 0, slots := 0, locals := 0 } : Room) [] #[.ref a, .int (5 : Int32), .int (4 : Int32), .int v] [(a, (.array .int), [.int x0, .int x1, .int x2, .int x3, .int x4, .int x5])] (fun rr os => rr = some (.int (0 : Int32)) ∧ os = [(a, (.array .int), [.int x0, .int x1, .int x2, .int x3, .int x4, .int x5])]) := by
  refine Con.of (plainFor_of_name (by first | (simp [plainName, overriddenIn]; done) | decide +kernel)) (ls := #[.val (.ref a), .val (.int (5 : Int32)), .val (.int (4 : Int32)), .val (.int v)]) (fun m => by first | (simp [entryFrame, mkF, argsToLocals, Value.category]; done) | rfl) ?_
  intro p_ e_ h_ s_ m_ bl_ me_ c_ T0 W0
  refine g_iload_n (pc := 0) W0 d_m3_0 rfl ?_
  refine g_iload_n (pc := 1) W0 d_m3_1 rfl ?_
  refine g_icmpY 16 (pc := 2) W0 d_m3_2 (by decide) (by decide) (by decide) ?_
  refine g_iconst (pc := 16) (0 : Int32) (by decide) W0 d_m3_16 ?_
  exact g_ireturn (pc := 17) rfl W0 d_m3_17 (by decide) (by decide) ⟨rfl, rfl⟩
theorem c_lt60 (l : Launch) (Z : State) (a0 : Array Value) (hw : ∀ d ∈ tables_1, d.before a0 Z = true) {B : Nat} (a : Addr) (v x0 x1 x2 x3 x4 x5 : Int32) :
    Con l Z FM B (⟨"com/example/metanode/metanode/graph/IntPairsPartnersPinLaw", "lt", "([IIII)I"⟩ : MethodName) method_3_code 4 (some .int) ({ frames := 0, cells := 0, slots := 0, locals := 0 } : Room) [] #[.ref a, .int (0 : Int32), .int (6 : Int32), .int v] [(a, (.array .int), [.int x0, .int x1, .int x2, .int x3, .int x4, .int x5])] (fun rr os => rr = some (.int (if x0 < v then (1 : Int32) else (0 : Int32))) ∧ os = [(a, (.array .int), [.int x0, .int x1, .int x2, .int x3, .int x4, .int x5])]) := by
  refine Con.of (plainFor_of_name (by first | (simp [plainName, overriddenIn]; done) | decide +kernel)) (ls := #[.val (.ref a), .val (.int (0 : Int32)), .val (.int (6 : Int32)), .val (.int v)]) (fun m => by first | (simp [entryFrame, mkF, argsToLocals, Value.category]; done) | rfl) ?_
  intro p_ e_ h_ s_ m_ bl_ me_ c_ T0 W0
  refine g_iload_n (pc := 0) W0 d_m3_0 rfl ?_
  refine g_iload_n (pc := 1) W0 d_m3_1 rfl ?_
  refine g_icmpN (pc := 2) W0 d_m3_2 (by decide) ?_
  refine g_aload_n (pc := 5) W0 d_m3_5 rfl rfl ?_
  refine g_iload_n (pc := 6) W0 d_m3_6 rfl ?_
  refine g_iaload (pc := 7) (i := 0) (v := .int x0) W0 rfl (by decide) rfl d_m3_7 ?_
  refine g_iload_n (pc := 8) W0 d_m3_8 rfl ?_
  refine g_icmp_ge 16 (pc := 9) W0 d_m3_9 (by decide) (by decide) (fun c1 => ?_) (fun c1 => ?_)
  · refine g_iconst (pc := 16) (0 : Int32) (by decide) W0 d_m3_16 ?_
    exact g_ireturn (pc := 17) rfl W0 d_m3_17 (by decide) (by decide) ⟨by rw [if_neg c1], rfl⟩
  · refine g_iconst (pc := 12) (1 : Int32) (by decide) W0 d_m3_12 ?_
    refine g_goto 17 (pc := 13) W0 d_m3_13 (by decide) (by decide) ?_
    exact g_ireturn (pc := 17) rfl W0 d_m3_17 (by decide) (by decide) ⟨by rw [if_pos c1], rfl⟩
theorem c_lt61 (l : Launch) (Z : State) (a0 : Array Value) (hw : ∀ d ∈ tables_1, d.before a0 Z = true) {B : Nat} (a : Addr) (v x0 x1 x2 x3 x4 x5 : Int32) :
    Con l Z FM B (⟨"com/example/metanode/metanode/graph/IntPairsPartnersPinLaw", "lt", "([IIII)I"⟩ : MethodName) method_3_code 4 (some .int) ({ frames := 0, cells := 0, slots := 0, locals := 0 } : Room) [] #[.ref a, .int (1 : Int32), .int (6 : Int32), .int v] [(a, (.array .int), [.int x0, .int x1, .int x2, .int x3, .int x4, .int x5])] (fun rr os => rr = some (.int (if x1 < v then (1 : Int32) else (0 : Int32))) ∧ os = [(a, (.array .int), [.int x0, .int x1, .int x2, .int x3, .int x4, .int x5])]) := by
  refine Con.of (plainFor_of_name (by first | (simp [plainName, overriddenIn]; done) | decide +kernel)) (ls := #[.val (.ref a), .val (.int (1 : Int32)), .val (.int (6 : Int32)), .val (.int v)]) (fun m => by first | (simp [entryFrame, mkF, argsToLocals, Value.category]; done) | rfl) ?_
  intro p_ e_ h_ s_ m_ bl_ me_ c_ T0 W0
  refine g_iload_n (pc := 0) W0 d_m3_0 rfl ?_
  refine g_iload_n (pc := 1) W0 d_m3_1 rfl ?_
  refine g_icmpN (pc := 2) W0 d_m3_2 (by decide) ?_
  refine g_aload_n (pc := 5) W0 d_m3_5 rfl rfl ?_
  refine g_iload_n (pc := 6) W0 d_m3_6 rfl ?_
  refine g_iaload (pc := 7) (i := 0) (v := .int x1) W0 rfl (by decide) rfl d_m3_7 ?_
  refine g_iload_n (pc := 8) W0 d_m3_8 rfl ?_
  refine g_icmp_ge 16 (pc := 9) W0 d_m3_9 (by decide) (by decide) (fun c1 => ?_) (fun c1 => ?_)
  · refine g_iconst (pc := 16) (0 : Int32) (by decide) W0 d_m3_16 ?_
    exact g_ireturn (pc := 17) rfl W0 d_m3_17 (by decide) (by decide) ⟨by rw [if_neg c1], rfl⟩
  · refine g_iconst (pc := 12) (1 : Int32) (by decide) W0 d_m3_12 ?_
    refine g_goto 17 (pc := 13) W0 d_m3_13 (by decide) (by decide) ?_
    exact g_ireturn (pc := 17) rfl W0 d_m3_17 (by decide) (by decide) ⟨by rw [if_pos c1], rfl⟩
theorem c_lt62 (l : Launch) (Z : State) (a0 : Array Value) (hw : ∀ d ∈ tables_1, d.before a0 Z = true) {B : Nat} (a : Addr) (v x0 x1 x2 x3 x4 x5 : Int32) :
    Con l Z FM B (⟨"com/example/metanode/metanode/graph/IntPairsPartnersPinLaw", "lt", "([IIII)I"⟩ : MethodName) method_3_code 4 (some .int) ({ frames := 0, cells := 0, slots := 0, locals := 0 } : Room) [] #[.ref a, .int (2 : Int32), .int (6 : Int32), .int v] [(a, (.array .int), [.int x0, .int x1, .int x2, .int x3, .int x4, .int x5])] (fun rr os => rr = some (.int (if x2 < v then (1 : Int32) else (0 : Int32))) ∧ os = [(a, (.array .int), [.int x0, .int x1, .int x2, .int x3, .int x4, .int x5])]) := by
  refine Con.of (plainFor_of_name (by first | (simp [plainName, overriddenIn]; done) | decide +kernel)) (ls := #[.val (.ref a), .val (.int (2 : Int32)), .val (.int (6 : Int32)), .val (.int v)]) (fun m => by first | (simp [entryFrame, mkF, argsToLocals, Value.category]; done) | rfl) ?_
  intro p_ e_ h_ s_ m_ bl_ me_ c_ T0 W0
  refine g_iload_n (pc := 0) W0 d_m3_0 rfl ?_
  refine g_iload_n (pc := 1) W0 d_m3_1 rfl ?_
  refine g_icmpN (pc := 2) W0 d_m3_2 (by decide) ?_
  refine g_aload_n (pc := 5) W0 d_m3_5 rfl rfl ?_
  refine g_iload_n (pc := 6) W0 d_m3_6 rfl ?_
  refine g_iaload (pc := 7) (i := 0) (v := .int x2) W0 rfl (by decide) rfl d_m3_7 ?_
  refine g_iload_n (pc := 8) W0 d_m3_8 rfl ?_
  refine g_icmp_ge 16 (pc := 9) W0 d_m3_9 (by decide) (by decide) (fun c1 => ?_) (fun c1 => ?_)
  · refine g_iconst (pc := 16) (0 : Int32) (by decide) W0 d_m3_16 ?_
    exact g_ireturn (pc := 17) rfl W0 d_m3_17 (by decide) (by decide) ⟨by rw [if_neg c1], rfl⟩
  · refine g_iconst (pc := 12) (1 : Int32) (by decide) W0 d_m3_12 ?_
    refine g_goto 17 (pc := 13) W0 d_m3_13 (by decide) (by decide) ?_
    exact g_ireturn (pc := 17) rfl W0 d_m3_17 (by decide) (by decide) ⟨by rw [if_pos c1], rfl⟩
theorem c_lt63 (l : Launch) (Z : State) (a0 : Array Value) (hw : ∀ d ∈ tables_1, d.before a0 Z = true) {B : Nat} (a : Addr) (v x0 x1 x2 x3 x4 x5 : Int32) :
    Con l Z FM B (⟨"com/example/metanode/metanode/graph/IntPairsPartnersPinLaw", "lt", "([IIII)I"⟩ : MethodName) method_3_code 4 (some .int) ({ frames := 0, cells := 0, slots := 0, locals := 0 } : Room) [] #[.ref a, .int (3 : Int32), .int (6 : Int32), .int v] [(a, (.array .int), [.int x0, .int x1, .int x2, .int x3, .int x4, .int x5])] (fun rr os => rr = some (.int (if x3 < v then (1 : Int32) else (0 : Int32))) ∧ os = [(a, (.array .int), [.int x0, .int x1, .int x2, .int x3, .int x4, .int x5])]) := by
  refine Con.of (plainFor_of_name (by first | (simp [plainName, overriddenIn]; done) | decide +kernel)) (ls := #[.val (.ref a), .val (.int (3 : Int32)), .val (.int (6 : Int32)), .val (.int v)]) (fun m => by first | (simp [entryFrame, mkF, argsToLocals, Value.category]; done) | rfl) ?_
  intro p_ e_ h_ s_ m_ bl_ me_ c_ T0 W0
  refine g_iload_n (pc := 0) W0 d_m3_0 rfl ?_
  refine g_iload_n (pc := 1) W0 d_m3_1 rfl ?_
  refine g_icmpN (pc := 2) W0 d_m3_2 (by decide) ?_
  refine g_aload_n (pc := 5) W0 d_m3_5 rfl rfl ?_
  refine g_iload_n (pc := 6) W0 d_m3_6 rfl ?_
  refine g_iaload (pc := 7) (i := 0) (v := .int x3) W0 rfl (by decide) rfl d_m3_7 ?_
  refine g_iload_n (pc := 8) W0 d_m3_8 rfl ?_
  refine g_icmp_ge 16 (pc := 9) W0 d_m3_9 (by decide) (by decide) (fun c1 => ?_) (fun c1 => ?_)
  · refine g_iconst (pc := 16) (0 : Int32) (by decide) W0 d_m3_16 ?_
    exact g_ireturn (pc := 17) rfl W0 d_m3_17 (by decide) (by decide) ⟨by rw [if_neg c1], rfl⟩
  · refine g_iconst (pc := 12) (1 : Int32) (by decide) W0 d_m3_12 ?_
    refine g_goto 17 (pc := 13) W0 d_m3_13 (by decide) (by decide) ?_
    exact g_ireturn (pc := 17) rfl W0 d_m3_17 (by decide) (by decide) ⟨by rw [if_pos c1], rfl⟩
theorem c_lt64 (l : Launch) (Z : State) (a0 : Array Value) (hw : ∀ d ∈ tables_1, d.before a0 Z = true) {B : Nat} (a : Addr) (v x0 x1 x2 x3 x4 x5 : Int32) :
    Con l Z FM B (⟨"com/example/metanode/metanode/graph/IntPairsPartnersPinLaw", "lt", "([IIII)I"⟩ : MethodName) method_3_code 4 (some .int) ({ frames := 0, cells := 0, slots := 0, locals := 0 } : Room) [] #[.ref a, .int (4 : Int32), .int (6 : Int32), .int v] [(a, (.array .int), [.int x0, .int x1, .int x2, .int x3, .int x4, .int x5])] (fun rr os => rr = some (.int (if x4 < v then (1 : Int32) else (0 : Int32))) ∧ os = [(a, (.array .int), [.int x0, .int x1, .int x2, .int x3, .int x4, .int x5])]) := by
  refine Con.of (plainFor_of_name (by first | (simp [plainName, overriddenIn]; done) | decide +kernel)) (ls := #[.val (.ref a), .val (.int (4 : Int32)), .val (.int (6 : Int32)), .val (.int v)]) (fun m => by first | (simp [entryFrame, mkF, argsToLocals, Value.category]; done) | rfl) ?_
  intro p_ e_ h_ s_ m_ bl_ me_ c_ T0 W0
  refine g_iload_n (pc := 0) W0 d_m3_0 rfl ?_
  refine g_iload_n (pc := 1) W0 d_m3_1 rfl ?_
  refine g_icmpN (pc := 2) W0 d_m3_2 (by decide) ?_
  refine g_aload_n (pc := 5) W0 d_m3_5 rfl rfl ?_
  refine g_iload_n (pc := 6) W0 d_m3_6 rfl ?_
  refine g_iaload (pc := 7) (i := 0) (v := .int x4) W0 rfl (by decide) rfl d_m3_7 ?_
  refine g_iload_n (pc := 8) W0 d_m3_8 rfl ?_
  refine g_icmp_ge 16 (pc := 9) W0 d_m3_9 (by decide) (by decide) (fun c1 => ?_) (fun c1 => ?_)
  · refine g_iconst (pc := 16) (0 : Int32) (by decide) W0 d_m3_16 ?_
    exact g_ireturn (pc := 17) rfl W0 d_m3_17 (by decide) (by decide) ⟨by rw [if_neg c1], rfl⟩
  · refine g_iconst (pc := 12) (1 : Int32) (by decide) W0 d_m3_12 ?_
    refine g_goto 17 (pc := 13) W0 d_m3_13 (by decide) (by decide) ?_
    exact g_ireturn (pc := 17) rfl W0 d_m3_17 (by decide) (by decide) ⟨by rw [if_pos c1], rfl⟩
theorem c_lt65 (l : Launch) (Z : State) (a0 : Array Value) (hw : ∀ d ∈ tables_1, d.before a0 Z = true) {B : Nat} (a : Addr) (v x0 x1 x2 x3 x4 x5 : Int32) :
    Con l Z FM B (⟨"com/example/metanode/metanode/graph/IntPairsPartnersPinLaw", "lt", "([IIII)I"⟩ : MethodName) method_3_code 4 (some .int) ({ frames := 0, cells := 0, slots := 0, locals := 0 } : Room) [] #[.ref a, .int (5 : Int32), .int (6 : Int32), .int v] [(a, (.array .int), [.int x0, .int x1, .int x2, .int x3, .int x4, .int x5])] (fun rr os => rr = some (.int (if x5 < v then (1 : Int32) else (0 : Int32))) ∧ os = [(a, (.array .int), [.int x0, .int x1, .int x2, .int x3, .int x4, .int x5])]) := by
  refine Con.of (plainFor_of_name (by first | (simp [plainName, overriddenIn]; done) | decide +kernel)) (ls := #[.val (.ref a), .val (.int (5 : Int32)), .val (.int (6 : Int32)), .val (.int v)]) (fun m => by first | (simp [entryFrame, mkF, argsToLocals, Value.category]; done) | rfl) ?_
  intro p_ e_ h_ s_ m_ bl_ me_ c_ T0 W0
  refine g_iload_n (pc := 0) W0 d_m3_0 rfl ?_
  refine g_iload_n (pc := 1) W0 d_m3_1 rfl ?_
  refine g_icmpN (pc := 2) W0 d_m3_2 (by decide) ?_
  refine g_aload_n (pc := 5) W0 d_m3_5 rfl rfl ?_
  refine g_iload_n (pc := 6) W0 d_m3_6 rfl ?_
  refine g_iaload (pc := 7) (i := 0) (v := .int x5) W0 rfl (by decide) rfl d_m3_7 ?_
  refine g_iload_n (pc := 8) W0 d_m3_8 rfl ?_
  refine g_icmp_ge 16 (pc := 9) W0 d_m3_9 (by decide) (by decide) (fun c1 => ?_) (fun c1 => ?_)
  · refine g_iconst (pc := 16) (0 : Int32) (by decide) W0 d_m3_16 ?_
    exact g_ireturn (pc := 17) rfl W0 d_m3_17 (by decide) (by decide) ⟨by rw [if_neg c1], rfl⟩
  · refine g_iconst (pc := 12) (1 : Int32) (by decide) W0 d_m3_12 ?_
    refine g_goto 17 (pc := 13) W0 d_m3_13 (by decide) (by decide) ?_
    exact g_ireturn (pc := 17) rfl W0 d_m3_17 (by decide) (by decide) ⟨by rw [if_pos c1], rfl⟩
theorem d_m4_0 : decode method_4_code 0 = .ok (.aload_n 0, 1) := by decide +kernel
theorem d_m4_1 : decode method_4_code 1 = .ok (.iconst 0, 1) := by decide +kernel
theorem d_m4_2 : decode method_4_code 2 = .ok (.iload_n 1, 1) := by decide +kernel
theorem d_m4_3 : decode method_4_code 3 = .ok (.iload_n 2, 1) := by decide +kernel
theorem d_m4_4 : decode method_4_code 4 = .ok (.invokestatic 28, 3) := by decide +kernel
theorem d_m4_7 : decode method_4_code 7 = .ok (.aload_n 0, 1) := by decide +kernel
theorem d_m4_8 : decode method_4_code 8 = .ok (.iconst 1, 1) := by decide +kernel
theorem d_m4_9 : decode method_4_code 9 = .ok (.iload_n 1, 1) := by decide +kernel
theorem d_m4_10 : decode method_4_code 10 = .ok (.iload_n 2, 1) := by decide +kernel
theorem d_m4_11 : decode method_4_code 11 = .ok (.invokestatic 28, 3) := by decide +kernel
theorem d_m4_14 : decode method_4_code 14 = .ok (.iadd, 1) := by decide +kernel
theorem d_m4_15 : decode method_4_code 15 = .ok (.aload_n 0, 1) := by decide +kernel
theorem d_m4_16 : decode method_4_code 16 = .ok (.iconst 2, 1) := by decide +kernel
theorem d_m4_17 : decode method_4_code 17 = .ok (.iload_n 1, 1) := by decide +kernel
theorem d_m4_18 : decode method_4_code 18 = .ok (.iload_n 2, 1) := by decide +kernel
theorem d_m4_19 : decode method_4_code 19 = .ok (.invokestatic 28, 3) := by decide +kernel
theorem d_m4_22 : decode method_4_code 22 = .ok (.iadd, 1) := by decide +kernel
theorem d_m4_23 : decode method_4_code 23 = .ok (.aload_n 0, 1) := by decide +kernel
theorem d_m4_24 : decode method_4_code 24 = .ok (.iconst 3, 1) := by decide +kernel
theorem d_m4_25 : decode method_4_code 25 = .ok (.iload_n 1, 1) := by decide +kernel
theorem d_m4_26 : decode method_4_code 26 = .ok (.iload_n 2, 1) := by decide +kernel
theorem d_m4_27 : decode method_4_code 27 = .ok (.invokestatic 28, 3) := by decide +kernel
theorem d_m4_30 : decode method_4_code 30 = .ok (.iadd, 1) := by decide +kernel
theorem d_m4_31 : decode method_4_code 31 = .ok (.aload_n 0, 1) := by decide +kernel
theorem d_m4_32 : decode method_4_code 32 = .ok (.iconst 4, 1) := by decide +kernel
theorem d_m4_33 : decode method_4_code 33 = .ok (.iload_n 1, 1) := by decide +kernel
theorem d_m4_34 : decode method_4_code 34 = .ok (.iload_n 2, 1) := by decide +kernel
theorem d_m4_35 : decode method_4_code 35 = .ok (.invokestatic 28, 3) := by decide +kernel
theorem d_m4_38 : decode method_4_code 38 = .ok (.iadd, 1) := by decide +kernel
theorem d_m4_39 : decode method_4_code 39 = .ok (.aload_n 0, 1) := by decide +kernel
theorem d_m4_40 : decode method_4_code 40 = .ok (.iconst 5, 1) := by decide +kernel
theorem d_m4_41 : decode method_4_code 41 = .ok (.iload_n 1, 1) := by decide +kernel
theorem d_m4_42 : decode method_4_code 42 = .ok (.iload_n 2, 1) := by decide +kernel
theorem d_m4_43 : decode method_4_code 43 = .ok (.invokestatic 28, 3) := by decide +kernel
theorem d_m4_46 : decode method_4_code 46 = .ok (.iadd, 1) := by decide +kernel
theorem d_m4_47 : decode method_4_code 47 = .ok (.ireturn, 1) := by decide +kernel
theorem c_below0 (l : Launch) (Z : State) (a0 : Array Value) (hw : ∀ d ∈ tables_1, d.before a0 Z = true) {B : Nat} (a : Addr) (v x0 x1 x2 x3 x4 x5 : Int32) :
    Con l Z FM B (⟨"com/example/metanode/metanode/graph/IntPairsPartnersPinLaw", "below", "([III)I"⟩ : MethodName) method_4_code 3 (some .int) ({ frames := 1, cells := 0, slots := 0, locals := 16 } : Room) [] #[.ref a, .int (0 : Int32), .int v] [(a, (.array .int), [.int x0, .int x1, .int x2, .int x3, .int x4, .int x5])] (fun rv_ ro_ => rv_ = some (.int (0 : Int32)) ∧ ro_ = [(a, (.array .int), [.int x0, .int x1, .int x2, .int x3, .int x4, .int x5])]) := by
  refine Con.of (plainFor_of_name (by first | (simp [plainName, overriddenIn]; done) | decide +kernel)) (ls := #[.val (.ref a), .val (.int (0 : Int32)), .val (.int v)]) (fun m => by first | (simp [entryFrame, mkF, argsToLocals, Value.category]; done) | rfl) ?_
  intro p_ e_ h_ s_ m_ bl_ me_ c_ T0 W0
  refine g_aload_n (pc := 0) W0 d_m4_0 rfl rfl ?_
  refine g_iconst (pc := 1) (0 : Int32) (by decide) W0 d_m4_1 ?_
  refine g_iload_n (pc := 2) W0 d_m4_2 rfl ?_
  refine g_iload_n (pc := 3) W0 d_m4_3 rfl ?_
  refine g_static (pc := 4) (Wt := 0) (argsL := [.ref a, .int (0 : Int32), .int (0 : Int32), .int v]) (rest := []) (loc := [(a, (.array .int), [.int x0, .int x1, .int x2, .int x3, .int x4, .int x5])]) (rst := []) W0 (wd hw 50 rfl) (wd hw 51 rfl) (wd hw 48 rfl) (wd hw 52 rfl) (by decide) (c_lt00 l Z a0 hw a v x0 x1 x2 x3 x4 x5) ⟨[0], by decide, rfl⟩ rfl pd_AIIII__I rfl rfl rfl (Nat.le_of_ble_eq_true rfl) (by decide) (by decide) (by decide) (by decide) d_m4_4 ?_
  rintro T1 _ _ ⟨rfl, rfl⟩ W2
  have W3 := W2.re (os' := [(a, (.array .int), [.int x0, .int x1, .int x2, .int x3, .int x4, .int x5])]) rfl
  show Go p_ e_ bl_ _ (T1.setTop (mkF m_ 7 _ [.int (0 : Int32)]))
  refine g_aload_n (pc := 7) W3 d_m4_7 rfl rfl ?_
  refine g_iconst (pc := 8) (1 : Int32) (by decide) W3 d_m4_8 ?_
  refine g_iload_n (pc := 9) W3 d_m4_9 rfl ?_
  refine g_iload_n (pc := 10) W3 d_m4_10 rfl ?_
  refine g_static (pc := 11) (Wt := 1) (argsL := [.ref a, .int (1 : Int32), .int (0 : Int32), .int v]) (rest := [.int (0 : Int32)]) (loc := [(a, (.array .int), [.int x0, .int x1, .int x2, .int x3, .int x4, .int x5])]) (rst := []) W3 (wd hw 50 rfl) (wd hw 51 rfl) (wd hw 48 rfl) (wd hw 52 rfl) (by decide) (c_lt01 l Z a0 hw a v x0 x1 x2 x3 x4 x5) ⟨[0], by decide, rfl⟩ rfl pd_AIIII__I rfl rfl rfl (Nat.le_of_ble_eq_true rfl) (by decide) (by decide) (by decide) (by decide) d_m4_11 ?_
  rintro T4 _ _ ⟨rfl, rfl⟩ W5
  have W6 := W5.re (os' := [(a, (.array .int), [.int x0, .int x1, .int x2, .int x3, .int x4, .int x5])]) rfl
  show Go p_ e_ bl_ _ (T4.setTop (mkF m_ 14 _ [.int (0 : Int32), .int (0 : Int32)]))
  refine g_iadd (pc := 14) W6 d_m4_14 ?_
  show Go p_ e_ bl_ _ (T4.setTop (mkF m_ 15 _ [.int (0 : Int32)]))
  refine g_aload_n (pc := 15) W6 d_m4_15 rfl rfl ?_
  refine g_iconst (pc := 16) (2 : Int32) (by decide) W6 d_m4_16 ?_
  refine g_iload_n (pc := 17) W6 d_m4_17 rfl ?_
  refine g_iload_n (pc := 18) W6 d_m4_18 rfl ?_
  refine g_static (pc := 19) (Wt := 1) (argsL := [.ref a, .int (2 : Int32), .int (0 : Int32), .int v]) (rest := [.int (0 : Int32)]) (loc := [(a, (.array .int), [.int x0, .int x1, .int x2, .int x3, .int x4, .int x5])]) (rst := []) W6 (wd hw 50 rfl) (wd hw 51 rfl) (wd hw 48 rfl) (wd hw 52 rfl) (by decide) (c_lt02 l Z a0 hw a v x0 x1 x2 x3 x4 x5) ⟨[0], by decide, rfl⟩ rfl pd_AIIII__I rfl rfl rfl (Nat.le_of_ble_eq_true rfl) (by decide) (by decide) (by decide) (by decide) d_m4_19 ?_
  rintro T7 _ _ ⟨rfl, rfl⟩ W8
  have W9 := W8.re (os' := [(a, (.array .int), [.int x0, .int x1, .int x2, .int x3, .int x4, .int x5])]) rfl
  show Go p_ e_ bl_ _ (T7.setTop (mkF m_ 22 _ [.int (0 : Int32), .int (0 : Int32)]))
  refine g_iadd (pc := 22) W9 d_m4_22 ?_
  show Go p_ e_ bl_ _ (T7.setTop (mkF m_ 23 _ [.int (0 : Int32)]))
  refine g_aload_n (pc := 23) W9 d_m4_23 rfl rfl ?_
  refine g_iconst (pc := 24) (3 : Int32) (by decide) W9 d_m4_24 ?_
  refine g_iload_n (pc := 25) W9 d_m4_25 rfl ?_
  refine g_iload_n (pc := 26) W9 d_m4_26 rfl ?_
  refine g_static (pc := 27) (Wt := 1) (argsL := [.ref a, .int (3 : Int32), .int (0 : Int32), .int v]) (rest := [.int (0 : Int32)]) (loc := [(a, (.array .int), [.int x0, .int x1, .int x2, .int x3, .int x4, .int x5])]) (rst := []) W9 (wd hw 50 rfl) (wd hw 51 rfl) (wd hw 48 rfl) (wd hw 52 rfl) (by decide) (c_lt03 l Z a0 hw a v x0 x1 x2 x3 x4 x5) ⟨[0], by decide, rfl⟩ rfl pd_AIIII__I rfl rfl rfl (Nat.le_of_ble_eq_true rfl) (by decide) (by decide) (by decide) (by decide) d_m4_27 ?_
  rintro T10 _ _ ⟨rfl, rfl⟩ W11
  have W12 := W11.re (os' := [(a, (.array .int), [.int x0, .int x1, .int x2, .int x3, .int x4, .int x5])]) rfl
  show Go p_ e_ bl_ _ (T10.setTop (mkF m_ 30 _ [.int (0 : Int32), .int (0 : Int32)]))
  refine g_iadd (pc := 30) W12 d_m4_30 ?_
  show Go p_ e_ bl_ _ (T10.setTop (mkF m_ 31 _ [.int (0 : Int32)]))
  refine g_aload_n (pc := 31) W12 d_m4_31 rfl rfl ?_
  refine g_iconst (pc := 32) (4 : Int32) (by decide) W12 d_m4_32 ?_
  refine g_iload_n (pc := 33) W12 d_m4_33 rfl ?_
  refine g_iload_n (pc := 34) W12 d_m4_34 rfl ?_
  refine g_static (pc := 35) (Wt := 1) (argsL := [.ref a, .int (4 : Int32), .int (0 : Int32), .int v]) (rest := [.int (0 : Int32)]) (loc := [(a, (.array .int), [.int x0, .int x1, .int x2, .int x3, .int x4, .int x5])]) (rst := []) W12 (wd hw 50 rfl) (wd hw 51 rfl) (wd hw 48 rfl) (wd hw 52 rfl) (by decide) (c_lt04 l Z a0 hw a v x0 x1 x2 x3 x4 x5) ⟨[0], by decide, rfl⟩ rfl pd_AIIII__I rfl rfl rfl (Nat.le_of_ble_eq_true rfl) (by decide) (by decide) (by decide) (by decide) d_m4_35 ?_
  rintro T13 _ _ ⟨rfl, rfl⟩ W14
  have W15 := W14.re (os' := [(a, (.array .int), [.int x0, .int x1, .int x2, .int x3, .int x4, .int x5])]) rfl
  show Go p_ e_ bl_ _ (T13.setTop (mkF m_ 38 _ [.int (0 : Int32), .int (0 : Int32)]))
  refine g_iadd (pc := 38) W15 d_m4_38 ?_
  show Go p_ e_ bl_ _ (T13.setTop (mkF m_ 39 _ [.int (0 : Int32)]))
  refine g_aload_n (pc := 39) W15 d_m4_39 rfl rfl ?_
  refine g_iconst (pc := 40) (5 : Int32) (by decide) W15 d_m4_40 ?_
  refine g_iload_n (pc := 41) W15 d_m4_41 rfl ?_
  refine g_iload_n (pc := 42) W15 d_m4_42 rfl ?_
  refine g_static (pc := 43) (Wt := 1) (argsL := [.ref a, .int (5 : Int32), .int (0 : Int32), .int v]) (rest := [.int (0 : Int32)]) (loc := [(a, (.array .int), [.int x0, .int x1, .int x2, .int x3, .int x4, .int x5])]) (rst := []) W15 (wd hw 50 rfl) (wd hw 51 rfl) (wd hw 48 rfl) (wd hw 52 rfl) (by decide) (c_lt05 l Z a0 hw a v x0 x1 x2 x3 x4 x5) ⟨[0], by decide, rfl⟩ rfl pd_AIIII__I rfl rfl rfl (Nat.le_of_ble_eq_true rfl) (by decide) (by decide) (by decide) (by decide) d_m4_43 ?_
  rintro T16 _ _ ⟨rfl, rfl⟩ W17
  have W18 := W17.re (os' := [(a, (.array .int), [.int x0, .int x1, .int x2, .int x3, .int x4, .int x5])]) rfl
  show Go p_ e_ bl_ _ (T16.setTop (mkF m_ 46 _ [.int (0 : Int32), .int (0 : Int32)]))
  refine g_iadd (pc := 46) W18 d_m4_46 ?_
  show Go p_ e_ bl_ _ (T16.setTop (mkF m_ 47 _ [.int (0 : Int32)]))
  exact g_ireturn (pc := 47) rfl W18 d_m4_47 (by decide) (by decide) ⟨rfl, rfl⟩
theorem c_below2 (l : Launch) (Z : State) (a0 : Array Value) (hw : ∀ d ∈ tables_1, d.before a0 Z = true) {B : Nat} (a : Addr) (v x0 x1 x2 x3 x4 x5 : Int32) :
    Con l Z FM B (⟨"com/example/metanode/metanode/graph/IntPairsPartnersPinLaw", "below", "([III)I"⟩ : MethodName) method_4_code 3 (some .int) ({ frames := 1, cells := 0, slots := 0, locals := 16 } : Room) [] #[.ref a, .int (2 : Int32), .int v] [(a, (.array .int), [.int x0, .int x1, .int x2, .int x3, .int x4, .int x5])] (fun rv_ ro_ => rv_ = some (.int ((((((if x0 < v then (1 : Int32) else (0 : Int32)) + (if x1 < v then (1 : Int32) else (0 : Int32))) + (0 : Int32)) + (0 : Int32)) + (0 : Int32)) + (0 : Int32))) ∧ ro_ = [(a, (.array .int), [.int x0, .int x1, .int x2, .int x3, .int x4, .int x5])]) := by
  refine Con.of (plainFor_of_name (by first | (simp [plainName, overriddenIn]; done) | decide +kernel)) (ls := #[.val (.ref a), .val (.int (2 : Int32)), .val (.int v)]) (fun m => by first | (simp [entryFrame, mkF, argsToLocals, Value.category]; done) | rfl) ?_
  intro p_ e_ h_ s_ m_ bl_ me_ c_ T0 W0
  refine g_aload_n (pc := 0) W0 d_m4_0 rfl rfl ?_
  refine g_iconst (pc := 1) (0 : Int32) (by decide) W0 d_m4_1 ?_
  refine g_iload_n (pc := 2) W0 d_m4_2 rfl ?_
  refine g_iload_n (pc := 3) W0 d_m4_3 rfl ?_
  refine g_static (pc := 4) (Wt := 0) (argsL := [.ref a, .int (0 : Int32), .int (2 : Int32), .int v]) (rest := []) (loc := [(a, (.array .int), [.int x0, .int x1, .int x2, .int x3, .int x4, .int x5])]) (rst := []) W0 (wd hw 50 rfl) (wd hw 51 rfl) (wd hw 48 rfl) (wd hw 52 rfl) (by decide) (c_lt20 l Z a0 hw a v x0 x1 x2 x3 x4 x5) ⟨[0], by decide, rfl⟩ rfl pd_AIIII__I rfl rfl rfl (Nat.le_of_ble_eq_true rfl) (by decide) (by decide) (by decide) (by decide) d_m4_4 ?_
  rintro T1 _ _ ⟨rfl, rfl⟩ W2
  have W3 := W2.re (os' := [(a, (.array .int), [.int x0, .int x1, .int x2, .int x3, .int x4, .int x5])]) rfl
  show Go p_ e_ bl_ _ (T1.setTop (mkF m_ 7 _ [.int (if x0 < v then (1 : Int32) else (0 : Int32))]))
  refine g_aload_n (pc := 7) W3 d_m4_7 rfl rfl ?_
  refine g_iconst (pc := 8) (1 : Int32) (by decide) W3 d_m4_8 ?_
  refine g_iload_n (pc := 9) W3 d_m4_9 rfl ?_
  refine g_iload_n (pc := 10) W3 d_m4_10 rfl ?_
  refine g_static (pc := 11) (Wt := 1) (argsL := [.ref a, .int (1 : Int32), .int (2 : Int32), .int v]) (rest := [.int (if x0 < v then (1 : Int32) else (0 : Int32))]) (loc := [(a, (.array .int), [.int x0, .int x1, .int x2, .int x3, .int x4, .int x5])]) (rst := []) W3 (wd hw 50 rfl) (wd hw 51 rfl) (wd hw 48 rfl) (wd hw 52 rfl) (by decide) (c_lt21 l Z a0 hw a v x0 x1 x2 x3 x4 x5) ⟨[0], by decide, rfl⟩ rfl pd_AIIII__I rfl rfl rfl (Nat.le_of_ble_eq_true rfl) (by decide) (by decide) (by decide) (by decide) d_m4_11 ?_
  rintro T4 _ _ ⟨rfl, rfl⟩ W5
  have W6 := W5.re (os' := [(a, (.array .int), [.int x0, .int x1, .int x2, .int x3, .int x4, .int x5])]) rfl
  show Go p_ e_ bl_ _ (T4.setTop (mkF m_ 14 _ [.int (if x1 < v then (1 : Int32) else (0 : Int32)), .int (if x0 < v then (1 : Int32) else (0 : Int32))]))
  refine g_iadd (pc := 14) W6 d_m4_14 ?_
  refine g_aload_n (pc := 15) W6 d_m4_15 rfl rfl ?_
  refine g_iconst (pc := 16) (2 : Int32) (by decide) W6 d_m4_16 ?_
  refine g_iload_n (pc := 17) W6 d_m4_17 rfl ?_
  refine g_iload_n (pc := 18) W6 d_m4_18 rfl ?_
  refine g_static (pc := 19) (Wt := 1) (argsL := [.ref a, .int (2 : Int32), .int (2 : Int32), .int v]) (rest := [.int ((if x0 < v then (1 : Int32) else (0 : Int32)) + (if x1 < v then (1 : Int32) else (0 : Int32)))]) (loc := [(a, (.array .int), [.int x0, .int x1, .int x2, .int x3, .int x4, .int x5])]) (rst := []) W6 (wd hw 50 rfl) (wd hw 51 rfl) (wd hw 48 rfl) (wd hw 52 rfl) (by decide) (c_lt22 l Z a0 hw a v x0 x1 x2 x3 x4 x5) ⟨[0], by decide, rfl⟩ rfl pd_AIIII__I rfl rfl rfl (Nat.le_of_ble_eq_true rfl) (by decide) (by decide) (by decide) (by decide) d_m4_19 ?_
  rintro T7 _ _ ⟨rfl, rfl⟩ W8
  have W9 := W8.re (os' := [(a, (.array .int), [.int x0, .int x1, .int x2, .int x3, .int x4, .int x5])]) rfl
  show Go p_ e_ bl_ _ (T7.setTop (mkF m_ 22 _ [.int (0 : Int32), .int ((if x0 < v then (1 : Int32) else (0 : Int32)) + (if x1 < v then (1 : Int32) else (0 : Int32)))]))
  refine g_iadd (pc := 22) W9 d_m4_22 ?_
  refine g_aload_n (pc := 23) W9 d_m4_23 rfl rfl ?_
  refine g_iconst (pc := 24) (3 : Int32) (by decide) W9 d_m4_24 ?_
  refine g_iload_n (pc := 25) W9 d_m4_25 rfl ?_
  refine g_iload_n (pc := 26) W9 d_m4_26 rfl ?_
  refine g_static (pc := 27) (Wt := 1) (argsL := [.ref a, .int (3 : Int32), .int (2 : Int32), .int v]) (rest := [.int (((if x0 < v then (1 : Int32) else (0 : Int32)) + (if x1 < v then (1 : Int32) else (0 : Int32))) + (0 : Int32))]) (loc := [(a, (.array .int), [.int x0, .int x1, .int x2, .int x3, .int x4, .int x5])]) (rst := []) W9 (wd hw 50 rfl) (wd hw 51 rfl) (wd hw 48 rfl) (wd hw 52 rfl) (by decide) (c_lt23 l Z a0 hw a v x0 x1 x2 x3 x4 x5) ⟨[0], by decide, rfl⟩ rfl pd_AIIII__I rfl rfl rfl (Nat.le_of_ble_eq_true rfl) (by decide) (by decide) (by decide) (by decide) d_m4_27 ?_
  rintro T10 _ _ ⟨rfl, rfl⟩ W11
  have W12 := W11.re (os' := [(a, (.array .int), [.int x0, .int x1, .int x2, .int x3, .int x4, .int x5])]) rfl
  show Go p_ e_ bl_ _ (T10.setTop (mkF m_ 30 _ [.int (0 : Int32), .int (((if x0 < v then (1 : Int32) else (0 : Int32)) + (if x1 < v then (1 : Int32) else (0 : Int32))) + (0 : Int32))]))
  refine g_iadd (pc := 30) W12 d_m4_30 ?_
  refine g_aload_n (pc := 31) W12 d_m4_31 rfl rfl ?_
  refine g_iconst (pc := 32) (4 : Int32) (by decide) W12 d_m4_32 ?_
  refine g_iload_n (pc := 33) W12 d_m4_33 rfl ?_
  refine g_iload_n (pc := 34) W12 d_m4_34 rfl ?_
  refine g_static (pc := 35) (Wt := 1) (argsL := [.ref a, .int (4 : Int32), .int (2 : Int32), .int v]) (rest := [.int ((((if x0 < v then (1 : Int32) else (0 : Int32)) + (if x1 < v then (1 : Int32) else (0 : Int32))) + (0 : Int32)) + (0 : Int32))]) (loc := [(a, (.array .int), [.int x0, .int x1, .int x2, .int x3, .int x4, .int x5])]) (rst := []) W12 (wd hw 50 rfl) (wd hw 51 rfl) (wd hw 48 rfl) (wd hw 52 rfl) (by decide) (c_lt24 l Z a0 hw a v x0 x1 x2 x3 x4 x5) ⟨[0], by decide, rfl⟩ rfl pd_AIIII__I rfl rfl rfl (Nat.le_of_ble_eq_true rfl) (by decide) (by decide) (by decide) (by decide) d_m4_35 ?_
  rintro T13 _ _ ⟨rfl, rfl⟩ W14
  have W15 := W14.re (os' := [(a, (.array .int), [.int x0, .int x1, .int x2, .int x3, .int x4, .int x5])]) rfl
  show Go p_ e_ bl_ _ (T13.setTop (mkF m_ 38 _ [.int (0 : Int32), .int ((((if x0 < v then (1 : Int32) else (0 : Int32)) + (if x1 < v then (1 : Int32) else (0 : Int32))) + (0 : Int32)) + (0 : Int32))]))
  refine g_iadd (pc := 38) W15 d_m4_38 ?_
  refine g_aload_n (pc := 39) W15 d_m4_39 rfl rfl ?_
  refine g_iconst (pc := 40) (5 : Int32) (by decide) W15 d_m4_40 ?_
  refine g_iload_n (pc := 41) W15 d_m4_41 rfl ?_
  refine g_iload_n (pc := 42) W15 d_m4_42 rfl ?_
  refine g_static (pc := 43) (Wt := 1) (argsL := [.ref a, .int (5 : Int32), .int (2 : Int32), .int v]) (rest := [.int (((((if x0 < v then (1 : Int32) else (0 : Int32)) + (if x1 < v then (1 : Int32) else (0 : Int32))) + (0 : Int32)) + (0 : Int32)) + (0 : Int32))]) (loc := [(a, (.array .int), [.int x0, .int x1, .int x2, .int x3, .int x4, .int x5])]) (rst := []) W15 (wd hw 50 rfl) (wd hw 51 rfl) (wd hw 48 rfl) (wd hw 52 rfl) (by decide) (c_lt25 l Z a0 hw a v x0 x1 x2 x3 x4 x5) ⟨[0], by decide, rfl⟩ rfl pd_AIIII__I rfl rfl rfl (Nat.le_of_ble_eq_true rfl) (by decide) (by decide) (by decide) (by decide) d_m4_43 ?_
  rintro T16 _ _ ⟨rfl, rfl⟩ W17
  have W18 := W17.re (os' := [(a, (.array .int), [.int x0, .int x1, .int x2, .int x3, .int x4, .int x5])]) rfl
  show Go p_ e_ bl_ _ (T16.setTop (mkF m_ 46 _ [.int (0 : Int32), .int (((((if x0 < v then (1 : Int32) else (0 : Int32)) + (if x1 < v then (1 : Int32) else (0 : Int32))) + (0 : Int32)) + (0 : Int32)) + (0 : Int32))]))
  refine g_iadd (pc := 46) W18 d_m4_46 ?_
  exact g_ireturn (pc := 47) rfl W18 d_m4_47 (by decide) (by decide) ⟨rfl, rfl⟩
theorem c_below4 (l : Launch) (Z : State) (a0 : Array Value) (hw : ∀ d ∈ tables_1, d.before a0 Z = true) {B : Nat} (a : Addr) (v x0 x1 x2 x3 x4 x5 : Int32) :
    Con l Z FM B (⟨"com/example/metanode/metanode/graph/IntPairsPartnersPinLaw", "below", "([III)I"⟩ : MethodName) method_4_code 3 (some .int) ({ frames := 1, cells := 0, slots := 0, locals := 16 } : Room) [] #[.ref a, .int (4 : Int32), .int v] [(a, (.array .int), [.int x0, .int x1, .int x2, .int x3, .int x4, .int x5])] (fun rv_ ro_ => rv_ = some (.int ((((((if x0 < v then (1 : Int32) else (0 : Int32)) + (if x1 < v then (1 : Int32) else (0 : Int32))) + (if x2 < v then (1 : Int32) else (0 : Int32))) + (if x3 < v then (1 : Int32) else (0 : Int32))) + (0 : Int32)) + (0 : Int32))) ∧ ro_ = [(a, (.array .int), [.int x0, .int x1, .int x2, .int x3, .int x4, .int x5])]) := by
  refine Con.of (plainFor_of_name (by first | (simp [plainName, overriddenIn]; done) | decide +kernel)) (ls := #[.val (.ref a), .val (.int (4 : Int32)), .val (.int v)]) (fun m => by first | (simp [entryFrame, mkF, argsToLocals, Value.category]; done) | rfl) ?_
  intro p_ e_ h_ s_ m_ bl_ me_ c_ T0 W0
  refine g_aload_n (pc := 0) W0 d_m4_0 rfl rfl ?_
  refine g_iconst (pc := 1) (0 : Int32) (by decide) W0 d_m4_1 ?_
  refine g_iload_n (pc := 2) W0 d_m4_2 rfl ?_
  refine g_iload_n (pc := 3) W0 d_m4_3 rfl ?_
  refine g_static (pc := 4) (Wt := 0) (argsL := [.ref a, .int (0 : Int32), .int (4 : Int32), .int v]) (rest := []) (loc := [(a, (.array .int), [.int x0, .int x1, .int x2, .int x3, .int x4, .int x5])]) (rst := []) W0 (wd hw 50 rfl) (wd hw 51 rfl) (wd hw 48 rfl) (wd hw 52 rfl) (by decide) (c_lt40 l Z a0 hw a v x0 x1 x2 x3 x4 x5) ⟨[0], by decide, rfl⟩ rfl pd_AIIII__I rfl rfl rfl (Nat.le_of_ble_eq_true rfl) (by decide) (by decide) (by decide) (by decide) d_m4_4 ?_
  rintro T1 _ _ ⟨rfl, rfl⟩ W2
  have W3 := W2.re (os' := [(a, (.array .int), [.int x0, .int x1, .int x2, .int x3, .int x4, .int x5])]) rfl
  show Go p_ e_ bl_ _ (T1.setTop (mkF m_ 7 _ [.int (if x0 < v then (1 : Int32) else (0 : Int32))]))
  refine g_aload_n (pc := 7) W3 d_m4_7 rfl rfl ?_
  refine g_iconst (pc := 8) (1 : Int32) (by decide) W3 d_m4_8 ?_
  refine g_iload_n (pc := 9) W3 d_m4_9 rfl ?_
  refine g_iload_n (pc := 10) W3 d_m4_10 rfl ?_
  refine g_static (pc := 11) (Wt := 1) (argsL := [.ref a, .int (1 : Int32), .int (4 : Int32), .int v]) (rest := [.int (if x0 < v then (1 : Int32) else (0 : Int32))]) (loc := [(a, (.array .int), [.int x0, .int x1, .int x2, .int x3, .int x4, .int x5])]) (rst := []) W3 (wd hw 50 rfl) (wd hw 51 rfl) (wd hw 48 rfl) (wd hw 52 rfl) (by decide) (c_lt41 l Z a0 hw a v x0 x1 x2 x3 x4 x5) ⟨[0], by decide, rfl⟩ rfl pd_AIIII__I rfl rfl rfl (Nat.le_of_ble_eq_true rfl) (by decide) (by decide) (by decide) (by decide) d_m4_11 ?_
  rintro T4 _ _ ⟨rfl, rfl⟩ W5
  have W6 := W5.re (os' := [(a, (.array .int), [.int x0, .int x1, .int x2, .int x3, .int x4, .int x5])]) rfl
  show Go p_ e_ bl_ _ (T4.setTop (mkF m_ 14 _ [.int (if x1 < v then (1 : Int32) else (0 : Int32)), .int (if x0 < v then (1 : Int32) else (0 : Int32))]))
  refine g_iadd (pc := 14) W6 d_m4_14 ?_
  refine g_aload_n (pc := 15) W6 d_m4_15 rfl rfl ?_
  refine g_iconst (pc := 16) (2 : Int32) (by decide) W6 d_m4_16 ?_
  refine g_iload_n (pc := 17) W6 d_m4_17 rfl ?_
  refine g_iload_n (pc := 18) W6 d_m4_18 rfl ?_
  refine g_static (pc := 19) (Wt := 1) (argsL := [.ref a, .int (2 : Int32), .int (4 : Int32), .int v]) (rest := [.int ((if x0 < v then (1 : Int32) else (0 : Int32)) + (if x1 < v then (1 : Int32) else (0 : Int32)))]) (loc := [(a, (.array .int), [.int x0, .int x1, .int x2, .int x3, .int x4, .int x5])]) (rst := []) W6 (wd hw 50 rfl) (wd hw 51 rfl) (wd hw 48 rfl) (wd hw 52 rfl) (by decide) (c_lt42 l Z a0 hw a v x0 x1 x2 x3 x4 x5) ⟨[0], by decide, rfl⟩ rfl pd_AIIII__I rfl rfl rfl (Nat.le_of_ble_eq_true rfl) (by decide) (by decide) (by decide) (by decide) d_m4_19 ?_
  rintro T7 _ _ ⟨rfl, rfl⟩ W8
  have W9 := W8.re (os' := [(a, (.array .int), [.int x0, .int x1, .int x2, .int x3, .int x4, .int x5])]) rfl
  show Go p_ e_ bl_ _ (T7.setTop (mkF m_ 22 _ [.int (if x2 < v then (1 : Int32) else (0 : Int32)), .int ((if x0 < v then (1 : Int32) else (0 : Int32)) + (if x1 < v then (1 : Int32) else (0 : Int32)))]))
  refine g_iadd (pc := 22) W9 d_m4_22 ?_
  refine g_aload_n (pc := 23) W9 d_m4_23 rfl rfl ?_
  refine g_iconst (pc := 24) (3 : Int32) (by decide) W9 d_m4_24 ?_
  refine g_iload_n (pc := 25) W9 d_m4_25 rfl ?_
  refine g_iload_n (pc := 26) W9 d_m4_26 rfl ?_
  refine g_static (pc := 27) (Wt := 1) (argsL := [.ref a, .int (3 : Int32), .int (4 : Int32), .int v]) (rest := [.int (((if x0 < v then (1 : Int32) else (0 : Int32)) + (if x1 < v then (1 : Int32) else (0 : Int32))) + (if x2 < v then (1 : Int32) else (0 : Int32)))]) (loc := [(a, (.array .int), [.int x0, .int x1, .int x2, .int x3, .int x4, .int x5])]) (rst := []) W9 (wd hw 50 rfl) (wd hw 51 rfl) (wd hw 48 rfl) (wd hw 52 rfl) (by decide) (c_lt43 l Z a0 hw a v x0 x1 x2 x3 x4 x5) ⟨[0], by decide, rfl⟩ rfl pd_AIIII__I rfl rfl rfl (Nat.le_of_ble_eq_true rfl) (by decide) (by decide) (by decide) (by decide) d_m4_27 ?_
  rintro T10 _ _ ⟨rfl, rfl⟩ W11
  have W12 := W11.re (os' := [(a, (.array .int), [.int x0, .int x1, .int x2, .int x3, .int x4, .int x5])]) rfl
  show Go p_ e_ bl_ _ (T10.setTop (mkF m_ 30 _ [.int (if x3 < v then (1 : Int32) else (0 : Int32)), .int (((if x0 < v then (1 : Int32) else (0 : Int32)) + (if x1 < v then (1 : Int32) else (0 : Int32))) + (if x2 < v then (1 : Int32) else (0 : Int32)))]))
  refine g_iadd (pc := 30) W12 d_m4_30 ?_
  refine g_aload_n (pc := 31) W12 d_m4_31 rfl rfl ?_
  refine g_iconst (pc := 32) (4 : Int32) (by decide) W12 d_m4_32 ?_
  refine g_iload_n (pc := 33) W12 d_m4_33 rfl ?_
  refine g_iload_n (pc := 34) W12 d_m4_34 rfl ?_
  refine g_static (pc := 35) (Wt := 1) (argsL := [.ref a, .int (4 : Int32), .int (4 : Int32), .int v]) (rest := [.int ((((if x0 < v then (1 : Int32) else (0 : Int32)) + (if x1 < v then (1 : Int32) else (0 : Int32))) + (if x2 < v then (1 : Int32) else (0 : Int32))) + (if x3 < v then (1 : Int32) else (0 : Int32)))]) (loc := [(a, (.array .int), [.int x0, .int x1, .int x2, .int x3, .int x4, .int x5])]) (rst := []) W12 (wd hw 50 rfl) (wd hw 51 rfl) (wd hw 48 rfl) (wd hw 52 rfl) (by decide) (c_lt44 l Z a0 hw a v x0 x1 x2 x3 x4 x5) ⟨[0], by decide, rfl⟩ rfl pd_AIIII__I rfl rfl rfl (Nat.le_of_ble_eq_true rfl) (by decide) (by decide) (by decide) (by decide) d_m4_35 ?_
  rintro T13 _ _ ⟨rfl, rfl⟩ W14
  have W15 := W14.re (os' := [(a, (.array .int), [.int x0, .int x1, .int x2, .int x3, .int x4, .int x5])]) rfl
  show Go p_ e_ bl_ _ (T13.setTop (mkF m_ 38 _ [.int (0 : Int32), .int ((((if x0 < v then (1 : Int32) else (0 : Int32)) + (if x1 < v then (1 : Int32) else (0 : Int32))) + (if x2 < v then (1 : Int32) else (0 : Int32))) + (if x3 < v then (1 : Int32) else (0 : Int32)))]))
  refine g_iadd (pc := 38) W15 d_m4_38 ?_
  refine g_aload_n (pc := 39) W15 d_m4_39 rfl rfl ?_
  refine g_iconst (pc := 40) (5 : Int32) (by decide) W15 d_m4_40 ?_
  refine g_iload_n (pc := 41) W15 d_m4_41 rfl ?_
  refine g_iload_n (pc := 42) W15 d_m4_42 rfl ?_
  refine g_static (pc := 43) (Wt := 1) (argsL := [.ref a, .int (5 : Int32), .int (4 : Int32), .int v]) (rest := [.int (((((if x0 < v then (1 : Int32) else (0 : Int32)) + (if x1 < v then (1 : Int32) else (0 : Int32))) + (if x2 < v then (1 : Int32) else (0 : Int32))) + (if x3 < v then (1 : Int32) else (0 : Int32))) + (0 : Int32))]) (loc := [(a, (.array .int), [.int x0, .int x1, .int x2, .int x3, .int x4, .int x5])]) (rst := []) W15 (wd hw 50 rfl) (wd hw 51 rfl) (wd hw 48 rfl) (wd hw 52 rfl) (by decide) (c_lt45 l Z a0 hw a v x0 x1 x2 x3 x4 x5) ⟨[0], by decide, rfl⟩ rfl pd_AIIII__I rfl rfl rfl (Nat.le_of_ble_eq_true rfl) (by decide) (by decide) (by decide) (by decide) d_m4_43 ?_
  rintro T16 _ _ ⟨rfl, rfl⟩ W17
  have W18 := W17.re (os' := [(a, (.array .int), [.int x0, .int x1, .int x2, .int x3, .int x4, .int x5])]) rfl
  show Go p_ e_ bl_ _ (T16.setTop (mkF m_ 46 _ [.int (0 : Int32), .int (((((if x0 < v then (1 : Int32) else (0 : Int32)) + (if x1 < v then (1 : Int32) else (0 : Int32))) + (if x2 < v then (1 : Int32) else (0 : Int32))) + (if x3 < v then (1 : Int32) else (0 : Int32))) + (0 : Int32))]))
  refine g_iadd (pc := 46) W18 d_m4_46 ?_
  exact g_ireturn (pc := 47) rfl W18 d_m4_47 (by decide) (by decide) ⟨rfl, rfl⟩
theorem c_below6 (l : Launch) (Z : State) (a0 : Array Value) (hw : ∀ d ∈ tables_1, d.before a0 Z = true) {B : Nat} (a : Addr) (v x0 x1 x2 x3 x4 x5 : Int32) :
    Con l Z FM B (⟨"com/example/metanode/metanode/graph/IntPairsPartnersPinLaw", "below", "([III)I"⟩ : MethodName) method_4_code 3 (some .int) ({ frames := 1, cells := 0, slots := 0, locals := 16 } : Room) [] #[.ref a, .int (6 : Int32), .int v] [(a, (.array .int), [.int x0, .int x1, .int x2, .int x3, .int x4, .int x5])] (fun rv_ ro_ => rv_ = some (.int ((((((if x0 < v then (1 : Int32) else (0 : Int32)) + (if x1 < v then (1 : Int32) else (0 : Int32))) + (if x2 < v then (1 : Int32) else (0 : Int32))) + (if x3 < v then (1 : Int32) else (0 : Int32))) + (if x4 < v then (1 : Int32) else (0 : Int32))) + (if x5 < v then (1 : Int32) else (0 : Int32)))) ∧ ro_ = [(a, (.array .int), [.int x0, .int x1, .int x2, .int x3, .int x4, .int x5])]) := by
  refine Con.of (plainFor_of_name (by first | (simp [plainName, overriddenIn]; done) | decide +kernel)) (ls := #[.val (.ref a), .val (.int (6 : Int32)), .val (.int v)]) (fun m => by first | (simp [entryFrame, mkF, argsToLocals, Value.category]; done) | rfl) ?_
  intro p_ e_ h_ s_ m_ bl_ me_ c_ T0 W0
  refine g_aload_n (pc := 0) W0 d_m4_0 rfl rfl ?_
  refine g_iconst (pc := 1) (0 : Int32) (by decide) W0 d_m4_1 ?_
  refine g_iload_n (pc := 2) W0 d_m4_2 rfl ?_
  refine g_iload_n (pc := 3) W0 d_m4_3 rfl ?_
  refine g_static (pc := 4) (Wt := 0) (argsL := [.ref a, .int (0 : Int32), .int (6 : Int32), .int v]) (rest := []) (loc := [(a, (.array .int), [.int x0, .int x1, .int x2, .int x3, .int x4, .int x5])]) (rst := []) W0 (wd hw 50 rfl) (wd hw 51 rfl) (wd hw 48 rfl) (wd hw 52 rfl) (by decide) (c_lt60 l Z a0 hw a v x0 x1 x2 x3 x4 x5) ⟨[0], by decide, rfl⟩ rfl pd_AIIII__I rfl rfl rfl (Nat.le_of_ble_eq_true rfl) (by decide) (by decide) (by decide) (by decide) d_m4_4 ?_
  rintro T1 _ _ ⟨rfl, rfl⟩ W2
  have W3 := W2.re (os' := [(a, (.array .int), [.int x0, .int x1, .int x2, .int x3, .int x4, .int x5])]) rfl
  show Go p_ e_ bl_ _ (T1.setTop (mkF m_ 7 _ [.int (if x0 < v then (1 : Int32) else (0 : Int32))]))
  refine g_aload_n (pc := 7) W3 d_m4_7 rfl rfl ?_
  refine g_iconst (pc := 8) (1 : Int32) (by decide) W3 d_m4_8 ?_
  refine g_iload_n (pc := 9) W3 d_m4_9 rfl ?_
  refine g_iload_n (pc := 10) W3 d_m4_10 rfl ?_
  refine g_static (pc := 11) (Wt := 1) (argsL := [.ref a, .int (1 : Int32), .int (6 : Int32), .int v]) (rest := [.int (if x0 < v then (1 : Int32) else (0 : Int32))]) (loc := [(a, (.array .int), [.int x0, .int x1, .int x2, .int x3, .int x4, .int x5])]) (rst := []) W3 (wd hw 50 rfl) (wd hw 51 rfl) (wd hw 48 rfl) (wd hw 52 rfl) (by decide) (c_lt61 l Z a0 hw a v x0 x1 x2 x3 x4 x5) ⟨[0], by decide, rfl⟩ rfl pd_AIIII__I rfl rfl rfl (Nat.le_of_ble_eq_true rfl) (by decide) (by decide) (by decide) (by decide) d_m4_11 ?_
  rintro T4 _ _ ⟨rfl, rfl⟩ W5
  have W6 := W5.re (os' := [(a, (.array .int), [.int x0, .int x1, .int x2, .int x3, .int x4, .int x5])]) rfl
  show Go p_ e_ bl_ _ (T4.setTop (mkF m_ 14 _ [.int (if x1 < v then (1 : Int32) else (0 : Int32)), .int (if x0 < v then (1 : Int32) else (0 : Int32))]))
  refine g_iadd (pc := 14) W6 d_m4_14 ?_
  refine g_aload_n (pc := 15) W6 d_m4_15 rfl rfl ?_
  refine g_iconst (pc := 16) (2 : Int32) (by decide) W6 d_m4_16 ?_
  refine g_iload_n (pc := 17) W6 d_m4_17 rfl ?_
  refine g_iload_n (pc := 18) W6 d_m4_18 rfl ?_
  refine g_static (pc := 19) (Wt := 1) (argsL := [.ref a, .int (2 : Int32), .int (6 : Int32), .int v]) (rest := [.int ((if x0 < v then (1 : Int32) else (0 : Int32)) + (if x1 < v then (1 : Int32) else (0 : Int32)))]) (loc := [(a, (.array .int), [.int x0, .int x1, .int x2, .int x3, .int x4, .int x5])]) (rst := []) W6 (wd hw 50 rfl) (wd hw 51 rfl) (wd hw 48 rfl) (wd hw 52 rfl) (by decide) (c_lt62 l Z a0 hw a v x0 x1 x2 x3 x4 x5) ⟨[0], by decide, rfl⟩ rfl pd_AIIII__I rfl rfl rfl (Nat.le_of_ble_eq_true rfl) (by decide) (by decide) (by decide) (by decide) d_m4_19 ?_
  rintro T7 _ _ ⟨rfl, rfl⟩ W8
  have W9 := W8.re (os' := [(a, (.array .int), [.int x0, .int x1, .int x2, .int x3, .int x4, .int x5])]) rfl
  show Go p_ e_ bl_ _ (T7.setTop (mkF m_ 22 _ [.int (if x2 < v then (1 : Int32) else (0 : Int32)), .int ((if x0 < v then (1 : Int32) else (0 : Int32)) + (if x1 < v then (1 : Int32) else (0 : Int32)))]))
  refine g_iadd (pc := 22) W9 d_m4_22 ?_
  refine g_aload_n (pc := 23) W9 d_m4_23 rfl rfl ?_
  refine g_iconst (pc := 24) (3 : Int32) (by decide) W9 d_m4_24 ?_
  refine g_iload_n (pc := 25) W9 d_m4_25 rfl ?_
  refine g_iload_n (pc := 26) W9 d_m4_26 rfl ?_
  refine g_static (pc := 27) (Wt := 1) (argsL := [.ref a, .int (3 : Int32), .int (6 : Int32), .int v]) (rest := [.int (((if x0 < v then (1 : Int32) else (0 : Int32)) + (if x1 < v then (1 : Int32) else (0 : Int32))) + (if x2 < v then (1 : Int32) else (0 : Int32)))]) (loc := [(a, (.array .int), [.int x0, .int x1, .int x2, .int x3, .int x4, .int x5])]) (rst := []) W9 (wd hw 50 rfl) (wd hw 51 rfl) (wd hw 48 rfl) (wd hw 52 rfl) (by decide) (c_lt63 l Z a0 hw a v x0 x1 x2 x3 x4 x5) ⟨[0], by decide, rfl⟩ rfl pd_AIIII__I rfl rfl rfl (Nat.le_of_ble_eq_true rfl) (by decide) (by decide) (by decide) (by decide) d_m4_27 ?_
  rintro T10 _ _ ⟨rfl, rfl⟩ W11
  have W12 := W11.re (os' := [(a, (.array .int), [.int x0, .int x1, .int x2, .int x3, .int x4, .int x5])]) rfl
  show Go p_ e_ bl_ _ (T10.setTop (mkF m_ 30 _ [.int (if x3 < v then (1 : Int32) else (0 : Int32)), .int (((if x0 < v then (1 : Int32) else (0 : Int32)) + (if x1 < v then (1 : Int32) else (0 : Int32))) + (if x2 < v then (1 : Int32) else (0 : Int32)))]))
  refine g_iadd (pc := 30) W12 d_m4_30 ?_
  refine g_aload_n (pc := 31) W12 d_m4_31 rfl rfl ?_
  refine g_iconst (pc := 32) (4 : Int32) (by decide) W12 d_m4_32 ?_
  refine g_iload_n (pc := 33) W12 d_m4_33 rfl ?_
  refine g_iload_n (pc := 34) W12 d_m4_34 rfl ?_
  refine g_static (pc := 35) (Wt := 1) (argsL := [.ref a, .int (4 : Int32), .int (6 : Int32), .int v]) (rest := [.int ((((if x0 < v then (1 : Int32) else (0 : Int32)) + (if x1 < v then (1 : Int32) else (0 : Int32))) + (if x2 < v then (1 : Int32) else (0 : Int32))) + (if x3 < v then (1 : Int32) else (0 : Int32)))]) (loc := [(a, (.array .int), [.int x0, .int x1, .int x2, .int x3, .int x4, .int x5])]) (rst := []) W12 (wd hw 50 rfl) (wd hw 51 rfl) (wd hw 48 rfl) (wd hw 52 rfl) (by decide) (c_lt64 l Z a0 hw a v x0 x1 x2 x3 x4 x5) ⟨[0], by decide, rfl⟩ rfl pd_AIIII__I rfl rfl rfl (Nat.le_of_ble_eq_true rfl) (by decide) (by decide) (by decide) (by decide) d_m4_35 ?_
  rintro T13 _ _ ⟨rfl, rfl⟩ W14
  have W15 := W14.re (os' := [(a, (.array .int), [.int x0, .int x1, .int x2, .int x3, .int x4, .int x5])]) rfl
  show Go p_ e_ bl_ _ (T13.setTop (mkF m_ 38 _ [.int (if x4 < v then (1 : Int32) else (0 : Int32)), .int ((((if x0 < v then (1 : Int32) else (0 : Int32)) + (if x1 < v then (1 : Int32) else (0 : Int32))) + (if x2 < v then (1 : Int32) else (0 : Int32))) + (if x3 < v then (1 : Int32) else (0 : Int32)))]))
  refine g_iadd (pc := 38) W15 d_m4_38 ?_
  refine g_aload_n (pc := 39) W15 d_m4_39 rfl rfl ?_
  refine g_iconst (pc := 40) (5 : Int32) (by decide) W15 d_m4_40 ?_
  refine g_iload_n (pc := 41) W15 d_m4_41 rfl ?_
  refine g_iload_n (pc := 42) W15 d_m4_42 rfl ?_
  refine g_static (pc := 43) (Wt := 1) (argsL := [.ref a, .int (5 : Int32), .int (6 : Int32), .int v]) (rest := [.int (((((if x0 < v then (1 : Int32) else (0 : Int32)) + (if x1 < v then (1 : Int32) else (0 : Int32))) + (if x2 < v then (1 : Int32) else (0 : Int32))) + (if x3 < v then (1 : Int32) else (0 : Int32))) + (if x4 < v then (1 : Int32) else (0 : Int32)))]) (loc := [(a, (.array .int), [.int x0, .int x1, .int x2, .int x3, .int x4, .int x5])]) (rst := []) W15 (wd hw 50 rfl) (wd hw 51 rfl) (wd hw 48 rfl) (wd hw 52 rfl) (by decide) (c_lt65 l Z a0 hw a v x0 x1 x2 x3 x4 x5) ⟨[0], by decide, rfl⟩ rfl pd_AIIII__I rfl rfl rfl (Nat.le_of_ble_eq_true rfl) (by decide) (by decide) (by decide) (by decide) d_m4_43 ?_
  rintro T16 _ _ ⟨rfl, rfl⟩ W17
  have W18 := W17.re (os' := [(a, (.array .int), [.int x0, .int x1, .int x2, .int x3, .int x4, .int x5])]) rfl
  show Go p_ e_ bl_ _ (T16.setTop (mkF m_ 46 _ [.int (if x5 < v then (1 : Int32) else (0 : Int32)), .int (((((if x0 < v then (1 : Int32) else (0 : Int32)) + (if x1 < v then (1 : Int32) else (0 : Int32))) + (if x2 < v then (1 : Int32) else (0 : Int32))) + (if x3 < v then (1 : Int32) else (0 : Int32))) + (if x4 < v then (1 : Int32) else (0 : Int32)))]))
  refine g_iadd (pc := 46) W18 d_m4_46 ?_
  exact g_ireturn (pc := 47) rfl W18 d_m4_47 (by decide) (by decide) ⟨rfl, rfl⟩
theorem d_m5_0 : decode method_5_code 0 = .ok (.iload_n 1, 1) := by decide +kernel
theorem d_m5_1 : decode method_5_code 1 = .ok (.ifCond .le 14, 3) := by decide +kernel
theorem d_m5_15 : decode method_5_code 15 = .ok (.iconst 0, 1) := by decide +kernel
theorem d_m5_16 : decode method_5_code 16 = .ok (.iload_n 1, 1) := by decide +kernel
theorem d_m5_17 : decode method_5_code 17 = .ok (.iconst 1, 1) := by decide +kernel
theorem d_m5_18 : decode method_5_code 18 = .ok (.if_icmp .le 14, 3) := by decide +kernel
theorem d_m5_32 : decode method_5_code 32 = .ok (.iconst 0, 1) := by decide +kernel
theorem d_m5_33 : decode method_5_code 33 = .ok (.iadd, 1) := by decide +kernel
theorem d_m5_34 : decode method_5_code 34 = .ok (.iload_n 1, 1) := by decide +kernel
theorem d_m5_35 : decode method_5_code 35 = .ok (.iconst 2, 1) := by decide +kernel
theorem d_m5_36 : decode method_5_code 36 = .ok (.if_icmp .le 14, 3) := by decide +kernel
theorem d_m5_50 : decode method_5_code 50 = .ok (.iconst 0, 1) := by decide +kernel
theorem d_m5_51 : decode method_5_code 51 = .ok (.iadd, 1) := by decide +kernel
theorem d_m5_52 : decode method_5_code 52 = .ok (.iload_n 1, 1) := by decide +kernel
theorem d_m5_53 : decode method_5_code 53 = .ok (.iconst 3, 1) := by decide +kernel
theorem d_m5_54 : decode method_5_code 54 = .ok (.if_icmp .le 14, 3) := by decide +kernel
theorem d_m5_68 : decode method_5_code 68 = .ok (.iconst 0, 1) := by decide +kernel
theorem d_m5_69 : decode method_5_code 69 = .ok (.iadd, 1) := by decide +kernel
theorem d_m5_70 : decode method_5_code 70 = .ok (.iload_n 1, 1) := by decide +kernel
theorem d_m5_71 : decode method_5_code 71 = .ok (.iconst 4, 1) := by decide +kernel
theorem d_m5_72 : decode method_5_code 72 = .ok (.if_icmp .le 14, 3) := by decide +kernel
theorem d_m5_86 : decode method_5_code 86 = .ok (.iconst 0, 1) := by decide +kernel
theorem d_m5_87 : decode method_5_code 87 = .ok (.iadd, 1) := by decide +kernel
theorem d_m5_88 : decode method_5_code 88 = .ok (.ireturn, 1) := by decide +kernel
theorem c_eqb0 (l : Launch) (Z : State) (a0 : Array Value) (hw : ∀ d ∈ tables_1, d.before a0 Z = true) {B : Nat} (a : Addr) (v x0 x1 x2 x3 x4 x5 : Int32) :
    Con l Z FM B (⟨"com/example/metanode/metanode/graph/IntPairsPartnersPinLaw", "eqBefore", "([III)I"⟩ : MethodName) method_5_code 3 (some .int) ({ frames := 0, cells := 0, slots := 0, locals := 0 } : Room) [] #[.ref a, .int (0 : Int32), .int v] [(a, (.array .int), [.int x0, .int x1, .int x2, .int x3, .int x4, .int x5])] (fun rr os => rr = some (.int (0 : Int32)) ∧ os = [(a, (.array .int), [.int x0, .int x1, .int x2, .int x3, .int x4, .int x5])]) := by
  refine Con.of (plainFor_of_name (by first | (simp [plainName, overriddenIn]; done) | decide +kernel)) (ls := #[.val (.ref a), .val (.int (0 : Int32)), .val (.int v)]) (fun m => by first | (simp [entryFrame, mkF, argsToLocals, Value.category]; done) | rfl) ?_
  intro p_ e_ h_ s_ m_ bl_ me_ c_ T0 W0
  refine g_iload_n (pc := 0) W0 d_m5_0 rfl ?_
  refine g_ifY 15 (pc := 1) W0 d_m5_1 (by decide) (by decide) (by decide) ?_
  refine g_iconst (pc := 15) (0 : Int32) (by decide) W0 d_m5_15 ?_
  refine g_iload_n (pc := 16) W0 d_m5_16 rfl ?_
  refine g_iconst (pc := 17) (1 : Int32) (by decide) W0 d_m5_17 ?_
  refine g_icmpY 32 (pc := 18) W0 d_m5_18 (by decide) (by decide) (by decide) ?_
  refine g_iconst (pc := 32) (0 : Int32) (by decide) W0 d_m5_32 ?_
  refine g_iadd (pc := 33) W0 d_m5_33 ?_
  show Go p_ e_ bl_ _ (T0.setTop (mkF m_ 34 _ [.int (0 : Int32)]))
  refine g_iload_n (pc := 34) W0 d_m5_34 rfl ?_
  refine g_iconst (pc := 35) (2 : Int32) (by decide) W0 d_m5_35 ?_
  refine g_icmpY 50 (pc := 36) W0 d_m5_36 (by decide) (by decide) (by decide) ?_
  refine g_iconst (pc := 50) (0 : Int32) (by decide) W0 d_m5_50 ?_
  refine g_iadd (pc := 51) W0 d_m5_51 ?_
  show Go p_ e_ bl_ _ (T0.setTop (mkF m_ 52 _ [.int (0 : Int32)]))
  refine g_iload_n (pc := 52) W0 d_m5_52 rfl ?_
  refine g_iconst (pc := 53) (3 : Int32) (by decide) W0 d_m5_53 ?_
  refine g_icmpY 68 (pc := 54) W0 d_m5_54 (by decide) (by decide) (by decide) ?_
  refine g_iconst (pc := 68) (0 : Int32) (by decide) W0 d_m5_68 ?_
  refine g_iadd (pc := 69) W0 d_m5_69 ?_
  show Go p_ e_ bl_ _ (T0.setTop (mkF m_ 70 _ [.int (0 : Int32)]))
  refine g_iload_n (pc := 70) W0 d_m5_70 rfl ?_
  refine g_iconst (pc := 71) (4 : Int32) (by decide) W0 d_m5_71 ?_
  refine g_icmpY 86 (pc := 72) W0 d_m5_72 (by decide) (by decide) (by decide) ?_
  refine g_iconst (pc := 86) (0 : Int32) (by decide) W0 d_m5_86 ?_
  refine g_iadd (pc := 87) W0 d_m5_87 ?_
  show Go p_ e_ bl_ _ (T0.setTop (mkF m_ 88 _ [.int (0 : Int32)]))
  exact g_ireturn (pc := 88) rfl W0 d_m5_88 (by decide) (by decide) ⟨rfl, rfl⟩
theorem d_m5_4 : decode method_5_code 4 = .ok (.aload_n 0, 1) := by decide +kernel
theorem d_m5_5 : decode method_5_code 5 = .ok (.iconst 0, 1) := by decide +kernel
theorem d_m5_6 : decode method_5_code 6 = .ok (.iaload, 1) := by decide +kernel
theorem d_m5_7 : decode method_5_code 7 = .ok (.iload_n 2, 1) := by decide +kernel
theorem d_m5_8 : decode method_5_code 8 = .ok (.if_icmp .ne 7, 3) := by decide +kernel
theorem d_m5_11 : decode method_5_code 11 = .ok (.iconst 1, 1) := by decide +kernel
theorem d_m5_12 : decode method_5_code 12 = .ok (.goto 4, 3) := by decide +kernel
theorem c_eqb1 (l : Launch) (Z : State) (a0 : Array Value) (hw : ∀ d ∈ tables_1, d.before a0 Z = true) {B : Nat} (a : Addr) (v x0 x1 x2 x3 x4 x5 : Int32) :
    Con l Z FM B (⟨"com/example/metanode/metanode/graph/IntPairsPartnersPinLaw", "eqBefore", "([III)I"⟩ : MethodName) method_5_code 3 (some .int) ({ frames := 0, cells := 0, slots := 0, locals := 0 } : Room) [] #[.ref a, .int (1 : Int32), .int v] [(a, (.array .int), [.int x0, .int x1, .int x2, .int x3, .int x4, .int x5])] (fun rr os => rr = some (.int (((((if x0 = v then (1 : Int32) else (0 : Int32)) + (0 : Int32)) + (0 : Int32)) + (0 : Int32)) + (0 : Int32))) ∧ os = [(a, (.array .int), [.int x0, .int x1, .int x2, .int x3, .int x4, .int x5])]) := by
  refine Con.of (plainFor_of_name (by first | (simp [plainName, overriddenIn]; done) | decide +kernel)) (ls := #[.val (.ref a), .val (.int (1 : Int32)), .val (.int v)]) (fun m => by first | (simp [entryFrame, mkF, argsToLocals, Value.category]; done) | rfl) ?_
  intro p_ e_ h_ s_ m_ bl_ me_ c_ T0 W0
  refine g_iload_n (pc := 0) W0 d_m5_0 rfl ?_
  refine g_ifN (pc := 1) W0 d_m5_1 (by decide) ?_
  refine g_aload_n (pc := 4) W0 d_m5_4 rfl rfl ?_
  refine g_iconst (pc := 5) (0 : Int32) (by decide) W0 d_m5_5 ?_
  refine g_iaload (pc := 6) (i := 0) (v := .int x0) W0 rfl (by decide) rfl d_m5_6 ?_
  refine g_iload_n (pc := 7) W0 d_m5_7 rfl ?_
  refine Go.join (T := T0) (fr := fun z1 : Int32 => (mkF m_ 16 #[.val (.ref a), .val (.int (1 : Int32)), .val (.int v)] [.int z1])) (if x0 = v then (1 : Int32) else (0 : Int32)) (fun z1 hz2 => ?_) (fun j3 => ?_)
  · refine g_iload_n (pc := 16) W0 d_m5_16 rfl ?_
    refine g_iconst (pc := 17) (1 : Int32) (by decide) W0 d_m5_17 ?_
    refine g_icmpY 32 (pc := 18) W0 d_m5_18 (by decide) (by decide) (by decide) ?_
    refine g_iconst (pc := 32) (0 : Int32) (by decide) W0 d_m5_32 ?_
    refine g_iadd (pc := 33) W0 d_m5_33 ?_
    refine g_iload_n (pc := 34) W0 d_m5_34 rfl ?_
    refine g_iconst (pc := 35) (2 : Int32) (by decide) W0 d_m5_35 ?_
    refine g_icmpY 50 (pc := 36) W0 d_m5_36 (by decide) (by decide) (by decide) ?_
    refine g_iconst (pc := 50) (0 : Int32) (by decide) W0 d_m5_50 ?_
    refine g_iadd (pc := 51) W0 d_m5_51 ?_
    refine g_iload_n (pc := 52) W0 d_m5_52 rfl ?_
    refine g_iconst (pc := 53) (3 : Int32) (by decide) W0 d_m5_53 ?_
    refine g_icmpY 68 (pc := 54) W0 d_m5_54 (by decide) (by decide) (by decide) ?_
    refine g_iconst (pc := 68) (0 : Int32) (by decide) W0 d_m5_68 ?_
    refine g_iadd (pc := 69) W0 d_m5_69 ?_
    refine g_iload_n (pc := 70) W0 d_m5_70 rfl ?_
    refine g_iconst (pc := 71) (4 : Int32) (by decide) W0 d_m5_71 ?_
    refine g_icmpY 86 (pc := 72) W0 d_m5_72 (by decide) (by decide) (by decide) ?_
    refine g_iconst (pc := 86) (0 : Int32) (by decide) W0 d_m5_86 ?_
    refine g_iadd (pc := 87) W0 d_m5_87 ?_
    exact g_ireturn (pc := 88) rfl W0 d_m5_88 (by decide) (by decide) ⟨by subst hz2; rfl, rfl⟩
  · refine g_icmp_ne 15 (pc := 8) W0 d_m5_8 (by decide) (by decide) (fun c4 => ?_) (fun c4 => ?_)
    · refine g_iconst (pc := 15) (0 : Int32) (by decide) W0 d_m5_15 ?_
      exact j3 _ (by simp only [if_neg c4])
    · refine g_iconst (pc := 11) (1 : Int32) (by decide) W0 d_m5_11 ?_
      refine g_goto 16 (pc := 12) W0 d_m5_12 (by decide) (by decide) ?_
      exact j3 _ (by simp only [if_pos c4])
theorem d_m5_21 : decode method_5_code 21 = .ok (.aload_n 0, 1) := by decide +kernel
theorem d_m5_22 : decode method_5_code 22 = .ok (.iconst 1, 1) := by decide +kernel
theorem d_m5_23 : decode method_5_code 23 = .ok (.iaload, 1) := by decide +kernel
theorem d_m5_24 : decode method_5_code 24 = .ok (.iload_n 2, 1) := by decide +kernel
theorem d_m5_25 : decode method_5_code 25 = .ok (.if_icmp .ne 7, 3) := by decide +kernel
theorem d_m5_28 : decode method_5_code 28 = .ok (.iconst 1, 1) := by decide +kernel
theorem d_m5_29 : decode method_5_code 29 = .ok (.goto 4, 3) := by decide +kernel
theorem c_eqb2 (l : Launch) (Z : State) (a0 : Array Value) (hw : ∀ d ∈ tables_1, d.before a0 Z = true) {B : Nat} (a : Addr) (v x0 x1 x2 x3 x4 x5 : Int32) :
    Con l Z FM B (⟨"com/example/metanode/metanode/graph/IntPairsPartnersPinLaw", "eqBefore", "([III)I"⟩ : MethodName) method_5_code 3 (some .int) ({ frames := 0, cells := 0, slots := 0, locals := 0 } : Room) [] #[.ref a, .int (2 : Int32), .int v] [(a, (.array .int), [.int x0, .int x1, .int x2, .int x3, .int x4, .int x5])] (fun rr os => rr = some (.int (((((if x0 = v then (1 : Int32) else (0 : Int32)) + (if x1 = v then (1 : Int32) else (0 : Int32))) + (0 : Int32)) + (0 : Int32)) + (0 : Int32))) ∧ os = [(a, (.array .int), [.int x0, .int x1, .int x2, .int x3, .int x4, .int x5])]) := by
  refine Con.of (plainFor_of_name (by first | (simp [plainName, overriddenIn]; done) | decide +kernel)) (ls := #[.val (.ref a), .val (.int (2 : Int32)), .val (.int v)]) (fun m => by first | (simp [entryFrame, mkF, argsToLocals, Value.category]; done) | rfl) ?_
  intro p_ e_ h_ s_ m_ bl_ me_ c_ T0 W0
  refine g_iload_n (pc := 0) W0 d_m5_0 rfl ?_
  refine g_ifN (pc := 1) W0 d_m5_1 (by decide) ?_
  refine g_aload_n (pc := 4) W0 d_m5_4 rfl rfl ?_
  refine g_iconst (pc := 5) (0 : Int32) (by decide) W0 d_m5_5 ?_
  refine g_iaload (pc := 6) (i := 0) (v := .int x0) W0 rfl (by decide) rfl d_m5_6 ?_
  refine g_iload_n (pc := 7) W0 d_m5_7 rfl ?_
  refine Go.join (T := T0) (fr := fun z1 : Int32 => (mkF m_ 16 #[.val (.ref a), .val (.int (2 : Int32)), .val (.int v)] [.int z1])) (if x0 = v then (1 : Int32) else (0 : Int32)) (fun z1 hz2 => ?_) (fun j3 => ?_)
  · refine g_iload_n (pc := 16) W0 d_m5_16 rfl ?_
    refine g_iconst (pc := 17) (1 : Int32) (by decide) W0 d_m5_17 ?_
    refine g_icmpN (pc := 18) W0 d_m5_18 (by decide) ?_
    refine g_aload_n (pc := 21) W0 d_m5_21 rfl rfl ?_
    refine g_iconst (pc := 22) (1 : Int32) (by decide) W0 d_m5_22 ?_
    refine g_iaload (pc := 23) (i := 0) (v := .int x1) W0 rfl (by decide) rfl d_m5_23 ?_
    refine g_iload_n (pc := 24) W0 d_m5_24 rfl ?_
    refine Go.join (T := T0) (fr := fun z4 : Int32 => (mkF m_ 33 #[.val (.ref a), .val (.int (2 : Int32)), .val (.int v)] [.int z4, .int z1])) (if x1 = v then (1 : Int32) else (0 : Int32)) (fun z4 hz5 => ?_) (fun j6 => ?_)
    · refine g_iadd (pc := 33) W0 d_m5_33 ?_
      refine g_iload_n (pc := 34) W0 d_m5_34 rfl ?_
      refine g_iconst (pc := 35) (2 : Int32) (by decide) W0 d_m5_35 ?_
      refine g_icmpY 50 (pc := 36) W0 d_m5_36 (by decide) (by decide) (by decide) ?_
      refine g_iconst (pc := 50) (0 : Int32) (by decide) W0 d_m5_50 ?_
      refine g_iadd (pc := 51) W0 d_m5_51 ?_
      refine g_iload_n (pc := 52) W0 d_m5_52 rfl ?_
      refine g_iconst (pc := 53) (3 : Int32) (by decide) W0 d_m5_53 ?_
      refine g_icmpY 68 (pc := 54) W0 d_m5_54 (by decide) (by decide) (by decide) ?_
      refine g_iconst (pc := 68) (0 : Int32) (by decide) W0 d_m5_68 ?_
      refine g_iadd (pc := 69) W0 d_m5_69 ?_
      refine g_iload_n (pc := 70) W0 d_m5_70 rfl ?_
      refine g_iconst (pc := 71) (4 : Int32) (by decide) W0 d_m5_71 ?_
      refine g_icmpY 86 (pc := 72) W0 d_m5_72 (by decide) (by decide) (by decide) ?_
      refine g_iconst (pc := 86) (0 : Int32) (by decide) W0 d_m5_86 ?_
      refine g_iadd (pc := 87) W0 d_m5_87 ?_
      exact g_ireturn (pc := 88) rfl W0 d_m5_88 (by decide) (by decide) ⟨by subst hz2 hz5; rfl, rfl⟩
    · refine g_icmp_ne 32 (pc := 25) W0 d_m5_25 (by decide) (by decide) (fun c7 => ?_) (fun c7 => ?_)
      · refine g_iconst (pc := 32) (0 : Int32) (by decide) W0 d_m5_32 ?_
        exact j6 _ (by simp only [if_neg c7])
      · refine g_iconst (pc := 28) (1 : Int32) (by decide) W0 d_m5_28 ?_
        refine g_goto 33 (pc := 29) W0 d_m5_29 (by decide) (by decide) ?_
        exact j6 _ (by simp only [if_pos c7])
  · refine g_icmp_ne 15 (pc := 8) W0 d_m5_8 (by decide) (by decide) (fun c8 => ?_) (fun c8 => ?_)
    · refine g_iconst (pc := 15) (0 : Int32) (by decide) W0 d_m5_15 ?_
      exact j3 _ (by simp only [if_neg c8])
    · refine g_iconst (pc := 11) (1 : Int32) (by decide) W0 d_m5_11 ?_
      refine g_goto 16 (pc := 12) W0 d_m5_12 (by decide) (by decide) ?_
      exact j3 _ (by simp only [if_pos c8])
theorem d_m5_39 : decode method_5_code 39 = .ok (.aload_n 0, 1) := by decide +kernel
theorem d_m5_40 : decode method_5_code 40 = .ok (.iconst 2, 1) := by decide +kernel
theorem d_m5_41 : decode method_5_code 41 = .ok (.iaload, 1) := by decide +kernel
theorem d_m5_42 : decode method_5_code 42 = .ok (.iload_n 2, 1) := by decide +kernel
theorem d_m5_43 : decode method_5_code 43 = .ok (.if_icmp .ne 7, 3) := by decide +kernel
theorem d_m5_46 : decode method_5_code 46 = .ok (.iconst 1, 1) := by decide +kernel
theorem d_m5_47 : decode method_5_code 47 = .ok (.goto 4, 3) := by decide +kernel
theorem c_eqb3 (l : Launch) (Z : State) (a0 : Array Value) (hw : ∀ d ∈ tables_1, d.before a0 Z = true) {B : Nat} (a : Addr) (v x0 x1 x2 x3 x4 x5 : Int32) :
    Con l Z FM B (⟨"com/example/metanode/metanode/graph/IntPairsPartnersPinLaw", "eqBefore", "([III)I"⟩ : MethodName) method_5_code 3 (some .int) ({ frames := 0, cells := 0, slots := 0, locals := 0 } : Room) [] #[.ref a, .int (3 : Int32), .int v] [(a, (.array .int), [.int x0, .int x1, .int x2, .int x3, .int x4, .int x5])] (fun rr os => rr = some (.int (((((if x0 = v then (1 : Int32) else (0 : Int32)) + (if x1 = v then (1 : Int32) else (0 : Int32))) + (if x2 = v then (1 : Int32) else (0 : Int32))) + (0 : Int32)) + (0 : Int32))) ∧ os = [(a, (.array .int), [.int x0, .int x1, .int x2, .int x3, .int x4, .int x5])]) := by
  refine Con.of (plainFor_of_name (by first | (simp [plainName, overriddenIn]; done) | decide +kernel)) (ls := #[.val (.ref a), .val (.int (3 : Int32)), .val (.int v)]) (fun m => by first | (simp [entryFrame, mkF, argsToLocals, Value.category]; done) | rfl) ?_
  intro p_ e_ h_ s_ m_ bl_ me_ c_ T0 W0
  refine g_iload_n (pc := 0) W0 d_m5_0 rfl ?_
  refine g_ifN (pc := 1) W0 d_m5_1 (by decide) ?_
  refine g_aload_n (pc := 4) W0 d_m5_4 rfl rfl ?_
  refine g_iconst (pc := 5) (0 : Int32) (by decide) W0 d_m5_5 ?_
  refine g_iaload (pc := 6) (i := 0) (v := .int x0) W0 rfl (by decide) rfl d_m5_6 ?_
  refine g_iload_n (pc := 7) W0 d_m5_7 rfl ?_
  refine Go.join (T := T0) (fr := fun z1 : Int32 => (mkF m_ 16 #[.val (.ref a), .val (.int (3 : Int32)), .val (.int v)] [.int z1])) (if x0 = v then (1 : Int32) else (0 : Int32)) (fun z1 hz2 => ?_) (fun j3 => ?_)
  · refine g_iload_n (pc := 16) W0 d_m5_16 rfl ?_
    refine g_iconst (pc := 17) (1 : Int32) (by decide) W0 d_m5_17 ?_
    refine g_icmpN (pc := 18) W0 d_m5_18 (by decide) ?_
    refine g_aload_n (pc := 21) W0 d_m5_21 rfl rfl ?_
    refine g_iconst (pc := 22) (1 : Int32) (by decide) W0 d_m5_22 ?_
    refine g_iaload (pc := 23) (i := 0) (v := .int x1) W0 rfl (by decide) rfl d_m5_23 ?_
    refine g_iload_n (pc := 24) W0 d_m5_24 rfl ?_
    refine Go.join (T := T0) (fr := fun z4 : Int32 => (mkF m_ 33 #[.val (.ref a), .val (.int (3 : Int32)), .val (.int v)] [.int z4, .int z1])) (if x1 = v then (1 : Int32) else (0 : Int32)) (fun z4 hz5 => ?_) (fun j6 => ?_)
    · refine g_iadd (pc := 33) W0 d_m5_33 ?_
      refine g_iload_n (pc := 34) W0 d_m5_34 rfl ?_
      refine g_iconst (pc := 35) (2 : Int32) (by decide) W0 d_m5_35 ?_
      refine g_icmpN (pc := 36) W0 d_m5_36 (by decide) ?_
      refine g_aload_n (pc := 39) W0 d_m5_39 rfl rfl ?_
      refine g_iconst (pc := 40) (2 : Int32) (by decide) W0 d_m5_40 ?_
      refine g_iaload (pc := 41) (i := 0) (v := .int x2) W0 rfl (by decide) rfl d_m5_41 ?_
      refine g_iload_n (pc := 42) W0 d_m5_42 rfl ?_
      refine Go.join (T := T0) (fr := fun z7 : Int32 => (mkF m_ 51 #[.val (.ref a), .val (.int (3 : Int32)), .val (.int v)] [.int z7, .int (z1 + z4)])) (if x2 = v then (1 : Int32) else (0 : Int32)) (fun z7 hz8 => ?_) (fun j9 => ?_)
      · refine g_iadd (pc := 51) W0 d_m5_51 ?_
        refine g_iload_n (pc := 52) W0 d_m5_52 rfl ?_
        refine g_iconst (pc := 53) (3 : Int32) (by decide) W0 d_m5_53 ?_
        refine g_icmpY 68 (pc := 54) W0 d_m5_54 (by decide) (by decide) (by decide) ?_
        refine g_iconst (pc := 68) (0 : Int32) (by decide) W0 d_m5_68 ?_
        refine g_iadd (pc := 69) W0 d_m5_69 ?_
        refine g_iload_n (pc := 70) W0 d_m5_70 rfl ?_
        refine g_iconst (pc := 71) (4 : Int32) (by decide) W0 d_m5_71 ?_
        refine g_icmpY 86 (pc := 72) W0 d_m5_72 (by decide) (by decide) (by decide) ?_
        refine g_iconst (pc := 86) (0 : Int32) (by decide) W0 d_m5_86 ?_
        refine g_iadd (pc := 87) W0 d_m5_87 ?_
        exact g_ireturn (pc := 88) rfl W0 d_m5_88 (by decide) (by decide) ⟨by subst hz2 hz5 hz8; rfl, rfl⟩
      · refine g_icmp_ne 50 (pc := 43) W0 d_m5_43 (by decide) (by decide) (fun c10 => ?_) (fun c10 => ?_)
        · refine g_iconst (pc := 50) (0 : Int32) (by decide) W0 d_m5_50 ?_
          exact j9 _ (by simp only [if_neg c10])
        · refine g_iconst (pc := 46) (1 : Int32) (by decide) W0 d_m5_46 ?_
          refine g_goto 51 (pc := 47) W0 d_m5_47 (by decide) (by decide) ?_
          exact j9 _ (by simp only [if_pos c10])
    · refine g_icmp_ne 32 (pc := 25) W0 d_m5_25 (by decide) (by decide) (fun c11 => ?_) (fun c11 => ?_)
      · refine g_iconst (pc := 32) (0 : Int32) (by decide) W0 d_m5_32 ?_
        exact j6 _ (by simp only [if_neg c11])
      · refine g_iconst (pc := 28) (1 : Int32) (by decide) W0 d_m5_28 ?_
        refine g_goto 33 (pc := 29) W0 d_m5_29 (by decide) (by decide) ?_
        exact j6 _ (by simp only [if_pos c11])
  · refine g_icmp_ne 15 (pc := 8) W0 d_m5_8 (by decide) (by decide) (fun c12 => ?_) (fun c12 => ?_)
    · refine g_iconst (pc := 15) (0 : Int32) (by decide) W0 d_m5_15 ?_
      exact j3 _ (by simp only [if_neg c12])
    · refine g_iconst (pc := 11) (1 : Int32) (by decide) W0 d_m5_11 ?_
      refine g_goto 16 (pc := 12) W0 d_m5_12 (by decide) (by decide) ?_
      exact j3 _ (by simp only [if_pos c12])
theorem d_m5_57 : decode method_5_code 57 = .ok (.aload_n 0, 1) := by decide +kernel
theorem d_m5_58 : decode method_5_code 58 = .ok (.iconst 3, 1) := by decide +kernel
theorem d_m5_59 : decode method_5_code 59 = .ok (.iaload, 1) := by decide +kernel
theorem d_m5_60 : decode method_5_code 60 = .ok (.iload_n 2, 1) := by decide +kernel
theorem d_m5_61 : decode method_5_code 61 = .ok (.if_icmp .ne 7, 3) := by decide +kernel
theorem d_m5_64 : decode method_5_code 64 = .ok (.iconst 1, 1) := by decide +kernel
theorem d_m5_65 : decode method_5_code 65 = .ok (.goto 4, 3) := by decide +kernel
theorem c_eqb4 (l : Launch) (Z : State) (a0 : Array Value) (hw : ∀ d ∈ tables_1, d.before a0 Z = true) {B : Nat} (a : Addr) (v x0 x1 x2 x3 x4 x5 : Int32) :
    Con l Z FM B (⟨"com/example/metanode/metanode/graph/IntPairsPartnersPinLaw", "eqBefore", "([III)I"⟩ : MethodName) method_5_code 3 (some .int) ({ frames := 0, cells := 0, slots := 0, locals := 0 } : Room) [] #[.ref a, .int (4 : Int32), .int v] [(a, (.array .int), [.int x0, .int x1, .int x2, .int x3, .int x4, .int x5])] (fun rr os => rr = some (.int (((((if x0 = v then (1 : Int32) else (0 : Int32)) + (if x1 = v then (1 : Int32) else (0 : Int32))) + (if x2 = v then (1 : Int32) else (0 : Int32))) + (if x3 = v then (1 : Int32) else (0 : Int32))) + (0 : Int32))) ∧ os = [(a, (.array .int), [.int x0, .int x1, .int x2, .int x3, .int x4, .int x5])]) := by
  refine Con.of (plainFor_of_name (by first | (simp [plainName, overriddenIn]; done) | decide +kernel)) (ls := #[.val (.ref a), .val (.int (4 : Int32)), .val (.int v)]) (fun m => by first | (simp [entryFrame, mkF, argsToLocals, Value.category]; done) | rfl) ?_
  intro p_ e_ h_ s_ m_ bl_ me_ c_ T0 W0
  refine g_iload_n (pc := 0) W0 d_m5_0 rfl ?_
  refine g_ifN (pc := 1) W0 d_m5_1 (by decide) ?_
  refine g_aload_n (pc := 4) W0 d_m5_4 rfl rfl ?_
  refine g_iconst (pc := 5) (0 : Int32) (by decide) W0 d_m5_5 ?_
  refine g_iaload (pc := 6) (i := 0) (v := .int x0) W0 rfl (by decide) rfl d_m5_6 ?_
  refine g_iload_n (pc := 7) W0 d_m5_7 rfl ?_
  refine Go.join (T := T0) (fr := fun z1 : Int32 => (mkF m_ 16 #[.val (.ref a), .val (.int (4 : Int32)), .val (.int v)] [.int z1])) (if x0 = v then (1 : Int32) else (0 : Int32)) (fun z1 hz2 => ?_) (fun j3 => ?_)
  · refine g_iload_n (pc := 16) W0 d_m5_16 rfl ?_
    refine g_iconst (pc := 17) (1 : Int32) (by decide) W0 d_m5_17 ?_
    refine g_icmpN (pc := 18) W0 d_m5_18 (by decide) ?_
    refine g_aload_n (pc := 21) W0 d_m5_21 rfl rfl ?_
    refine g_iconst (pc := 22) (1 : Int32) (by decide) W0 d_m5_22 ?_
    refine g_iaload (pc := 23) (i := 0) (v := .int x1) W0 rfl (by decide) rfl d_m5_23 ?_
    refine g_iload_n (pc := 24) W0 d_m5_24 rfl ?_
    refine Go.join (T := T0) (fr := fun z4 : Int32 => (mkF m_ 33 #[.val (.ref a), .val (.int (4 : Int32)), .val (.int v)] [.int z4, .int z1])) (if x1 = v then (1 : Int32) else (0 : Int32)) (fun z4 hz5 => ?_) (fun j6 => ?_)
    · refine g_iadd (pc := 33) W0 d_m5_33 ?_
      refine g_iload_n (pc := 34) W0 d_m5_34 rfl ?_
      refine g_iconst (pc := 35) (2 : Int32) (by decide) W0 d_m5_35 ?_
      refine g_icmpN (pc := 36) W0 d_m5_36 (by decide) ?_
      refine g_aload_n (pc := 39) W0 d_m5_39 rfl rfl ?_
      refine g_iconst (pc := 40) (2 : Int32) (by decide) W0 d_m5_40 ?_
      refine g_iaload (pc := 41) (i := 0) (v := .int x2) W0 rfl (by decide) rfl d_m5_41 ?_
      refine g_iload_n (pc := 42) W0 d_m5_42 rfl ?_
      refine Go.join (T := T0) (fr := fun z7 : Int32 => (mkF m_ 51 #[.val (.ref a), .val (.int (4 : Int32)), .val (.int v)] [.int z7, .int (z1 + z4)])) (if x2 = v then (1 : Int32) else (0 : Int32)) (fun z7 hz8 => ?_) (fun j9 => ?_)
      · refine g_iadd (pc := 51) W0 d_m5_51 ?_
        refine g_iload_n (pc := 52) W0 d_m5_52 rfl ?_
        refine g_iconst (pc := 53) (3 : Int32) (by decide) W0 d_m5_53 ?_
        refine g_icmpN (pc := 54) W0 d_m5_54 (by decide) ?_
        refine g_aload_n (pc := 57) W0 d_m5_57 rfl rfl ?_
        refine g_iconst (pc := 58) (3 : Int32) (by decide) W0 d_m5_58 ?_
        refine g_iaload (pc := 59) (i := 0) (v := .int x3) W0 rfl (by decide) rfl d_m5_59 ?_
        refine g_iload_n (pc := 60) W0 d_m5_60 rfl ?_
        refine Go.join (T := T0) (fr := fun z10 : Int32 => (mkF m_ 69 #[.val (.ref a), .val (.int (4 : Int32)), .val (.int v)] [.int z10, .int ((z1 + z4) + z7)])) (if x3 = v then (1 : Int32) else (0 : Int32)) (fun z10 hz11 => ?_) (fun j12 => ?_)
        · refine g_iadd (pc := 69) W0 d_m5_69 ?_
          refine g_iload_n (pc := 70) W0 d_m5_70 rfl ?_
          refine g_iconst (pc := 71) (4 : Int32) (by decide) W0 d_m5_71 ?_
          refine g_icmpY 86 (pc := 72) W0 d_m5_72 (by decide) (by decide) (by decide) ?_
          refine g_iconst (pc := 86) (0 : Int32) (by decide) W0 d_m5_86 ?_
          refine g_iadd (pc := 87) W0 d_m5_87 ?_
          exact g_ireturn (pc := 88) rfl W0 d_m5_88 (by decide) (by decide) ⟨by subst hz2 hz5 hz8 hz11; rfl, rfl⟩
        · refine g_icmp_ne 68 (pc := 61) W0 d_m5_61 (by decide) (by decide) (fun c13 => ?_) (fun c13 => ?_)
          · refine g_iconst (pc := 68) (0 : Int32) (by decide) W0 d_m5_68 ?_
            exact j12 _ (by simp only [if_neg c13])
          · refine g_iconst (pc := 64) (1 : Int32) (by decide) W0 d_m5_64 ?_
            refine g_goto 69 (pc := 65) W0 d_m5_65 (by decide) (by decide) ?_
            exact j12 _ (by simp only [if_pos c13])
      · refine g_icmp_ne 50 (pc := 43) W0 d_m5_43 (by decide) (by decide) (fun c14 => ?_) (fun c14 => ?_)
        · refine g_iconst (pc := 50) (0 : Int32) (by decide) W0 d_m5_50 ?_
          exact j9 _ (by simp only [if_neg c14])
        · refine g_iconst (pc := 46) (1 : Int32) (by decide) W0 d_m5_46 ?_
          refine g_goto 51 (pc := 47) W0 d_m5_47 (by decide) (by decide) ?_
          exact j9 _ (by simp only [if_pos c14])
    · refine g_icmp_ne 32 (pc := 25) W0 d_m5_25 (by decide) (by decide) (fun c15 => ?_) (fun c15 => ?_)
      · refine g_iconst (pc := 32) (0 : Int32) (by decide) W0 d_m5_32 ?_
        exact j6 _ (by simp only [if_neg c15])
      · refine g_iconst (pc := 28) (1 : Int32) (by decide) W0 d_m5_28 ?_
        refine g_goto 33 (pc := 29) W0 d_m5_29 (by decide) (by decide) ?_
        exact j6 _ (by simp only [if_pos c15])
  · refine g_icmp_ne 15 (pc := 8) W0 d_m5_8 (by decide) (by decide) (fun c16 => ?_) (fun c16 => ?_)
    · refine g_iconst (pc := 15) (0 : Int32) (by decide) W0 d_m5_15 ?_
      exact j3 _ (by simp only [if_neg c16])
    · refine g_iconst (pc := 11) (1 : Int32) (by decide) W0 d_m5_11 ?_
      refine g_goto 16 (pc := 12) W0 d_m5_12 (by decide) (by decide) ?_
      exact j3 _ (by simp only [if_pos c16])
theorem d_m5_75 : decode method_5_code 75 = .ok (.aload_n 0, 1) := by decide +kernel
theorem d_m5_76 : decode method_5_code 76 = .ok (.iconst 4, 1) := by decide +kernel
theorem d_m5_77 : decode method_5_code 77 = .ok (.iaload, 1) := by decide +kernel
theorem d_m5_78 : decode method_5_code 78 = .ok (.iload_n 2, 1) := by decide +kernel
theorem d_m5_79 : decode method_5_code 79 = .ok (.if_icmp .ne 7, 3) := by decide +kernel
theorem d_m5_82 : decode method_5_code 82 = .ok (.iconst 1, 1) := by decide +kernel
theorem d_m5_83 : decode method_5_code 83 = .ok (.goto 4, 3) := by decide +kernel
theorem c_eqb5 (l : Launch) (Z : State) (a0 : Array Value) (hw : ∀ d ∈ tables_1, d.before a0 Z = true) {B : Nat} (a : Addr) (v x0 x1 x2 x3 x4 x5 : Int32) :
    Con l Z FM B (⟨"com/example/metanode/metanode/graph/IntPairsPartnersPinLaw", "eqBefore", "([III)I"⟩ : MethodName) method_5_code 3 (some .int) ({ frames := 0, cells := 0, slots := 0, locals := 0 } : Room) [] #[.ref a, .int (5 : Int32), .int v] [(a, (.array .int), [.int x0, .int x1, .int x2, .int x3, .int x4, .int x5])] (fun rr os => rr = some (.int (((((if x0 = v then (1 : Int32) else (0 : Int32)) + (if x1 = v then (1 : Int32) else (0 : Int32))) + (if x2 = v then (1 : Int32) else (0 : Int32))) + (if x3 = v then (1 : Int32) else (0 : Int32))) + (if x4 = v then (1 : Int32) else (0 : Int32)))) ∧ os = [(a, (.array .int), [.int x0, .int x1, .int x2, .int x3, .int x4, .int x5])]) := by
  refine Con.of (plainFor_of_name (by first | (simp [plainName, overriddenIn]; done) | decide +kernel)) (ls := #[.val (.ref a), .val (.int (5 : Int32)), .val (.int v)]) (fun m => by first | (simp [entryFrame, mkF, argsToLocals, Value.category]; done) | rfl) ?_
  intro p_ e_ h_ s_ m_ bl_ me_ c_ T0 W0
  refine g_iload_n (pc := 0) W0 d_m5_0 rfl ?_
  refine g_ifN (pc := 1) W0 d_m5_1 (by decide) ?_
  refine g_aload_n (pc := 4) W0 d_m5_4 rfl rfl ?_
  refine g_iconst (pc := 5) (0 : Int32) (by decide) W0 d_m5_5 ?_
  refine g_iaload (pc := 6) (i := 0) (v := .int x0) W0 rfl (by decide) rfl d_m5_6 ?_
  refine g_iload_n (pc := 7) W0 d_m5_7 rfl ?_
  refine Go.join (T := T0) (fr := fun z1 : Int32 => (mkF m_ 16 #[.val (.ref a), .val (.int (5 : Int32)), .val (.int v)] [.int z1])) (if x0 = v then (1 : Int32) else (0 : Int32)) (fun z1 hz2 => ?_) (fun j3 => ?_)
  · refine g_iload_n (pc := 16) W0 d_m5_16 rfl ?_
    refine g_iconst (pc := 17) (1 : Int32) (by decide) W0 d_m5_17 ?_
    refine g_icmpN (pc := 18) W0 d_m5_18 (by decide) ?_
    refine g_aload_n (pc := 21) W0 d_m5_21 rfl rfl ?_
    refine g_iconst (pc := 22) (1 : Int32) (by decide) W0 d_m5_22 ?_
    refine g_iaload (pc := 23) (i := 0) (v := .int x1) W0 rfl (by decide) rfl d_m5_23 ?_
    refine g_iload_n (pc := 24) W0 d_m5_24 rfl ?_
    refine Go.join (T := T0) (fr := fun z4 : Int32 => (mkF m_ 33 #[.val (.ref a), .val (.int (5 : Int32)), .val (.int v)] [.int z4, .int z1])) (if x1 = v then (1 : Int32) else (0 : Int32)) (fun z4 hz5 => ?_) (fun j6 => ?_)
    · refine g_iadd (pc := 33) W0 d_m5_33 ?_
      refine g_iload_n (pc := 34) W0 d_m5_34 rfl ?_
      refine g_iconst (pc := 35) (2 : Int32) (by decide) W0 d_m5_35 ?_
      refine g_icmpN (pc := 36) W0 d_m5_36 (by decide) ?_
      refine g_aload_n (pc := 39) W0 d_m5_39 rfl rfl ?_
      refine g_iconst (pc := 40) (2 : Int32) (by decide) W0 d_m5_40 ?_
      refine g_iaload (pc := 41) (i := 0) (v := .int x2) W0 rfl (by decide) rfl d_m5_41 ?_
      refine g_iload_n (pc := 42) W0 d_m5_42 rfl ?_
      refine Go.join (T := T0) (fr := fun z7 : Int32 => (mkF m_ 51 #[.val (.ref a), .val (.int (5 : Int32)), .val (.int v)] [.int z7, .int (z1 + z4)])) (if x2 = v then (1 : Int32) else (0 : Int32)) (fun z7 hz8 => ?_) (fun j9 => ?_)
      · refine g_iadd (pc := 51) W0 d_m5_51 ?_
        refine g_iload_n (pc := 52) W0 d_m5_52 rfl ?_
        refine g_iconst (pc := 53) (3 : Int32) (by decide) W0 d_m5_53 ?_
        refine g_icmpN (pc := 54) W0 d_m5_54 (by decide) ?_
        refine g_aload_n (pc := 57) W0 d_m5_57 rfl rfl ?_
        refine g_iconst (pc := 58) (3 : Int32) (by decide) W0 d_m5_58 ?_
        refine g_iaload (pc := 59) (i := 0) (v := .int x3) W0 rfl (by decide) rfl d_m5_59 ?_
        refine g_iload_n (pc := 60) W0 d_m5_60 rfl ?_
        refine Go.join (T := T0) (fr := fun z10 : Int32 => (mkF m_ 69 #[.val (.ref a), .val (.int (5 : Int32)), .val (.int v)] [.int z10, .int ((z1 + z4) + z7)])) (if x3 = v then (1 : Int32) else (0 : Int32)) (fun z10 hz11 => ?_) (fun j12 => ?_)
        · refine g_iadd (pc := 69) W0 d_m5_69 ?_
          refine g_iload_n (pc := 70) W0 d_m5_70 rfl ?_
          refine g_iconst (pc := 71) (4 : Int32) (by decide) W0 d_m5_71 ?_
          refine g_icmpN (pc := 72) W0 d_m5_72 (by decide) ?_
          refine g_aload_n (pc := 75) W0 d_m5_75 rfl rfl ?_
          refine g_iconst (pc := 76) (4 : Int32) (by decide) W0 d_m5_76 ?_
          refine g_iaload (pc := 77) (i := 0) (v := .int x4) W0 rfl (by decide) rfl d_m5_77 ?_
          refine g_iload_n (pc := 78) W0 d_m5_78 rfl ?_
          refine Go.join (T := T0) (fr := fun z13 : Int32 => (mkF m_ 87 #[.val (.ref a), .val (.int (5 : Int32)), .val (.int v)] [.int z13, .int (((z1 + z4) + z7) + z10)])) (if x4 = v then (1 : Int32) else (0 : Int32)) (fun z13 hz14 => ?_) (fun j15 => ?_)
          · refine g_iadd (pc := 87) W0 d_m5_87 ?_
            exact g_ireturn (pc := 88) rfl W0 d_m5_88 (by decide) (by decide) ⟨by subst hz2 hz5 hz8 hz11 hz14; rfl, rfl⟩
          · refine g_icmp_ne 86 (pc := 79) W0 d_m5_79 (by decide) (by decide) (fun c16 => ?_) (fun c16 => ?_)
            · refine g_iconst (pc := 86) (0 : Int32) (by decide) W0 d_m5_86 ?_
              exact j15 _ (by simp only [if_neg c16])
            · refine g_iconst (pc := 82) (1 : Int32) (by decide) W0 d_m5_82 ?_
              refine g_goto 87 (pc := 83) W0 d_m5_83 (by decide) (by decide) ?_
              exact j15 _ (by simp only [if_pos c16])
        · refine g_icmp_ne 68 (pc := 61) W0 d_m5_61 (by decide) (by decide) (fun c17 => ?_) (fun c17 => ?_)
          · refine g_iconst (pc := 68) (0 : Int32) (by decide) W0 d_m5_68 ?_
            exact j12 _ (by simp only [if_neg c17])
          · refine g_iconst (pc := 64) (1 : Int32) (by decide) W0 d_m5_64 ?_
            refine g_goto 69 (pc := 65) W0 d_m5_65 (by decide) (by decide) ?_
            exact j12 _ (by simp only [if_pos c17])
      · refine g_icmp_ne 50 (pc := 43) W0 d_m5_43 (by decide) (by decide) (fun c18 => ?_) (fun c18 => ?_)
        · refine g_iconst (pc := 50) (0 : Int32) (by decide) W0 d_m5_50 ?_
          exact j9 _ (by simp only [if_neg c18])
        · refine g_iconst (pc := 46) (1 : Int32) (by decide) W0 d_m5_46 ?_
          refine g_goto 51 (pc := 47) W0 d_m5_47 (by decide) (by decide) ?_
          exact j9 _ (by simp only [if_pos c18])
    · refine g_icmp_ne 32 (pc := 25) W0 d_m5_25 (by decide) (by decide) (fun c19 => ?_) (fun c19 => ?_)
      · refine g_iconst (pc := 32) (0 : Int32) (by decide) W0 d_m5_32 ?_
        exact j6 _ (by simp only [if_neg c19])
      · refine g_iconst (pc := 28) (1 : Int32) (by decide) W0 d_m5_28 ?_
        refine g_goto 33 (pc := 29) W0 d_m5_29 (by decide) (by decide) ?_
        exact j6 _ (by simp only [if_pos c19])
  · refine g_icmp_ne 15 (pc := 8) W0 d_m5_8 (by decide) (by decide) (fun c20 => ?_) (fun c20 => ?_)
    · refine g_iconst (pc := 15) (0 : Int32) (by decide) W0 d_m5_15 ?_
      exact j3 _ (by simp only [if_neg c20])
    · refine g_iconst (pc := 11) (1 : Int32) (by decide) W0 d_m5_11 ?_
      refine g_goto 16 (pc := 12) W0 d_m5_12 (by decide) (by decide) ?_
      exact j3 _ (by simp only [if_pos c20])
theorem d_m6_0 : decode method_6_code 0 = .ok (.iload_n 3, 1) := by decide +kernel
theorem d_m6_1 : decode method_6_code 1 = .ok (.iload_n 1, 1) := by decide +kernel
theorem d_m6_2 : decode method_6_code 2 = .ok (.if_icmp .lt 5, 3) := by decide +kernel
theorem d_m6_5 : decode method_6_code 5 = .ok (.iconst 1, 1) := by decide +kernel
theorem d_m6_6 : decode method_6_code 6 = .ok (.ireturn, 1) := by decide +kernel
theorem c_slot00 (l : Launch) (Z : State) (a0 : Array Value) (hw : ∀ d ∈ tables_1, d.before a0 Z = true) {B : Nat} (a g : Addr) (x0 x1 x2 x3 x4 x5 : Int32) (gs : List Value) :
    Con l Z FM B (⟨"com/example/metanode/metanode/graph/IntPairsPartnersPinLaw", "slot", "([II[II)Z"⟩ : MethodName) method_6_code 5 (some .boolean) ({ frames := 0, cells := 0, slots := 0, locals := 0 } : Room) [] #[.ref a, .int (0 : Int32), .ref g, .int (0 : Int32)] [(a, (.array .int), [.int x0, .int x1, .int x2, .int x3, .int x4, .int x5]), (g, (.array .int), gs)] (fun rv_ ro_ => rv_ = some (.int (1 : Int32)) ∧ ro_ = [(a, (.array .int), [.int x0, .int x1, .int x2, .int x3, .int x4, .int x5]), (g, (.array .int), gs)]) := by
  refine Con.of (plainFor_of_name (by first | (simp [plainName, overriddenIn]; done) | decide +kernel)) (ls := #[.val (.ref a), .val (.int (0 : Int32)), .val (.ref g), .val (.int (0 : Int32)), .unset]) (fun m => by first | (simp [entryFrame, mkF, argsToLocals, Value.category]; done) | rfl) ?_
  intro p_ e_ h_ s_ m_ bl_ me_ c_ T0 W0
  refine g_iload_n (pc := 0) W0 d_m6_0 rfl ?_
  refine g_iload_n (pc := 1) W0 d_m6_1 rfl ?_
  refine g_icmpN (pc := 2) W0 d_m6_2 (by decide) ?_
  refine g_iconst (pc := 5) (1 : Int32) (by decide) W0 d_m6_5 ?_
  exact g_zreturn (pc := 6) rfl (by decide) W0 d_m6_6 (by decide) (by decide) ⟨rfl, rfl⟩
theorem c_slot01 (l : Launch) (Z : State) (a0 : Array Value) (hw : ∀ d ∈ tables_1, d.before a0 Z = true) {B : Nat} (a g : Addr) (x0 x1 x2 x3 x4 x5 : Int32) (gs : List Value) :
    Con l Z FM B (⟨"com/example/metanode/metanode/graph/IntPairsPartnersPinLaw", "slot", "([II[II)Z"⟩ : MethodName) method_6_code 5 (some .boolean) ({ frames := 0, cells := 0, slots := 0, locals := 0 } : Room) [] #[.ref a, .int (0 : Int32), .ref g, .int (1 : Int32)] [(a, (.array .int), [.int x0, .int x1, .int x2, .int x3, .int x4, .int x5]), (g, (.array .int), gs)] (fun rv_ ro_ => rv_ = some (.int (1 : Int32)) ∧ ro_ = [(a, (.array .int), [.int x0, .int x1, .int x2, .int x3, .int x4, .int x5]), (g, (.array .int), gs)]) := by
  refine Con.of (plainFor_of_name (by first | (simp [plainName, overriddenIn]; done) | decide +kernel)) (ls := #[.val (.ref a), .val (.int (0 : Int32)), .val (.ref g), .val (.int (1 : Int32)), .unset]) (fun m => by first | (simp [entryFrame, mkF, argsToLocals, Value.category]; done) | rfl) ?_
  intro p_ e_ h_ s_ m_ bl_ me_ c_ T0 W0
  refine g_iload_n (pc := 0) W0 d_m6_0 rfl ?_
  refine g_iload_n (pc := 1) W0 d_m6_1 rfl ?_
  refine g_icmpN (pc := 2) W0 d_m6_2 (by decide) ?_
  refine g_iconst (pc := 5) (1 : Int32) (by decide) W0 d_m6_5 ?_
  exact g_zreturn (pc := 6) rfl (by decide) W0 d_m6_6 (by decide) (by decide) ⟨rfl, rfl⟩
theorem c_slot02 (l : Launch) (Z : State) (a0 : Array Value) (hw : ∀ d ∈ tables_1, d.before a0 Z = true) {B : Nat} (a g : Addr) (x0 x1 x2 x3 x4 x5 : Int32) (gs : List Value) :
    Con l Z FM B (⟨"com/example/metanode/metanode/graph/IntPairsPartnersPinLaw", "slot", "([II[II)Z"⟩ : MethodName) method_6_code 5 (some .boolean) ({ frames := 0, cells := 0, slots := 0, locals := 0 } : Room) [] #[.ref a, .int (0 : Int32), .ref g, .int (2 : Int32)] [(a, (.array .int), [.int x0, .int x1, .int x2, .int x3, .int x4, .int x5]), (g, (.array .int), gs)] (fun rv_ ro_ => rv_ = some (.int (1 : Int32)) ∧ ro_ = [(a, (.array .int), [.int x0, .int x1, .int x2, .int x3, .int x4, .int x5]), (g, (.array .int), gs)]) := by
  refine Con.of (plainFor_of_name (by first | (simp [plainName, overriddenIn]; done) | decide +kernel)) (ls := #[.val (.ref a), .val (.int (0 : Int32)), .val (.ref g), .val (.int (2 : Int32)), .unset]) (fun m => by first | (simp [entryFrame, mkF, argsToLocals, Value.category]; done) | rfl) ?_
  intro p_ e_ h_ s_ m_ bl_ me_ c_ T0 W0
  refine g_iload_n (pc := 0) W0 d_m6_0 rfl ?_
  refine g_iload_n (pc := 1) W0 d_m6_1 rfl ?_
  refine g_icmpN (pc := 2) W0 d_m6_2 (by decide) ?_
  refine g_iconst (pc := 5) (1 : Int32) (by decide) W0 d_m6_5 ?_
  exact g_zreturn (pc := 6) rfl (by decide) W0 d_m6_6 (by decide) (by decide) ⟨rfl, rfl⟩
theorem c_slot03 (l : Launch) (Z : State) (a0 : Array Value) (hw : ∀ d ∈ tables_1, d.before a0 Z = true) {B : Nat} (a g : Addr) (x0 x1 x2 x3 x4 x5 : Int32) (gs : List Value) :
    Con l Z FM B (⟨"com/example/metanode/metanode/graph/IntPairsPartnersPinLaw", "slot", "([II[II)Z"⟩ : MethodName) method_6_code 5 (some .boolean) ({ frames := 0, cells := 0, slots := 0, locals := 0 } : Room) [] #[.ref a, .int (0 : Int32), .ref g, .int (3 : Int32)] [(a, (.array .int), [.int x0, .int x1, .int x2, .int x3, .int x4, .int x5]), (g, (.array .int), gs)] (fun rv_ ro_ => rv_ = some (.int (1 : Int32)) ∧ ro_ = [(a, (.array .int), [.int x0, .int x1, .int x2, .int x3, .int x4, .int x5]), (g, (.array .int), gs)]) := by
  refine Con.of (plainFor_of_name (by first | (simp [plainName, overriddenIn]; done) | decide +kernel)) (ls := #[.val (.ref a), .val (.int (0 : Int32)), .val (.ref g), .val (.int (3 : Int32)), .unset]) (fun m => by first | (simp [entryFrame, mkF, argsToLocals, Value.category]; done) | rfl) ?_
  intro p_ e_ h_ s_ m_ bl_ me_ c_ T0 W0
  refine g_iload_n (pc := 0) W0 d_m6_0 rfl ?_
  refine g_iload_n (pc := 1) W0 d_m6_1 rfl ?_
  refine g_icmpN (pc := 2) W0 d_m6_2 (by decide) ?_
  refine g_iconst (pc := 5) (1 : Int32) (by decide) W0 d_m6_5 ?_
  exact g_zreturn (pc := 6) rfl (by decide) W0 d_m6_6 (by decide) (by decide) ⟨rfl, rfl⟩
theorem c_slot04 (l : Launch) (Z : State) (a0 : Array Value) (hw : ∀ d ∈ tables_1, d.before a0 Z = true) {B : Nat} (a g : Addr) (x0 x1 x2 x3 x4 x5 : Int32) (gs : List Value) :
    Con l Z FM B (⟨"com/example/metanode/metanode/graph/IntPairsPartnersPinLaw", "slot", "([II[II)Z"⟩ : MethodName) method_6_code 5 (some .boolean) ({ frames := 0, cells := 0, slots := 0, locals := 0 } : Room) [] #[.ref a, .int (0 : Int32), .ref g, .int (4 : Int32)] [(a, (.array .int), [.int x0, .int x1, .int x2, .int x3, .int x4, .int x5]), (g, (.array .int), gs)] (fun rv_ ro_ => rv_ = some (.int (1 : Int32)) ∧ ro_ = [(a, (.array .int), [.int x0, .int x1, .int x2, .int x3, .int x4, .int x5]), (g, (.array .int), gs)]) := by
  refine Con.of (plainFor_of_name (by first | (simp [plainName, overriddenIn]; done) | decide +kernel)) (ls := #[.val (.ref a), .val (.int (0 : Int32)), .val (.ref g), .val (.int (4 : Int32)), .unset]) (fun m => by first | (simp [entryFrame, mkF, argsToLocals, Value.category]; done) | rfl) ?_
  intro p_ e_ h_ s_ m_ bl_ me_ c_ T0 W0
  refine g_iload_n (pc := 0) W0 d_m6_0 rfl ?_
  refine g_iload_n (pc := 1) W0 d_m6_1 rfl ?_
  refine g_icmpN (pc := 2) W0 d_m6_2 (by decide) ?_
  refine g_iconst (pc := 5) (1 : Int32) (by decide) W0 d_m6_5 ?_
  exact g_zreturn (pc := 6) rfl (by decide) W0 d_m6_6 (by decide) (by decide) ⟨rfl, rfl⟩
theorem c_slot05 (l : Launch) (Z : State) (a0 : Array Value) (hw : ∀ d ∈ tables_1, d.before a0 Z = true) {B : Nat} (a g : Addr) (x0 x1 x2 x3 x4 x5 : Int32) (gs : List Value) :
    Con l Z FM B (⟨"com/example/metanode/metanode/graph/IntPairsPartnersPinLaw", "slot", "([II[II)Z"⟩ : MethodName) method_6_code 5 (some .boolean) ({ frames := 0, cells := 0, slots := 0, locals := 0 } : Room) [] #[.ref a, .int (0 : Int32), .ref g, .int (5 : Int32)] [(a, (.array .int), [.int x0, .int x1, .int x2, .int x3, .int x4, .int x5]), (g, (.array .int), gs)] (fun rv_ ro_ => rv_ = some (.int (1 : Int32)) ∧ ro_ = [(a, (.array .int), [.int x0, .int x1, .int x2, .int x3, .int x4, .int x5]), (g, (.array .int), gs)]) := by
  refine Con.of (plainFor_of_name (by first | (simp [plainName, overriddenIn]; done) | decide +kernel)) (ls := #[.val (.ref a), .val (.int (0 : Int32)), .val (.ref g), .val (.int (5 : Int32)), .unset]) (fun m => by first | (simp [entryFrame, mkF, argsToLocals, Value.category]; done) | rfl) ?_
  intro p_ e_ h_ s_ m_ bl_ me_ c_ T0 W0
  refine g_iload_n (pc := 0) W0 d_m6_0 rfl ?_
  refine g_iload_n (pc := 1) W0 d_m6_1 rfl ?_
  refine g_icmpN (pc := 2) W0 d_m6_2 (by decide) ?_
  refine g_iconst (pc := 5) (1 : Int32) (by decide) W0 d_m6_5 ?_
  exact g_zreturn (pc := 6) rfl (by decide) W0 d_m6_6 (by decide) (by decide) ⟨rfl, rfl⟩
theorem d_m6_7 : decode method_6_code 7 = .ok (.aload_n 0, 1) := by decide +kernel
theorem d_m6_8 : decode method_6_code 8 = .ok (.iload_n 1, 1) := by decide +kernel
theorem d_m6_9 : decode method_6_code 9 = .ok (.aload_n 0, 1) := by decide +kernel
theorem d_m6_10 : decode method_6_code 10 = .ok (.iload_n 3, 1) := by decide +kernel
theorem d_m6_11 : decode method_6_code 11 = .ok (.iaload, 1) := by decide +kernel
theorem d_m6_12 : decode method_6_code 12 = .ok (.invokestatic 18, 3) := by decide +kernel
theorem d_m6_15 : decode method_6_code 15 = .ok (.aload_n 0, 1) := by decide +kernel
theorem d_m6_16 : decode method_6_code 16 = .ok (.iload_n 3, 1) := by decide +kernel
theorem d_m6_17 : decode method_6_code 17 = .ok (.aload_n 0, 1) := by decide +kernel
theorem d_m6_18 : decode method_6_code 18 = .ok (.iload_n 3, 1) := by decide +kernel
theorem d_m6_19 : decode method_6_code 19 = .ok (.iaload, 1) := by decide +kernel
theorem d_m6_20 : decode method_6_code 20 = .ok (.invokestatic 32, 3) := by decide +kernel
theorem d_m6_23 : decode method_6_code 23 = .ok (.iadd, 1) := by decide +kernel
theorem d_m6_24 : decode method_6_code 24 = .ok (.istore 4, 2) := by decide +kernel
theorem d_m6_26 : decode method_6_code 26 = .ok (.iload 4, 2) := by decide +kernel
theorem d_m6_28 : decode method_6_code 28 = .ok (.aload_n 2, 1) := by decide +kernel
theorem d_m6_29 : decode method_6_code 29 = .ok (.arraylength, 1) := by decide +kernel
theorem d_m6_30 : decode method_6_code 30 = .ok (.if_icmp .ge 19, 3) := by decide +kernel
theorem d_m6_33 : decode method_6_code 33 = .ok (.aload_n 2, 1) := by decide +kernel
theorem d_m6_34 : decode method_6_code 34 = .ok (.iload 4, 2) := by decide +kernel
theorem d_m6_36 : decode method_6_code 36 = .ok (.iaload, 1) := by decide +kernel
theorem d_m6_37 : decode method_6_code 37 = .ok (.aload_n 0, 1) := by decide +kernel
theorem d_m6_38 : decode method_6_code 38 = .ok (.iload_n 3, 1) := by decide +kernel
theorem d_m6_39 : decode method_6_code 39 = .ok (.iconst 1, 1) := by decide +kernel
theorem d_m6_40 : decode method_6_code 40 = .ok (.ixor, 1) := by decide +kernel
theorem d_m6_41 : decode method_6_code 41 = .ok (.iaload, 1) := by decide +kernel
theorem d_m6_42 : decode method_6_code 42 = .ok (.if_icmp .ne 7, 3) := by decide +kernel
theorem d_m6_45 : decode method_6_code 45 = .ok (.iconst 1, 1) := by decide +kernel
theorem d_m6_46 : decode method_6_code 46 = .ok (.goto 4, 3) := by decide +kernel
theorem d_m6_50 : decode method_6_code 50 = .ok (.ireturn, 1) := by decide +kernel
theorem c_slot20 (l : Launch) (Z : State) (a0 : Array Value) (hw : ∀ d ∈ tables_1, d.before a0 Z = true) {B : Nat} (a g : Addr) (x0 x1 x2 x3 x4 x5 : Int32) (gs : List Value) (hlen : gs.length.toInt32 = (2 : Int32)) (hlt : (((((((if x0 < x0 then (1 : Int32) else (0 : Int32)) + (if x1 < x0 then (1 : Int32) else (0 : Int32))) + (0 : Int32)) + (0 : Int32)) + (0 : Int32)) + (0 : Int32)) + (0 : Int32)) < (2 : Int32)) (hnn : ¬ (((((((if x0 < x0 then (1 : Int32) else (0 : Int32)) + (if x1 < x0 then (1 : Int32) else (0 : Int32))) + (0 : Int32)) + (0 : Int32)) + (0 : Int32)) + (0 : Int32)) + (0 : Int32)) < 0) (hget : gs[((((((((if x0 < x0 then (1 : Int32) else (0 : Int32)) + (if x1 < x0 then (1 : Int32) else (0 : Int32))) + (0 : Int32)) + (0 : Int32)) + (0 : Int32)) + (0 : Int32)) + (0 : Int32))).toNatClampNeg]? = some (.int x1)) :
    Con l Z FM B (⟨"com/example/metanode/metanode/graph/IntPairsPartnersPinLaw", "slot", "([II[II)Z"⟩ : MethodName) method_6_code 5 (some .boolean) ({ frames := 2, cells := 0, slots := 0, locals := 30 } : Room) [] #[.ref a, .int (2 : Int32), .ref g, .int (0 : Int32)] [(a, (.array .int), [.int x0, .int x1, .int x2, .int x3, .int x4, .int x5]), (g, (.array .int), gs)] (fun rv_ ro_ => rv_ = some (.int (1 : Int32)) ∧ ro_ = [(a, (.array .int), [.int x0, .int x1, .int x2, .int x3, .int x4, .int x5]), (g, (.array .int), gs)]) := by
  refine Con.of (plainFor_of_name (by first | (simp [plainName, overriddenIn]; done) | decide +kernel)) (ls := #[.val (.ref a), .val (.int (2 : Int32)), .val (.ref g), .val (.int (0 : Int32)), .unset]) (fun m => by first | (simp [entryFrame, mkF, argsToLocals, Value.category]; done) | rfl) ?_
  intro p_ e_ h_ s_ m_ bl_ me_ c_ T0 W0
  refine g_iload_n (pc := 0) W0 d_m6_0 rfl ?_
  refine g_iload_n (pc := 1) W0 d_m6_1 rfl ?_
  refine g_icmpY 7 (pc := 2) W0 d_m6_2 (by decide) (by decide) (by decide) ?_
  refine g_aload_n (pc := 7) W0 d_m6_7 rfl rfl ?_
  refine g_iload_n (pc := 8) W0 d_m6_8 rfl ?_
  refine g_aload_n (pc := 9) W0 d_m6_9 rfl rfl ?_
  refine g_iload_n (pc := 10) W0 d_m6_10 rfl ?_
  refine g_iaload (pc := 11) (i := 0) (v := .int x0) W0 rfl (by decide) rfl d_m6_11 ?_
  refine g_static (pc := 12) (Wt := 0) (argsL := [.ref a, .int (2 : Int32), .int x0]) (rest := []) (loc := [(a, (.array .int), [.int x0, .int x1, .int x2, .int x3, .int x4, .int x5])]) (rst := [(g, (.array .int), gs)]) W0 (wd hw 46 rfl) (wd hw 47 rfl) (wd hw 48 rfl) (wd hw 49 rfl) (by decide) (c_below2 l Z a0 hw a x0 x0 x1 x2 x3 x4 x5) ⟨[0, 1], by decide, rfl⟩ rfl pd_AIII__I rfl rfl rfl (Nat.le_of_ble_eq_true rfl) (by decide) (by decide) (by decide) (by decide) d_m6_12 ?_
  rintro T1 _ _ ⟨rfl, rfl⟩ W2
  have W3 := W2.re (os' := [(a, (.array .int), [.int x0, .int x1, .int x2, .int x3, .int x4, .int x5]), (g, (.array .int), gs)]) rfl
  show Go p_ e_ bl_ _ (T1.setTop (mkF m_ 15 _ [.int ((((((if x0 < x0 then (1 : Int32) else (0 : Int32)) + (if x1 < x0 then (1 : Int32) else (0 : Int32))) + (0 : Int32)) + (0 : Int32)) + (0 : Int32)) + (0 : Int32))]))
  refine g_aload_n (pc := 15) W3 d_m6_15 rfl rfl ?_
  refine g_iload_n (pc := 16) W3 d_m6_16 rfl ?_
  refine g_aload_n (pc := 17) W3 d_m6_17 rfl rfl ?_
  refine g_iload_n (pc := 18) W3 d_m6_18 rfl ?_
  refine g_iaload (pc := 19) (i := 0) (v := .int x0) W3 rfl (by decide) rfl d_m6_19 ?_
  refine g_static (pc := 20) (Wt := 1) (argsL := [.ref a, .int (0 : Int32), .int x0]) (rest := [.int ((((((if x0 < x0 then (1 : Int32) else (0 : Int32)) + (if x1 < x0 then (1 : Int32) else (0 : Int32))) + (0 : Int32)) + (0 : Int32)) + (0 : Int32)) + (0 : Int32))]) (loc := [(a, (.array .int), [.int x0, .int x1, .int x2, .int x3, .int x4, .int x5])]) (rst := [(g, (.array .int), gs)]) W3 (wd hw 56 rfl) (wd hw 57 rfl) (wd hw 48 rfl) (wd hw 58 rfl) (by decide) (c_eqb0 l Z a0 hw a x0 x0 x1 x2 x3 x4 x5) ⟨[0, 1], by decide, rfl⟩ rfl pd_AIII__I rfl rfl rfl (Nat.le_of_ble_eq_true rfl) (by decide) (by decide) (by decide) (by decide) d_m6_20 ?_
  rintro T4 _ _ ⟨rfl, rfl⟩ W5
  have W6 := W5.re (os' := [(a, (.array .int), [.int x0, .int x1, .int x2, .int x3, .int x4, .int x5]), (g, (.array .int), gs)]) rfl
  show Go p_ e_ bl_ _ (T4.setTop (mkF m_ 23 _ [.int (0 : Int32), .int ((((((if x0 < x0 then (1 : Int32) else (0 : Int32)) + (if x1 < x0 then (1 : Int32) else (0 : Int32))) + (0 : Int32)) + (0 : Int32)) + (0 : Int32)) + (0 : Int32))]))
  refine g_iadd (pc := 23) W6 d_m6_23 ?_
  refine g_istore (pc := 24) (ls' := #[.val (.ref a), .val (.int (2 : Int32)), .val (.ref g), .val (.int (0 : Int32)), .val (.int (((((((if x0 < x0 then (1 : Int32) else (0 : Int32)) + (if x1 < x0 then (1 : Int32) else (0 : Int32))) + (0 : Int32)) + (0 : Int32)) + (0 : Int32)) + (0 : Int32)) + (0 : Int32)))]) W6 d_m6_24 rfl ?_
  refine g_iload (pc := 26) W6 d_m6_26 rfl ?_
  refine g_aload_n (pc := 28) W6 d_m6_28 rfl rfl ?_
  refine g_arraylength (pc := 29) (i := 1) (2 : Int32) W6 rfl hlen d_m6_29 ?_
  refine g_icmpN (pc := 30) W6 d_m6_30 (tlt hlt).2.1 ?_
  refine g_aload_n (pc := 33) W6 d_m6_33 rfl rfl ?_
  refine g_iload (pc := 34) W6 d_m6_34 rfl ?_
  refine g_iaload (pc := 36) (i := 1) (v := .int x1) W6 rfl hnn hget d_m6_36 ?_
  refine g_aload_n (pc := 37) W6 d_m6_37 rfl rfl ?_
  refine g_iload_n (pc := 38) W6 d_m6_38 rfl ?_
  refine g_iconst (pc := 39) (1 : Int32) (by decide) W6 d_m6_39 ?_
  refine g_ixor (pc := 40) W6 d_m6_40 ?_
  show Go p_ e_ bl_ _ (T4.setTop (mkF m_ 41 _ [.int (1 : Int32), .ref a, .int x1]))
  refine g_iaload (pc := 41) (i := 0) (v := .int x1) W6 rfl (by decide) rfl d_m6_41 ?_
  refine g_icmpN (pc := 42) W6 d_m6_42 (by first | exact (teq rfl).1 | exact (teq rfl).2 | exact (flt (by simp)).1 | exact (flt (by simp)).2.1 | exact (flt (by simp)).2.2.1 | exact (flt (by simp)).2.2.2) ?_
  refine g_iconst (pc := 45) (1 : Int32) (by decide) W6 d_m6_45 ?_
  refine g_goto 50 (pc := 46) W6 d_m6_46 (by decide) (by decide) ?_
  exact g_zreturn (pc := 50) rfl (by decide) W6 d_m6_50 (by decide) (by decide) ⟨rfl, rfl⟩
theorem c_slot21 (l : Launch) (Z : State) (a0 : Array Value) (hw : ∀ d ∈ tables_1, d.before a0 Z = true) {B : Nat} (a g : Addr) (x0 x1 x2 x3 x4 x5 : Int32) (gs : List Value) (hlen : gs.length.toInt32 = (2 : Int32)) (hlt : (((((((if x0 < x1 then (1 : Int32) else (0 : Int32)) + (if x1 < x1 then (1 : Int32) else (0 : Int32))) + (0 : Int32)) + (0 : Int32)) + (0 : Int32)) + (0 : Int32)) + (((((if x0 = x1 then (1 : Int32) else (0 : Int32)) + (0 : Int32)) + (0 : Int32)) + (0 : Int32)) + (0 : Int32))) < (2 : Int32)) (hnn : ¬ (((((((if x0 < x1 then (1 : Int32) else (0 : Int32)) + (if x1 < x1 then (1 : Int32) else (0 : Int32))) + (0 : Int32)) + (0 : Int32)) + (0 : Int32)) + (0 : Int32)) + (((((if x0 = x1 then (1 : Int32) else (0 : Int32)) + (0 : Int32)) + (0 : Int32)) + (0 : Int32)) + (0 : Int32))) < 0) (hget : gs[((((((((if x0 < x1 then (1 : Int32) else (0 : Int32)) + (if x1 < x1 then (1 : Int32) else (0 : Int32))) + (0 : Int32)) + (0 : Int32)) + (0 : Int32)) + (0 : Int32)) + (((((if x0 = x1 then (1 : Int32) else (0 : Int32)) + (0 : Int32)) + (0 : Int32)) + (0 : Int32)) + (0 : Int32)))).toNatClampNeg]? = some (.int x0)) :
    Con l Z FM B (⟨"com/example/metanode/metanode/graph/IntPairsPartnersPinLaw", "slot", "([II[II)Z"⟩ : MethodName) method_6_code 5 (some .boolean) ({ frames := 2, cells := 0, slots := 0, locals := 30 } : Room) [] #[.ref a, .int (2 : Int32), .ref g, .int (1 : Int32)] [(a, (.array .int), [.int x0, .int x1, .int x2, .int x3, .int x4, .int x5]), (g, (.array .int), gs)] (fun rv_ ro_ => rv_ = some (.int (1 : Int32)) ∧ ro_ = [(a, (.array .int), [.int x0, .int x1, .int x2, .int x3, .int x4, .int x5]), (g, (.array .int), gs)]) := by
  refine Con.of (plainFor_of_name (by first | (simp [plainName, overriddenIn]; done) | decide +kernel)) (ls := #[.val (.ref a), .val (.int (2 : Int32)), .val (.ref g), .val (.int (1 : Int32)), .unset]) (fun m => by first | (simp [entryFrame, mkF, argsToLocals, Value.category]; done) | rfl) ?_
  intro p_ e_ h_ s_ m_ bl_ me_ c_ T0 W0
  refine g_iload_n (pc := 0) W0 d_m6_0 rfl ?_
  refine g_iload_n (pc := 1) W0 d_m6_1 rfl ?_
  refine g_icmpY 7 (pc := 2) W0 d_m6_2 (by decide) (by decide) (by decide) ?_
  refine g_aload_n (pc := 7) W0 d_m6_7 rfl rfl ?_
  refine g_iload_n (pc := 8) W0 d_m6_8 rfl ?_
  refine g_aload_n (pc := 9) W0 d_m6_9 rfl rfl ?_
  refine g_iload_n (pc := 10) W0 d_m6_10 rfl ?_
  refine g_iaload (pc := 11) (i := 0) (v := .int x1) W0 rfl (by decide) rfl d_m6_11 ?_
  refine g_static (pc := 12) (Wt := 0) (argsL := [.ref a, .int (2 : Int32), .int x1]) (rest := []) (loc := [(a, (.array .int), [.int x0, .int x1, .int x2, .int x3, .int x4, .int x5])]) (rst := [(g, (.array .int), gs)]) W0 (wd hw 46 rfl) (wd hw 47 rfl) (wd hw 48 rfl) (wd hw 49 rfl) (by decide) (c_below2 l Z a0 hw a x1 x0 x1 x2 x3 x4 x5) ⟨[0, 1], by decide, rfl⟩ rfl pd_AIII__I rfl rfl rfl (Nat.le_of_ble_eq_true rfl) (by decide) (by decide) (by decide) (by decide) d_m6_12 ?_
  rintro T1 _ _ ⟨rfl, rfl⟩ W2
  have W3 := W2.re (os' := [(a, (.array .int), [.int x0, .int x1, .int x2, .int x3, .int x4, .int x5]), (g, (.array .int), gs)]) rfl
  show Go p_ e_ bl_ _ (T1.setTop (mkF m_ 15 _ [.int ((((((if x0 < x1 then (1 : Int32) else (0 : Int32)) + (if x1 < x1 then (1 : Int32) else (0 : Int32))) + (0 : Int32)) + (0 : Int32)) + (0 : Int32)) + (0 : Int32))]))
  refine g_aload_n (pc := 15) W3 d_m6_15 rfl rfl ?_
  refine g_iload_n (pc := 16) W3 d_m6_16 rfl ?_
  refine g_aload_n (pc := 17) W3 d_m6_17 rfl rfl ?_
  refine g_iload_n (pc := 18) W3 d_m6_18 rfl ?_
  refine g_iaload (pc := 19) (i := 0) (v := .int x1) W3 rfl (by decide) rfl d_m6_19 ?_
  refine g_static (pc := 20) (Wt := 1) (argsL := [.ref a, .int (1 : Int32), .int x1]) (rest := [.int ((((((if x0 < x1 then (1 : Int32) else (0 : Int32)) + (if x1 < x1 then (1 : Int32) else (0 : Int32))) + (0 : Int32)) + (0 : Int32)) + (0 : Int32)) + (0 : Int32))]) (loc := [(a, (.array .int), [.int x0, .int x1, .int x2, .int x3, .int x4, .int x5])]) (rst := [(g, (.array .int), gs)]) W3 (wd hw 56 rfl) (wd hw 57 rfl) (wd hw 48 rfl) (wd hw 58 rfl) (by decide) (c_eqb1 l Z a0 hw a x1 x0 x1 x2 x3 x4 x5) ⟨[0, 1], by decide, rfl⟩ rfl pd_AIII__I rfl rfl rfl (Nat.le_of_ble_eq_true rfl) (by decide) (by decide) (by decide) (by decide) d_m6_20 ?_
  rintro T4 _ _ ⟨rfl, rfl⟩ W5
  have W6 := W5.re (os' := [(a, (.array .int), [.int x0, .int x1, .int x2, .int x3, .int x4, .int x5]), (g, (.array .int), gs)]) rfl
  show Go p_ e_ bl_ _ (T4.setTop (mkF m_ 23 _ [.int (((((if x0 = x1 then (1 : Int32) else (0 : Int32)) + (0 : Int32)) + (0 : Int32)) + (0 : Int32)) + (0 : Int32)), .int ((((((if x0 < x1 then (1 : Int32) else (0 : Int32)) + (if x1 < x1 then (1 : Int32) else (0 : Int32))) + (0 : Int32)) + (0 : Int32)) + (0 : Int32)) + (0 : Int32))]))
  refine g_iadd (pc := 23) W6 d_m6_23 ?_
  refine g_istore (pc := 24) (ls' := #[.val (.ref a), .val (.int (2 : Int32)), .val (.ref g), .val (.int (1 : Int32)), .val (.int (((((((if x0 < x1 then (1 : Int32) else (0 : Int32)) + (if x1 < x1 then (1 : Int32) else (0 : Int32))) + (0 : Int32)) + (0 : Int32)) + (0 : Int32)) + (0 : Int32)) + (((((if x0 = x1 then (1 : Int32) else (0 : Int32)) + (0 : Int32)) + (0 : Int32)) + (0 : Int32)) + (0 : Int32))))]) W6 d_m6_24 rfl ?_
  refine g_iload (pc := 26) W6 d_m6_26 rfl ?_
  refine g_aload_n (pc := 28) W6 d_m6_28 rfl rfl ?_
  refine g_arraylength (pc := 29) (i := 1) (2 : Int32) W6 rfl hlen d_m6_29 ?_
  refine g_icmpN (pc := 30) W6 d_m6_30 (tlt hlt).2.1 ?_
  refine g_aload_n (pc := 33) W6 d_m6_33 rfl rfl ?_
  refine g_iload (pc := 34) W6 d_m6_34 rfl ?_
  refine g_iaload (pc := 36) (i := 1) (v := .int x0) W6 rfl hnn hget d_m6_36 ?_
  refine g_aload_n (pc := 37) W6 d_m6_37 rfl rfl ?_
  refine g_iload_n (pc := 38) W6 d_m6_38 rfl ?_
  refine g_iconst (pc := 39) (1 : Int32) (by decide) W6 d_m6_39 ?_
  refine g_ixor (pc := 40) W6 d_m6_40 ?_
  show Go p_ e_ bl_ _ (T4.setTop (mkF m_ 41 _ [.int (0 : Int32), .ref a, .int x0]))
  refine g_iaload (pc := 41) (i := 0) (v := .int x0) W6 rfl (by decide) rfl d_m6_41 ?_
  refine g_icmpN (pc := 42) W6 d_m6_42 (by first | exact (teq rfl).1 | exact (teq rfl).2 | exact (flt (by simp)).1 | exact (flt (by simp)).2.1 | exact (flt (by simp)).2.2.1 | exact (flt (by simp)).2.2.2) ?_
  refine g_iconst (pc := 45) (1 : Int32) (by decide) W6 d_m6_45 ?_
  refine g_goto 50 (pc := 46) W6 d_m6_46 (by decide) (by decide) ?_
  exact g_zreturn (pc := 50) rfl (by decide) W6 d_m6_50 (by decide) (by decide) ⟨rfl, rfl⟩
theorem c_slot22 (l : Launch) (Z : State) (a0 : Array Value) (hw : ∀ d ∈ tables_1, d.before a0 Z = true) {B : Nat} (a g : Addr) (x0 x1 x2 x3 x4 x5 : Int32) (gs : List Value) :
    Con l Z FM B (⟨"com/example/metanode/metanode/graph/IntPairsPartnersPinLaw", "slot", "([II[II)Z"⟩ : MethodName) method_6_code 5 (some .boolean) ({ frames := 0, cells := 0, slots := 0, locals := 0 } : Room) [] #[.ref a, .int (2 : Int32), .ref g, .int (2 : Int32)] [(a, (.array .int), [.int x0, .int x1, .int x2, .int x3, .int x4, .int x5]), (g, (.array .int), gs)] (fun rv_ ro_ => rv_ = some (.int (1 : Int32)) ∧ ro_ = [(a, (.array .int), [.int x0, .int x1, .int x2, .int x3, .int x4, .int x5]), (g, (.array .int), gs)]) := by
  refine Con.of (plainFor_of_name (by first | (simp [plainName, overriddenIn]; done) | decide +kernel)) (ls := #[.val (.ref a), .val (.int (2 : Int32)), .val (.ref g), .val (.int (2 : Int32)), .unset]) (fun m => by first | (simp [entryFrame, mkF, argsToLocals, Value.category]; done) | rfl) ?_
  intro p_ e_ h_ s_ m_ bl_ me_ c_ T0 W0
  refine g_iload_n (pc := 0) W0 d_m6_0 rfl ?_
  refine g_iload_n (pc := 1) W0 d_m6_1 rfl ?_
  refine g_icmpN (pc := 2) W0 d_m6_2 (by decide) ?_
  refine g_iconst (pc := 5) (1 : Int32) (by decide) W0 d_m6_5 ?_
  exact g_zreturn (pc := 6) rfl (by decide) W0 d_m6_6 (by decide) (by decide) ⟨rfl, rfl⟩
theorem c_slot23 (l : Launch) (Z : State) (a0 : Array Value) (hw : ∀ d ∈ tables_1, d.before a0 Z = true) {B : Nat} (a g : Addr) (x0 x1 x2 x3 x4 x5 : Int32) (gs : List Value) :
    Con l Z FM B (⟨"com/example/metanode/metanode/graph/IntPairsPartnersPinLaw", "slot", "([II[II)Z"⟩ : MethodName) method_6_code 5 (some .boolean) ({ frames := 0, cells := 0, slots := 0, locals := 0 } : Room) [] #[.ref a, .int (2 : Int32), .ref g, .int (3 : Int32)] [(a, (.array .int), [.int x0, .int x1, .int x2, .int x3, .int x4, .int x5]), (g, (.array .int), gs)] (fun rv_ ro_ => rv_ = some (.int (1 : Int32)) ∧ ro_ = [(a, (.array .int), [.int x0, .int x1, .int x2, .int x3, .int x4, .int x5]), (g, (.array .int), gs)]) := by
  refine Con.of (plainFor_of_name (by first | (simp [plainName, overriddenIn]; done) | decide +kernel)) (ls := #[.val (.ref a), .val (.int (2 : Int32)), .val (.ref g), .val (.int (3 : Int32)), .unset]) (fun m => by first | (simp [entryFrame, mkF, argsToLocals, Value.category]; done) | rfl) ?_
  intro p_ e_ h_ s_ m_ bl_ me_ c_ T0 W0
  refine g_iload_n (pc := 0) W0 d_m6_0 rfl ?_
  refine g_iload_n (pc := 1) W0 d_m6_1 rfl ?_
  refine g_icmpN (pc := 2) W0 d_m6_2 (by decide) ?_
  refine g_iconst (pc := 5) (1 : Int32) (by decide) W0 d_m6_5 ?_
  exact g_zreturn (pc := 6) rfl (by decide) W0 d_m6_6 (by decide) (by decide) ⟨rfl, rfl⟩
theorem c_slot24 (l : Launch) (Z : State) (a0 : Array Value) (hw : ∀ d ∈ tables_1, d.before a0 Z = true) {B : Nat} (a g : Addr) (x0 x1 x2 x3 x4 x5 : Int32) (gs : List Value) :
    Con l Z FM B (⟨"com/example/metanode/metanode/graph/IntPairsPartnersPinLaw", "slot", "([II[II)Z"⟩ : MethodName) method_6_code 5 (some .boolean) ({ frames := 0, cells := 0, slots := 0, locals := 0 } : Room) [] #[.ref a, .int (2 : Int32), .ref g, .int (4 : Int32)] [(a, (.array .int), [.int x0, .int x1, .int x2, .int x3, .int x4, .int x5]), (g, (.array .int), gs)] (fun rv_ ro_ => rv_ = some (.int (1 : Int32)) ∧ ro_ = [(a, (.array .int), [.int x0, .int x1, .int x2, .int x3, .int x4, .int x5]), (g, (.array .int), gs)]) := by
  refine Con.of (plainFor_of_name (by first | (simp [plainName, overriddenIn]; done) | decide +kernel)) (ls := #[.val (.ref a), .val (.int (2 : Int32)), .val (.ref g), .val (.int (4 : Int32)), .unset]) (fun m => by first | (simp [entryFrame, mkF, argsToLocals, Value.category]; done) | rfl) ?_
  intro p_ e_ h_ s_ m_ bl_ me_ c_ T0 W0
  refine g_iload_n (pc := 0) W0 d_m6_0 rfl ?_
  refine g_iload_n (pc := 1) W0 d_m6_1 rfl ?_
  refine g_icmpN (pc := 2) W0 d_m6_2 (by decide) ?_
  refine g_iconst (pc := 5) (1 : Int32) (by decide) W0 d_m6_5 ?_
  exact g_zreturn (pc := 6) rfl (by decide) W0 d_m6_6 (by decide) (by decide) ⟨rfl, rfl⟩
theorem c_slot25 (l : Launch) (Z : State) (a0 : Array Value) (hw : ∀ d ∈ tables_1, d.before a0 Z = true) {B : Nat} (a g : Addr) (x0 x1 x2 x3 x4 x5 : Int32) (gs : List Value) :
    Con l Z FM B (⟨"com/example/metanode/metanode/graph/IntPairsPartnersPinLaw", "slot", "([II[II)Z"⟩ : MethodName) method_6_code 5 (some .boolean) ({ frames := 0, cells := 0, slots := 0, locals := 0 } : Room) [] #[.ref a, .int (2 : Int32), .ref g, .int (5 : Int32)] [(a, (.array .int), [.int x0, .int x1, .int x2, .int x3, .int x4, .int x5]), (g, (.array .int), gs)] (fun rv_ ro_ => rv_ = some (.int (1 : Int32)) ∧ ro_ = [(a, (.array .int), [.int x0, .int x1, .int x2, .int x3, .int x4, .int x5]), (g, (.array .int), gs)]) := by
  refine Con.of (plainFor_of_name (by first | (simp [plainName, overriddenIn]; done) | decide +kernel)) (ls := #[.val (.ref a), .val (.int (2 : Int32)), .val (.ref g), .val (.int (5 : Int32)), .unset]) (fun m => by first | (simp [entryFrame, mkF, argsToLocals, Value.category]; done) | rfl) ?_
  intro p_ e_ h_ s_ m_ bl_ me_ c_ T0 W0
  refine g_iload_n (pc := 0) W0 d_m6_0 rfl ?_
  refine g_iload_n (pc := 1) W0 d_m6_1 rfl ?_
  refine g_icmpN (pc := 2) W0 d_m6_2 (by decide) ?_
  refine g_iconst (pc := 5) (1 : Int32) (by decide) W0 d_m6_5 ?_
  exact g_zreturn (pc := 6) rfl (by decide) W0 d_m6_6 (by decide) (by decide) ⟨rfl, rfl⟩
theorem c_slot40 (l : Launch) (Z : State) (a0 : Array Value) (hw : ∀ d ∈ tables_1, d.before a0 Z = true) {B : Nat} (a g : Addr) (x0 x1 x2 x3 x4 x5 : Int32) (gs : List Value) (hlen : gs.length.toInt32 = (4 : Int32)) (hlt : (((((((if x0 < x0 then (1 : Int32) else (0 : Int32)) + (if x1 < x0 then (1 : Int32) else (0 : Int32))) + (if x2 < x0 then (1 : Int32) else (0 : Int32))) + (if x3 < x0 then (1 : Int32) else (0 : Int32))) + (0 : Int32)) + (0 : Int32)) + (0 : Int32)) < (4 : Int32)) (hnn : ¬ (((((((if x0 < x0 then (1 : Int32) else (0 : Int32)) + (if x1 < x0 then (1 : Int32) else (0 : Int32))) + (if x2 < x0 then (1 : Int32) else (0 : Int32))) + (if x3 < x0 then (1 : Int32) else (0 : Int32))) + (0 : Int32)) + (0 : Int32)) + (0 : Int32)) < 0) (hget : gs[((((((((if x0 < x0 then (1 : Int32) else (0 : Int32)) + (if x1 < x0 then (1 : Int32) else (0 : Int32))) + (if x2 < x0 then (1 : Int32) else (0 : Int32))) + (if x3 < x0 then (1 : Int32) else (0 : Int32))) + (0 : Int32)) + (0 : Int32)) + (0 : Int32))).toNatClampNeg]? = some (.int x1)) :
    Con l Z FM B (⟨"com/example/metanode/metanode/graph/IntPairsPartnersPinLaw", "slot", "([II[II)Z"⟩ : MethodName) method_6_code 5 (some .boolean) ({ frames := 2, cells := 0, slots := 0, locals := 30 } : Room) [] #[.ref a, .int (4 : Int32), .ref g, .int (0 : Int32)] [(a, (.array .int), [.int x0, .int x1, .int x2, .int x3, .int x4, .int x5]), (g, (.array .int), gs)] (fun rv_ ro_ => rv_ = some (.int (1 : Int32)) ∧ ro_ = [(a, (.array .int), [.int x0, .int x1, .int x2, .int x3, .int x4, .int x5]), (g, (.array .int), gs)]) := by
  refine Con.of (plainFor_of_name (by first | (simp [plainName, overriddenIn]; done) | decide +kernel)) (ls := #[.val (.ref a), .val (.int (4 : Int32)), .val (.ref g), .val (.int (0 : Int32)), .unset]) (fun m => by first | (simp [entryFrame, mkF, argsToLocals, Value.category]; done) | rfl) ?_
  intro p_ e_ h_ s_ m_ bl_ me_ c_ T0 W0
  refine g_iload_n (pc := 0) W0 d_m6_0 rfl ?_
  refine g_iload_n (pc := 1) W0 d_m6_1 rfl ?_
  refine g_icmpY 7 (pc := 2) W0 d_m6_2 (by decide) (by decide) (by decide) ?_
  refine g_aload_n (pc := 7) W0 d_m6_7 rfl rfl ?_
  refine g_iload_n (pc := 8) W0 d_m6_8 rfl ?_
  refine g_aload_n (pc := 9) W0 d_m6_9 rfl rfl ?_
  refine g_iload_n (pc := 10) W0 d_m6_10 rfl ?_
  refine g_iaload (pc := 11) (i := 0) (v := .int x0) W0 rfl (by decide) rfl d_m6_11 ?_
  refine g_static (pc := 12) (Wt := 0) (argsL := [.ref a, .int (4 : Int32), .int x0]) (rest := []) (loc := [(a, (.array .int), [.int x0, .int x1, .int x2, .int x3, .int x4, .int x5])]) (rst := [(g, (.array .int), gs)]) W0 (wd hw 46 rfl) (wd hw 47 rfl) (wd hw 48 rfl) (wd hw 49 rfl) (by decide) (c_below4 l Z a0 hw a x0 x0 x1 x2 x3 x4 x5) ⟨[0, 1], by decide, rfl⟩ rfl pd_AIII__I rfl rfl rfl (Nat.le_of_ble_eq_true rfl) (by decide) (by decide) (by decide) (by decide) d_m6_12 ?_
  rintro T1 _ _ ⟨rfl, rfl⟩ W2
  have W3 := W2.re (os' := [(a, (.array .int), [.int x0, .int x1, .int x2, .int x3, .int x4, .int x5]), (g, (.array .int), gs)]) rfl
  show Go p_ e_ bl_ _ (T1.setTop (mkF m_ 15 _ [.int ((((((if x0 < x0 then (1 : Int32) else (0 : Int32)) + (if x1 < x0 then (1 : Int32) else (0 : Int32))) + (if x2 < x0 then (1 : Int32) else (0 : Int32))) + (if x3 < x0 then (1 : Int32) else (0 : Int32))) + (0 : Int32)) + (0 : Int32))]))
  refine g_aload_n (pc := 15) W3 d_m6_15 rfl rfl ?_
  refine g_iload_n (pc := 16) W3 d_m6_16 rfl ?_
  refine g_aload_n (pc := 17) W3 d_m6_17 rfl rfl ?_
  refine g_iload_n (pc := 18) W3 d_m6_18 rfl ?_
  refine g_iaload (pc := 19) (i := 0) (v := .int x0) W3 rfl (by decide) rfl d_m6_19 ?_
  refine g_static (pc := 20) (Wt := 1) (argsL := [.ref a, .int (0 : Int32), .int x0]) (rest := [.int ((((((if x0 < x0 then (1 : Int32) else (0 : Int32)) + (if x1 < x0 then (1 : Int32) else (0 : Int32))) + (if x2 < x0 then (1 : Int32) else (0 : Int32))) + (if x3 < x0 then (1 : Int32) else (0 : Int32))) + (0 : Int32)) + (0 : Int32))]) (loc := [(a, (.array .int), [.int x0, .int x1, .int x2, .int x3, .int x4, .int x5])]) (rst := [(g, (.array .int), gs)]) W3 (wd hw 56 rfl) (wd hw 57 rfl) (wd hw 48 rfl) (wd hw 58 rfl) (by decide) (c_eqb0 l Z a0 hw a x0 x0 x1 x2 x3 x4 x5) ⟨[0, 1], by decide, rfl⟩ rfl pd_AIII__I rfl rfl rfl (Nat.le_of_ble_eq_true rfl) (by decide) (by decide) (by decide) (by decide) d_m6_20 ?_
  rintro T4 _ _ ⟨rfl, rfl⟩ W5
  have W6 := W5.re (os' := [(a, (.array .int), [.int x0, .int x1, .int x2, .int x3, .int x4, .int x5]), (g, (.array .int), gs)]) rfl
  show Go p_ e_ bl_ _ (T4.setTop (mkF m_ 23 _ [.int (0 : Int32), .int ((((((if x0 < x0 then (1 : Int32) else (0 : Int32)) + (if x1 < x0 then (1 : Int32) else (0 : Int32))) + (if x2 < x0 then (1 : Int32) else (0 : Int32))) + (if x3 < x0 then (1 : Int32) else (0 : Int32))) + (0 : Int32)) + (0 : Int32))]))
  refine g_iadd (pc := 23) W6 d_m6_23 ?_
  refine g_istore (pc := 24) (ls' := #[.val (.ref a), .val (.int (4 : Int32)), .val (.ref g), .val (.int (0 : Int32)), .val (.int (((((((if x0 < x0 then (1 : Int32) else (0 : Int32)) + (if x1 < x0 then (1 : Int32) else (0 : Int32))) + (if x2 < x0 then (1 : Int32) else (0 : Int32))) + (if x3 < x0 then (1 : Int32) else (0 : Int32))) + (0 : Int32)) + (0 : Int32)) + (0 : Int32)))]) W6 d_m6_24 rfl ?_
  refine g_iload (pc := 26) W6 d_m6_26 rfl ?_
  refine g_aload_n (pc := 28) W6 d_m6_28 rfl rfl ?_
  refine g_arraylength (pc := 29) (i := 1) (4 : Int32) W6 rfl hlen d_m6_29 ?_
  refine g_icmpN (pc := 30) W6 d_m6_30 (tlt hlt).2.1 ?_
  refine g_aload_n (pc := 33) W6 d_m6_33 rfl rfl ?_
  refine g_iload (pc := 34) W6 d_m6_34 rfl ?_
  refine g_iaload (pc := 36) (i := 1) (v := .int x1) W6 rfl hnn hget d_m6_36 ?_
  refine g_aload_n (pc := 37) W6 d_m6_37 rfl rfl ?_
  refine g_iload_n (pc := 38) W6 d_m6_38 rfl ?_
  refine g_iconst (pc := 39) (1 : Int32) (by decide) W6 d_m6_39 ?_
  refine g_ixor (pc := 40) W6 d_m6_40 ?_
  show Go p_ e_ bl_ _ (T4.setTop (mkF m_ 41 _ [.int (1 : Int32), .ref a, .int x1]))
  refine g_iaload (pc := 41) (i := 0) (v := .int x1) W6 rfl (by decide) rfl d_m6_41 ?_
  refine g_icmpN (pc := 42) W6 d_m6_42 (by first | exact (teq rfl).1 | exact (teq rfl).2 | exact (flt (by simp)).1 | exact (flt (by simp)).2.1 | exact (flt (by simp)).2.2.1 | exact (flt (by simp)).2.2.2) ?_
  refine g_iconst (pc := 45) (1 : Int32) (by decide) W6 d_m6_45 ?_
  refine g_goto 50 (pc := 46) W6 d_m6_46 (by decide) (by decide) ?_
  exact g_zreturn (pc := 50) rfl (by decide) W6 d_m6_50 (by decide) (by decide) ⟨rfl, rfl⟩
theorem c_slot41 (l : Launch) (Z : State) (a0 : Array Value) (hw : ∀ d ∈ tables_1, d.before a0 Z = true) {B : Nat} (a g : Addr) (x0 x1 x2 x3 x4 x5 : Int32) (gs : List Value) (hlen : gs.length.toInt32 = (4 : Int32)) (hlt : (((((((if x0 < x1 then (1 : Int32) else (0 : Int32)) + (if x1 < x1 then (1 : Int32) else (0 : Int32))) + (if x2 < x1 then (1 : Int32) else (0 : Int32))) + (if x3 < x1 then (1 : Int32) else (0 : Int32))) + (0 : Int32)) + (0 : Int32)) + (((((if x0 = x1 then (1 : Int32) else (0 : Int32)) + (0 : Int32)) + (0 : Int32)) + (0 : Int32)) + (0 : Int32))) < (4 : Int32)) (hnn : ¬ (((((((if x0 < x1 then (1 : Int32) else (0 : Int32)) + (if x1 < x1 then (1 : Int32) else (0 : Int32))) + (if x2 < x1 then (1 : Int32) else (0 : Int32))) + (if x3 < x1 then (1 : Int32) else (0 : Int32))) + (0 : Int32)) + (0 : Int32)) + (((((if x0 = x1 then (1 : Int32) else (0 : Int32)) + (0 : Int32)) + (0 : Int32)) + (0 : Int32)) + (0 : Int32))) < 0) (hget : gs[((((((((if x0 < x1 then (1 : Int32) else (0 : Int32)) + (if x1 < x1 then (1 : Int32) else (0 : Int32))) + (if x2 < x1 then (1 : Int32) else (0 : Int32))) + (if x3 < x1 then (1 : Int32) else (0 : Int32))) + (0 : Int32)) + (0 : Int32)) + (((((if x0 = x1 then (1 : Int32) else (0 : Int32)) + (0 : Int32)) + (0 : Int32)) + (0 : Int32)) + (0 : Int32)))).toNatClampNeg]? = some (.int x0)) :
    Con l Z FM B (⟨"com/example/metanode/metanode/graph/IntPairsPartnersPinLaw", "slot", "([II[II)Z"⟩ : MethodName) method_6_code 5 (some .boolean) ({ frames := 2, cells := 0, slots := 0, locals := 30 } : Room) [] #[.ref a, .int (4 : Int32), .ref g, .int (1 : Int32)] [(a, (.array .int), [.int x0, .int x1, .int x2, .int x3, .int x4, .int x5]), (g, (.array .int), gs)] (fun rv_ ro_ => rv_ = some (.int (1 : Int32)) ∧ ro_ = [(a, (.array .int), [.int x0, .int x1, .int x2, .int x3, .int x4, .int x5]), (g, (.array .int), gs)]) := by
  refine Con.of (plainFor_of_name (by first | (simp [plainName, overriddenIn]; done) | decide +kernel)) (ls := #[.val (.ref a), .val (.int (4 : Int32)), .val (.ref g), .val (.int (1 : Int32)), .unset]) (fun m => by first | (simp [entryFrame, mkF, argsToLocals, Value.category]; done) | rfl) ?_
  intro p_ e_ h_ s_ m_ bl_ me_ c_ T0 W0
  refine g_iload_n (pc := 0) W0 d_m6_0 rfl ?_
  refine g_iload_n (pc := 1) W0 d_m6_1 rfl ?_
  refine g_icmpY 7 (pc := 2) W0 d_m6_2 (by decide) (by decide) (by decide) ?_
  refine g_aload_n (pc := 7) W0 d_m6_7 rfl rfl ?_
  refine g_iload_n (pc := 8) W0 d_m6_8 rfl ?_
  refine g_aload_n (pc := 9) W0 d_m6_9 rfl rfl ?_
  refine g_iload_n (pc := 10) W0 d_m6_10 rfl ?_
  refine g_iaload (pc := 11) (i := 0) (v := .int x1) W0 rfl (by decide) rfl d_m6_11 ?_
  refine g_static (pc := 12) (Wt := 0) (argsL := [.ref a, .int (4 : Int32), .int x1]) (rest := []) (loc := [(a, (.array .int), [.int x0, .int x1, .int x2, .int x3, .int x4, .int x5])]) (rst := [(g, (.array .int), gs)]) W0 (wd hw 46 rfl) (wd hw 47 rfl) (wd hw 48 rfl) (wd hw 49 rfl) (by decide) (c_below4 l Z a0 hw a x1 x0 x1 x2 x3 x4 x5) ⟨[0, 1], by decide, rfl⟩ rfl pd_AIII__I rfl rfl rfl (Nat.le_of_ble_eq_true rfl) (by decide) (by decide) (by decide) (by decide) d_m6_12 ?_
  rintro T1 _ _ ⟨rfl, rfl⟩ W2
  have W3 := W2.re (os' := [(a, (.array .int), [.int x0, .int x1, .int x2, .int x3, .int x4, .int x5]), (g, (.array .int), gs)]) rfl
  show Go p_ e_ bl_ _ (T1.setTop (mkF m_ 15 _ [.int ((((((if x0 < x1 then (1 : Int32) else (0 : Int32)) + (if x1 < x1 then (1 : Int32) else (0 : Int32))) + (if x2 < x1 then (1 : Int32) else (0 : Int32))) + (if x3 < x1 then (1 : Int32) else (0 : Int32))) + (0 : Int32)) + (0 : Int32))]))
  refine g_aload_n (pc := 15) W3 d_m6_15 rfl rfl ?_
  refine g_iload_n (pc := 16) W3 d_m6_16 rfl ?_
  refine g_aload_n (pc := 17) W3 d_m6_17 rfl rfl ?_
  refine g_iload_n (pc := 18) W3 d_m6_18 rfl ?_
  refine g_iaload (pc := 19) (i := 0) (v := .int x1) W3 rfl (by decide) rfl d_m6_19 ?_
  refine g_static (pc := 20) (Wt := 1) (argsL := [.ref a, .int (1 : Int32), .int x1]) (rest := [.int ((((((if x0 < x1 then (1 : Int32) else (0 : Int32)) + (if x1 < x1 then (1 : Int32) else (0 : Int32))) + (if x2 < x1 then (1 : Int32) else (0 : Int32))) + (if x3 < x1 then (1 : Int32) else (0 : Int32))) + (0 : Int32)) + (0 : Int32))]) (loc := [(a, (.array .int), [.int x0, .int x1, .int x2, .int x3, .int x4, .int x5])]) (rst := [(g, (.array .int), gs)]) W3 (wd hw 56 rfl) (wd hw 57 rfl) (wd hw 48 rfl) (wd hw 58 rfl) (by decide) (c_eqb1 l Z a0 hw a x1 x0 x1 x2 x3 x4 x5) ⟨[0, 1], by decide, rfl⟩ rfl pd_AIII__I rfl rfl rfl (Nat.le_of_ble_eq_true rfl) (by decide) (by decide) (by decide) (by decide) d_m6_20 ?_
  rintro T4 _ _ ⟨rfl, rfl⟩ W5
  have W6 := W5.re (os' := [(a, (.array .int), [.int x0, .int x1, .int x2, .int x3, .int x4, .int x5]), (g, (.array .int), gs)]) rfl
  show Go p_ e_ bl_ _ (T4.setTop (mkF m_ 23 _ [.int (((((if x0 = x1 then (1 : Int32) else (0 : Int32)) + (0 : Int32)) + (0 : Int32)) + (0 : Int32)) + (0 : Int32)), .int ((((((if x0 < x1 then (1 : Int32) else (0 : Int32)) + (if x1 < x1 then (1 : Int32) else (0 : Int32))) + (if x2 < x1 then (1 : Int32) else (0 : Int32))) + (if x3 < x1 then (1 : Int32) else (0 : Int32))) + (0 : Int32)) + (0 : Int32))]))
  refine g_iadd (pc := 23) W6 d_m6_23 ?_
  refine g_istore (pc := 24) (ls' := #[.val (.ref a), .val (.int (4 : Int32)), .val (.ref g), .val (.int (1 : Int32)), .val (.int (((((((if x0 < x1 then (1 : Int32) else (0 : Int32)) + (if x1 < x1 then (1 : Int32) else (0 : Int32))) + (if x2 < x1 then (1 : Int32) else (0 : Int32))) + (if x3 < x1 then (1 : Int32) else (0 : Int32))) + (0 : Int32)) + (0 : Int32)) + (((((if x0 = x1 then (1 : Int32) else (0 : Int32)) + (0 : Int32)) + (0 : Int32)) + (0 : Int32)) + (0 : Int32))))]) W6 d_m6_24 rfl ?_
  refine g_iload (pc := 26) W6 d_m6_26 rfl ?_
  refine g_aload_n (pc := 28) W6 d_m6_28 rfl rfl ?_
  refine g_arraylength (pc := 29) (i := 1) (4 : Int32) W6 rfl hlen d_m6_29 ?_
  refine g_icmpN (pc := 30) W6 d_m6_30 (tlt hlt).2.1 ?_
  refine g_aload_n (pc := 33) W6 d_m6_33 rfl rfl ?_
  refine g_iload (pc := 34) W6 d_m6_34 rfl ?_
  refine g_iaload (pc := 36) (i := 1) (v := .int x0) W6 rfl hnn hget d_m6_36 ?_
  refine g_aload_n (pc := 37) W6 d_m6_37 rfl rfl ?_
  refine g_iload_n (pc := 38) W6 d_m6_38 rfl ?_
  refine g_iconst (pc := 39) (1 : Int32) (by decide) W6 d_m6_39 ?_
  refine g_ixor (pc := 40) W6 d_m6_40 ?_
  show Go p_ e_ bl_ _ (T4.setTop (mkF m_ 41 _ [.int (0 : Int32), .ref a, .int x0]))
  refine g_iaload (pc := 41) (i := 0) (v := .int x0) W6 rfl (by decide) rfl d_m6_41 ?_
  refine g_icmpN (pc := 42) W6 d_m6_42 (by first | exact (teq rfl).1 | exact (teq rfl).2 | exact (flt (by simp)).1 | exact (flt (by simp)).2.1 | exact (flt (by simp)).2.2.1 | exact (flt (by simp)).2.2.2) ?_
  refine g_iconst (pc := 45) (1 : Int32) (by decide) W6 d_m6_45 ?_
  refine g_goto 50 (pc := 46) W6 d_m6_46 (by decide) (by decide) ?_
  exact g_zreturn (pc := 50) rfl (by decide) W6 d_m6_50 (by decide) (by decide) ⟨rfl, rfl⟩
theorem c_slot42 (l : Launch) (Z : State) (a0 : Array Value) (hw : ∀ d ∈ tables_1, d.before a0 Z = true) {B : Nat} (a g : Addr) (x0 x1 x2 x3 x4 x5 : Int32) (gs : List Value) (hlen : gs.length.toInt32 = (4 : Int32)) (hlt : (((((((if x0 < x2 then (1 : Int32) else (0 : Int32)) + (if x1 < x2 then (1 : Int32) else (0 : Int32))) + (if x2 < x2 then (1 : Int32) else (0 : Int32))) + (if x3 < x2 then (1 : Int32) else (0 : Int32))) + (0 : Int32)) + (0 : Int32)) + (((((if x0 = x2 then (1 : Int32) else (0 : Int32)) + (if x1 = x2 then (1 : Int32) else (0 : Int32))) + (0 : Int32)) + (0 : Int32)) + (0 : Int32))) < (4 : Int32)) (hnn : ¬ (((((((if x0 < x2 then (1 : Int32) else (0 : Int32)) + (if x1 < x2 then (1 : Int32) else (0 : Int32))) + (if x2 < x2 then (1 : Int32) else (0 : Int32))) + (if x3 < x2 then (1 : Int32) else (0 : Int32))) + (0 : Int32)) + (0 : Int32)) + (((((if x0 = x2 then (1 : Int32) else (0 : Int32)) + (if x1 = x2 then (1 : Int32) else (0 : Int32))) + (0 : Int32)) + (0 : Int32)) + (0 : Int32))) < 0) (hget : gs[((((((((if x0 < x2 then (1 : Int32) else (0 : Int32)) + (if x1 < x2 then (1 : Int32) else (0 : Int32))) + (if x2 < x2 then (1 : Int32) else (0 : Int32))) + (if x3 < x2 then (1 : Int32) else (0 : Int32))) + (0 : Int32)) + (0 : Int32)) + (((((if x0 = x2 then (1 : Int32) else (0 : Int32)) + (if x1 = x2 then (1 : Int32) else (0 : Int32))) + (0 : Int32)) + (0 : Int32)) + (0 : Int32)))).toNatClampNeg]? = some (.int x3)) :
    Con l Z FM B (⟨"com/example/metanode/metanode/graph/IntPairsPartnersPinLaw", "slot", "([II[II)Z"⟩ : MethodName) method_6_code 5 (some .boolean) ({ frames := 2, cells := 0, slots := 0, locals := 30 } : Room) [] #[.ref a, .int (4 : Int32), .ref g, .int (2 : Int32)] [(a, (.array .int), [.int x0, .int x1, .int x2, .int x3, .int x4, .int x5]), (g, (.array .int), gs)] (fun rv_ ro_ => rv_ = some (.int (1 : Int32)) ∧ ro_ = [(a, (.array .int), [.int x0, .int x1, .int x2, .int x3, .int x4, .int x5]), (g, (.array .int), gs)]) := by
  refine Con.of (plainFor_of_name (by first | (simp [plainName, overriddenIn]; done) | decide +kernel)) (ls := #[.val (.ref a), .val (.int (4 : Int32)), .val (.ref g), .val (.int (2 : Int32)), .unset]) (fun m => by first | (simp [entryFrame, mkF, argsToLocals, Value.category]; done) | rfl) ?_
  intro p_ e_ h_ s_ m_ bl_ me_ c_ T0 W0
  refine g_iload_n (pc := 0) W0 d_m6_0 rfl ?_
  refine g_iload_n (pc := 1) W0 d_m6_1 rfl ?_
  refine g_icmpY 7 (pc := 2) W0 d_m6_2 (by decide) (by decide) (by decide) ?_
  refine g_aload_n (pc := 7) W0 d_m6_7 rfl rfl ?_
  refine g_iload_n (pc := 8) W0 d_m6_8 rfl ?_
  refine g_aload_n (pc := 9) W0 d_m6_9 rfl rfl ?_
  refine g_iload_n (pc := 10) W0 d_m6_10 rfl ?_
  refine g_iaload (pc := 11) (i := 0) (v := .int x2) W0 rfl (by decide) rfl d_m6_11 ?_
  refine g_static (pc := 12) (Wt := 0) (argsL := [.ref a, .int (4 : Int32), .int x2]) (rest := []) (loc := [(a, (.array .int), [.int x0, .int x1, .int x2, .int x3, .int x4, .int x5])]) (rst := [(g, (.array .int), gs)]) W0 (wd hw 46 rfl) (wd hw 47 rfl) (wd hw 48 rfl) (wd hw 49 rfl) (by decide) (c_below4 l Z a0 hw a x2 x0 x1 x2 x3 x4 x5) ⟨[0, 1], by decide, rfl⟩ rfl pd_AIII__I rfl rfl rfl (Nat.le_of_ble_eq_true rfl) (by decide) (by decide) (by decide) (by decide) d_m6_12 ?_
  rintro T1 _ _ ⟨rfl, rfl⟩ W2
  have W3 := W2.re (os' := [(a, (.array .int), [.int x0, .int x1, .int x2, .int x3, .int x4, .int x5]), (g, (.array .int), gs)]) rfl
  show Go p_ e_ bl_ _ (T1.setTop (mkF m_ 15 _ [.int ((((((if x0 < x2 then (1 : Int32) else (0 : Int32)) + (if x1 < x2 then (1 : Int32) else (0 : Int32))) + (if x2 < x2 then (1 : Int32) else (0 : Int32))) + (if x3 < x2 then (1 : Int32) else (0 : Int32))) + (0 : Int32)) + (0 : Int32))]))
  refine g_aload_n (pc := 15) W3 d_m6_15 rfl rfl ?_
  refine g_iload_n (pc := 16) W3 d_m6_16 rfl ?_
  refine g_aload_n (pc := 17) W3 d_m6_17 rfl rfl ?_
  refine g_iload_n (pc := 18) W3 d_m6_18 rfl ?_
  refine g_iaload (pc := 19) (i := 0) (v := .int x2) W3 rfl (by decide) rfl d_m6_19 ?_
  refine g_static (pc := 20) (Wt := 1) (argsL := [.ref a, .int (2 : Int32), .int x2]) (rest := [.int ((((((if x0 < x2 then (1 : Int32) else (0 : Int32)) + (if x1 < x2 then (1 : Int32) else (0 : Int32))) + (if x2 < x2 then (1 : Int32) else (0 : Int32))) + (if x3 < x2 then (1 : Int32) else (0 : Int32))) + (0 : Int32)) + (0 : Int32))]) (loc := [(a, (.array .int), [.int x0, .int x1, .int x2, .int x3, .int x4, .int x5])]) (rst := [(g, (.array .int), gs)]) W3 (wd hw 56 rfl) (wd hw 57 rfl) (wd hw 48 rfl) (wd hw 58 rfl) (by decide) (c_eqb2 l Z a0 hw a x2 x0 x1 x2 x3 x4 x5) ⟨[0, 1], by decide, rfl⟩ rfl pd_AIII__I rfl rfl rfl (Nat.le_of_ble_eq_true rfl) (by decide) (by decide) (by decide) (by decide) d_m6_20 ?_
  rintro T4 _ _ ⟨rfl, rfl⟩ W5
  have W6 := W5.re (os' := [(a, (.array .int), [.int x0, .int x1, .int x2, .int x3, .int x4, .int x5]), (g, (.array .int), gs)]) rfl
  show Go p_ e_ bl_ _ (T4.setTop (mkF m_ 23 _ [.int (((((if x0 = x2 then (1 : Int32) else (0 : Int32)) + (if x1 = x2 then (1 : Int32) else (0 : Int32))) + (0 : Int32)) + (0 : Int32)) + (0 : Int32)), .int ((((((if x0 < x2 then (1 : Int32) else (0 : Int32)) + (if x1 < x2 then (1 : Int32) else (0 : Int32))) + (if x2 < x2 then (1 : Int32) else (0 : Int32))) + (if x3 < x2 then (1 : Int32) else (0 : Int32))) + (0 : Int32)) + (0 : Int32))]))
  refine g_iadd (pc := 23) W6 d_m6_23 ?_
  refine g_istore (pc := 24) (ls' := #[.val (.ref a), .val (.int (4 : Int32)), .val (.ref g), .val (.int (2 : Int32)), .val (.int (((((((if x0 < x2 then (1 : Int32) else (0 : Int32)) + (if x1 < x2 then (1 : Int32) else (0 : Int32))) + (if x2 < x2 then (1 : Int32) else (0 : Int32))) + (if x3 < x2 then (1 : Int32) else (0 : Int32))) + (0 : Int32)) + (0 : Int32)) + (((((if x0 = x2 then (1 : Int32) else (0 : Int32)) + (if x1 = x2 then (1 : Int32) else (0 : Int32))) + (0 : Int32)) + (0 : Int32)) + (0 : Int32))))]) W6 d_m6_24 rfl ?_
  refine g_iload (pc := 26) W6 d_m6_26 rfl ?_
  refine g_aload_n (pc := 28) W6 d_m6_28 rfl rfl ?_
  refine g_arraylength (pc := 29) (i := 1) (4 : Int32) W6 rfl hlen d_m6_29 ?_
  refine g_icmpN (pc := 30) W6 d_m6_30 (tlt hlt).2.1 ?_
  refine g_aload_n (pc := 33) W6 d_m6_33 rfl rfl ?_
  refine g_iload (pc := 34) W6 d_m6_34 rfl ?_
  refine g_iaload (pc := 36) (i := 1) (v := .int x3) W6 rfl hnn hget d_m6_36 ?_
  refine g_aload_n (pc := 37) W6 d_m6_37 rfl rfl ?_
  refine g_iload_n (pc := 38) W6 d_m6_38 rfl ?_
  refine g_iconst (pc := 39) (1 : Int32) (by decide) W6 d_m6_39 ?_
  refine g_ixor (pc := 40) W6 d_m6_40 ?_
  show Go p_ e_ bl_ _ (T4.setTop (mkF m_ 41 _ [.int (3 : Int32), .ref a, .int x3]))
  refine g_iaload (pc := 41) (i := 0) (v := .int x3) W6 rfl (by decide) rfl d_m6_41 ?_
  refine g_icmpN (pc := 42) W6 d_m6_42 (by first | exact (teq rfl).1 | exact (teq rfl).2 | exact (flt (by simp)).1 | exact (flt (by simp)).2.1 | exact (flt (by simp)).2.2.1 | exact (flt (by simp)).2.2.2) ?_
  refine g_iconst (pc := 45) (1 : Int32) (by decide) W6 d_m6_45 ?_
  refine g_goto 50 (pc := 46) W6 d_m6_46 (by decide) (by decide) ?_
  exact g_zreturn (pc := 50) rfl (by decide) W6 d_m6_50 (by decide) (by decide) ⟨rfl, rfl⟩
theorem c_slot43 (l : Launch) (Z : State) (a0 : Array Value) (hw : ∀ d ∈ tables_1, d.before a0 Z = true) {B : Nat} (a g : Addr) (x0 x1 x2 x3 x4 x5 : Int32) (gs : List Value) (hlen : gs.length.toInt32 = (4 : Int32)) (hlt : (((((((if x0 < x3 then (1 : Int32) else (0 : Int32)) + (if x1 < x3 then (1 : Int32) else (0 : Int32))) + (if x2 < x3 then (1 : Int32) else (0 : Int32))) + (if x3 < x3 then (1 : Int32) else (0 : Int32))) + (0 : Int32)) + (0 : Int32)) + (((((if x0 = x3 then (1 : Int32) else (0 : Int32)) + (if x1 = x3 then (1 : Int32) else (0 : Int32))) + (if x2 = x3 then (1 : Int32) else (0 : Int32))) + (0 : Int32)) + (0 : Int32))) < (4 : Int32)) (hnn : ¬ (((((((if x0 < x3 then (1 : Int32) else (0 : Int32)) + (if x1 < x3 then (1 : Int32) else (0 : Int32))) + (if x2 < x3 then (1 : Int32) else (0 : Int32))) + (if x3 < x3 then (1 : Int32) else (0 : Int32))) + (0 : Int32)) + (0 : Int32)) + (((((if x0 = x3 then (1 : Int32) else (0 : Int32)) + (if x1 = x3 then (1 : Int32) else (0 : Int32))) + (if x2 = x3 then (1 : Int32) else (0 : Int32))) + (0 : Int32)) + (0 : Int32))) < 0) (hget : gs[((((((((if x0 < x3 then (1 : Int32) else (0 : Int32)) + (if x1 < x3 then (1 : Int32) else (0 : Int32))) + (if x2 < x3 then (1 : Int32) else (0 : Int32))) + (if x3 < x3 then (1 : Int32) else (0 : Int32))) + (0 : Int32)) + (0 : Int32)) + (((((if x0 = x3 then (1 : Int32) else (0 : Int32)) + (if x1 = x3 then (1 : Int32) else (0 : Int32))) + (if x2 = x3 then (1 : Int32) else (0 : Int32))) + (0 : Int32)) + (0 : Int32)))).toNatClampNeg]? = some (.int x2)) :
    Con l Z FM B (⟨"com/example/metanode/metanode/graph/IntPairsPartnersPinLaw", "slot", "([II[II)Z"⟩ : MethodName) method_6_code 5 (some .boolean) ({ frames := 2, cells := 0, slots := 0, locals := 30 } : Room) [] #[.ref a, .int (4 : Int32), .ref g, .int (3 : Int32)] [(a, (.array .int), [.int x0, .int x1, .int x2, .int x3, .int x4, .int x5]), (g, (.array .int), gs)] (fun rv_ ro_ => rv_ = some (.int (1 : Int32)) ∧ ro_ = [(a, (.array .int), [.int x0, .int x1, .int x2, .int x3, .int x4, .int x5]), (g, (.array .int), gs)]) := by
  refine Con.of (plainFor_of_name (by first | (simp [plainName, overriddenIn]; done) | decide +kernel)) (ls := #[.val (.ref a), .val (.int (4 : Int32)), .val (.ref g), .val (.int (3 : Int32)), .unset]) (fun m => by first | (simp [entryFrame, mkF, argsToLocals, Value.category]; done) | rfl) ?_
  intro p_ e_ h_ s_ m_ bl_ me_ c_ T0 W0
  refine g_iload_n (pc := 0) W0 d_m6_0 rfl ?_
  refine g_iload_n (pc := 1) W0 d_m6_1 rfl ?_
  refine g_icmpY 7 (pc := 2) W0 d_m6_2 (by decide) (by decide) (by decide) ?_
  refine g_aload_n (pc := 7) W0 d_m6_7 rfl rfl ?_
  refine g_iload_n (pc := 8) W0 d_m6_8 rfl ?_
  refine g_aload_n (pc := 9) W0 d_m6_9 rfl rfl ?_
  refine g_iload_n (pc := 10) W0 d_m6_10 rfl ?_
  refine g_iaload (pc := 11) (i := 0) (v := .int x3) W0 rfl (by decide) rfl d_m6_11 ?_
  refine g_static (pc := 12) (Wt := 0) (argsL := [.ref a, .int (4 : Int32), .int x3]) (rest := []) (loc := [(a, (.array .int), [.int x0, .int x1, .int x2, .int x3, .int x4, .int x5])]) (rst := [(g, (.array .int), gs)]) W0 (wd hw 46 rfl) (wd hw 47 rfl) (wd hw 48 rfl) (wd hw 49 rfl) (by decide) (c_below4 l Z a0 hw a x3 x0 x1 x2 x3 x4 x5) ⟨[0, 1], by decide, rfl⟩ rfl pd_AIII__I rfl rfl rfl (Nat.le_of_ble_eq_true rfl) (by decide) (by decide) (by decide) (by decide) d_m6_12 ?_
  rintro T1 _ _ ⟨rfl, rfl⟩ W2
  have W3 := W2.re (os' := [(a, (.array .int), [.int x0, .int x1, .int x2, .int x3, .int x4, .int x5]), (g, (.array .int), gs)]) rfl
  show Go p_ e_ bl_ _ (T1.setTop (mkF m_ 15 _ [.int ((((((if x0 < x3 then (1 : Int32) else (0 : Int32)) + (if x1 < x3 then (1 : Int32) else (0 : Int32))) + (if x2 < x3 then (1 : Int32) else (0 : Int32))) + (if x3 < x3 then (1 : Int32) else (0 : Int32))) + (0 : Int32)) + (0 : Int32))]))
  refine g_aload_n (pc := 15) W3 d_m6_15 rfl rfl ?_
  refine g_iload_n (pc := 16) W3 d_m6_16 rfl ?_
  refine g_aload_n (pc := 17) W3 d_m6_17 rfl rfl ?_
  refine g_iload_n (pc := 18) W3 d_m6_18 rfl ?_
  refine g_iaload (pc := 19) (i := 0) (v := .int x3) W3 rfl (by decide) rfl d_m6_19 ?_
  refine g_static (pc := 20) (Wt := 1) (argsL := [.ref a, .int (3 : Int32), .int x3]) (rest := [.int ((((((if x0 < x3 then (1 : Int32) else (0 : Int32)) + (if x1 < x3 then (1 : Int32) else (0 : Int32))) + (if x2 < x3 then (1 : Int32) else (0 : Int32))) + (if x3 < x3 then (1 : Int32) else (0 : Int32))) + (0 : Int32)) + (0 : Int32))]) (loc := [(a, (.array .int), [.int x0, .int x1, .int x2, .int x3, .int x4, .int x5])]) (rst := [(g, (.array .int), gs)]) W3 (wd hw 56 rfl) (wd hw 57 rfl) (wd hw 48 rfl) (wd hw 58 rfl) (by decide) (c_eqb3 l Z a0 hw a x3 x0 x1 x2 x3 x4 x5) ⟨[0, 1], by decide, rfl⟩ rfl pd_AIII__I rfl rfl rfl (Nat.le_of_ble_eq_true rfl) (by decide) (by decide) (by decide) (by decide) d_m6_20 ?_
  rintro T4 _ _ ⟨rfl, rfl⟩ W5
  have W6 := W5.re (os' := [(a, (.array .int), [.int x0, .int x1, .int x2, .int x3, .int x4, .int x5]), (g, (.array .int), gs)]) rfl
  show Go p_ e_ bl_ _ (T4.setTop (mkF m_ 23 _ [.int (((((if x0 = x3 then (1 : Int32) else (0 : Int32)) + (if x1 = x3 then (1 : Int32) else (0 : Int32))) + (if x2 = x3 then (1 : Int32) else (0 : Int32))) + (0 : Int32)) + (0 : Int32)), .int ((((((if x0 < x3 then (1 : Int32) else (0 : Int32)) + (if x1 < x3 then (1 : Int32) else (0 : Int32))) + (if x2 < x3 then (1 : Int32) else (0 : Int32))) + (if x3 < x3 then (1 : Int32) else (0 : Int32))) + (0 : Int32)) + (0 : Int32))]))
  refine g_iadd (pc := 23) W6 d_m6_23 ?_
  refine g_istore (pc := 24) (ls' := #[.val (.ref a), .val (.int (4 : Int32)), .val (.ref g), .val (.int (3 : Int32)), .val (.int (((((((if x0 < x3 then (1 : Int32) else (0 : Int32)) + (if x1 < x3 then (1 : Int32) else (0 : Int32))) + (if x2 < x3 then (1 : Int32) else (0 : Int32))) + (if x3 < x3 then (1 : Int32) else (0 : Int32))) + (0 : Int32)) + (0 : Int32)) + (((((if x0 = x3 then (1 : Int32) else (0 : Int32)) + (if x1 = x3 then (1 : Int32) else (0 : Int32))) + (if x2 = x3 then (1 : Int32) else (0 : Int32))) + (0 : Int32)) + (0 : Int32))))]) W6 d_m6_24 rfl ?_
  refine g_iload (pc := 26) W6 d_m6_26 rfl ?_
  refine g_aload_n (pc := 28) W6 d_m6_28 rfl rfl ?_
  refine g_arraylength (pc := 29) (i := 1) (4 : Int32) W6 rfl hlen d_m6_29 ?_
  refine g_icmpN (pc := 30) W6 d_m6_30 (tlt hlt).2.1 ?_
  refine g_aload_n (pc := 33) W6 d_m6_33 rfl rfl ?_
  refine g_iload (pc := 34) W6 d_m6_34 rfl ?_
  refine g_iaload (pc := 36) (i := 1) (v := .int x2) W6 rfl hnn hget d_m6_36 ?_
  refine g_aload_n (pc := 37) W6 d_m6_37 rfl rfl ?_
  refine g_iload_n (pc := 38) W6 d_m6_38 rfl ?_
  refine g_iconst (pc := 39) (1 : Int32) (by decide) W6 d_m6_39 ?_
  refine g_ixor (pc := 40) W6 d_m6_40 ?_
  show Go p_ e_ bl_ _ (T4.setTop (mkF m_ 41 _ [.int (2 : Int32), .ref a, .int x2]))
  refine g_iaload (pc := 41) (i := 0) (v := .int x2) W6 rfl (by decide) rfl d_m6_41 ?_
  refine g_icmpN (pc := 42) W6 d_m6_42 (by first | exact (teq rfl).1 | exact (teq rfl).2 | exact (flt (by simp)).1 | exact (flt (by simp)).2.1 | exact (flt (by simp)).2.2.1 | exact (flt (by simp)).2.2.2) ?_
  refine g_iconst (pc := 45) (1 : Int32) (by decide) W6 d_m6_45 ?_
  refine g_goto 50 (pc := 46) W6 d_m6_46 (by decide) (by decide) ?_
  exact g_zreturn (pc := 50) rfl (by decide) W6 d_m6_50 (by decide) (by decide) ⟨rfl, rfl⟩
theorem c_slot44 (l : Launch) (Z : State) (a0 : Array Value) (hw : ∀ d ∈ tables_1, d.before a0 Z = true) {B : Nat} (a g : Addr) (x0 x1 x2 x3 x4 x5 : Int32) (gs : List Value) :
    Con l Z FM B (⟨"com/example/metanode/metanode/graph/IntPairsPartnersPinLaw", "slot", "([II[II)Z"⟩ : MethodName) method_6_code 5 (some .boolean) ({ frames := 0, cells := 0, slots := 0, locals := 0 } : Room) [] #[.ref a, .int (4 : Int32), .ref g, .int (4 : Int32)] [(a, (.array .int), [.int x0, .int x1, .int x2, .int x3, .int x4, .int x5]), (g, (.array .int), gs)] (fun rv_ ro_ => rv_ = some (.int (1 : Int32)) ∧ ro_ = [(a, (.array .int), [.int x0, .int x1, .int x2, .int x3, .int x4, .int x5]), (g, (.array .int), gs)]) := by
  refine Con.of (plainFor_of_name (by first | (simp [plainName, overriddenIn]; done) | decide +kernel)) (ls := #[.val (.ref a), .val (.int (4 : Int32)), .val (.ref g), .val (.int (4 : Int32)), .unset]) (fun m => by first | (simp [entryFrame, mkF, argsToLocals, Value.category]; done) | rfl) ?_
  intro p_ e_ h_ s_ m_ bl_ me_ c_ T0 W0
  refine g_iload_n (pc := 0) W0 d_m6_0 rfl ?_
  refine g_iload_n (pc := 1) W0 d_m6_1 rfl ?_
  refine g_icmpN (pc := 2) W0 d_m6_2 (by decide) ?_
  refine g_iconst (pc := 5) (1 : Int32) (by decide) W0 d_m6_5 ?_
  exact g_zreturn (pc := 6) rfl (by decide) W0 d_m6_6 (by decide) (by decide) ⟨rfl, rfl⟩
theorem c_slot45 (l : Launch) (Z : State) (a0 : Array Value) (hw : ∀ d ∈ tables_1, d.before a0 Z = true) {B : Nat} (a g : Addr) (x0 x1 x2 x3 x4 x5 : Int32) (gs : List Value) :
    Con l Z FM B (⟨"com/example/metanode/metanode/graph/IntPairsPartnersPinLaw", "slot", "([II[II)Z"⟩ : MethodName) method_6_code 5 (some .boolean) ({ frames := 0, cells := 0, slots := 0, locals := 0 } : Room) [] #[.ref a, .int (4 : Int32), .ref g, .int (5 : Int32)] [(a, (.array .int), [.int x0, .int x1, .int x2, .int x3, .int x4, .int x5]), (g, (.array .int), gs)] (fun rv_ ro_ => rv_ = some (.int (1 : Int32)) ∧ ro_ = [(a, (.array .int), [.int x0, .int x1, .int x2, .int x3, .int x4, .int x5]), (g, (.array .int), gs)]) := by
  refine Con.of (plainFor_of_name (by first | (simp [plainName, overriddenIn]; done) | decide +kernel)) (ls := #[.val (.ref a), .val (.int (4 : Int32)), .val (.ref g), .val (.int (5 : Int32)), .unset]) (fun m => by first | (simp [entryFrame, mkF, argsToLocals, Value.category]; done) | rfl) ?_
  intro p_ e_ h_ s_ m_ bl_ me_ c_ T0 W0
  refine g_iload_n (pc := 0) W0 d_m6_0 rfl ?_
  refine g_iload_n (pc := 1) W0 d_m6_1 rfl ?_
  refine g_icmpN (pc := 2) W0 d_m6_2 (by decide) ?_
  refine g_iconst (pc := 5) (1 : Int32) (by decide) W0 d_m6_5 ?_
  exact g_zreturn (pc := 6) rfl (by decide) W0 d_m6_6 (by decide) (by decide) ⟨rfl, rfl⟩
theorem c_slot60 (l : Launch) (Z : State) (a0 : Array Value) (hw : ∀ d ∈ tables_1, d.before a0 Z = true) {B : Nat} (a g : Addr) (x0 x1 x2 x3 x4 x5 : Int32) (gs : List Value) (hlen : gs.length.toInt32 = (6 : Int32)) (hlt : (((((((if x0 < x0 then (1 : Int32) else (0 : Int32)) + (if x1 < x0 then (1 : Int32) else (0 : Int32))) + (if x2 < x0 then (1 : Int32) else (0 : Int32))) + (if x3 < x0 then (1 : Int32) else (0 : Int32))) + (if x4 < x0 then (1 : Int32) else (0 : Int32))) + (if x5 < x0 then (1 : Int32) else (0 : Int32))) + (0 : Int32)) < (6 : Int32)) (hnn : ¬ (((((((if x0 < x0 then (1 : Int32) else (0 : Int32)) + (if x1 < x0 then (1 : Int32) else (0 : Int32))) + (if x2 < x0 then (1 : Int32) else (0 : Int32))) + (if x3 < x0 then (1 : Int32) else (0 : Int32))) + (if x4 < x0 then (1 : Int32) else (0 : Int32))) + (if x5 < x0 then (1 : Int32) else (0 : Int32))) + (0 : Int32)) < 0) (hget : gs[((((((((if x0 < x0 then (1 : Int32) else (0 : Int32)) + (if x1 < x0 then (1 : Int32) else (0 : Int32))) + (if x2 < x0 then (1 : Int32) else (0 : Int32))) + (if x3 < x0 then (1 : Int32) else (0 : Int32))) + (if x4 < x0 then (1 : Int32) else (0 : Int32))) + (if x5 < x0 then (1 : Int32) else (0 : Int32))) + (0 : Int32))).toNatClampNeg]? = some (.int x1)) :
    Con l Z FM B (⟨"com/example/metanode/metanode/graph/IntPairsPartnersPinLaw", "slot", "([II[II)Z"⟩ : MethodName) method_6_code 5 (some .boolean) ({ frames := 2, cells := 0, slots := 0, locals := 30 } : Room) [] #[.ref a, .int (6 : Int32), .ref g, .int (0 : Int32)] [(a, (.array .int), [.int x0, .int x1, .int x2, .int x3, .int x4, .int x5]), (g, (.array .int), gs)] (fun rv_ ro_ => rv_ = some (.int (1 : Int32)) ∧ ro_ = [(a, (.array .int), [.int x0, .int x1, .int x2, .int x3, .int x4, .int x5]), (g, (.array .int), gs)]) := by
  refine Con.of (plainFor_of_name (by first | (simp [plainName, overriddenIn]; done) | decide +kernel)) (ls := #[.val (.ref a), .val (.int (6 : Int32)), .val (.ref g), .val (.int (0 : Int32)), .unset]) (fun m => by first | (simp [entryFrame, mkF, argsToLocals, Value.category]; done) | rfl) ?_
  intro p_ e_ h_ s_ m_ bl_ me_ c_ T0 W0
  refine g_iload_n (pc := 0) W0 d_m6_0 rfl ?_
  refine g_iload_n (pc := 1) W0 d_m6_1 rfl ?_
  refine g_icmpY 7 (pc := 2) W0 d_m6_2 (by decide) (by decide) (by decide) ?_
  refine g_aload_n (pc := 7) W0 d_m6_7 rfl rfl ?_
  refine g_iload_n (pc := 8) W0 d_m6_8 rfl ?_
  refine g_aload_n (pc := 9) W0 d_m6_9 rfl rfl ?_
  refine g_iload_n (pc := 10) W0 d_m6_10 rfl ?_
  refine g_iaload (pc := 11) (i := 0) (v := .int x0) W0 rfl (by decide) rfl d_m6_11 ?_
  refine g_static (pc := 12) (Wt := 0) (argsL := [.ref a, .int (6 : Int32), .int x0]) (rest := []) (loc := [(a, (.array .int), [.int x0, .int x1, .int x2, .int x3, .int x4, .int x5])]) (rst := [(g, (.array .int), gs)]) W0 (wd hw 46 rfl) (wd hw 47 rfl) (wd hw 48 rfl) (wd hw 49 rfl) (by decide) (c_below6 l Z a0 hw a x0 x0 x1 x2 x3 x4 x5) ⟨[0, 1], by decide, rfl⟩ rfl pd_AIII__I rfl rfl rfl (Nat.le_of_ble_eq_true rfl) (by decide) (by decide) (by decide) (by decide) d_m6_12 ?_
  rintro T1 _ _ ⟨rfl, rfl⟩ W2
  have W3 := W2.re (os' := [(a, (.array .int), [.int x0, .int x1, .int x2, .int x3, .int x4, .int x5]), (g, (.array .int), gs)]) rfl
  show Go p_ e_ bl_ _ (T1.setTop (mkF m_ 15 _ [.int ((((((if x0 < x0 then (1 : Int32) else (0 : Int32)) + (if x1 < x0 then (1 : Int32) else (0 : Int32))) + (if x2 < x0 then (1 : Int32) else (0 : Int32))) + (if x3 < x0 then (1 : Int32) else (0 : Int32))) + (if x4 < x0 then (1 : Int32) else (0 : Int32))) + (if x5 < x0 then (1 : Int32) else (0 : Int32)))]))
  refine g_aload_n (pc := 15) W3 d_m6_15 rfl rfl ?_
  refine g_iload_n (pc := 16) W3 d_m6_16 rfl ?_
  refine g_aload_n (pc := 17) W3 d_m6_17 rfl rfl ?_
  refine g_iload_n (pc := 18) W3 d_m6_18 rfl ?_
  refine g_iaload (pc := 19) (i := 0) (v := .int x0) W3 rfl (by decide) rfl d_m6_19 ?_
  refine g_static (pc := 20) (Wt := 1) (argsL := [.ref a, .int (0 : Int32), .int x0]) (rest := [.int ((((((if x0 < x0 then (1 : Int32) else (0 : Int32)) + (if x1 < x0 then (1 : Int32) else (0 : Int32))) + (if x2 < x0 then (1 : Int32) else (0 : Int32))) + (if x3 < x0 then (1 : Int32) else (0 : Int32))) + (if x4 < x0 then (1 : Int32) else (0 : Int32))) + (if x5 < x0 then (1 : Int32) else (0 : Int32)))]) (loc := [(a, (.array .int), [.int x0, .int x1, .int x2, .int x3, .int x4, .int x5])]) (rst := [(g, (.array .int), gs)]) W3 (wd hw 56 rfl) (wd hw 57 rfl) (wd hw 48 rfl) (wd hw 58 rfl) (by decide) (c_eqb0 l Z a0 hw a x0 x0 x1 x2 x3 x4 x5) ⟨[0, 1], by decide, rfl⟩ rfl pd_AIII__I rfl rfl rfl (Nat.le_of_ble_eq_true rfl) (by decide) (by decide) (by decide) (by decide) d_m6_20 ?_
  rintro T4 _ _ ⟨rfl, rfl⟩ W5
  have W6 := W5.re (os' := [(a, (.array .int), [.int x0, .int x1, .int x2, .int x3, .int x4, .int x5]), (g, (.array .int), gs)]) rfl
  show Go p_ e_ bl_ _ (T4.setTop (mkF m_ 23 _ [.int (0 : Int32), .int ((((((if x0 < x0 then (1 : Int32) else (0 : Int32)) + (if x1 < x0 then (1 : Int32) else (0 : Int32))) + (if x2 < x0 then (1 : Int32) else (0 : Int32))) + (if x3 < x0 then (1 : Int32) else (0 : Int32))) + (if x4 < x0 then (1 : Int32) else (0 : Int32))) + (if x5 < x0 then (1 : Int32) else (0 : Int32)))]))
  refine g_iadd (pc := 23) W6 d_m6_23 ?_
  refine g_istore (pc := 24) (ls' := #[.val (.ref a), .val (.int (6 : Int32)), .val (.ref g), .val (.int (0 : Int32)), .val (.int (((((((if x0 < x0 then (1 : Int32) else (0 : Int32)) + (if x1 < x0 then (1 : Int32) else (0 : Int32))) + (if x2 < x0 then (1 : Int32) else (0 : Int32))) + (if x3 < x0 then (1 : Int32) else (0 : Int32))) + (if x4 < x0 then (1 : Int32) else (0 : Int32))) + (if x5 < x0 then (1 : Int32) else (0 : Int32))) + (0 : Int32)))]) W6 d_m6_24 rfl ?_
  refine g_iload (pc := 26) W6 d_m6_26 rfl ?_
  refine g_aload_n (pc := 28) W6 d_m6_28 rfl rfl ?_
  refine g_arraylength (pc := 29) (i := 1) (6 : Int32) W6 rfl hlen d_m6_29 ?_
  refine g_icmpN (pc := 30) W6 d_m6_30 (tlt hlt).2.1 ?_
  refine g_aload_n (pc := 33) W6 d_m6_33 rfl rfl ?_
  refine g_iload (pc := 34) W6 d_m6_34 rfl ?_
  refine g_iaload (pc := 36) (i := 1) (v := .int x1) W6 rfl hnn hget d_m6_36 ?_
  refine g_aload_n (pc := 37) W6 d_m6_37 rfl rfl ?_
  refine g_iload_n (pc := 38) W6 d_m6_38 rfl ?_
  refine g_iconst (pc := 39) (1 : Int32) (by decide) W6 d_m6_39 ?_
  refine g_ixor (pc := 40) W6 d_m6_40 ?_
  show Go p_ e_ bl_ _ (T4.setTop (mkF m_ 41 _ [.int (1 : Int32), .ref a, .int x1]))
  refine g_iaload (pc := 41) (i := 0) (v := .int x1) W6 rfl (by decide) rfl d_m6_41 ?_
  refine g_icmpN (pc := 42) W6 d_m6_42 (by first | exact (teq rfl).1 | exact (teq rfl).2 | exact (flt (by simp)).1 | exact (flt (by simp)).2.1 | exact (flt (by simp)).2.2.1 | exact (flt (by simp)).2.2.2) ?_
  refine g_iconst (pc := 45) (1 : Int32) (by decide) W6 d_m6_45 ?_
  refine g_goto 50 (pc := 46) W6 d_m6_46 (by decide) (by decide) ?_
  exact g_zreturn (pc := 50) rfl (by decide) W6 d_m6_50 (by decide) (by decide) ⟨rfl, rfl⟩
theorem c_slot61 (l : Launch) (Z : State) (a0 : Array Value) (hw : ∀ d ∈ tables_1, d.before a0 Z = true) {B : Nat} (a g : Addr) (x0 x1 x2 x3 x4 x5 : Int32) (gs : List Value) (hlen : gs.length.toInt32 = (6 : Int32)) (hlt : (((((((if x0 < x1 then (1 : Int32) else (0 : Int32)) + (if x1 < x1 then (1 : Int32) else (0 : Int32))) + (if x2 < x1 then (1 : Int32) else (0 : Int32))) + (if x3 < x1 then (1 : Int32) else (0 : Int32))) + (if x4 < x1 then (1 : Int32) else (0 : Int32))) + (if x5 < x1 then (1 : Int32) else (0 : Int32))) + (((((if x0 = x1 then (1 : Int32) else (0 : Int32)) + (0 : Int32)) + (0 : Int32)) + (0 : Int32)) + (0 : Int32))) < (6 : Int32)) (hnn : ¬ (((((((if x0 < x1 then (1 : Int32) else (0 : Int32)) + (if x1 < x1 then (1 : Int32) else (0 : Int32))) + (if x2 < x1 then (1 : Int32) else (0 : Int32))) + (if x3 < x1 then (1 : Int32) else (0 : Int32))) + (if x4 < x1 then (1 : Int32) else (0 : Int32))) + (if x5 < x1 then (1 : Int32) else (0 : Int32))) + (((((if x0 = x1 then (1 : Int32) else (0 : Int32)) + (0 : Int32)) + (0 : Int32)) + (0 : Int32)) + (0 : Int32))) < 0) (hget : gs[((((((((if x0 < x1 then (1 : Int32) else (0 : Int32)) + (if x1 < x1 then (1 : Int32) else (0 : Int32))) + (if x2 < x1 then (1 : Int32) else (0 : Int32))) + (if x3 < x1 then (1 : Int32) else (0 : Int32))) + (if x4 < x1 then (1 : Int32) else (0 : Int32))) + (if x5 < x1 then (1 : Int32) else (0 : Int32))) + (((((if x0 = x1 then (1 : Int32) else (0 : Int32)) + (0 : Int32)) + (0 : Int32)) + (0 : Int32)) + (0 : Int32)))).toNatClampNeg]? = some (.int x0)) :
    Con l Z FM B (⟨"com/example/metanode/metanode/graph/IntPairsPartnersPinLaw", "slot", "([II[II)Z"⟩ : MethodName) method_6_code 5 (some .boolean) ({ frames := 2, cells := 0, slots := 0, locals := 30 } : Room) [] #[.ref a, .int (6 : Int32), .ref g, .int (1 : Int32)] [(a, (.array .int), [.int x0, .int x1, .int x2, .int x3, .int x4, .int x5]), (g, (.array .int), gs)] (fun rv_ ro_ => rv_ = some (.int (1 : Int32)) ∧ ro_ = [(a, (.array .int), [.int x0, .int x1, .int x2, .int x3, .int x4, .int x5]), (g, (.array .int), gs)]) := by
  refine Con.of (plainFor_of_name (by first | (simp [plainName, overriddenIn]; done) | decide +kernel)) (ls := #[.val (.ref a), .val (.int (6 : Int32)), .val (.ref g), .val (.int (1 : Int32)), .unset]) (fun m => by first | (simp [entryFrame, mkF, argsToLocals, Value.category]; done) | rfl) ?_
  intro p_ e_ h_ s_ m_ bl_ me_ c_ T0 W0
  refine g_iload_n (pc := 0) W0 d_m6_0 rfl ?_
  refine g_iload_n (pc := 1) W0 d_m6_1 rfl ?_
  refine g_icmpY 7 (pc := 2) W0 d_m6_2 (by decide) (by decide) (by decide) ?_
  refine g_aload_n (pc := 7) W0 d_m6_7 rfl rfl ?_
  refine g_iload_n (pc := 8) W0 d_m6_8 rfl ?_
  refine g_aload_n (pc := 9) W0 d_m6_9 rfl rfl ?_
  refine g_iload_n (pc := 10) W0 d_m6_10 rfl ?_
  refine g_iaload (pc := 11) (i := 0) (v := .int x1) W0 rfl (by decide) rfl d_m6_11 ?_
  refine g_static (pc := 12) (Wt := 0) (argsL := [.ref a, .int (6 : Int32), .int x1]) (rest := []) (loc := [(a, (.array .int), [.int x0, .int x1, .int x2, .int x3, .int x4, .int x5])]) (rst := [(g, (.array .int), gs)]) W0 (wd hw 46 rfl) (wd hw 47 rfl) (wd hw 48 rfl) (wd hw 49 rfl) (by decide) (c_below6 l Z a0 hw a x1 x0 x1 x2 x3 x4 x5) ⟨[0, 1], by decide, rfl⟩ rfl pd_AIII__I rfl rfl rfl (Nat.le_of_ble_eq_true rfl) (by decide) (by decide) (by decide) (by decide) d_m6_12 ?_
  rintro T1 _ _ ⟨rfl, rfl⟩ W2
  have W3 := W2.re (os' := [(a, (.array .int), [.int x0, .int x1, .int x2, .int x3, .int x4, .int x5]), (g, (.array .int), gs)]) rfl
  show Go p_ e_ bl_ _ (T1.setTop (mkF m_ 15 _ [.int ((((((if x0 < x1 then (1 : Int32) else (0 : Int32)) + (if x1 < x1 then (1 : Int32) else (0 : Int32))) + (if x2 < x1 then (1 : Int32) else (0 : Int32))) + (if x3 < x1 then (1 : Int32) else (0 : Int32))) + (if x4 < x1 then (1 : Int32) else (0 : Int32))) + (if x5 < x1 then (1 : Int32) else (0 : Int32)))]))
  refine g_aload_n (pc := 15) W3 d_m6_15 rfl rfl ?_
  refine g_iload_n (pc := 16) W3 d_m6_16 rfl ?_
  refine g_aload_n (pc := 17) W3 d_m6_17 rfl rfl ?_
  refine g_iload_n (pc := 18) W3 d_m6_18 rfl ?_
  refine g_iaload (pc := 19) (i := 0) (v := .int x1) W3 rfl (by decide) rfl d_m6_19 ?_
  refine g_static (pc := 20) (Wt := 1) (argsL := [.ref a, .int (1 : Int32), .int x1]) (rest := [.int ((((((if x0 < x1 then (1 : Int32) else (0 : Int32)) + (if x1 < x1 then (1 : Int32) else (0 : Int32))) + (if x2 < x1 then (1 : Int32) else (0 : Int32))) + (if x3 < x1 then (1 : Int32) else (0 : Int32))) + (if x4 < x1 then (1 : Int32) else (0 : Int32))) + (if x5 < x1 then (1 : Int32) else (0 : Int32)))]) (loc := [(a, (.array .int), [.int x0, .int x1, .int x2, .int x3, .int x4, .int x5])]) (rst := [(g, (.array .int), gs)]) W3 (wd hw 56 rfl) (wd hw 57 rfl) (wd hw 48 rfl) (wd hw 58 rfl) (by decide) (c_eqb1 l Z a0 hw a x1 x0 x1 x2 x3 x4 x5) ⟨[0, 1], by decide, rfl⟩ rfl pd_AIII__I rfl rfl rfl (Nat.le_of_ble_eq_true rfl) (by decide) (by decide) (by decide) (by decide) d_m6_20 ?_
  rintro T4 _ _ ⟨rfl, rfl⟩ W5
  have W6 := W5.re (os' := [(a, (.array .int), [.int x0, .int x1, .int x2, .int x3, .int x4, .int x5]), (g, (.array .int), gs)]) rfl
  show Go p_ e_ bl_ _ (T4.setTop (mkF m_ 23 _ [.int (((((if x0 = x1 then (1 : Int32) else (0 : Int32)) + (0 : Int32)) + (0 : Int32)) + (0 : Int32)) + (0 : Int32)), .int ((((((if x0 < x1 then (1 : Int32) else (0 : Int32)) + (if x1 < x1 then (1 : Int32) else (0 : Int32))) + (if x2 < x1 then (1 : Int32) else (0 : Int32))) + (if x3 < x1 then (1 : Int32) else (0 : Int32))) + (if x4 < x1 then (1 : Int32) else (0 : Int32))) + (if x5 < x1 then (1 : Int32) else (0 : Int32)))]))
  refine g_iadd (pc := 23) W6 d_m6_23 ?_
  refine g_istore (pc := 24) (ls' := #[.val (.ref a), .val (.int (6 : Int32)), .val (.ref g), .val (.int (1 : Int32)), .val (.int (((((((if x0 < x1 then (1 : Int32) else (0 : Int32)) + (if x1 < x1 then (1 : Int32) else (0 : Int32))) + (if x2 < x1 then (1 : Int32) else (0 : Int32))) + (if x3 < x1 then (1 : Int32) else (0 : Int32))) + (if x4 < x1 then (1 : Int32) else (0 : Int32))) + (if x5 < x1 then (1 : Int32) else (0 : Int32))) + (((((if x0 = x1 then (1 : Int32) else (0 : Int32)) + (0 : Int32)) + (0 : Int32)) + (0 : Int32)) + (0 : Int32))))]) W6 d_m6_24 rfl ?_
  refine g_iload (pc := 26) W6 d_m6_26 rfl ?_
  refine g_aload_n (pc := 28) W6 d_m6_28 rfl rfl ?_
  refine g_arraylength (pc := 29) (i := 1) (6 : Int32) W6 rfl hlen d_m6_29 ?_
  refine g_icmpN (pc := 30) W6 d_m6_30 (tlt hlt).2.1 ?_
  refine g_aload_n (pc := 33) W6 d_m6_33 rfl rfl ?_
  refine g_iload (pc := 34) W6 d_m6_34 rfl ?_
  refine g_iaload (pc := 36) (i := 1) (v := .int x0) W6 rfl hnn hget d_m6_36 ?_
  refine g_aload_n (pc := 37) W6 d_m6_37 rfl rfl ?_
  refine g_iload_n (pc := 38) W6 d_m6_38 rfl ?_
  refine g_iconst (pc := 39) (1 : Int32) (by decide) W6 d_m6_39 ?_
  refine g_ixor (pc := 40) W6 d_m6_40 ?_
  show Go p_ e_ bl_ _ (T4.setTop (mkF m_ 41 _ [.int (0 : Int32), .ref a, .int x0]))
  refine g_iaload (pc := 41) (i := 0) (v := .int x0) W6 rfl (by decide) rfl d_m6_41 ?_
  refine g_icmpN (pc := 42) W6 d_m6_42 (by first | exact (teq rfl).1 | exact (teq rfl).2 | exact (flt (by simp)).1 | exact (flt (by simp)).2.1 | exact (flt (by simp)).2.2.1 | exact (flt (by simp)).2.2.2) ?_
  refine g_iconst (pc := 45) (1 : Int32) (by decide) W6 d_m6_45 ?_
  refine g_goto 50 (pc := 46) W6 d_m6_46 (by decide) (by decide) ?_
  exact g_zreturn (pc := 50) rfl (by decide) W6 d_m6_50 (by decide) (by decide) ⟨rfl, rfl⟩
theorem c_slot62 (l : Launch) (Z : State) (a0 : Array Value) (hw : ∀ d ∈ tables_1, d.before a0 Z = true) {B : Nat} (a g : Addr) (x0 x1 x2 x3 x4 x5 : Int32) (gs : List Value) (hlen : gs.length.toInt32 = (6 : Int32)) (hlt : (((((((if x0 < x2 then (1 : Int32) else (0 : Int32)) + (if x1 < x2 then (1 : Int32) else (0 : Int32))) + (if x2 < x2 then (1 : Int32) else (0 : Int32))) + (if x3 < x2 then (1 : Int32) else (0 : Int32))) + (if x4 < x2 then (1 : Int32) else (0 : Int32))) + (if x5 < x2 then (1 : Int32) else (0 : Int32))) + (((((if x0 = x2 then (1 : Int32) else (0 : Int32)) + (if x1 = x2 then (1 : Int32) else (0 : Int32))) + (0 : Int32)) + (0 : Int32)) + (0 : Int32))) < (6 : Int32)) (hnn : ¬ (((((((if x0 < x2 then (1 : Int32) else (0 : Int32)) + (if x1 < x2 then (1 : Int32) else (0 : Int32))) + (if x2 < x2 then (1 : Int32) else (0 : Int32))) + (if x3 < x2 then (1 : Int32) else (0 : Int32))) + (if x4 < x2 then (1 : Int32) else (0 : Int32))) + (if x5 < x2 then (1 : Int32) else (0 : Int32))) + (((((if x0 = x2 then (1 : Int32) else (0 : Int32)) + (if x1 = x2 then (1 : Int32) else (0 : Int32))) + (0 : Int32)) + (0 : Int32)) + (0 : Int32))) < 0) (hget : gs[((((((((if x0 < x2 then (1 : Int32) else (0 : Int32)) + (if x1 < x2 then (1 : Int32) else (0 : Int32))) + (if x2 < x2 then (1 : Int32) else (0 : Int32))) + (if x3 < x2 then (1 : Int32) else (0 : Int32))) + (if x4 < x2 then (1 : Int32) else (0 : Int32))) + (if x5 < x2 then (1 : Int32) else (0 : Int32))) + (((((if x0 = x2 then (1 : Int32) else (0 : Int32)) + (if x1 = x2 then (1 : Int32) else (0 : Int32))) + (0 : Int32)) + (0 : Int32)) + (0 : Int32)))).toNatClampNeg]? = some (.int x3)) :
    Con l Z FM B (⟨"com/example/metanode/metanode/graph/IntPairsPartnersPinLaw", "slot", "([II[II)Z"⟩ : MethodName) method_6_code 5 (some .boolean) ({ frames := 2, cells := 0, slots := 0, locals := 30 } : Room) [] #[.ref a, .int (6 : Int32), .ref g, .int (2 : Int32)] [(a, (.array .int), [.int x0, .int x1, .int x2, .int x3, .int x4, .int x5]), (g, (.array .int), gs)] (fun rv_ ro_ => rv_ = some (.int (1 : Int32)) ∧ ro_ = [(a, (.array .int), [.int x0, .int x1, .int x2, .int x3, .int x4, .int x5]), (g, (.array .int), gs)]) := by
  refine Con.of (plainFor_of_name (by first | (simp [plainName, overriddenIn]; done) | decide +kernel)) (ls := #[.val (.ref a), .val (.int (6 : Int32)), .val (.ref g), .val (.int (2 : Int32)), .unset]) (fun m => by first | (simp [entryFrame, mkF, argsToLocals, Value.category]; done) | rfl) ?_
  intro p_ e_ h_ s_ m_ bl_ me_ c_ T0 W0
  refine g_iload_n (pc := 0) W0 d_m6_0 rfl ?_
  refine g_iload_n (pc := 1) W0 d_m6_1 rfl ?_
  refine g_icmpY 7 (pc := 2) W0 d_m6_2 (by decide) (by decide) (by decide) ?_
  refine g_aload_n (pc := 7) W0 d_m6_7 rfl rfl ?_
  refine g_iload_n (pc := 8) W0 d_m6_8 rfl ?_
  refine g_aload_n (pc := 9) W0 d_m6_9 rfl rfl ?_
  refine g_iload_n (pc := 10) W0 d_m6_10 rfl ?_
  refine g_iaload (pc := 11) (i := 0) (v := .int x2) W0 rfl (by decide) rfl d_m6_11 ?_
  refine g_static (pc := 12) (Wt := 0) (argsL := [.ref a, .int (6 : Int32), .int x2]) (rest := []) (loc := [(a, (.array .int), [.int x0, .int x1, .int x2, .int x3, .int x4, .int x5])]) (rst := [(g, (.array .int), gs)]) W0 (wd hw 46 rfl) (wd hw 47 rfl) (wd hw 48 rfl) (wd hw 49 rfl) (by decide) (c_below6 l Z a0 hw a x2 x0 x1 x2 x3 x4 x5) ⟨[0, 1], by decide, rfl⟩ rfl pd_AIII__I rfl rfl rfl (Nat.le_of_ble_eq_true rfl) (by decide) (by decide) (by decide) (by decide) d_m6_12 ?_
  rintro T1 _ _ ⟨rfl, rfl⟩ W2
  have W3 := W2.re (os' := [(a, (.array .int), [.int x0, .int x1, .int x2, .int x3, .int x4, .int x5]), (g, (.array .int), gs)]) rfl
  show Go p_ e_ bl_ _ (T1.setTop (mkF m_ 15 _ [.int ((((((if x0 < x2 then (1 : Int32) else (0 : Int32)) + (if x1 < x2 then (1 : Int32) else (0 : Int32))) + (if x2 < x2 then (1 : Int32) else (0 : Int32))) + (if x3 < x2 then (1 : Int32) else (0 : Int32))) + (if x4 < x2 then (1 : Int32) else (0 : Int32))) + (if x5 < x2 then (1 : Int32) else (0 : Int32)))]))
  refine g_aload_n (pc := 15) W3 d_m6_15 rfl rfl ?_
  refine g_iload_n (pc := 16) W3 d_m6_16 rfl ?_
  refine g_aload_n (pc := 17) W3 d_m6_17 rfl rfl ?_
  refine g_iload_n (pc := 18) W3 d_m6_18 rfl ?_
  refine g_iaload (pc := 19) (i := 0) (v := .int x2) W3 rfl (by decide) rfl d_m6_19 ?_
  refine g_static (pc := 20) (Wt := 1) (argsL := [.ref a, .int (2 : Int32), .int x2]) (rest := [.int ((((((if x0 < x2 then (1 : Int32) else (0 : Int32)) + (if x1 < x2 then (1 : Int32) else (0 : Int32))) + (if x2 < x2 then (1 : Int32) else (0 : Int32))) + (if x3 < x2 then (1 : Int32) else (0 : Int32))) + (if x4 < x2 then (1 : Int32) else (0 : Int32))) + (if x5 < x2 then (1 : Int32) else (0 : Int32)))]) (loc := [(a, (.array .int), [.int x0, .int x1, .int x2, .int x3, .int x4, .int x5])]) (rst := [(g, (.array .int), gs)]) W3 (wd hw 56 rfl) (wd hw 57 rfl) (wd hw 48 rfl) (wd hw 58 rfl) (by decide) (c_eqb2 l Z a0 hw a x2 x0 x1 x2 x3 x4 x5) ⟨[0, 1], by decide, rfl⟩ rfl pd_AIII__I rfl rfl rfl (Nat.le_of_ble_eq_true rfl) (by decide) (by decide) (by decide) (by decide) d_m6_20 ?_
  rintro T4 _ _ ⟨rfl, rfl⟩ W5
  have W6 := W5.re (os' := [(a, (.array .int), [.int x0, .int x1, .int x2, .int x3, .int x4, .int x5]), (g, (.array .int), gs)]) rfl
  show Go p_ e_ bl_ _ (T4.setTop (mkF m_ 23 _ [.int (((((if x0 = x2 then (1 : Int32) else (0 : Int32)) + (if x1 = x2 then (1 : Int32) else (0 : Int32))) + (0 : Int32)) + (0 : Int32)) + (0 : Int32)), .int ((((((if x0 < x2 then (1 : Int32) else (0 : Int32)) + (if x1 < x2 then (1 : Int32) else (0 : Int32))) + (if x2 < x2 then (1 : Int32) else (0 : Int32))) + (if x3 < x2 then (1 : Int32) else (0 : Int32))) + (if x4 < x2 then (1 : Int32) else (0 : Int32))) + (if x5 < x2 then (1 : Int32) else (0 : Int32)))]))
  refine g_iadd (pc := 23) W6 d_m6_23 ?_
  refine g_istore (pc := 24) (ls' := #[.val (.ref a), .val (.int (6 : Int32)), .val (.ref g), .val (.int (2 : Int32)), .val (.int (((((((if x0 < x2 then (1 : Int32) else (0 : Int32)) + (if x1 < x2 then (1 : Int32) else (0 : Int32))) + (if x2 < x2 then (1 : Int32) else (0 : Int32))) + (if x3 < x2 then (1 : Int32) else (0 : Int32))) + (if x4 < x2 then (1 : Int32) else (0 : Int32))) + (if x5 < x2 then (1 : Int32) else (0 : Int32))) + (((((if x0 = x2 then (1 : Int32) else (0 : Int32)) + (if x1 = x2 then (1 : Int32) else (0 : Int32))) + (0 : Int32)) + (0 : Int32)) + (0 : Int32))))]) W6 d_m6_24 rfl ?_
  refine g_iload (pc := 26) W6 d_m6_26 rfl ?_
  refine g_aload_n (pc := 28) W6 d_m6_28 rfl rfl ?_
  refine g_arraylength (pc := 29) (i := 1) (6 : Int32) W6 rfl hlen d_m6_29 ?_
  refine g_icmpN (pc := 30) W6 d_m6_30 (tlt hlt).2.1 ?_
  refine g_aload_n (pc := 33) W6 d_m6_33 rfl rfl ?_
  refine g_iload (pc := 34) W6 d_m6_34 rfl ?_
  refine g_iaload (pc := 36) (i := 1) (v := .int x3) W6 rfl hnn hget d_m6_36 ?_
  refine g_aload_n (pc := 37) W6 d_m6_37 rfl rfl ?_
  refine g_iload_n (pc := 38) W6 d_m6_38 rfl ?_
  refine g_iconst (pc := 39) (1 : Int32) (by decide) W6 d_m6_39 ?_
  refine g_ixor (pc := 40) W6 d_m6_40 ?_
  show Go p_ e_ bl_ _ (T4.setTop (mkF m_ 41 _ [.int (3 : Int32), .ref a, .int x3]))
  refine g_iaload (pc := 41) (i := 0) (v := .int x3) W6 rfl (by decide) rfl d_m6_41 ?_
  refine g_icmpN (pc := 42) W6 d_m6_42 (by first | exact (teq rfl).1 | exact (teq rfl).2 | exact (flt (by simp)).1 | exact (flt (by simp)).2.1 | exact (flt (by simp)).2.2.1 | exact (flt (by simp)).2.2.2) ?_
  refine g_iconst (pc := 45) (1 : Int32) (by decide) W6 d_m6_45 ?_
  refine g_goto 50 (pc := 46) W6 d_m6_46 (by decide) (by decide) ?_
  exact g_zreturn (pc := 50) rfl (by decide) W6 d_m6_50 (by decide) (by decide) ⟨rfl, rfl⟩
theorem c_slot63 (l : Launch) (Z : State) (a0 : Array Value) (hw : ∀ d ∈ tables_1, d.before a0 Z = true) {B : Nat} (a g : Addr) (x0 x1 x2 x3 x4 x5 : Int32) (gs : List Value) (hlen : gs.length.toInt32 = (6 : Int32)) (hlt : (((((((if x0 < x3 then (1 : Int32) else (0 : Int32)) + (if x1 < x3 then (1 : Int32) else (0 : Int32))) + (if x2 < x3 then (1 : Int32) else (0 : Int32))) + (if x3 < x3 then (1 : Int32) else (0 : Int32))) + (if x4 < x3 then (1 : Int32) else (0 : Int32))) + (if x5 < x3 then (1 : Int32) else (0 : Int32))) + (((((if x0 = x3 then (1 : Int32) else (0 : Int32)) + (if x1 = x3 then (1 : Int32) else (0 : Int32))) + (if x2 = x3 then (1 : Int32) else (0 : Int32))) + (0 : Int32)) + (0 : Int32))) < (6 : Int32)) (hnn : ¬ (((((((if x0 < x3 then (1 : Int32) else (0 : Int32)) + (if x1 < x3 then (1 : Int32) else (0 : Int32))) + (if x2 < x3 then (1 : Int32) else (0 : Int32))) + (if x3 < x3 then (1 : Int32) else (0 : Int32))) + (if x4 < x3 then (1 : Int32) else (0 : Int32))) + (if x5 < x3 then (1 : Int32) else (0 : Int32))) + (((((if x0 = x3 then (1 : Int32) else (0 : Int32)) + (if x1 = x3 then (1 : Int32) else (0 : Int32))) + (if x2 = x3 then (1 : Int32) else (0 : Int32))) + (0 : Int32)) + (0 : Int32))) < 0) (hget : gs[((((((((if x0 < x3 then (1 : Int32) else (0 : Int32)) + (if x1 < x3 then (1 : Int32) else (0 : Int32))) + (if x2 < x3 then (1 : Int32) else (0 : Int32))) + (if x3 < x3 then (1 : Int32) else (0 : Int32))) + (if x4 < x3 then (1 : Int32) else (0 : Int32))) + (if x5 < x3 then (1 : Int32) else (0 : Int32))) + (((((if x0 = x3 then (1 : Int32) else (0 : Int32)) + (if x1 = x3 then (1 : Int32) else (0 : Int32))) + (if x2 = x3 then (1 : Int32) else (0 : Int32))) + (0 : Int32)) + (0 : Int32)))).toNatClampNeg]? = some (.int x2)) :
    Con l Z FM B (⟨"com/example/metanode/metanode/graph/IntPairsPartnersPinLaw", "slot", "([II[II)Z"⟩ : MethodName) method_6_code 5 (some .boolean) ({ frames := 2, cells := 0, slots := 0, locals := 30 } : Room) [] #[.ref a, .int (6 : Int32), .ref g, .int (3 : Int32)] [(a, (.array .int), [.int x0, .int x1, .int x2, .int x3, .int x4, .int x5]), (g, (.array .int), gs)] (fun rv_ ro_ => rv_ = some (.int (1 : Int32)) ∧ ro_ = [(a, (.array .int), [.int x0, .int x1, .int x2, .int x3, .int x4, .int x5]), (g, (.array .int), gs)]) := by
  refine Con.of (plainFor_of_name (by first | (simp [plainName, overriddenIn]; done) | decide +kernel)) (ls := #[.val (.ref a), .val (.int (6 : Int32)), .val (.ref g), .val (.int (3 : Int32)), .unset]) (fun m => by first | (simp [entryFrame, mkF, argsToLocals, Value.category]; done) | rfl) ?_
  intro p_ e_ h_ s_ m_ bl_ me_ c_ T0 W0
  refine g_iload_n (pc := 0) W0 d_m6_0 rfl ?_
  refine g_iload_n (pc := 1) W0 d_m6_1 rfl ?_
  refine g_icmpY 7 (pc := 2) W0 d_m6_2 (by decide) (by decide) (by decide) ?_
  refine g_aload_n (pc := 7) W0 d_m6_7 rfl rfl ?_
  refine g_iload_n (pc := 8) W0 d_m6_8 rfl ?_
  refine g_aload_n (pc := 9) W0 d_m6_9 rfl rfl ?_
  refine g_iload_n (pc := 10) W0 d_m6_10 rfl ?_
  refine g_iaload (pc := 11) (i := 0) (v := .int x3) W0 rfl (by decide) rfl d_m6_11 ?_
  refine g_static (pc := 12) (Wt := 0) (argsL := [.ref a, .int (6 : Int32), .int x3]) (rest := []) (loc := [(a, (.array .int), [.int x0, .int x1, .int x2, .int x3, .int x4, .int x5])]) (rst := [(g, (.array .int), gs)]) W0 (wd hw 46 rfl) (wd hw 47 rfl) (wd hw 48 rfl) (wd hw 49 rfl) (by decide) (c_below6 l Z a0 hw a x3 x0 x1 x2 x3 x4 x5) ⟨[0, 1], by decide, rfl⟩ rfl pd_AIII__I rfl rfl rfl (Nat.le_of_ble_eq_true rfl) (by decide) (by decide) (by decide) (by decide) d_m6_12 ?_
  rintro T1 _ _ ⟨rfl, rfl⟩ W2
  have W3 := W2.re (os' := [(a, (.array .int), [.int x0, .int x1, .int x2, .int x3, .int x4, .int x5]), (g, (.array .int), gs)]) rfl
  show Go p_ e_ bl_ _ (T1.setTop (mkF m_ 15 _ [.int ((((((if x0 < x3 then (1 : Int32) else (0 : Int32)) + (if x1 < x3 then (1 : Int32) else (0 : Int32))) + (if x2 < x3 then (1 : Int32) else (0 : Int32))) + (if x3 < x3 then (1 : Int32) else (0 : Int32))) + (if x4 < x3 then (1 : Int32) else (0 : Int32))) + (if x5 < x3 then (1 : Int32) else (0 : Int32)))]))
  refine g_aload_n (pc := 15) W3 d_m6_15 rfl rfl ?_
  refine g_iload_n (pc := 16) W3 d_m6_16 rfl ?_
  refine g_aload_n (pc := 17) W3 d_m6_17 rfl rfl ?_
  refine g_iload_n (pc := 18) W3 d_m6_18 rfl ?_
  refine g_iaload (pc := 19) (i := 0) (v := .int x3) W3 rfl (by decide) rfl d_m6_19 ?_
  refine g_static (pc := 20) (Wt := 1) (argsL := [.ref a, .int (3 : Int32), .int x3]) (rest := [.int ((((((if x0 < x3 then (1 : Int32) else (0 : Int32)) + (if x1 < x3 then (1 : Int32) else (0 : Int32))) + (if x2 < x3 then (1 : Int32) else (0 : Int32))) + (if x3 < x3 then (1 : Int32) else (0 : Int32))) + (if x4 < x3 then (1 : Int32) else (0 : Int32))) + (if x5 < x3 then (1 : Int32) else (0 : Int32)))]) (loc := [(a, (.array .int), [.int x0, .int x1, .int x2, .int x3, .int x4, .int x5])]) (rst := [(g, (.array .int), gs)]) W3 (wd hw 56 rfl) (wd hw 57 rfl) (wd hw 48 rfl) (wd hw 58 rfl) (by decide) (c_eqb3 l Z a0 hw a x3 x0 x1 x2 x3 x4 x5) ⟨[0, 1], by decide, rfl⟩ rfl pd_AIII__I rfl rfl rfl (Nat.le_of_ble_eq_true rfl) (by decide) (by decide) (by decide) (by decide) d_m6_20 ?_
  rintro T4 _ _ ⟨rfl, rfl⟩ W5
  have W6 := W5.re (os' := [(a, (.array .int), [.int x0, .int x1, .int x2, .int x3, .int x4, .int x5]), (g, (.array .int), gs)]) rfl
  show Go p_ e_ bl_ _ (T4.setTop (mkF m_ 23 _ [.int (((((if x0 = x3 then (1 : Int32) else (0 : Int32)) + (if x1 = x3 then (1 : Int32) else (0 : Int32))) + (if x2 = x3 then (1 : Int32) else (0 : Int32))) + (0 : Int32)) + (0 : Int32)), .int ((((((if x0 < x3 then (1 : Int32) else (0 : Int32)) + (if x1 < x3 then (1 : Int32) else (0 : Int32))) + (if x2 < x3 then (1 : Int32) else (0 : Int32))) + (if x3 < x3 then (1 : Int32) else (0 : Int32))) + (if x4 < x3 then (1 : Int32) else (0 : Int32))) + (if x5 < x3 then (1 : Int32) else (0 : Int32)))]))
  refine g_iadd (pc := 23) W6 d_m6_23 ?_
  refine g_istore (pc := 24) (ls' := #[.val (.ref a), .val (.int (6 : Int32)), .val (.ref g), .val (.int (3 : Int32)), .val (.int (((((((if x0 < x3 then (1 : Int32) else (0 : Int32)) + (if x1 < x3 then (1 : Int32) else (0 : Int32))) + (if x2 < x3 then (1 : Int32) else (0 : Int32))) + (if x3 < x3 then (1 : Int32) else (0 : Int32))) + (if x4 < x3 then (1 : Int32) else (0 : Int32))) + (if x5 < x3 then (1 : Int32) else (0 : Int32))) + (((((if x0 = x3 then (1 : Int32) else (0 : Int32)) + (if x1 = x3 then (1 : Int32) else (0 : Int32))) + (if x2 = x3 then (1 : Int32) else (0 : Int32))) + (0 : Int32)) + (0 : Int32))))]) W6 d_m6_24 rfl ?_
  refine g_iload (pc := 26) W6 d_m6_26 rfl ?_
  refine g_aload_n (pc := 28) W6 d_m6_28 rfl rfl ?_
  refine g_arraylength (pc := 29) (i := 1) (6 : Int32) W6 rfl hlen d_m6_29 ?_
  refine g_icmpN (pc := 30) W6 d_m6_30 (tlt hlt).2.1 ?_
  refine g_aload_n (pc := 33) W6 d_m6_33 rfl rfl ?_
  refine g_iload (pc := 34) W6 d_m6_34 rfl ?_
  refine g_iaload (pc := 36) (i := 1) (v := .int x2) W6 rfl hnn hget d_m6_36 ?_
  refine g_aload_n (pc := 37) W6 d_m6_37 rfl rfl ?_
  refine g_iload_n (pc := 38) W6 d_m6_38 rfl ?_
  refine g_iconst (pc := 39) (1 : Int32) (by decide) W6 d_m6_39 ?_
  refine g_ixor (pc := 40) W6 d_m6_40 ?_
  show Go p_ e_ bl_ _ (T4.setTop (mkF m_ 41 _ [.int (2 : Int32), .ref a, .int x2]))
  refine g_iaload (pc := 41) (i := 0) (v := .int x2) W6 rfl (by decide) rfl d_m6_41 ?_
  refine g_icmpN (pc := 42) W6 d_m6_42 (by first | exact (teq rfl).1 | exact (teq rfl).2 | exact (flt (by simp)).1 | exact (flt (by simp)).2.1 | exact (flt (by simp)).2.2.1 | exact (flt (by simp)).2.2.2) ?_
  refine g_iconst (pc := 45) (1 : Int32) (by decide) W6 d_m6_45 ?_
  refine g_goto 50 (pc := 46) W6 d_m6_46 (by decide) (by decide) ?_
  exact g_zreturn (pc := 50) rfl (by decide) W6 d_m6_50 (by decide) (by decide) ⟨rfl, rfl⟩
theorem c_slot64 (l : Launch) (Z : State) (a0 : Array Value) (hw : ∀ d ∈ tables_1, d.before a0 Z = true) {B : Nat} (a g : Addr) (x0 x1 x2 x3 x4 x5 : Int32) (gs : List Value) (hlen : gs.length.toInt32 = (6 : Int32)) (hlt : (((((((if x0 < x4 then (1 : Int32) else (0 : Int32)) + (if x1 < x4 then (1 : Int32) else (0 : Int32))) + (if x2 < x4 then (1 : Int32) else (0 : Int32))) + (if x3 < x4 then (1 : Int32) else (0 : Int32))) + (if x4 < x4 then (1 : Int32) else (0 : Int32))) + (if x5 < x4 then (1 : Int32) else (0 : Int32))) + (((((if x0 = x4 then (1 : Int32) else (0 : Int32)) + (if x1 = x4 then (1 : Int32) else (0 : Int32))) + (if x2 = x4 then (1 : Int32) else (0 : Int32))) + (if x3 = x4 then (1 : Int32) else (0 : Int32))) + (0 : Int32))) < (6 : Int32)) (hnn : ¬ (((((((if x0 < x4 then (1 : Int32) else (0 : Int32)) + (if x1 < x4 then (1 : Int32) else (0 : Int32))) + (if x2 < x4 then (1 : Int32) else (0 : Int32))) + (if x3 < x4 then (1 : Int32) else (0 : Int32))) + (if x4 < x4 then (1 : Int32) else (0 : Int32))) + (if x5 < x4 then (1 : Int32) else (0 : Int32))) + (((((if x0 = x4 then (1 : Int32) else (0 : Int32)) + (if x1 = x4 then (1 : Int32) else (0 : Int32))) + (if x2 = x4 then (1 : Int32) else (0 : Int32))) + (if x3 = x4 then (1 : Int32) else (0 : Int32))) + (0 : Int32))) < 0) (hget : gs[((((((((if x0 < x4 then (1 : Int32) else (0 : Int32)) + (if x1 < x4 then (1 : Int32) else (0 : Int32))) + (if x2 < x4 then (1 : Int32) else (0 : Int32))) + (if x3 < x4 then (1 : Int32) else (0 : Int32))) + (if x4 < x4 then (1 : Int32) else (0 : Int32))) + (if x5 < x4 then (1 : Int32) else (0 : Int32))) + (((((if x0 = x4 then (1 : Int32) else (0 : Int32)) + (if x1 = x4 then (1 : Int32) else (0 : Int32))) + (if x2 = x4 then (1 : Int32) else (0 : Int32))) + (if x3 = x4 then (1 : Int32) else (0 : Int32))) + (0 : Int32)))).toNatClampNeg]? = some (.int x5)) :
    Con l Z FM B (⟨"com/example/metanode/metanode/graph/IntPairsPartnersPinLaw", "slot", "([II[II)Z"⟩ : MethodName) method_6_code 5 (some .boolean) ({ frames := 2, cells := 0, slots := 0, locals := 30 } : Room) [] #[.ref a, .int (6 : Int32), .ref g, .int (4 : Int32)] [(a, (.array .int), [.int x0, .int x1, .int x2, .int x3, .int x4, .int x5]), (g, (.array .int), gs)] (fun rv_ ro_ => rv_ = some (.int (1 : Int32)) ∧ ro_ = [(a, (.array .int), [.int x0, .int x1, .int x2, .int x3, .int x4, .int x5]), (g, (.array .int), gs)]) := by
  refine Con.of (plainFor_of_name (by first | (simp [plainName, overriddenIn]; done) | decide +kernel)) (ls := #[.val (.ref a), .val (.int (6 : Int32)), .val (.ref g), .val (.int (4 : Int32)), .unset]) (fun m => by first | (simp [entryFrame, mkF, argsToLocals, Value.category]; done) | rfl) ?_
  intro p_ e_ h_ s_ m_ bl_ me_ c_ T0 W0
  refine g_iload_n (pc := 0) W0 d_m6_0 rfl ?_
  refine g_iload_n (pc := 1) W0 d_m6_1 rfl ?_
  refine g_icmpY 7 (pc := 2) W0 d_m6_2 (by decide) (by decide) (by decide) ?_
  refine g_aload_n (pc := 7) W0 d_m6_7 rfl rfl ?_
  refine g_iload_n (pc := 8) W0 d_m6_8 rfl ?_
  refine g_aload_n (pc := 9) W0 d_m6_9 rfl rfl ?_
  refine g_iload_n (pc := 10) W0 d_m6_10 rfl ?_
  refine g_iaload (pc := 11) (i := 0) (v := .int x4) W0 rfl (by decide) rfl d_m6_11 ?_
  refine g_static (pc := 12) (Wt := 0) (argsL := [.ref a, .int (6 : Int32), .int x4]) (rest := []) (loc := [(a, (.array .int), [.int x0, .int x1, .int x2, .int x3, .int x4, .int x5])]) (rst := [(g, (.array .int), gs)]) W0 (wd hw 46 rfl) (wd hw 47 rfl) (wd hw 48 rfl) (wd hw 49 rfl) (by decide) (c_below6 l Z a0 hw a x4 x0 x1 x2 x3 x4 x5) ⟨[0, 1], by decide, rfl⟩ rfl pd_AIII__I rfl rfl rfl (Nat.le_of_ble_eq_true rfl) (by decide) (by decide) (by decide) (by decide) d_m6_12 ?_
  rintro T1 _ _ ⟨rfl, rfl⟩ W2
  have W3 := W2.re (os' := [(a, (.array .int), [.int x0, .int x1, .int x2, .int x3, .int x4, .int x5]), (g, (.array .int), gs)]) rfl
  show Go p_ e_ bl_ _ (T1.setTop (mkF m_ 15 _ [.int ((((((if x0 < x4 then (1 : Int32) else (0 : Int32)) + (if x1 < x4 then (1 : Int32) else (0 : Int32))) + (if x2 < x4 then (1 : Int32) else (0 : Int32))) + (if x3 < x4 then (1 : Int32) else (0 : Int32))) + (if x4 < x4 then (1 : Int32) else (0 : Int32))) + (if x5 < x4 then (1 : Int32) else (0 : Int32)))]))
  refine g_aload_n (pc := 15) W3 d_m6_15 rfl rfl ?_
  refine g_iload_n (pc := 16) W3 d_m6_16 rfl ?_
  refine g_aload_n (pc := 17) W3 d_m6_17 rfl rfl ?_
  refine g_iload_n (pc := 18) W3 d_m6_18 rfl ?_
  refine g_iaload (pc := 19) (i := 0) (v := .int x4) W3 rfl (by decide) rfl d_m6_19 ?_
  refine g_static (pc := 20) (Wt := 1) (argsL := [.ref a, .int (4 : Int32), .int x4]) (rest := [.int ((((((if x0 < x4 then (1 : Int32) else (0 : Int32)) + (if x1 < x4 then (1 : Int32) else (0 : Int32))) + (if x2 < x4 then (1 : Int32) else (0 : Int32))) + (if x3 < x4 then (1 : Int32) else (0 : Int32))) + (if x4 < x4 then (1 : Int32) else (0 : Int32))) + (if x5 < x4 then (1 : Int32) else (0 : Int32)))]) (loc := [(a, (.array .int), [.int x0, .int x1, .int x2, .int x3, .int x4, .int x5])]) (rst := [(g, (.array .int), gs)]) W3 (wd hw 56 rfl) (wd hw 57 rfl) (wd hw 48 rfl) (wd hw 58 rfl) (by decide) (c_eqb4 l Z a0 hw a x4 x0 x1 x2 x3 x4 x5) ⟨[0, 1], by decide, rfl⟩ rfl pd_AIII__I rfl rfl rfl (Nat.le_of_ble_eq_true rfl) (by decide) (by decide) (by decide) (by decide) d_m6_20 ?_
  rintro T4 _ _ ⟨rfl, rfl⟩ W5
  have W6 := W5.re (os' := [(a, (.array .int), [.int x0, .int x1, .int x2, .int x3, .int x4, .int x5]), (g, (.array .int), gs)]) rfl
  show Go p_ e_ bl_ _ (T4.setTop (mkF m_ 23 _ [.int (((((if x0 = x4 then (1 : Int32) else (0 : Int32)) + (if x1 = x4 then (1 : Int32) else (0 : Int32))) + (if x2 = x4 then (1 : Int32) else (0 : Int32))) + (if x3 = x4 then (1 : Int32) else (0 : Int32))) + (0 : Int32)), .int ((((((if x0 < x4 then (1 : Int32) else (0 : Int32)) + (if x1 < x4 then (1 : Int32) else (0 : Int32))) + (if x2 < x4 then (1 : Int32) else (0 : Int32))) + (if x3 < x4 then (1 : Int32) else (0 : Int32))) + (if x4 < x4 then (1 : Int32) else (0 : Int32))) + (if x5 < x4 then (1 : Int32) else (0 : Int32)))]))
  refine g_iadd (pc := 23) W6 d_m6_23 ?_
  refine g_istore (pc := 24) (ls' := #[.val (.ref a), .val (.int (6 : Int32)), .val (.ref g), .val (.int (4 : Int32)), .val (.int (((((((if x0 < x4 then (1 : Int32) else (0 : Int32)) + (if x1 < x4 then (1 : Int32) else (0 : Int32))) + (if x2 < x4 then (1 : Int32) else (0 : Int32))) + (if x3 < x4 then (1 : Int32) else (0 : Int32))) + (if x4 < x4 then (1 : Int32) else (0 : Int32))) + (if x5 < x4 then (1 : Int32) else (0 : Int32))) + (((((if x0 = x4 then (1 : Int32) else (0 : Int32)) + (if x1 = x4 then (1 : Int32) else (0 : Int32))) + (if x2 = x4 then (1 : Int32) else (0 : Int32))) + (if x3 = x4 then (1 : Int32) else (0 : Int32))) + (0 : Int32))))]) W6 d_m6_24 rfl ?_
  refine g_iload (pc := 26) W6 d_m6_26 rfl ?_
  refine g_aload_n (pc := 28) W6 d_m6_28 rfl rfl ?_
  refine g_arraylength (pc := 29) (i := 1) (6 : Int32) W6 rfl hlen d_m6_29 ?_
  refine g_icmpN (pc := 30) W6 d_m6_30 (tlt hlt).2.1 ?_
  refine g_aload_n (pc := 33) W6 d_m6_33 rfl rfl ?_
  refine g_iload (pc := 34) W6 d_m6_34 rfl ?_
  refine g_iaload (pc := 36) (i := 1) (v := .int x5) W6 rfl hnn hget d_m6_36 ?_
  refine g_aload_n (pc := 37) W6 d_m6_37 rfl rfl ?_
  refine g_iload_n (pc := 38) W6 d_m6_38 rfl ?_
  refine g_iconst (pc := 39) (1 : Int32) (by decide) W6 d_m6_39 ?_
  refine g_ixor (pc := 40) W6 d_m6_40 ?_
  show Go p_ e_ bl_ _ (T4.setTop (mkF m_ 41 _ [.int (5 : Int32), .ref a, .int x5]))
  refine g_iaload (pc := 41) (i := 0) (v := .int x5) W6 rfl (by decide) rfl d_m6_41 ?_
  refine g_icmpN (pc := 42) W6 d_m6_42 (by first | exact (teq rfl).1 | exact (teq rfl).2 | exact (flt (by simp)).1 | exact (flt (by simp)).2.1 | exact (flt (by simp)).2.2.1 | exact (flt (by simp)).2.2.2) ?_
  refine g_iconst (pc := 45) (1 : Int32) (by decide) W6 d_m6_45 ?_
  refine g_goto 50 (pc := 46) W6 d_m6_46 (by decide) (by decide) ?_
  exact g_zreturn (pc := 50) rfl (by decide) W6 d_m6_50 (by decide) (by decide) ⟨rfl, rfl⟩
theorem c_slot65 (l : Launch) (Z : State) (a0 : Array Value) (hw : ∀ d ∈ tables_1, d.before a0 Z = true) {B : Nat} (a g : Addr) (x0 x1 x2 x3 x4 x5 : Int32) (gs : List Value) (hlen : gs.length.toInt32 = (6 : Int32)) (hlt : (((((((if x0 < x5 then (1 : Int32) else (0 : Int32)) + (if x1 < x5 then (1 : Int32) else (0 : Int32))) + (if x2 < x5 then (1 : Int32) else (0 : Int32))) + (if x3 < x5 then (1 : Int32) else (0 : Int32))) + (if x4 < x5 then (1 : Int32) else (0 : Int32))) + (if x5 < x5 then (1 : Int32) else (0 : Int32))) + (((((if x0 = x5 then (1 : Int32) else (0 : Int32)) + (if x1 = x5 then (1 : Int32) else (0 : Int32))) + (if x2 = x5 then (1 : Int32) else (0 : Int32))) + (if x3 = x5 then (1 : Int32) else (0 : Int32))) + (if x4 = x5 then (1 : Int32) else (0 : Int32)))) < (6 : Int32)) (hnn : ¬ (((((((if x0 < x5 then (1 : Int32) else (0 : Int32)) + (if x1 < x5 then (1 : Int32) else (0 : Int32))) + (if x2 < x5 then (1 : Int32) else (0 : Int32))) + (if x3 < x5 then (1 : Int32) else (0 : Int32))) + (if x4 < x5 then (1 : Int32) else (0 : Int32))) + (if x5 < x5 then (1 : Int32) else (0 : Int32))) + (((((if x0 = x5 then (1 : Int32) else (0 : Int32)) + (if x1 = x5 then (1 : Int32) else (0 : Int32))) + (if x2 = x5 then (1 : Int32) else (0 : Int32))) + (if x3 = x5 then (1 : Int32) else (0 : Int32))) + (if x4 = x5 then (1 : Int32) else (0 : Int32)))) < 0) (hget : gs[((((((((if x0 < x5 then (1 : Int32) else (0 : Int32)) + (if x1 < x5 then (1 : Int32) else (0 : Int32))) + (if x2 < x5 then (1 : Int32) else (0 : Int32))) + (if x3 < x5 then (1 : Int32) else (0 : Int32))) + (if x4 < x5 then (1 : Int32) else (0 : Int32))) + (if x5 < x5 then (1 : Int32) else (0 : Int32))) + (((((if x0 = x5 then (1 : Int32) else (0 : Int32)) + (if x1 = x5 then (1 : Int32) else (0 : Int32))) + (if x2 = x5 then (1 : Int32) else (0 : Int32))) + (if x3 = x5 then (1 : Int32) else (0 : Int32))) + (if x4 = x5 then (1 : Int32) else (0 : Int32))))).toNatClampNeg]? = some (.int x4)) :
    Con l Z FM B (⟨"com/example/metanode/metanode/graph/IntPairsPartnersPinLaw", "slot", "([II[II)Z"⟩ : MethodName) method_6_code 5 (some .boolean) ({ frames := 2, cells := 0, slots := 0, locals := 30 } : Room) [] #[.ref a, .int (6 : Int32), .ref g, .int (5 : Int32)] [(a, (.array .int), [.int x0, .int x1, .int x2, .int x3, .int x4, .int x5]), (g, (.array .int), gs)] (fun rv_ ro_ => rv_ = some (.int (1 : Int32)) ∧ ro_ = [(a, (.array .int), [.int x0, .int x1, .int x2, .int x3, .int x4, .int x5]), (g, (.array .int), gs)]) := by
  refine Con.of (plainFor_of_name (by first | (simp [plainName, overriddenIn]; done) | decide +kernel)) (ls := #[.val (.ref a), .val (.int (6 : Int32)), .val (.ref g), .val (.int (5 : Int32)), .unset]) (fun m => by first | (simp [entryFrame, mkF, argsToLocals, Value.category]; done) | rfl) ?_
  intro p_ e_ h_ s_ m_ bl_ me_ c_ T0 W0
  refine g_iload_n (pc := 0) W0 d_m6_0 rfl ?_
  refine g_iload_n (pc := 1) W0 d_m6_1 rfl ?_
  refine g_icmpY 7 (pc := 2) W0 d_m6_2 (by decide) (by decide) (by decide) ?_
  refine g_aload_n (pc := 7) W0 d_m6_7 rfl rfl ?_
  refine g_iload_n (pc := 8) W0 d_m6_8 rfl ?_
  refine g_aload_n (pc := 9) W0 d_m6_9 rfl rfl ?_
  refine g_iload_n (pc := 10) W0 d_m6_10 rfl ?_
  refine g_iaload (pc := 11) (i := 0) (v := .int x5) W0 rfl (by decide) rfl d_m6_11 ?_
  refine g_static (pc := 12) (Wt := 0) (argsL := [.ref a, .int (6 : Int32), .int x5]) (rest := []) (loc := [(a, (.array .int), [.int x0, .int x1, .int x2, .int x3, .int x4, .int x5])]) (rst := [(g, (.array .int), gs)]) W0 (wd hw 46 rfl) (wd hw 47 rfl) (wd hw 48 rfl) (wd hw 49 rfl) (by decide) (c_below6 l Z a0 hw a x5 x0 x1 x2 x3 x4 x5) ⟨[0, 1], by decide, rfl⟩ rfl pd_AIII__I rfl rfl rfl (Nat.le_of_ble_eq_true rfl) (by decide) (by decide) (by decide) (by decide) d_m6_12 ?_
  rintro T1 _ _ ⟨rfl, rfl⟩ W2
  have W3 := W2.re (os' := [(a, (.array .int), [.int x0, .int x1, .int x2, .int x3, .int x4, .int x5]), (g, (.array .int), gs)]) rfl
  show Go p_ e_ bl_ _ (T1.setTop (mkF m_ 15 _ [.int ((((((if x0 < x5 then (1 : Int32) else (0 : Int32)) + (if x1 < x5 then (1 : Int32) else (0 : Int32))) + (if x2 < x5 then (1 : Int32) else (0 : Int32))) + (if x3 < x5 then (1 : Int32) else (0 : Int32))) + (if x4 < x5 then (1 : Int32) else (0 : Int32))) + (if x5 < x5 then (1 : Int32) else (0 : Int32)))]))
  refine g_aload_n (pc := 15) W3 d_m6_15 rfl rfl ?_
  refine g_iload_n (pc := 16) W3 d_m6_16 rfl ?_
  refine g_aload_n (pc := 17) W3 d_m6_17 rfl rfl ?_
  refine g_iload_n (pc := 18) W3 d_m6_18 rfl ?_
  refine g_iaload (pc := 19) (i := 0) (v := .int x5) W3 rfl (by decide) rfl d_m6_19 ?_
  refine g_static (pc := 20) (Wt := 1) (argsL := [.ref a, .int (5 : Int32), .int x5]) (rest := [.int ((((((if x0 < x5 then (1 : Int32) else (0 : Int32)) + (if x1 < x5 then (1 : Int32) else (0 : Int32))) + (if x2 < x5 then (1 : Int32) else (0 : Int32))) + (if x3 < x5 then (1 : Int32) else (0 : Int32))) + (if x4 < x5 then (1 : Int32) else (0 : Int32))) + (if x5 < x5 then (1 : Int32) else (0 : Int32)))]) (loc := [(a, (.array .int), [.int x0, .int x1, .int x2, .int x3, .int x4, .int x5])]) (rst := [(g, (.array .int), gs)]) W3 (wd hw 56 rfl) (wd hw 57 rfl) (wd hw 48 rfl) (wd hw 58 rfl) (by decide) (c_eqb5 l Z a0 hw a x5 x0 x1 x2 x3 x4 x5) ⟨[0, 1], by decide, rfl⟩ rfl pd_AIII__I rfl rfl rfl (Nat.le_of_ble_eq_true rfl) (by decide) (by decide) (by decide) (by decide) d_m6_20 ?_
  rintro T4 _ _ ⟨rfl, rfl⟩ W5
  have W6 := W5.re (os' := [(a, (.array .int), [.int x0, .int x1, .int x2, .int x3, .int x4, .int x5]), (g, (.array .int), gs)]) rfl
  show Go p_ e_ bl_ _ (T4.setTop (mkF m_ 23 _ [.int (((((if x0 = x5 then (1 : Int32) else (0 : Int32)) + (if x1 = x5 then (1 : Int32) else (0 : Int32))) + (if x2 = x5 then (1 : Int32) else (0 : Int32))) + (if x3 = x5 then (1 : Int32) else (0 : Int32))) + (if x4 = x5 then (1 : Int32) else (0 : Int32))), .int ((((((if x0 < x5 then (1 : Int32) else (0 : Int32)) + (if x1 < x5 then (1 : Int32) else (0 : Int32))) + (if x2 < x5 then (1 : Int32) else (0 : Int32))) + (if x3 < x5 then (1 : Int32) else (0 : Int32))) + (if x4 < x5 then (1 : Int32) else (0 : Int32))) + (if x5 < x5 then (1 : Int32) else (0 : Int32)))]))
  refine g_iadd (pc := 23) W6 d_m6_23 ?_
  refine g_istore (pc := 24) (ls' := #[.val (.ref a), .val (.int (6 : Int32)), .val (.ref g), .val (.int (5 : Int32)), .val (.int (((((((if x0 < x5 then (1 : Int32) else (0 : Int32)) + (if x1 < x5 then (1 : Int32) else (0 : Int32))) + (if x2 < x5 then (1 : Int32) else (0 : Int32))) + (if x3 < x5 then (1 : Int32) else (0 : Int32))) + (if x4 < x5 then (1 : Int32) else (0 : Int32))) + (if x5 < x5 then (1 : Int32) else (0 : Int32))) + (((((if x0 = x5 then (1 : Int32) else (0 : Int32)) + (if x1 = x5 then (1 : Int32) else (0 : Int32))) + (if x2 = x5 then (1 : Int32) else (0 : Int32))) + (if x3 = x5 then (1 : Int32) else (0 : Int32))) + (if x4 = x5 then (1 : Int32) else (0 : Int32)))))]) W6 d_m6_24 rfl ?_
  refine g_iload (pc := 26) W6 d_m6_26 rfl ?_
  refine g_aload_n (pc := 28) W6 d_m6_28 rfl rfl ?_
  refine g_arraylength (pc := 29) (i := 1) (6 : Int32) W6 rfl hlen d_m6_29 ?_
  refine g_icmpN (pc := 30) W6 d_m6_30 (tlt hlt).2.1 ?_
  refine g_aload_n (pc := 33) W6 d_m6_33 rfl rfl ?_
  refine g_iload (pc := 34) W6 d_m6_34 rfl ?_
  refine g_iaload (pc := 36) (i := 1) (v := .int x4) W6 rfl hnn hget d_m6_36 ?_
  refine g_aload_n (pc := 37) W6 d_m6_37 rfl rfl ?_
  refine g_iload_n (pc := 38) W6 d_m6_38 rfl ?_
  refine g_iconst (pc := 39) (1 : Int32) (by decide) W6 d_m6_39 ?_
  refine g_ixor (pc := 40) W6 d_m6_40 ?_
  show Go p_ e_ bl_ _ (T4.setTop (mkF m_ 41 _ [.int (4 : Int32), .ref a, .int x4]))
  refine g_iaload (pc := 41) (i := 0) (v := .int x4) W6 rfl (by decide) rfl d_m6_41 ?_
  refine g_icmpN (pc := 42) W6 d_m6_42 (by first | exact (teq rfl).1 | exact (teq rfl).2 | exact (flt (by simp)).1 | exact (flt (by simp)).2.1 | exact (flt (by simp)).2.2.1 | exact (flt (by simp)).2.2.2) ?_
  refine g_iconst (pc := 45) (1 : Int32) (by decide) W6 d_m6_45 ?_
  refine g_goto 50 (pc := 46) W6 d_m6_46 (by decide) (by decide) ?_
  exact g_zreturn (pc := 50) rfl (by decide) W6 d_m6_50 (by decide) (by decide) ⟨rfl, rfl⟩
theorem put_ne {g : Nat → Int32} {i u : Nat} {v : Int32} (h : u ≠ i) : put g i v u = g u := if_neg h
theorem put_eq {g : Nat → Int32} {i : Nat} {v : Int32} : put g i v i = v := if_pos rfl
theorem own_b2 {x : Int32} {n c : Int} (p : Prop) [Decidable p] (h : x.toInt = n ∧ 0 ≤ n ∧ n ≤ c) (hc : c < 50) : (x + (if p then (1 : Int32) else 0)).toInt = n + (if p then 1 else 0) ∧ 0 ≤ n + (if p then 1 else 0) ∧ n + (if p then 1 else 0) ≤ c + 1 := by
  have q := own_b01 x p h.1 h.2.1 (by omega)
  refine ⟨q, ?_, ?_⟩
  · split <;> omega
  · split <;> omega
theorem own_cl {x : Int32} {k : Int} (h : x.toInt = k) (h0 : 0 ≤ k) : (x.toNatClampNeg : Int) = k := by simp only [Int32.toNatClampNeg, h]; omega
theorem own_k (a : Int32) : a &&& 3 = 0 ∨ a &&& 3 = 1 ∨ a &&& 3 = 2 ∨ a &&& 3 = 3 := by
  have e : (a &&& 3).toInt = a.toInt % 2 ^ 2 := Jvm.Kit.i32_mask a 3 (k := 2) (by decide) (by decide)
  rcases (by omega : (a &&& 3).toInt = 0 ∨ (a &&& 3).toInt = 1 ∨ (a &&& 3).toInt = 2 ∨ (a &&& 3).toInt = 3) with h | h | h | h
  · exact Or.inl (Int32.toInt_inj.mp (h.trans (by decide)))
  · exact Or.inr (Or.inl (Int32.toInt_inj.mp (h.trans (by decide))))
  · exact Or.inr (Or.inr (Or.inl (Int32.toInt_inj.mp (h.trans (by decide)))))
  · exact Or.inr (Or.inr (Or.inr (Int32.toInt_inj.mp (h.trans (by decide)))))
theorem own_off0_0  : ac (g1 []) 8 0 = (0 : Int32) := by
  rw [ac_sm _ (by decide)]
  exact sm_zf _
theorem own_off0_1  : ac (g1 []) 8 1 = (0 : Int32) := by
  rw [ac_sm _ (by decide)]
  exact sm_zf _
theorem own_off0_2  : ac (g1 []) 8 2 = (0 : Int32) := by
  rw [ac_sm _ (by decide)]
  exact sm_zf _
theorem own_off0_3  : ac (g1 []) 8 3 = (0 : Int32) := by
  rw [ac_sm _ (by decide)]
  exact sm_zf _
theorem own_off0_4  : ac (g1 []) 8 4 = (0 : Int32) := by
  rw [ac_sm _ (by decide)]
  exact sm_zf _
theorem own_off0_5  : ac (g1 []) 8 5 = (0 : Int32) := by
  rw [ac_sm _ (by decide)]
  exact sm_zf _
theorem own_off0_6  : ac (g1 []) 8 6 = (0 : Int32) := by
  rw [ac_sm _ (by decide)]
  exact sm_zf _
theorem own_off0_7  : ac (g1 []) 8 7 = (0 : Int32) := by
  rw [ac_sm _ (by decide)]
  exact sm_zf _
theorem own_off0_8  : ac (g1 []) 8 8 = (0 : Int32) := by
  rw [ac_sm _ (by decide)]
  exact sm_zf _
theorem own_off2_0 {n0 n1 : Nat} (h0 : n0 < 8) (h1 : n1 < 8) : ac (g1 [n0, n1]) 8 0 = ((((((if (Int32.ofNat n0) < (0 : Int32) then (1 : Int32) else (0 : Int32)) + (if (Int32.ofNat n1) < (0 : Int32) then (1 : Int32) else (0 : Int32))) + (0 : Int32)) + (0 : Int32)) + (0 : Int32)) + (0 : Int32)) := by
  rw [ac_sm _ (by decide)]
  simp only [g1, List.foldl, sm_inc, sm_zf, show (Int32.ofNat n0 < (0 : Int32)) ↔ n0 + 1 ≤ 0 from own_lt h0 (by decide), show (Int32.ofNat n1 < (0 : Int32)) ↔ n1 + 1 ≤ 0 from own_lt h1 (by decide)]
  simp only [Int32.zero_add, Int32.add_zero]
theorem own_off2_1 {n0 n1 : Nat} (h0 : n0 < 8) (h1 : n1 < 8) : ac (g1 [n0, n1]) 8 1 = ((((((if (Int32.ofNat n0) < (1 : Int32) then (1 : Int32) else (0 : Int32)) + (if (Int32.ofNat n1) < (1 : Int32) then (1 : Int32) else (0 : Int32))) + (0 : Int32)) + (0 : Int32)) + (0 : Int32)) + (0 : Int32)) := by
  rw [ac_sm _ (by decide)]
  simp only [g1, List.foldl, sm_inc, sm_zf, show (Int32.ofNat n0 < (1 : Int32)) ↔ n0 + 1 ≤ 1 from own_lt h0 (by decide), show (Int32.ofNat n1 < (1 : Int32)) ↔ n1 + 1 ≤ 1 from own_lt h1 (by decide)]
  simp only [Int32.zero_add, Int32.add_zero]
theorem own_off2_2 {n0 n1 : Nat} (h0 : n0 < 8) (h1 : n1 < 8) : ac (g1 [n0, n1]) 8 2 = ((((((if (Int32.ofNat n0) < (2 : Int32) then (1 : Int32) else (0 : Int32)) + (if (Int32.ofNat n1) < (2 : Int32) then (1 : Int32) else (0 : Int32))) + (0 : Int32)) + (0 : Int32)) + (0 : Int32)) + (0 : Int32)) := by
  rw [ac_sm _ (by decide)]
  simp only [g1, List.foldl, sm_inc, sm_zf, show (Int32.ofNat n0 < (2 : Int32)) ↔ n0 + 1 ≤ 2 from own_lt h0 (by decide), show (Int32.ofNat n1 < (2 : Int32)) ↔ n1 + 1 ≤ 2 from own_lt h1 (by decide)]
  simp only [Int32.zero_add, Int32.add_zero]
theorem own_off2_3 {n0 n1 : Nat} (h0 : n0 < 8) (h1 : n1 < 8) : ac (g1 [n0, n1]) 8 3 = ((((((if (Int32.ofNat n0) < (3 : Int32) then (1 : Int32) else (0 : Int32)) + (if (Int32.ofNat n1) < (3 : Int32) then (1 : Int32) else (0 : Int32))) + (0 : Int32)) + (0 : Int32)) + (0 : Int32)) + (0 : Int32)) := by
  rw [ac_sm _ (by decide)]
  simp only [g1, List.foldl, sm_inc, sm_zf, show (Int32.ofNat n0 < (3 : Int32)) ↔ n0 + 1 ≤ 3 from own_lt h0 (by decide), show (Int32.ofNat n1 < (3 : Int32)) ↔ n1 + 1 ≤ 3 from own_lt h1 (by decide)]
  simp only [Int32.zero_add, Int32.add_zero]
theorem own_off2_4 {n0 n1 : Nat} (h0 : n0 < 8) (h1 : n1 < 8) : ac (g1 [n0, n1]) 8 4 = ((((((if (Int32.ofNat n0) < (4 : Int32) then (1 : Int32) else (0 : Int32)) + (if (Int32.ofNat n1) < (4 : Int32) then (1 : Int32) else (0 : Int32))) + (0 : Int32)) + (0 : Int32)) + (0 : Int32)) + (0 : Int32)) := by
  rw [ac_sm _ (by decide)]
  simp only [g1, List.foldl, sm_inc, sm_zf, show (Int32.ofNat n0 < (4 : Int32)) ↔ n0 + 1 ≤ 4 from own_lt h0 (by decide), show (Int32.ofNat n1 < (4 : Int32)) ↔ n1 + 1 ≤ 4 from own_lt h1 (by decide)]
  simp only [Int32.zero_add, Int32.add_zero]
theorem own_off2_5 {n0 n1 : Nat} (h0 : n0 < 8) (h1 : n1 < 8) : ac (g1 [n0, n1]) 8 5 = ((((((if (Int32.ofNat n0) < (5 : Int32) then (1 : Int32) else (0 : Int32)) + (if (Int32.ofNat n1) < (5 : Int32) then (1 : Int32) else (0 : Int32))) + (0 : Int32)) + (0 : Int32)) + (0 : Int32)) + (0 : Int32)) := by
  rw [ac_sm _ (by decide)]
  simp only [g1, List.foldl, sm_inc, sm_zf, show (Int32.ofNat n0 < (5 : Int32)) ↔ n0 + 1 ≤ 5 from own_lt h0 (by decide), show (Int32.ofNat n1 < (5 : Int32)) ↔ n1 + 1 ≤ 5 from own_lt h1 (by decide)]
  simp only [Int32.zero_add, Int32.add_zero]
theorem own_off2_6 {n0 n1 : Nat} (h0 : n0 < 8) (h1 : n1 < 8) : ac (g1 [n0, n1]) 8 6 = ((((((if (Int32.ofNat n0) < (6 : Int32) then (1 : Int32) else (0 : Int32)) + (if (Int32.ofNat n1) < (6 : Int32) then (1 : Int32) else (0 : Int32))) + (0 : Int32)) + (0 : Int32)) + (0 : Int32)) + (0 : Int32)) := by
  rw [ac_sm _ (by decide)]
  simp only [g1, List.foldl, sm_inc, sm_zf, show (Int32.ofNat n0 < (6 : Int32)) ↔ n0 + 1 ≤ 6 from own_lt h0 (by decide), show (Int32.ofNat n1 < (6 : Int32)) ↔ n1 + 1 ≤ 6 from own_lt h1 (by decide)]
  simp only [Int32.zero_add, Int32.add_zero]
theorem own_off2_7 {n0 n1 : Nat} (h0 : n0 < 8) (h1 : n1 < 8) : ac (g1 [n0, n1]) 8 7 = ((((((if (Int32.ofNat n0) < (7 : Int32) then (1 : Int32) else (0 : Int32)) + (if (Int32.ofNat n1) < (7 : Int32) then (1 : Int32) else (0 : Int32))) + (0 : Int32)) + (0 : Int32)) + (0 : Int32)) + (0 : Int32)) := by
  rw [ac_sm _ (by decide)]
  simp only [g1, List.foldl, sm_inc, sm_zf, show (Int32.ofNat n0 < (7 : Int32)) ↔ n0 + 1 ≤ 7 from own_lt h0 (by decide), show (Int32.ofNat n1 < (7 : Int32)) ↔ n1 + 1 ≤ 7 from own_lt h1 (by decide)]
  simp only [Int32.zero_add, Int32.add_zero]
theorem own_off2_8 {n0 n1 : Nat} (h0 : n0 < 8) (h1 : n1 < 8) : ac (g1 [n0, n1]) 8 8 = ((((((if (Int32.ofNat n0) < (8 : Int32) then (1 : Int32) else (0 : Int32)) + (if (Int32.ofNat n1) < (8 : Int32) then (1 : Int32) else (0 : Int32))) + (0 : Int32)) + (0 : Int32)) + (0 : Int32)) + (0 : Int32)) := by
  rw [ac_sm _ (by decide)]
  simp only [g1, List.foldl, sm_inc, sm_zf, show (Int32.ofNat n0 < (8 : Int32)) ↔ n0 + 1 ≤ 8 from own_lt h0 (by decide), show (Int32.ofNat n1 < (8 : Int32)) ↔ n1 + 1 ≤ 8 from own_lt h1 (by decide)]
  simp only [Int32.zero_add, Int32.add_zero]
theorem own_ps2_0 {n0 n1 : Nat} (h0 : n0 < 8) (h1 : n1 < 8) : ps [n0, n1] 0 = (((((((if (Int32.ofNat n0) < (Int32.ofNat n0) then (1 : Int32) else (0 : Int32)) + (if (Int32.ofNat n1) < (Int32.ofNat n0) then (1 : Int32) else (0 : Int32))) + (0 : Int32)) + (0 : Int32)) + (0 : Int32)) + (0 : Int32)) + (0 : Int32)) := by
  show (ac (g1 [n0, n1]) 8) n0 = _
  skip
  rw [ac_sm _ (by omega)]
  simp only [g1, List.foldl, sm_inc, sm_zf, show (Int32.ofNat n0 < Int32.ofNat n0) ↔ n0 + 1 ≤ n0 from own_lt h0 (by omega), show (Int32.ofNat n1 < Int32.ofNat n0) ↔ n1 + 1 ≤ n0 from own_lt h1 (by omega)]
  simp only [Int32.zero_add, Int32.add_zero, Int32.add_assoc]
theorem own_pi2_0 {n0 n1 : Nat} (h0 : n0 < 8) (h1 : n1 < 8) : (ps [n0, n1] 0).toInt = (0 : Int) + (if n0 + 1 ≤ n0 then (1 : Int) else 0) + (if n1 + 1 ≤ n0 then (1 : Int) else 0) ∧ 0 ≤ (0 : Int) + (if n0 + 1 ≤ n0 then (1 : Int) else 0) + (if n1 + 1 ≤ n0 then (1 : Int) else 0) := by
  have e : ps [n0, n1] 0 = (ac (g1 [n0, n1]) 8) n0 := rfl
  skip
  rw [ac_sm _ (by omega)] at e
  simp only [g1, List.foldl, sm_inc, sm_zf] at e
  rw [e]
  have z : (0 : Int32).toInt = 0 ∧ (0 : Int) ≤ 0 ∧ (0 : Int) ≤ 0 := by decide
  have q := (own_b2 (n1 + 1 ≤ n0) (own_b2 (n0 + 1 ≤ n0) z (by decide)) (by decide))
  exact ⟨q.1, q.2.1⟩
theorem own_bd2_0 {n0 n1 : Nat} (h0 : n0 < 8) (h1 : n1 < 8) : ¬ ps [n0, n1] 0 < 0 ∧ (ps [n0, n1] 0).toNatClampNeg < 2 ∧ ps [n0, n1] 0 < (2 : Int32) := by
  obtain ⟨e, p⟩ := own_pi2_0 h0 h1
  have c := own_cl e p
  have t0 := t_01 n0 n0
  have t1 := t_01 n1 n0
  have tj : (if n0 + 1 ≤ n0 then (1 : Int) else 0) = 0 := if_neg (by omega)
  generalize (if n0 + 1 ≤ n0 then (1 : Int) else 0) = a0 at *
  generalize (if n1 + 1 ≤ n0 then (1 : Int) else 0) = a1 at *
  generalize (if n0 = n1 then (1 : Int) else 0) = c1 at *
  have eM : (2 : Int32).toInt = 2 := by decide
  have e0 : (0 : Int32).toInt = 0 := by decide
  simp only [Int32.lt_iff_toInt_lt, e, eM, e0]
  omega
theorem own_ps2_1 {n0 n1 : Nat} (h0 : n0 < 8) (h1 : n1 < 8) : ps [n0, n1] 1 = (((((((if (Int32.ofNat n0) < (Int32.ofNat n1) then (1 : Int32) else (0 : Int32)) + (if (Int32.ofNat n1) < (Int32.ofNat n1) then (1 : Int32) else (0 : Int32))) + (0 : Int32)) + (0 : Int32)) + (0 : Int32)) + (0 : Int32)) + (((((if (Int32.ofNat n0) = (Int32.ofNat n1) then (1 : Int32) else (0 : Int32)) + (0 : Int32)) + (0 : Int32)) + (0 : Int32)) + (0 : Int32))) := by
  show (inc (ac (g1 [n0, n1]) 8) n0) n1 = _
  simp only [inc_val]
  rw [ac_sm _ (by omega)]
  simp only [g1, List.foldl, sm_inc, sm_zf, show (Int32.ofNat n0 < Int32.ofNat n1) ↔ n0 + 1 ≤ n1 from own_lt h0 (by omega), show (Int32.ofNat n1 < Int32.ofNat n1) ↔ n1 + 1 ≤ n1 from own_lt h1 (by omega), show (Int32.ofNat n0 = Int32.ofNat n1) ↔ n1 = n0 from own_eqn h0 h1]
  simp only [Int32.zero_add, Int32.add_zero, Int32.add_assoc]
theorem own_pi2_1 {n0 n1 : Nat} (h0 : n0 < 8) (h1 : n1 < 8) : (ps [n0, n1] 1).toInt = (0 : Int) + (if n0 + 1 ≤ n1 then (1 : Int) else 0) + (if n1 + 1 ≤ n1 then (1 : Int) else 0) + (if n1 = n0 then (1 : Int) else 0) ∧ 0 ≤ (0 : Int) + (if n0 + 1 ≤ n1 then (1 : Int) else 0) + (if n1 + 1 ≤ n1 then (1 : Int) else 0) + (if n1 = n0 then (1 : Int) else 0) := by
  have e : ps [n0, n1] 1 = (inc (ac (g1 [n0, n1]) 8) n0) n1 := rfl
  simp only [inc_val] at e
  rw [ac_sm _ (by omega)] at e
  simp only [g1, List.foldl, sm_inc, sm_zf] at e
  rw [e]
  have z : (0 : Int32).toInt = 0 ∧ (0 : Int) ≤ 0 ∧ (0 : Int) ≤ 0 := by decide
  have q := (own_b2 (n1 = n0) (own_b2 (n1 + 1 ≤ n1) (own_b2 (n0 + 1 ≤ n1) z (by decide)) (by decide)) (by decide))
  exact ⟨q.1, q.2.1⟩
theorem own_bd2_1 {n0 n1 : Nat} (h0 : n0 < 8) (h1 : n1 < 8) : ¬ ps [n0, n1] 1 < 0 ∧ (ps [n0, n1] 1).toNatClampNeg < 2 ∧ ps [n0, n1] 1 < (2 : Int32) := by
  obtain ⟨e, p⟩ := own_pi2_1 h0 h1
  have c := own_cl e p
  have t0 := t_01 n0 n1
  have t1 := t_01 n1 n1
  have tj : (if n1 + 1 ≤ n1 then (1 : Int) else 0) = 0 := if_neg (by omega)
  generalize (if n0 + 1 ≤ n1 then (1 : Int) else 0) = a0 at *
  generalize (if n1 + 1 ≤ n1 then (1 : Int) else 0) = a1 at *
  generalize (if n1 = n0 then (1 : Int) else 0) = c0 at *
  have eM : (2 : Int32).toInt = 2 := by decide
  have e0 : (0 : Int32).toInt = 0 := by decide
  simp only [Int32.lt_iff_toInt_lt, e, eM, e0]
  omega
theorem own_ne2_0_1 {n0 n1 : Nat} (h0 : n0 < 8) (h1 : n1 < 8) : (ps [n0, n1] 0).toNatClampNeg ≠ (ps [n0, n1] 1).toNatClampNeg := by
  obtain ⟨ei, pi⟩ := own_pi2_0 h0 h1
  obtain ⟨ej, pj⟩ := own_pi2_1 h0 h1
  have ci := own_cl ei pi
  have cj := own_cl ej pj
  clear ei ej
  rcases Nat.lt_trichotomy n0 n1 with h | h | h
  · have t0 := t_le (l := n0) h
    have t1 := t_le1 (l := n1) (Nat.le_of_lt h)
    have ti : (if n0 = n0 then (1 : Int) else 0) = 1 := if_pos rfl
    have tz : (if n0 + 1 ≤ n0 then (1 : Int) else 0) = 0 := if_neg (by omega)
    rw [ti] at t0
    clear ti
    have s0 := t_01 n0 n1
    generalize (if n0 + 1 ≤ n0 then (1 : Int) else 0) = a0 at *
    generalize (if n0 + 1 ≤ n1 then (1 : Int) else 0) = b0 at *
    generalize (if n1 + 1 ≤ n0 then (1 : Int) else 0) = a1 at *
    generalize (if n1 + 1 ≤ n1 then (1 : Int) else 0) = b1 at *
    generalize (if n1 = n0 then (1 : Int) else 0) = d0 at *
    omega
  · have ti : (if n1 = n0 then (1 : Int) else 0) = 1 := if_pos h.symm
    have u0 : (if n0 + 1 ≤ n0 then (1 : Int) else 0) = (if n0 + 1 ≤ n1 then (1 : Int) else 0) := by rw [h]
    have u1 : (if n1 + 1 ≤ n0 then (1 : Int) else 0) = (if n1 + 1 ≤ n1 then (1 : Int) else 0) := by rw [h]
    have s0 := t_01 n0 n1
    generalize (if n0 + 1 ≤ n0 then (1 : Int) else 0) = a0 at *
    generalize (if n0 + 1 ≤ n1 then (1 : Int) else 0) = b0 at *
    generalize (if n1 + 1 ≤ n0 then (1 : Int) else 0) = a1 at *
    generalize (if n1 + 1 ≤ n1 then (1 : Int) else 0) = b1 at *
    generalize (if n1 = n0 then (1 : Int) else 0) = d0 at *
    omega
  · have t0 := t_le (l := n0) h
    have t1 := t_le (l := n1) h
    have ti : (if n1 = n1 then (1 : Int) else 0) = 1 := if_pos rfl
    have tz : (if n1 + 1 ≤ n1 then (1 : Int) else 0) = 0 := if_neg (by omega)
    rw [ti] at t1
    clear ti
    generalize (if n0 + 1 ≤ n0 then (1 : Int) else 0) = a0 at *
    generalize (if n0 + 1 ≤ n1 then (1 : Int) else 0) = b0 at *
    generalize (if n1 + 1 ≤ n0 then (1 : Int) else 0) = a1 at *
    generalize (if n1 + 1 ≤ n1 then (1 : Int) else 0) = b1 at *
    generalize (if n1 = n0 then (1 : Int) else 0) = d0 at *
    omega
theorem own_sl2_0 {n0 n1 : Nat} (h0 : n0 < 8) (h1 : n1 < 8) : (((((((if (Int32.ofNat n0) < (Int32.ofNat n0) then (1 : Int32) else (0 : Int32)) + (if (Int32.ofNat n1) < (Int32.ofNat n0) then (1 : Int32) else (0 : Int32))) + (0 : Int32)) + (0 : Int32)) + (0 : Int32)) + (0 : Int32)) + (0 : Int32)) < (2 : Int32) ∧ ¬ (((((((if (Int32.ofNat n0) < (Int32.ofNat n0) then (1 : Int32) else (0 : Int32)) + (if (Int32.ofNat n1) < (Int32.ofNat n0) then (1 : Int32) else (0 : Int32))) + (0 : Int32)) + (0 : Int32)) + (0 : Int32)) + (0 : Int32)) + (0 : Int32)) < 0 ∧ (fl 2 (HH [n0, n1] 2))[((((((((if (Int32.ofNat n0) < (Int32.ofNat n0) then (1 : Int32) else (0 : Int32)) + (if (Int32.ofNat n1) < (Int32.ofNat n0) then (1 : Int32) else (0 : Int32))) + (0 : Int32)) + (0 : Int32)) + (0 : Int32)) + (0 : Int32)) + (0 : Int32))).toNatClampNeg]? = some (.int (Int32.ofNat n1)) := by
  rw [← own_ps2_0 h0 h1]
  obtain ⟨b1, b2, b3⟩ := own_bd2_0 h0 h1
  refine ⟨b3, b1, ?_⟩
  rw [fl_get b2]
  have e1 : HH [n0, n1] 2 (ps [n0, n1] 0).toNatClampNeg = HH [n0, n1] 1 (ps [n0, n1] 0).toNatClampNeg := put_ne (own_ne2_0_1 h0 h1)
  have e0 : HH [n0, n1] 1 (ps [n0, n1] 0).toNatClampNeg = (Int32.ofNat n1) := put_eq
  rw [e1, e0]
theorem own_sl2_1 {n0 n1 : Nat} (h0 : n0 < 8) (h1 : n1 < 8) : (((((((if (Int32.ofNat n0) < (Int32.ofNat n1) then (1 : Int32) else (0 : Int32)) + (if (Int32.ofNat n1) < (Int32.ofNat n1) then (1 : Int32) else (0 : Int32))) + (0 : Int32)) + (0 : Int32)) + (0 : Int32)) + (0 : Int32)) + (((((if (Int32.ofNat n0) = (Int32.ofNat n1) then (1 : Int32) else (0 : Int32)) + (0 : Int32)) + (0 : Int32)) + (0 : Int32)) + (0 : Int32))) < (2 : Int32) ∧ ¬ (((((((if (Int32.ofNat n0) < (Int32.ofNat n1) then (1 : Int32) else (0 : Int32)) + (if (Int32.ofNat n1) < (Int32.ofNat n1) then (1 : Int32) else (0 : Int32))) + (0 : Int32)) + (0 : Int32)) + (0 : Int32)) + (0 : Int32)) + (((((if (Int32.ofNat n0) = (Int32.ofNat n1) then (1 : Int32) else (0 : Int32)) + (0 : Int32)) + (0 : Int32)) + (0 : Int32)) + (0 : Int32))) < 0 ∧ (fl 2 (HH [n0, n1] 2))[((((((((if (Int32.ofNat n0) < (Int32.ofNat n1) then (1 : Int32) else (0 : Int32)) + (if (Int32.ofNat n1) < (Int32.ofNat n1) then (1 : Int32) else (0 : Int32))) + (0 : Int32)) + (0 : Int32)) + (0 : Int32)) + (0 : Int32)) + (((((if (Int32.ofNat n0) = (Int32.ofNat n1) then (1 : Int32) else (0 : Int32)) + (0 : Int32)) + (0 : Int32)) + (0 : Int32)) + (0 : Int32)))).toNatClampNeg]? = some (.int (Int32.ofNat n0)) := by
  rw [← own_ps2_1 h0 h1]
  obtain ⟨b1, b2, b3⟩ := own_bd2_1 h0 h1
  refine ⟨b3, b1, ?_⟩
  rw [fl_get b2]
  have e1 : HH [n0, n1] 2 (ps [n0, n1] 1).toNatClampNeg = (Int32.ofNat n0) := put_eq
  rw [e1]
theorem own_off4_0 {n0 n1 n2 n3 : Nat} (h0 : n0 < 8) (h1 : n1 < 8) (h2 : n2 < 8) (h3 : n3 < 8) : ac (g1 [n0, n1, n2, n3]) 8 0 = ((((((if (Int32.ofNat n0) < (0 : Int32) then (1 : Int32) else (0 : Int32)) + (if (Int32.ofNat n1) < (0 : Int32) then (1 : Int32) else (0 : Int32))) + (if (Int32.ofNat n2) < (0 : Int32) then (1 : Int32) else (0 : Int32))) + (if (Int32.ofNat n3) < (0 : Int32) then (1 : Int32) else (0 : Int32))) + (0 : Int32)) + (0 : Int32)) := by
  rw [ac_sm _ (by decide)]
  simp only [g1, List.foldl, sm_inc, sm_zf, show (Int32.ofNat n0 < (0 : Int32)) ↔ n0 + 1 ≤ 0 from own_lt h0 (by decide), show (Int32.ofNat n1 < (0 : Int32)) ↔ n1 + 1 ≤ 0 from own_lt h1 (by decide), show (Int32.ofNat n2 < (0 : Int32)) ↔ n2 + 1 ≤ 0 from own_lt h2 (by decide), show (Int32.ofNat n3 < (0 : Int32)) ↔ n3 + 1 ≤ 0 from own_lt h3 (by decide)]
  simp only [Int32.zero_add, Int32.add_zero]
theorem own_off4_1 {n0 n1 n2 n3 : Nat} (h0 : n0 < 8) (h1 : n1 < 8) (h2 : n2 < 8) (h3 : n3 < 8) : ac (g1 [n0, n1, n2, n3]) 8 1 = ((((((if (Int32.ofNat n0) < (1 : Int32) then (1 : Int32) else (0 : Int32)) + (if (Int32.ofNat n1) < (1 : Int32) then (1 : Int32) else (0 : Int32))) + (if (Int32.ofNat n2) < (1 : Int32) then (1 : Int32) else (0 : Int32))) + (if (Int32.ofNat n3) < (1 : Int32) then (1 : Int32) else (0 : Int32))) + (0 : Int32)) + (0 : Int32)) := by
  rw [ac_sm _ (by decide)]
  simp only [g1, List.foldl, sm_inc, sm_zf, show (Int32.ofNat n0 < (1 : Int32)) ↔ n0 + 1 ≤ 1 from own_lt h0 (by decide), show (Int32.ofNat n1 < (1 : Int32)) ↔ n1 + 1 ≤ 1 from own_lt h1 (by decide), show (Int32.ofNat n2 < (1 : Int32)) ↔ n2 + 1 ≤ 1 from own_lt h2 (by decide), show (Int32.ofNat n3 < (1 : Int32)) ↔ n3 + 1 ≤ 1 from own_lt h3 (by decide)]
  simp only [Int32.zero_add, Int32.add_zero]
theorem own_off4_2 {n0 n1 n2 n3 : Nat} (h0 : n0 < 8) (h1 : n1 < 8) (h2 : n2 < 8) (h3 : n3 < 8) : ac (g1 [n0, n1, n2, n3]) 8 2 = ((((((if (Int32.ofNat n0) < (2 : Int32) then (1 : Int32) else (0 : Int32)) + (if (Int32.ofNat n1) < (2 : Int32) then (1 : Int32) else (0 : Int32))) + (if (Int32.ofNat n2) < (2 : Int32) then (1 : Int32) else (0 : Int32))) + (if (Int32.ofNat n3) < (2 : Int32) then (1 : Int32) else (0 : Int32))) + (0 : Int32)) + (0 : Int32)) := by
  rw [ac_sm _ (by decide)]
  simp only [g1, List.foldl, sm_inc, sm_zf, show (Int32.ofNat n0 < (2 : Int32)) ↔ n0 + 1 ≤ 2 from own_lt h0 (by decide), show (Int32.ofNat n1 < (2 : Int32)) ↔ n1 + 1 ≤ 2 from own_lt h1 (by decide), show (Int32.ofNat n2 < (2 : Int32)) ↔ n2 + 1 ≤ 2 from own_lt h2 (by decide), show (Int32.ofNat n3 < (2 : Int32)) ↔ n3 + 1 ≤ 2 from own_lt h3 (by decide)]
  simp only [Int32.zero_add, Int32.add_zero]
theorem own_off4_3 {n0 n1 n2 n3 : Nat} (h0 : n0 < 8) (h1 : n1 < 8) (h2 : n2 < 8) (h3 : n3 < 8) : ac (g1 [n0, n1, n2, n3]) 8 3 = ((((((if (Int32.ofNat n0) < (3 : Int32) then (1 : Int32) else (0 : Int32)) + (if (Int32.ofNat n1) < (3 : Int32) then (1 : Int32) else (0 : Int32))) + (if (Int32.ofNat n2) < (3 : Int32) then (1 : Int32) else (0 : Int32))) + (if (Int32.ofNat n3) < (3 : Int32) then (1 : Int32) else (0 : Int32))) + (0 : Int32)) + (0 : Int32)) := by
  rw [ac_sm _ (by decide)]
  simp only [g1, List.foldl, sm_inc, sm_zf, show (Int32.ofNat n0 < (3 : Int32)) ↔ n0 + 1 ≤ 3 from own_lt h0 (by decide), show (Int32.ofNat n1 < (3 : Int32)) ↔ n1 + 1 ≤ 3 from own_lt h1 (by decide), show (Int32.ofNat n2 < (3 : Int32)) ↔ n2 + 1 ≤ 3 from own_lt h2 (by decide), show (Int32.ofNat n3 < (3 : Int32)) ↔ n3 + 1 ≤ 3 from own_lt h3 (by decide)]
  simp only [Int32.zero_add, Int32.add_zero]
theorem own_off4_4 {n0 n1 n2 n3 : Nat} (h0 : n0 < 8) (h1 : n1 < 8) (h2 : n2 < 8) (h3 : n3 < 8) : ac (g1 [n0, n1, n2, n3]) 8 4 = ((((((if (Int32.ofNat n0) < (4 : Int32) then (1 : Int32) else (0 : Int32)) + (if (Int32.ofNat n1) < (4 : Int32) then (1 : Int32) else (0 : Int32))) + (if (Int32.ofNat n2) < (4 : Int32) then (1 : Int32) else (0 : Int32))) + (if (Int32.ofNat n3) < (4 : Int32) then (1 : Int32) else (0 : Int32))) + (0 : Int32)) + (0 : Int32)) := by
  rw [ac_sm _ (by decide)]
  simp only [g1, List.foldl, sm_inc, sm_zf, show (Int32.ofNat n0 < (4 : Int32)) ↔ n0 + 1 ≤ 4 from own_lt h0 (by decide), show (Int32.ofNat n1 < (4 : Int32)) ↔ n1 + 1 ≤ 4 from own_lt h1 (by decide), show (Int32.ofNat n2 < (4 : Int32)) ↔ n2 + 1 ≤ 4 from own_lt h2 (by decide), show (Int32.ofNat n3 < (4 : Int32)) ↔ n3 + 1 ≤ 4 from own_lt h3 (by decide)]
  simp only [Int32.zero_add, Int32.add_zero]
theorem own_off4_5 {n0 n1 n2 n3 : Nat} (h0 : n0 < 8) (h1 : n1 < 8) (h2 : n2 < 8) (h3 : n3 < 8) : ac (g1 [n0, n1, n2, n3]) 8 5 = ((((((if (Int32.ofNat n0) < (5 : Int32) then (1 : Int32) else (0 : Int32)) + (if (Int32.ofNat n1) < (5 : Int32) then (1 : Int32) else (0 : Int32))) + (if (Int32.ofNat n2) < (5 : Int32) then (1 : Int32) else (0 : Int32))) + (if (Int32.ofNat n3) < (5 : Int32) then (1 : Int32) else (0 : Int32))) + (0 : Int32)) + (0 : Int32)) := by
  rw [ac_sm _ (by decide)]
  simp only [g1, List.foldl, sm_inc, sm_zf, show (Int32.ofNat n0 < (5 : Int32)) ↔ n0 + 1 ≤ 5 from own_lt h0 (by decide), show (Int32.ofNat n1 < (5 : Int32)) ↔ n1 + 1 ≤ 5 from own_lt h1 (by decide), show (Int32.ofNat n2 < (5 : Int32)) ↔ n2 + 1 ≤ 5 from own_lt h2 (by decide), show (Int32.ofNat n3 < (5 : Int32)) ↔ n3 + 1 ≤ 5 from own_lt h3 (by decide)]
  simp only [Int32.zero_add, Int32.add_zero]
theorem own_off4_6 {n0 n1 n2 n3 : Nat} (h0 : n0 < 8) (h1 : n1 < 8) (h2 : n2 < 8) (h3 : n3 < 8) : ac (g1 [n0, n1, n2, n3]) 8 6 = ((((((if (Int32.ofNat n0) < (6 : Int32) then (1 : Int32) else (0 : Int32)) + (if (Int32.ofNat n1) < (6 : Int32) then (1 : Int32) else (0 : Int32))) + (if (Int32.ofNat n2) < (6 : Int32) then (1 : Int32) else (0 : Int32))) + (if (Int32.ofNat n3) < (6 : Int32) then (1 : Int32) else (0 : Int32))) + (0 : Int32)) + (0 : Int32)) := by
  rw [ac_sm _ (by decide)]
  simp only [g1, List.foldl, sm_inc, sm_zf, show (Int32.ofNat n0 < (6 : Int32)) ↔ n0 + 1 ≤ 6 from own_lt h0 (by decide), show (Int32.ofNat n1 < (6 : Int32)) ↔ n1 + 1 ≤ 6 from own_lt h1 (by decide), show (Int32.ofNat n2 < (6 : Int32)) ↔ n2 + 1 ≤ 6 from own_lt h2 (by decide), show (Int32.ofNat n3 < (6 : Int32)) ↔ n3 + 1 ≤ 6 from own_lt h3 (by decide)]
  simp only [Int32.zero_add, Int32.add_zero]
theorem own_off4_7 {n0 n1 n2 n3 : Nat} (h0 : n0 < 8) (h1 : n1 < 8) (h2 : n2 < 8) (h3 : n3 < 8) : ac (g1 [n0, n1, n2, n3]) 8 7 = ((((((if (Int32.ofNat n0) < (7 : Int32) then (1 : Int32) else (0 : Int32)) + (if (Int32.ofNat n1) < (7 : Int32) then (1 : Int32) else (0 : Int32))) + (if (Int32.ofNat n2) < (7 : Int32) then (1 : Int32) else (0 : Int32))) + (if (Int32.ofNat n3) < (7 : Int32) then (1 : Int32) else (0 : Int32))) + (0 : Int32)) + (0 : Int32)) := by
  rw [ac_sm _ (by decide)]
  simp only [g1, List.foldl, sm_inc, sm_zf, show (Int32.ofNat n0 < (7 : Int32)) ↔ n0 + 1 ≤ 7 from own_lt h0 (by decide), show (Int32.ofNat n1 < (7 : Int32)) ↔ n1 + 1 ≤ 7 from own_lt h1 (by decide), show (Int32.ofNat n2 < (7 : Int32)) ↔ n2 + 1 ≤ 7 from own_lt h2 (by decide), show (Int32.ofNat n3 < (7 : Int32)) ↔ n3 + 1 ≤ 7 from own_lt h3 (by decide)]
  simp only [Int32.zero_add, Int32.add_zero]
theorem own_off4_8 {n0 n1 n2 n3 : Nat} (h0 : n0 < 8) (h1 : n1 < 8) (h2 : n2 < 8) (h3 : n3 < 8) : ac (g1 [n0, n1, n2, n3]) 8 8 = ((((((if (Int32.ofNat n0) < (8 : Int32) then (1 : Int32) else (0 : Int32)) + (if (Int32.ofNat n1) < (8 : Int32) then (1 : Int32) else (0 : Int32))) + (if (Int32.ofNat n2) < (8 : Int32) then (1 : Int32) else (0 : Int32))) + (if (Int32.ofNat n3) < (8 : Int32) then (1 : Int32) else (0 : Int32))) + (0 : Int32)) + (0 : Int32)) := by
  rw [ac_sm _ (by decide)]
  simp only [g1, List.foldl, sm_inc, sm_zf, show (Int32.ofNat n0 < (8 : Int32)) ↔ n0 + 1 ≤ 8 from own_lt h0 (by decide), show (Int32.ofNat n1 < (8 : Int32)) ↔ n1 + 1 ≤ 8 from own_lt h1 (by decide), show (Int32.ofNat n2 < (8 : Int32)) ↔ n2 + 1 ≤ 8 from own_lt h2 (by decide), show (Int32.ofNat n3 < (8 : Int32)) ↔ n3 + 1 ≤ 8 from own_lt h3 (by decide)]
  simp only [Int32.zero_add, Int32.add_zero]
theorem own_ps4_0 {n0 n1 n2 n3 : Nat} (h0 : n0 < 8) (h1 : n1 < 8) (h2 : n2 < 8) (h3 : n3 < 8) : ps [n0, n1, n2, n3] 0 = (((((((if (Int32.ofNat n0) < (Int32.ofNat n0) then (1 : Int32) else (0 : Int32)) + (if (Int32.ofNat n1) < (Int32.ofNat n0) then (1 : Int32) else (0 : Int32))) + (if (Int32.ofNat n2) < (Int32.ofNat n0) then (1 : Int32) else (0 : Int32))) + (if (Int32.ofNat n3) < (Int32.ofNat n0) then (1 : Int32) else (0 : Int32))) + (0 : Int32)) + (0 : Int32)) + (0 : Int32)) := by
  show (ac (g1 [n0, n1, n2, n3]) 8) n0 = _
  skip
  rw [ac_sm _ (by omega)]
  simp only [g1, List.foldl, sm_inc, sm_zf, show (Int32.ofNat n0 < Int32.ofNat n0) ↔ n0 + 1 ≤ n0 from own_lt h0 (by omega), show (Int32.ofNat n1 < Int32.ofNat n0) ↔ n1 + 1 ≤ n0 from own_lt h1 (by omega), show (Int32.ofNat n2 < Int32.ofNat n0) ↔ n2 + 1 ≤ n0 from own_lt h2 (by omega), show (Int32.ofNat n3 < Int32.ofNat n0) ↔ n3 + 1 ≤ n0 from own_lt h3 (by omega)]
  simp only [Int32.zero_add, Int32.add_zero, Int32.add_assoc]
theorem own_pi4_0 {n0 n1 n2 n3 : Nat} (h0 : n0 < 8) (h1 : n1 < 8) (h2 : n2 < 8) (h3 : n3 < 8) : (ps [n0, n1, n2, n3] 0).toInt = (0 : Int) + (if n0 + 1 ≤ n0 then (1 : Int) else 0) + (if n1 + 1 ≤ n0 then (1 : Int) else 0) + (if n2 + 1 ≤ n0 then (1 : Int) else 0) + (if n3 + 1 ≤ n0 then (1 : Int) else 0) ∧ 0 ≤ (0 : Int) + (if n0 + 1 ≤ n0 then (1 : Int) else 0) + (if n1 + 1 ≤ n0 then (1 : Int) else 0) + (if n2 + 1 ≤ n0 then (1 : Int) else 0) + (if n3 + 1 ≤ n0 then (1 : Int) else 0) := by
  have e : ps [n0, n1, n2, n3] 0 = (ac (g1 [n0, n1, n2, n3]) 8) n0 := rfl
  skip
  rw [ac_sm _ (by omega)] at e
  simp only [g1, List.foldl, sm_inc, sm_zf] at e
  rw [e]
  have z : (0 : Int32).toInt = 0 ∧ (0 : Int) ≤ 0 ∧ (0 : Int) ≤ 0 := by decide
  have q := (own_b2 (n3 + 1 ≤ n0) (own_b2 (n2 + 1 ≤ n0) (own_b2 (n1 + 1 ≤ n0) (own_b2 (n0 + 1 ≤ n0) z (by decide)) (by decide)) (by decide)) (by decide))
  exact ⟨q.1, q.2.1⟩
theorem own_bd4_0 {n0 n1 n2 n3 : Nat} (h0 : n0 < 8) (h1 : n1 < 8) (h2 : n2 < 8) (h3 : n3 < 8) : ¬ ps [n0, n1, n2, n3] 0 < 0 ∧ (ps [n0, n1, n2, n3] 0).toNatClampNeg < 4 ∧ ps [n0, n1, n2, n3] 0 < (4 : Int32) := by
  obtain ⟨e, p⟩ := own_pi4_0 h0 h1 h2 h3
  have c := own_cl e p
  have t0 := t_01 n0 n0
  have t1 := t_01 n1 n0
  have t2 := t_01 n2 n0
  have t3 := t_01 n3 n0
  have tj : (if n0 + 1 ≤ n0 then (1 : Int) else 0) = 0 := if_neg (by omega)
  generalize (if n0 + 1 ≤ n0 then (1 : Int) else 0) = a0 at *
  generalize (if n1 + 1 ≤ n0 then (1 : Int) else 0) = a1 at *
  generalize (if n2 + 1 ≤ n0 then (1 : Int) else 0) = a2 at *
  generalize (if n3 + 1 ≤ n0 then (1 : Int) else 0) = a3 at *
  generalize (if n0 = n1 then (1 : Int) else 0) = c1 at *
  generalize (if n0 = n2 then (1 : Int) else 0) = c2 at *
  generalize (if n0 = n3 then (1 : Int) else 0) = c3 at *
  have eM : (4 : Int32).toInt = 4 := by decide
  have e0 : (0 : Int32).toInt = 0 := by decide
  simp only [Int32.lt_iff_toInt_lt, e, eM, e0]
  omega
theorem own_ps4_1 {n0 n1 n2 n3 : Nat} (h0 : n0 < 8) (h1 : n1 < 8) (h2 : n2 < 8) (h3 : n3 < 8) : ps [n0, n1, n2, n3] 1 = (((((((if (Int32.ofNat n0) < (Int32.ofNat n1) then (1 : Int32) else (0 : Int32)) + (if (Int32.ofNat n1) < (Int32.ofNat n1) then (1 : Int32) else (0 : Int32))) + (if (Int32.ofNat n2) < (Int32.ofNat n1) then (1 : Int32) else (0 : Int32))) + (if (Int32.ofNat n3) < (Int32.ofNat n1) then (1 : Int32) else (0 : Int32))) + (0 : Int32)) + (0 : Int32)) + (((((if (Int32.ofNat n0) = (Int32.ofNat n1) then (1 : Int32) else (0 : Int32)) + (0 : Int32)) + (0 : Int32)) + (0 : Int32)) + (0 : Int32))) := by
  show (inc (ac (g1 [n0, n1, n2, n3]) 8) n0) n1 = _
  simp only [inc_val]
  rw [ac_sm _ (by omega)]
  simp only [g1, List.foldl, sm_inc, sm_zf, show (Int32.ofNat n0 < Int32.ofNat n1) ↔ n0 + 1 ≤ n1 from own_lt h0 (by omega), show (Int32.ofNat n1 < Int32.ofNat n1) ↔ n1 + 1 ≤ n1 from own_lt h1 (by omega), show (Int32.ofNat n2 < Int32.ofNat n1) ↔ n2 + 1 ≤ n1 from own_lt h2 (by omega), show (Int32.ofNat n3 < Int32.ofNat n1) ↔ n3 + 1 ≤ n1 from own_lt h3 (by omega), show (Int32.ofNat n0 = Int32.ofNat n1) ↔ n1 = n0 from own_eqn h0 h1]
  simp only [Int32.zero_add, Int32.add_zero, Int32.add_assoc]
theorem own_pi4_1 {n0 n1 n2 n3 : Nat} (h0 : n0 < 8) (h1 : n1 < 8) (h2 : n2 < 8) (h3 : n3 < 8) : (ps [n0, n1, n2, n3] 1).toInt = (0 : Int) + (if n0 + 1 ≤ n1 then (1 : Int) else 0) + (if n1 + 1 ≤ n1 then (1 : Int) else 0) + (if n2 + 1 ≤ n1 then (1 : Int) else 0) + (if n3 + 1 ≤ n1 then (1 : Int) else 0) + (if n1 = n0 then (1 : Int) else 0) ∧ 0 ≤ (0 : Int) + (if n0 + 1 ≤ n1 then (1 : Int) else 0) + (if n1 + 1 ≤ n1 then (1 : Int) else 0) + (if n2 + 1 ≤ n1 then (1 : Int) else 0) + (if n3 + 1 ≤ n1 then (1 : Int) else 0) + (if n1 = n0 then (1 : Int) else 0) := by
  have e : ps [n0, n1, n2, n3] 1 = (inc (ac (g1 [n0, n1, n2, n3]) 8) n0) n1 := rfl
  simp only [inc_val] at e
  rw [ac_sm _ (by omega)] at e
  simp only [g1, List.foldl, sm_inc, sm_zf] at e
  rw [e]
  have z : (0 : Int32).toInt = 0 ∧ (0 : Int) ≤ 0 ∧ (0 : Int) ≤ 0 := by decide
  have q := (own_b2 (n1 = n0) (own_b2 (n3 + 1 ≤ n1) (own_b2 (n2 + 1 ≤ n1) (own_b2 (n1 + 1 ≤ n1) (own_b2 (n0 + 1 ≤ n1) z (by decide)) (by decide)) (by decide)) (by decide)) (by decide))
  exact ⟨q.1, q.2.1⟩
theorem own_bd4_1 {n0 n1 n2 n3 : Nat} (h0 : n0 < 8) (h1 : n1 < 8) (h2 : n2 < 8) (h3 : n3 < 8) : ¬ ps [n0, n1, n2, n3] 1 < 0 ∧ (ps [n0, n1, n2, n3] 1).toNatClampNeg < 4 ∧ ps [n0, n1, n2, n3] 1 < (4 : Int32) := by
  obtain ⟨e, p⟩ := own_pi4_1 h0 h1 h2 h3
  have c := own_cl e p
  have t0 := t_01 n0 n1
  have t1 := t_01 n1 n1
  have t2 := t_01 n2 n1
  have t3 := t_01 n3 n1
  have tj : (if n1 + 1 ≤ n1 then (1 : Int) else 0) = 0 := if_neg (by omega)
  generalize (if n0 + 1 ≤ n1 then (1 : Int) else 0) = a0 at *
  generalize (if n1 + 1 ≤ n1 then (1 : Int) else 0) = a1 at *
  generalize (if n2 + 1 ≤ n1 then (1 : Int) else 0) = a2 at *
  generalize (if n3 + 1 ≤ n1 then (1 : Int) else 0) = a3 at *
  generalize (if n1 = n0 then (1 : Int) else 0) = c0 at *
  generalize (if n1 = n2 then (1 : Int) else 0) = c2 at *
  generalize (if n1 = n3 then (1 : Int) else 0) = c3 at *
  have eM : (4 : Int32).toInt = 4 := by decide
  have e0 : (0 : Int32).toInt = 0 := by decide
  simp only [Int32.lt_iff_toInt_lt, e, eM, e0]
  omega
theorem own_ps4_2 {n0 n1 n2 n3 : Nat} (h0 : n0 < 8) (h1 : n1 < 8) (h2 : n2 < 8) (h3 : n3 < 8) : ps [n0, n1, n2, n3] 2 = (((((((if (Int32.ofNat n0) < (Int32.ofNat n2) then (1 : Int32) else (0 : Int32)) + (if (Int32.ofNat n1) < (Int32.ofNat n2) then (1 : Int32) else (0 : Int32))) + (if (Int32.ofNat n2) < (Int32.ofNat n2) then (1 : Int32) else (0 : Int32))) + (if (Int32.ofNat n3) < (Int32.ofNat n2) then (1 : Int32) else (0 : Int32))) + (0 : Int32)) + (0 : Int32)) + (((((if (Int32.ofNat n0) = (Int32.ofNat n2) then (1 : Int32) else (0 : Int32)) + (if (Int32.ofNat n1) = (Int32.ofNat n2) then (1 : Int32) else (0 : Int32))) + (0 : Int32)) + (0 : Int32)) + (0 : Int32))) := by
  show (inc (inc (ac (g1 [n0, n1, n2, n3]) 8) n0) n1) n2 = _
  simp only [inc_val]
  rw [ac_sm _ (by omega)]
  simp only [g1, List.foldl, sm_inc, sm_zf, show (Int32.ofNat n0 < Int32.ofNat n2) ↔ n0 + 1 ≤ n2 from own_lt h0 (by omega), show (Int32.ofNat n1 < Int32.ofNat n2) ↔ n1 + 1 ≤ n2 from own_lt h1 (by omega), show (Int32.ofNat n2 < Int32.ofNat n2) ↔ n2 + 1 ≤ n2 from own_lt h2 (by omega), show (Int32.ofNat n3 < Int32.ofNat n2) ↔ n3 + 1 ≤ n2 from own_lt h3 (by omega), show (Int32.ofNat n0 = Int32.ofNat n2) ↔ n2 = n0 from own_eqn h0 h2, show (Int32.ofNat n1 = Int32.ofNat n2) ↔ n2 = n1 from own_eqn h1 h2]
  simp only [Int32.zero_add, Int32.add_zero, Int32.add_assoc]
theorem own_pi4_2 {n0 n1 n2 n3 : Nat} (h0 : n0 < 8) (h1 : n1 < 8) (h2 : n2 < 8) (h3 : n3 < 8) : (ps [n0, n1, n2, n3] 2).toInt = (0 : Int) + (if n0 + 1 ≤ n2 then (1 : Int) else 0) + (if n1 + 1 ≤ n2 then (1 : Int) else 0) + (if n2 + 1 ≤ n2 then (1 : Int) else 0) + (if n3 + 1 ≤ n2 then (1 : Int) else 0) + (if n2 = n0 then (1 : Int) else 0) + (if n2 = n1 then (1 : Int) else 0) ∧ 0 ≤ (0 : Int) + (if n0 + 1 ≤ n2 then (1 : Int) else 0) + (if n1 + 1 ≤ n2 then (1 : Int) else 0) + (if n2 + 1 ≤ n2 then (1 : Int) else 0) + (if n3 + 1 ≤ n2 then (1 : Int) else 0) + (if n2 = n0 then (1 : Int) else 0) + (if n2 = n1 then (1 : Int) else 0) := by
  have e : ps [n0, n1, n2, n3] 2 = (inc (inc (ac (g1 [n0, n1, n2, n3]) 8) n0) n1) n2 := rfl
  simp only [inc_val] at e
  rw [ac_sm _ (by omega)] at e
  simp only [g1, List.foldl, sm_inc, sm_zf] at e
  rw [e]
  have z : (0 : Int32).toInt = 0 ∧ (0 : Int) ≤ 0 ∧ (0 : Int) ≤ 0 := by decide
  have q := (own_b2 (n2 = n1) (own_b2 (n2 = n0) (own_b2 (n3 + 1 ≤ n2) (own_b2 (n2 + 1 ≤ n2) (own_b2 (n1 + 1 ≤ n2) (own_b2 (n0 + 1 ≤ n2) z (by decide)) (by decide)) (by decide)) (by decide)) (by decide)) (by decide))
  exact ⟨q.1, q.2.1⟩
theorem own_bd4_2 {n0 n1 n2 n3 : Nat} (h0 : n0 < 8) (h1 : n1 < 8) (h2 : n2 < 8) (h3 : n3 < 8) : ¬ ps [n0, n1, n2, n3] 2 < 0 ∧ (ps [n0, n1, n2, n3] 2).toNatClampNeg < 4 ∧ ps [n0, n1, n2, n3] 2 < (4 : Int32) := by
  obtain ⟨e, p⟩ := own_pi4_2 h0 h1 h2 h3
  have c := own_cl e p
  have t0 := t_01 n0 n2
  have t1 := t_01 n1 n2
  have t2 := t_01 n2 n2
  have t3 := t_01 n3 n2
  have tj : (if n2 + 1 ≤ n2 then (1 : Int) else 0) = 0 := if_neg (by omega)
  generalize (if n0 + 1 ≤ n2 then (1 : Int) else 0) = a0 at *
  generalize (if n1 + 1 ≤ n2 then (1 : Int) else 0) = a1 at *
  generalize (if n2 + 1 ≤ n2 then (1 : Int) else 0) = a2 at *
  generalize (if n3 + 1 ≤ n2 then (1 : Int) else 0) = a3 at *
  generalize (if n2 = n0 then (1 : Int) else 0) = c0 at *
  generalize (if n2 = n1 then (1 : Int) else 0) = c1 at *
  generalize (if n2 = n3 then (1 : Int) else 0) = c3 at *
  have eM : (4 : Int32).toInt = 4 := by decide
  have e0 : (0 : Int32).toInt = 0 := by decide
  simp only [Int32.lt_iff_toInt_lt, e, eM, e0]
  omega
theorem own_ps4_3 {n0 n1 n2 n3 : Nat} (h0 : n0 < 8) (h1 : n1 < 8) (h2 : n2 < 8) (h3 : n3 < 8) : ps [n0, n1, n2, n3] 3 = (((((((if (Int32.ofNat n0) < (Int32.ofNat n3) then (1 : Int32) else (0 : Int32)) + (if (Int32.ofNat n1) < (Int32.ofNat n3) then (1 : Int32) else (0 : Int32))) + (if (Int32.ofNat n2) < (Int32.ofNat n3) then (1 : Int32) else (0 : Int32))) + (if (Int32.ofNat n3) < (Int32.ofNat n3) then (1 : Int32) else (0 : Int32))) + (0 : Int32)) + (0 : Int32)) + (((((if (Int32.ofNat n0) = (Int32.ofNat n3) then (1 : Int32) else (0 : Int32)) + (if (Int32.ofNat n1) = (Int32.ofNat n3) then (1 : Int32) else (0 : Int32))) + (if (Int32.ofNat n2) = (Int32.ofNat n3) then (1 : Int32) else (0 : Int32))) + (0 : Int32)) + (0 : Int32))) := by
  show (inc (inc (inc (ac (g1 [n0, n1, n2, n3]) 8) n0) n1) n2) n3 = _
  simp only [inc_val]
  rw [ac_sm _ (by omega)]
  simp only [g1, List.foldl, sm_inc, sm_zf, show (Int32.ofNat n0 < Int32.ofNat n3) ↔ n0 + 1 ≤ n3 from own_lt h0 (by omega), show (Int32.ofNat n1 < Int32.ofNat n3) ↔ n1 + 1 ≤ n3 from own_lt h1 (by omega), show (Int32.ofNat n2 < Int32.ofNat n3) ↔ n2 + 1 ≤ n3 from own_lt h2 (by omega), show (Int32.ofNat n3 < Int32.ofNat n3) ↔ n3 + 1 ≤ n3 from own_lt h3 (by omega), show (Int32.ofNat n0 = Int32.ofNat n3) ↔ n3 = n0 from own_eqn h0 h3, show (Int32.ofNat n1 = Int32.ofNat n3) ↔ n3 = n1 from own_eqn h1 h3, show (Int32.ofNat n2 = Int32.ofNat n3) ↔ n3 = n2 from own_eqn h2 h3]
  simp only [Int32.zero_add, Int32.add_zero, Int32.add_assoc]
theorem own_pi4_3 {n0 n1 n2 n3 : Nat} (h0 : n0 < 8) (h1 : n1 < 8) (h2 : n2 < 8) (h3 : n3 < 8) : (ps [n0, n1, n2, n3] 3).toInt = (0 : Int) + (if n0 + 1 ≤ n3 then (1 : Int) else 0) + (if n1 + 1 ≤ n3 then (1 : Int) else 0) + (if n2 + 1 ≤ n3 then (1 : Int) else 0) + (if n3 + 1 ≤ n3 then (1 : Int) else 0) + (if n3 = n0 then (1 : Int) else 0) + (if n3 = n1 then (1 : Int) else 0) + (if n3 = n2 then (1 : Int) else 0) ∧ 0 ≤ (0 : Int) + (if n0 + 1 ≤ n3 then (1 : Int) else 0) + (if n1 + 1 ≤ n3 then (1 : Int) else 0) + (if n2 + 1 ≤ n3 then (1 : Int) else 0) + (if n3 + 1 ≤ n3 then (1 : Int) else 0) + (if n3 = n0 then (1 : Int) else 0) + (if n3 = n1 then (1 : Int) else 0) + (if n3 = n2 then (1 : Int) else 0) := by
  have e : ps [n0, n1, n2, n3] 3 = (inc (inc (inc (ac (g1 [n0, n1, n2, n3]) 8) n0) n1) n2) n3 := rfl
  simp only [inc_val] at e
  rw [ac_sm _ (by omega)] at e
  simp only [g1, List.foldl, sm_inc, sm_zf] at e
  rw [e]
  have z : (0 : Int32).toInt = 0 ∧ (0 : Int) ≤ 0 ∧ (0 : Int) ≤ 0 := by decide
  have q := (own_b2 (n3 = n2) (own_b2 (n3 = n1) (own_b2 (n3 = n0) (own_b2 (n3 + 1 ≤ n3) (own_b2 (n2 + 1 ≤ n3) (own_b2 (n1 + 1 ≤ n3) (own_b2 (n0 + 1 ≤ n3) z (by decide)) (by decide)) (by decide)) (by decide)) (by decide)) (by decide)) (by decide))
  exact ⟨q.1, q.2.1⟩
theorem own_bd4_3 {n0 n1 n2 n3 : Nat} (h0 : n0 < 8) (h1 : n1 < 8) (h2 : n2 < 8) (h3 : n3 < 8) : ¬ ps [n0, n1, n2, n3] 3 < 0 ∧ (ps [n0, n1, n2, n3] 3).toNatClampNeg < 4 ∧ ps [n0, n1, n2, n3] 3 < (4 : Int32) := by
  obtain ⟨e, p⟩ := own_pi4_3 h0 h1 h2 h3
  have c := own_cl e p
  have t0 := t_01 n0 n3
  have t1 := t_01 n1 n3
  have t2 := t_01 n2 n3
  have t3 := t_01 n3 n3
  have tj : (if n3 + 1 ≤ n3 then (1 : Int) else 0) = 0 := if_neg (by omega)
  generalize (if n0 + 1 ≤ n3 then (1 : Int) else 0) = a0 at *
  generalize (if n1 + 1 ≤ n3 then (1 : Int) else 0) = a1 at *
  generalize (if n2 + 1 ≤ n3 then (1 : Int) else 0) = a2 at *
  generalize (if n3 + 1 ≤ n3 then (1 : Int) else 0) = a3 at *
  generalize (if n3 = n0 then (1 : Int) else 0) = c0 at *
  generalize (if n3 = n1 then (1 : Int) else 0) = c1 at *
  generalize (if n3 = n2 then (1 : Int) else 0) = c2 at *
  have eM : (4 : Int32).toInt = 4 := by decide
  have e0 : (0 : Int32).toInt = 0 := by decide
  simp only [Int32.lt_iff_toInt_lt, e, eM, e0]
  omega
theorem own_ne4_0_1 {n0 n1 n2 n3 : Nat} (h0 : n0 < 8) (h1 : n1 < 8) (h2 : n2 < 8) (h3 : n3 < 8) : (ps [n0, n1, n2, n3] 0).toNatClampNeg ≠ (ps [n0, n1, n2, n3] 1).toNatClampNeg := by
  obtain ⟨ei, pi⟩ := own_pi4_0 h0 h1 h2 h3
  obtain ⟨ej, pj⟩ := own_pi4_1 h0 h1 h2 h3
  have ci := own_cl ei pi
  have cj := own_cl ej pj
  clear ei ej
  rcases Nat.lt_trichotomy n0 n1 with h | h | h
  · have t0 := t_le (l := n0) h
    have t1 := t_le1 (l := n1) (Nat.le_of_lt h)
    have t2 := t_le1 (l := n2) (Nat.le_of_lt h)
    have t3 := t_le1 (l := n3) (Nat.le_of_lt h)
    have ti : (if n0 = n0 then (1 : Int) else 0) = 1 := if_pos rfl
    have tz : (if n0 + 1 ≤ n0 then (1 : Int) else 0) = 0 := if_neg (by omega)
    rw [ti] at t0
    clear ti
    have s0 := t_01 n0 n1
    generalize (if n0 + 1 ≤ n0 then (1 : Int) else 0) = a0 at *
    generalize (if n0 + 1 ≤ n1 then (1 : Int) else 0) = b0 at *
    generalize (if n1 + 1 ≤ n0 then (1 : Int) else 0) = a1 at *
    generalize (if n1 + 1 ≤ n1 then (1 : Int) else 0) = b1 at *
    generalize (if n2 + 1 ≤ n0 then (1 : Int) else 0) = a2 at *
    generalize (if n2 + 1 ≤ n1 then (1 : Int) else 0) = b2 at *
    generalize (if n3 + 1 ≤ n0 then (1 : Int) else 0) = a3 at *
    generalize (if n3 + 1 ≤ n1 then (1 : Int) else 0) = b3 at *
    generalize (if n1 = n0 then (1 : Int) else 0) = d0 at *
    omega
  · have ti : (if n1 = n0 then (1 : Int) else 0) = 1 := if_pos h.symm
    have u0 : (if n0 + 1 ≤ n0 then (1 : Int) else 0) = (if n0 + 1 ≤ n1 then (1 : Int) else 0) := by rw [h]
    have u1 : (if n1 + 1 ≤ n0 then (1 : Int) else 0) = (if n1 + 1 ≤ n1 then (1 : Int) else 0) := by rw [h]
    have u2 : (if n2 + 1 ≤ n0 then (1 : Int) else 0) = (if n2 + 1 ≤ n1 then (1 : Int) else 0) := by rw [h]
    have u3 : (if n3 + 1 ≤ n0 then (1 : Int) else 0) = (if n3 + 1 ≤ n1 then (1 : Int) else 0) := by rw [h]
    have s0 := t_01 n0 n1
    generalize (if n0 + 1 ≤ n0 then (1 : Int) else 0) = a0 at *
    generalize (if n0 + 1 ≤ n1 then (1 : Int) else 0) = b0 at *
    generalize (if n1 + 1 ≤ n0 then (1 : Int) else 0) = a1 at *
    generalize (if n1 + 1 ≤ n1 then (1 : Int) else 0) = b1 at *
    generalize (if n2 + 1 ≤ n0 then (1 : Int) else 0) = a2 at *
    generalize (if n2 + 1 ≤ n1 then (1 : Int) else 0) = b2 at *
    generalize (if n3 + 1 ≤ n0 then (1 : Int) else 0) = a3 at *
    generalize (if n3 + 1 ≤ n1 then (1 : Int) else 0) = b3 at *
    generalize (if n1 = n0 then (1 : Int) else 0) = d0 at *
    omega
  · have t0 := t_le (l := n0) h
    have t1 := t_le (l := n1) h
    have t2 := t_le1 (l := n2) (Nat.le_of_lt h)
    have t3 := t_le1 (l := n3) (Nat.le_of_lt h)
    have ti : (if n1 = n1 then (1 : Int) else 0) = 1 := if_pos rfl
    have tz : (if n1 + 1 ≤ n1 then (1 : Int) else 0) = 0 := if_neg (by omega)
    rw [ti] at t1
    clear ti
    generalize (if n0 + 1 ≤ n0 then (1 : Int) else 0) = a0 at *
    generalize (if n0 + 1 ≤ n1 then (1 : Int) else 0) = b0 at *
    generalize (if n1 + 1 ≤ n0 then (1 : Int) else 0) = a1 at *
    generalize (if n1 + 1 ≤ n1 then (1 : Int) else 0) = b1 at *
    generalize (if n2 + 1 ≤ n0 then (1 : Int) else 0) = a2 at *
    generalize (if n2 + 1 ≤ n1 then (1 : Int) else 0) = b2 at *
    generalize (if n3 + 1 ≤ n0 then (1 : Int) else 0) = a3 at *
    generalize (if n3 + 1 ≤ n1 then (1 : Int) else 0) = b3 at *
    generalize (if n1 = n0 then (1 : Int) else 0) = d0 at *
    omega
theorem own_ne4_0_2 {n0 n1 n2 n3 : Nat} (h0 : n0 < 8) (h1 : n1 < 8) (h2 : n2 < 8) (h3 : n3 < 8) : (ps [n0, n1, n2, n3] 0).toNatClampNeg ≠ (ps [n0, n1, n2, n3] 2).toNatClampNeg := by
  obtain ⟨ei, pi⟩ := own_pi4_0 h0 h1 h2 h3
  obtain ⟨ej, pj⟩ := own_pi4_2 h0 h1 h2 h3
  have ci := own_cl ei pi
  have cj := own_cl ej pj
  clear ei ej
  rcases Nat.lt_trichotomy n0 n2 with h | h | h
  · have t0 := t_le (l := n0) h
    have t1 := t_le1 (l := n1) (Nat.le_of_lt h)
    have t2 := t_le1 (l := n2) (Nat.le_of_lt h)
    have t3 := t_le1 (l := n3) (Nat.le_of_lt h)
    have ti : (if n0 = n0 then (1 : Int) else 0) = 1 := if_pos rfl
    have tz : (if n0 + 1 ≤ n0 then (1 : Int) else 0) = 0 := if_neg (by omega)
    rw [ti] at t0
    clear ti
    have s0 := t_01 n0 n2
    have s1 := t_01 n1 n2
    generalize (if n0 + 1 ≤ n0 then (1 : Int) else 0) = a0 at *
    generalize (if n0 + 1 ≤ n2 then (1 : Int) else 0) = b0 at *
    generalize (if n1 + 1 ≤ n0 then (1 : Int) else 0) = a1 at *
    generalize (if n1 + 1 ≤ n2 then (1 : Int) else 0) = b1 at *
    generalize (if n2 + 1 ≤ n0 then (1 : Int) else 0) = a2 at *
    generalize (if n2 + 1 ≤ n2 then (1 : Int) else 0) = b2 at *
    generalize (if n3 + 1 ≤ n0 then (1 : Int) else 0) = a3 at *
    generalize (if n3 + 1 ≤ n2 then (1 : Int) else 0) = b3 at *
    generalize (if n2 = n0 then (1 : Int) else 0) = d0 at *
    generalize (if n2 = n1 then (1 : Int) else 0) = d1 at *
    omega
  · have ti : (if n2 = n0 then (1 : Int) else 0) = 1 := if_pos h.symm
    have u0 : (if n0 + 1 ≤ n0 then (1 : Int) else 0) = (if n0 + 1 ≤ n2 then (1 : Int) else 0) := by rw [h]
    have u1 : (if n1 + 1 ≤ n0 then (1 : Int) else 0) = (if n1 + 1 ≤ n2 then (1 : Int) else 0) := by rw [h]
    have u2 : (if n2 + 1 ≤ n0 then (1 : Int) else 0) = (if n2 + 1 ≤ n2 then (1 : Int) else 0) := by rw [h]
    have u3 : (if n3 + 1 ≤ n0 then (1 : Int) else 0) = (if n3 + 1 ≤ n2 then (1 : Int) else 0) := by rw [h]
    have s0 := t_01 n0 n2
    have s1 := t_01 n1 n2
    generalize (if n0 + 1 ≤ n0 then (1 : Int) else 0) = a0 at *
    generalize (if n0 + 1 ≤ n2 then (1 : Int) else 0) = b0 at *
    generalize (if n1 + 1 ≤ n0 then (1 : Int) else 0) = a1 at *
    generalize (if n1 + 1 ≤ n2 then (1 : Int) else 0) = b1 at *
    generalize (if n2 + 1 ≤ n0 then (1 : Int) else 0) = a2 at *
    generalize (if n2 + 1 ≤ n2 then (1 : Int) else 0) = b2 at *
    generalize (if n3 + 1 ≤ n0 then (1 : Int) else 0) = a3 at *
    generalize (if n3 + 1 ≤ n2 then (1 : Int) else 0) = b3 at *
    generalize (if n2 = n0 then (1 : Int) else 0) = d0 at *
    generalize (if n2 = n1 then (1 : Int) else 0) = d1 at *
    omega
  · have t0 := t_le (l := n0) h
    have t1 := t_le (l := n1) h
    have t2 := t_le (l := n2) h
    have t3 := t_le1 (l := n3) (Nat.le_of_lt h)
    have ti : (if n2 = n2 then (1 : Int) else 0) = 1 := if_pos rfl
    have tz : (if n2 + 1 ≤ n2 then (1 : Int) else 0) = 0 := if_neg (by omega)
    rw [ti] at t2
    clear ti
    generalize (if n0 + 1 ≤ n0 then (1 : Int) else 0) = a0 at *
    generalize (if n0 + 1 ≤ n2 then (1 : Int) else 0) = b0 at *
    generalize (if n1 + 1 ≤ n0 then (1 : Int) else 0) = a1 at *
    generalize (if n1 + 1 ≤ n2 then (1 : Int) else 0) = b1 at *
    generalize (if n2 + 1 ≤ n0 then (1 : Int) else 0) = a2 at *
    generalize (if n2 + 1 ≤ n2 then (1 : Int) else 0) = b2 at *
    generalize (if n3 + 1 ≤ n0 then (1 : Int) else 0) = a3 at *
    generalize (if n3 + 1 ≤ n2 then (1 : Int) else 0) = b3 at *
    generalize (if n2 = n0 then (1 : Int) else 0) = d0 at *
    generalize (if n2 = n1 then (1 : Int) else 0) = d1 at *
    omega
theorem own_ne4_0_3 {n0 n1 n2 n3 : Nat} (h0 : n0 < 8) (h1 : n1 < 8) (h2 : n2 < 8) (h3 : n3 < 8) : (ps [n0, n1, n2, n3] 0).toNatClampNeg ≠ (ps [n0, n1, n2, n3] 3).toNatClampNeg := by
  obtain ⟨ei, pi⟩ := own_pi4_0 h0 h1 h2 h3
  obtain ⟨ej, pj⟩ := own_pi4_3 h0 h1 h2 h3
  have ci := own_cl ei pi
  have cj := own_cl ej pj
  clear ei ej
  rcases Nat.lt_trichotomy n0 n3 with h | h | h
  · have t0 := t_le (l := n0) h
    have t1 := t_le1 (l := n1) (Nat.le_of_lt h)
    have t2 := t_le1 (l := n2) (Nat.le_of_lt h)
    have t3 := t_le1 (l := n3) (Nat.le_of_lt h)
    have ti : (if n0 = n0 then (1 : Int) else 0) = 1 := if_pos rfl
    have tz : (if n0 + 1 ≤ n0 then (1 : Int) else 0) = 0 := if_neg (by omega)
    rw [ti] at t0
    clear ti
    have s0 := t_01 n0 n3
    have s1 := t_01 n1 n3
    have s2 := t_01 n2 n3
    generalize (if n0 + 1 ≤ n0 then (1 : Int) else 0) = a0 at *
    generalize (if n0 + 1 ≤ n3 then (1 : Int) else 0) = b0 at *
    generalize (if n1 + 1 ≤ n0 then (1 : Int) else 0) = a1 at *
    generalize (if n1 + 1 ≤ n3 then (1 : Int) else 0) = b1 at *
    generalize (if n2 + 1 ≤ n0 then (1 : Int) else 0) = a2 at *
    generalize (if n2 + 1 ≤ n3 then (1 : Int) else 0) = b2 at *
    generalize (if n3 + 1 ≤ n0 then (1 : Int) else 0) = a3 at *
    generalize (if n3 + 1 ≤ n3 then (1 : Int) else 0) = b3 at *
    generalize (if n3 = n0 then (1 : Int) else 0) = d0 at *
    generalize (if n3 = n1 then (1 : Int) else 0) = d1 at *
    generalize (if n3 = n2 then (1 : Int) else 0) = d2 at *
    omega
  · have ti : (if n3 = n0 then (1 : Int) else 0) = 1 := if_pos h.symm
    have u0 : (if n0 + 1 ≤ n0 then (1 : Int) else 0) = (if n0 + 1 ≤ n3 then (1 : Int) else 0) := by rw [h]
    have u1 : (if n1 + 1 ≤ n0 then (1 : Int) else 0) = (if n1 + 1 ≤ n3 then (1 : Int) else 0) := by rw [h]
    have u2 : (if n2 + 1 ≤ n0 then (1 : Int) else 0) = (if n2 + 1 ≤ n3 then (1 : Int) else 0) := by rw [h]
    have u3 : (if n3 + 1 ≤ n0 then (1 : Int) else 0) = (if n3 + 1 ≤ n3 then (1 : Int) else 0) := by rw [h]
    have s0 := t_01 n0 n3
    have s1 := t_01 n1 n3
    have s2 := t_01 n2 n3
    generalize (if n0 + 1 ≤ n0 then (1 : Int) else 0) = a0 at *
    generalize (if n0 + 1 ≤ n3 then (1 : Int) else 0) = b0 at *
    generalize (if n1 + 1 ≤ n0 then (1 : Int) else 0) = a1 at *
    generalize (if n1 + 1 ≤ n3 then (1 : Int) else 0) = b1 at *
    generalize (if n2 + 1 ≤ n0 then (1 : Int) else 0) = a2 at *
    generalize (if n2 + 1 ≤ n3 then (1 : Int) else 0) = b2 at *
    generalize (if n3 + 1 ≤ n0 then (1 : Int) else 0) = a3 at *
    generalize (if n3 + 1 ≤ n3 then (1 : Int) else 0) = b3 at *
    generalize (if n3 = n0 then (1 : Int) else 0) = d0 at *
    generalize (if n3 = n1 then (1 : Int) else 0) = d1 at *
    generalize (if n3 = n2 then (1 : Int) else 0) = d2 at *
    omega
  · have t0 := t_le (l := n0) h
    have t1 := t_le (l := n1) h
    have t2 := t_le (l := n2) h
    have t3 := t_le (l := n3) h
    have ti : (if n3 = n3 then (1 : Int) else 0) = 1 := if_pos rfl
    have tz : (if n3 + 1 ≤ n3 then (1 : Int) else 0) = 0 := if_neg (by omega)
    rw [ti] at t3
    clear ti
    generalize (if n0 + 1 ≤ n0 then (1 : Int) else 0) = a0 at *
    generalize (if n0 + 1 ≤ n3 then (1 : Int) else 0) = b0 at *
    generalize (if n1 + 1 ≤ n0 then (1 : Int) else 0) = a1 at *
    generalize (if n1 + 1 ≤ n3 then (1 : Int) else 0) = b1 at *
    generalize (if n2 + 1 ≤ n0 then (1 : Int) else 0) = a2 at *
    generalize (if n2 + 1 ≤ n3 then (1 : Int) else 0) = b2 at *
    generalize (if n3 + 1 ≤ n0 then (1 : Int) else 0) = a3 at *
    generalize (if n3 + 1 ≤ n3 then (1 : Int) else 0) = b3 at *
    generalize (if n3 = n0 then (1 : Int) else 0) = d0 at *
    generalize (if n3 = n1 then (1 : Int) else 0) = d1 at *
    generalize (if n3 = n2 then (1 : Int) else 0) = d2 at *
    omega
theorem own_ne4_1_2 {n0 n1 n2 n3 : Nat} (h0 : n0 < 8) (h1 : n1 < 8) (h2 : n2 < 8) (h3 : n3 < 8) : (ps [n0, n1, n2, n3] 1).toNatClampNeg ≠ (ps [n0, n1, n2, n3] 2).toNatClampNeg := by
  obtain ⟨ei, pi⟩ := own_pi4_1 h0 h1 h2 h3
  obtain ⟨ej, pj⟩ := own_pi4_2 h0 h1 h2 h3
  have ci := own_cl ei pi
  have cj := own_cl ej pj
  clear ei ej
  rcases Nat.lt_trichotomy n1 n2 with h | h | h
  · have t0 := t_le (l := n0) h
    have t1 := t_le (l := n1) h
    have t2 := t_le1 (l := n2) (Nat.le_of_lt h)
    have t3 := t_le1 (l := n3) (Nat.le_of_lt h)
    have ti : (if n1 = n1 then (1 : Int) else 0) = 1 := if_pos rfl
    have tz : (if n1 + 1 ≤ n1 then (1 : Int) else 0) = 0 := if_neg (by omega)
    rw [ti] at t1
    clear ti
    have s0 := t_01 n0 n2
    have s1 := t_01 n1 n2
    generalize (if n0 + 1 ≤ n1 then (1 : Int) else 0) = a0 at *
    generalize (if n0 + 1 ≤ n2 then (1 : Int) else 0) = b0 at *
    generalize (if n1 + 1 ≤ n1 then (1 : Int) else 0) = a1 at *
    generalize (if n1 + 1 ≤ n2 then (1 : Int) else 0) = b1 at *
    generalize (if n2 + 1 ≤ n1 then (1 : Int) else 0) = a2 at *
    generalize (if n2 + 1 ≤ n2 then (1 : Int) else 0) = b2 at *
    generalize (if n3 + 1 ≤ n1 then (1 : Int) else 0) = a3 at *
    generalize (if n3 + 1 ≤ n2 then (1 : Int) else 0) = b3 at *
    generalize (if n1 = n0 then (1 : Int) else 0) = c0 at *
    generalize (if n2 = n0 then (1 : Int) else 0) = d0 at *
    generalize (if n2 = n1 then (1 : Int) else 0) = d1 at *
    omega
  · have ti : (if n2 = n1 then (1 : Int) else 0) = 1 := if_pos h.symm
    have u0 : (if n0 + 1 ≤ n1 then (1 : Int) else 0) = (if n0 + 1 ≤ n2 then (1 : Int) else 0) := by rw [h]
    have u1 : (if n1 + 1 ≤ n1 then (1 : Int) else 0) = (if n1 + 1 ≤ n2 then (1 : Int) else 0) := by rw [h]
    have u2 : (if n2 + 1 ≤ n1 then (1 : Int) else 0) = (if n2 + 1 ≤ n2 then (1 : Int) else 0) := by rw [h]
    have u3 : (if n3 + 1 ≤ n1 then (1 : Int) else 0) = (if n3 + 1 ≤ n2 then (1 : Int) else 0) := by rw [h]
    have w0 : (if n1 = n0 then (1 : Int) else 0) = (if n2 = n0 then (1 : Int) else 0) := by rw [h]
    have s0 := t_01 n0 n2
    have s1 := t_01 n1 n2
    generalize (if n0 + 1 ≤ n1 then (1 : Int) else 0) = a0 at *
    generalize (if n0 + 1 ≤ n2 then (1 : Int) else 0) = b0 at *
    generalize (if n1 + 1 ≤ n1 then (1 : Int) else 0) = a1 at *
    generalize (if n1 + 1 ≤ n2 then (1 : Int) else 0) = b1 at *
    generalize (if n2 + 1 ≤ n1 then (1 : Int) else 0) = a2 at *
    generalize (if n2 + 1 ≤ n2 then (1 : Int) else 0) = b2 at *
    generalize (if n3 + 1 ≤ n1 then (1 : Int) else 0) = a3 at *
    generalize (if n3 + 1 ≤ n2 then (1 : Int) else 0) = b3 at *
    generalize (if n1 = n0 then (1 : Int) else 0) = c0 at *
    generalize (if n2 = n0 then (1 : Int) else 0) = d0 at *
    generalize (if n2 = n1 then (1 : Int) else 0) = d1 at *
    omega
  · have t0 := t_le (l := n0) h
    have t1 := t_le (l := n1) h
    have t2 := t_le (l := n2) h
    have t3 := t_le1 (l := n3) (Nat.le_of_lt h)
    have ti : (if n2 = n2 then (1 : Int) else 0) = 1 := if_pos rfl
    have tz : (if n2 + 1 ≤ n2 then (1 : Int) else 0) = 0 := if_neg (by omega)
    rw [ti] at t2
    clear ti
    have s0 := t_01 n0 n1
    generalize (if n0 + 1 ≤ n1 then (1 : Int) else 0) = a0 at *
    generalize (if n0 + 1 ≤ n2 then (1 : Int) else 0) = b0 at *
    generalize (if n1 + 1 ≤ n1 then (1 : Int) else 0) = a1 at *
    generalize (if n1 + 1 ≤ n2 then (1 : Int) else 0) = b1 at *
    generalize (if n2 + 1 ≤ n1 then (1 : Int) else 0) = a2 at *
    generalize (if n2 + 1 ≤ n2 then (1 : Int) else 0) = b2 at *
    generalize (if n3 + 1 ≤ n1 then (1 : Int) else 0) = a3 at *
    generalize (if n3 + 1 ≤ n2 then (1 : Int) else 0) = b3 at *
    generalize (if n1 = n0 then (1 : Int) else 0) = c0 at *
    generalize (if n2 = n0 then (1 : Int) else 0) = d0 at *
    generalize (if n2 = n1 then (1 : Int) else 0) = d1 at *
    omega
theorem own_ne4_1_3 {n0 n1 n2 n3 : Nat} (h0 : n0 < 8) (h1 : n1 < 8) (h2 : n2 < 8) (h3 : n3 < 8) : (ps [n0, n1, n2, n3] 1).toNatClampNeg ≠ (ps [n0, n1, n2, n3] 3).toNatClampNeg := by
  obtain ⟨ei, pi⟩ := own_pi4_1 h0 h1 h2 h3
  obtain ⟨ej, pj⟩ := own_pi4_3 h0 h1 h2 h3
  have ci := own_cl ei pi
  have cj := own_cl ej pj
  clear ei ej
  rcases Nat.lt_trichotomy n1 n3 with h | h | h
  · have t0 := t_le (l := n0) h
    have t1 := t_le (l := n1) h
    have t2 := t_le1 (l := n2) (Nat.le_of_lt h)
    have t3 := t_le1 (l := n3) (Nat.le_of_lt h)
    have ti : (if n1 = n1 then (1 : Int) else 0) = 1 := if_pos rfl
    have tz : (if n1 + 1 ≤ n1 then (1 : Int) else 0) = 0 := if_neg (by omega)
    rw [ti] at t1
    clear ti
    have s0 := t_01 n0 n3
    have s1 := t_01 n1 n3
    have s2 := t_01 n2 n3
    generalize (if n0 + 1 ≤ n1 then (1 : Int) else 0) = a0 at *
    generalize (if n0 + 1 ≤ n3 then (1 : Int) else 0) = b0 at *
    generalize (if n1 + 1 ≤ n1 then (1 : Int) else 0) = a1 at *
    generalize (if n1 + 1 ≤ n3 then (1 : Int) else 0) = b1 at *
    generalize (if n2 + 1 ≤ n1 then (1 : Int) else 0) = a2 at *
    generalize (if n2 + 1 ≤ n3 then (1 : Int) else 0) = b2 at *
    generalize (if n3 + 1 ≤ n1 then (1 : Int) else 0) = a3 at *
    generalize (if n3 + 1 ≤ n3 then (1 : Int) else 0) = b3 at *
    generalize (if n1 = n0 then (1 : Int) else 0) = c0 at *
    generalize (if n3 = n0 then (1 : Int) else 0) = d0 at *
    generalize (if n3 = n1 then (1 : Int) else 0) = d1 at *
    generalize (if n3 = n2 then (1 : Int) else 0) = d2 at *
    omega
  · have ti : (if n3 = n1 then (1 : Int) else 0) = 1 := if_pos h.symm
    have u0 : (if n0 + 1 ≤ n1 then (1 : Int) else 0) = (if n0 + 1 ≤ n3 then (1 : Int) else 0) := by rw [h]
    have u1 : (if n1 + 1 ≤ n1 then (1 : Int) else 0) = (if n1 + 1 ≤ n3 then (1 : Int) else 0) := by rw [h]
    have u2 : (if n2 + 1 ≤ n1 then (1 : Int) else 0) = (if n2 + 1 ≤ n3 then (1 : Int) else 0) := by rw [h]
    have u3 : (if n3 + 1 ≤ n1 then (1 : Int) else 0) = (if n3 + 1 ≤ n3 then (1 : Int) else 0) := by rw [h]
    have w0 : (if n1 = n0 then (1 : Int) else 0) = (if n3 = n0 then (1 : Int) else 0) := by rw [h]
    have s0 := t_01 n0 n3
    have s1 := t_01 n1 n3
    have s2 := t_01 n2 n3
    generalize (if n0 + 1 ≤ n1 then (1 : Int) else 0) = a0 at *
    generalize (if n0 + 1 ≤ n3 then (1 : Int) else 0) = b0 at *
    generalize (if n1 + 1 ≤ n1 then (1 : Int) else 0) = a1 at *
    generalize (if n1 + 1 ≤ n3 then (1 : Int) else 0) = b1 at *
    generalize (if n2 + 1 ≤ n1 then (1 : Int) else 0) = a2 at *
    generalize (if n2 + 1 ≤ n3 then (1 : Int) else 0) = b2 at *
    generalize (if n3 + 1 ≤ n1 then (1 : Int) else 0) = a3 at *
    generalize (if n3 + 1 ≤ n3 then (1 : Int) else 0) = b3 at *
    generalize (if n1 = n0 then (1 : Int) else 0) = c0 at *
    generalize (if n3 = n0 then (1 : Int) else 0) = d0 at *
    generalize (if n3 = n1 then (1 : Int) else 0) = d1 at *
    generalize (if n3 = n2 then (1 : Int) else 0) = d2 at *
    omega
  · have t0 := t_le (l := n0) h
    have t1 := t_le (l := n1) h
    have t2 := t_le (l := n2) h
    have t3 := t_le (l := n3) h
    have ti : (if n3 = n3 then (1 : Int) else 0) = 1 := if_pos rfl
    have tz : (if n3 + 1 ≤ n3 then (1 : Int) else 0) = 0 := if_neg (by omega)
    rw [ti] at t3
    clear ti
    have s0 := t_01 n0 n1
    generalize (if n0 + 1 ≤ n1 then (1 : Int) else 0) = a0 at *
    generalize (if n0 + 1 ≤ n3 then (1 : Int) else 0) = b0 at *
    generalize (if n1 + 1 ≤ n1 then (1 : Int) else 0) = a1 at *
    generalize (if n1 + 1 ≤ n3 then (1 : Int) else 0) = b1 at *
    generalize (if n2 + 1 ≤ n1 then (1 : Int) else 0) = a2 at *
    generalize (if n2 + 1 ≤ n3 then (1 : Int) else 0) = b2 at *
    generalize (if n3 + 1 ≤ n1 then (1 : Int) else 0) = a3 at *
    generalize (if n3 + 1 ≤ n3 then (1 : Int) else 0) = b3 at *
    generalize (if n1 = n0 then (1 : Int) else 0) = c0 at *
    generalize (if n3 = n0 then (1 : Int) else 0) = d0 at *
    generalize (if n3 = n1 then (1 : Int) else 0) = d1 at *
    generalize (if n3 = n2 then (1 : Int) else 0) = d2 at *
    omega
theorem own_ne4_2_3 {n0 n1 n2 n3 : Nat} (h0 : n0 < 8) (h1 : n1 < 8) (h2 : n2 < 8) (h3 : n3 < 8) : (ps [n0, n1, n2, n3] 2).toNatClampNeg ≠ (ps [n0, n1, n2, n3] 3).toNatClampNeg := by
  obtain ⟨ei, pi⟩ := own_pi4_2 h0 h1 h2 h3
  obtain ⟨ej, pj⟩ := own_pi4_3 h0 h1 h2 h3
  have ci := own_cl ei pi
  have cj := own_cl ej pj
  clear ei ej
  rcases Nat.lt_trichotomy n2 n3 with h | h | h
  · have t0 := t_le (l := n0) h
    have t1 := t_le (l := n1) h
    have t2 := t_le (l := n2) h
    have t3 := t_le1 (l := n3) (Nat.le_of_lt h)
    have ti : (if n2 = n2 then (1 : Int) else 0) = 1 := if_pos rfl
    have tz : (if n2 + 1 ≤ n2 then (1 : Int) else 0) = 0 := if_neg (by omega)
    rw [ti] at t2
    clear ti
    have s0 := t_01 n0 n3
    have s1 := t_01 n1 n3
    have s2 := t_01 n2 n3
    generalize (if n0 + 1 ≤ n2 then (1 : Int) else 0) = a0 at *
    generalize (if n0 + 1 ≤ n3 then (1 : Int) else 0) = b0 at *
    generalize (if n1 + 1 ≤ n2 then (1 : Int) else 0) = a1 at *
    generalize (if n1 + 1 ≤ n3 then (1 : Int) else 0) = b1 at *
    generalize (if n2 + 1 ≤ n2 then (1 : Int) else 0) = a2 at *
    generalize (if n2 + 1 ≤ n3 then (1 : Int) else 0) = b2 at *
    generalize (if n3 + 1 ≤ n2 then (1 : Int) else 0) = a3 at *
    generalize (if n3 + 1 ≤ n3 then (1 : Int) else 0) = b3 at *
    generalize (if n2 = n0 then (1 : Int) else 0) = c0 at *
    generalize (if n2 = n1 then (1 : Int) else 0) = c1 at *
    generalize (if n3 = n0 then (1 : Int) else 0) = d0 at *
    generalize (if n3 = n1 then (1 : Int) else 0) = d1 at *
    generalize (if n3 = n2 then (1 : Int) else 0) = d2 at *
    omega
  · have ti : (if n3 = n2 then (1 : Int) else 0) = 1 := if_pos h.symm
    have u0 : (if n0 + 1 ≤ n2 then (1 : Int) else 0) = (if n0 + 1 ≤ n3 then (1 : Int) else 0) := by rw [h]
    have u1 : (if n1 + 1 ≤ n2 then (1 : Int) else 0) = (if n1 + 1 ≤ n3 then (1 : Int) else 0) := by rw [h]
    have u2 : (if n2 + 1 ≤ n2 then (1 : Int) else 0) = (if n2 + 1 ≤ n3 then (1 : Int) else 0) := by rw [h]
    have u3 : (if n3 + 1 ≤ n2 then (1 : Int) else 0) = (if n3 + 1 ≤ n3 then (1 : Int) else 0) := by rw [h]
    have w0 : (if n2 = n0 then (1 : Int) else 0) = (if n3 = n0 then (1 : Int) else 0) := by rw [h]
    have w1 : (if n2 = n1 then (1 : Int) else 0) = (if n3 = n1 then (1 : Int) else 0) := by rw [h]
    have s0 := t_01 n0 n3
    have s1 := t_01 n1 n3
    have s2 := t_01 n2 n3
    generalize (if n0 + 1 ≤ n2 then (1 : Int) else 0) = a0 at *
    generalize (if n0 + 1 ≤ n3 then (1 : Int) else 0) = b0 at *
    generalize (if n1 + 1 ≤ n2 then (1 : Int) else 0) = a1 at *
    generalize (if n1 + 1 ≤ n3 then (1 : Int) else 0) = b1 at *
    generalize (if n2 + 1 ≤ n2 then (1 : Int) else 0) = a2 at *
    generalize (if n2 + 1 ≤ n3 then (1 : Int) else 0) = b2 at *
    generalize (if n3 + 1 ≤ n2 then (1 : Int) else 0) = a3 at *
    generalize (if n3 + 1 ≤ n3 then (1 : Int) else 0) = b3 at *
    generalize (if n2 = n0 then (1 : Int) else 0) = c0 at *
    generalize (if n2 = n1 then (1 : Int) else 0) = c1 at *
    generalize (if n3 = n0 then (1 : Int) else 0) = d0 at *
    generalize (if n3 = n1 then (1 : Int) else 0) = d1 at *
    generalize (if n3 = n2 then (1 : Int) else 0) = d2 at *
    omega
  · have t0 := t_le (l := n0) h
    have t1 := t_le (l := n1) h
    have t2 := t_le (l := n2) h
    have t3 := t_le (l := n3) h
    have ti : (if n3 = n3 then (1 : Int) else 0) = 1 := if_pos rfl
    have tz : (if n3 + 1 ≤ n3 then (1 : Int) else 0) = 0 := if_neg (by omega)
    rw [ti] at t3
    clear ti
    have s0 := t_01 n0 n2
    have s1 := t_01 n1 n2
    generalize (if n0 + 1 ≤ n2 then (1 : Int) else 0) = a0 at *
    generalize (if n0 + 1 ≤ n3 then (1 : Int) else 0) = b0 at *
    generalize (if n1 + 1 ≤ n2 then (1 : Int) else 0) = a1 at *
    generalize (if n1 + 1 ≤ n3 then (1 : Int) else 0) = b1 at *
    generalize (if n2 + 1 ≤ n2 then (1 : Int) else 0) = a2 at *
    generalize (if n2 + 1 ≤ n3 then (1 : Int) else 0) = b2 at *
    generalize (if n3 + 1 ≤ n2 then (1 : Int) else 0) = a3 at *
    generalize (if n3 + 1 ≤ n3 then (1 : Int) else 0) = b3 at *
    generalize (if n2 = n0 then (1 : Int) else 0) = c0 at *
    generalize (if n2 = n1 then (1 : Int) else 0) = c1 at *
    generalize (if n3 = n0 then (1 : Int) else 0) = d0 at *
    generalize (if n3 = n1 then (1 : Int) else 0) = d1 at *
    generalize (if n3 = n2 then (1 : Int) else 0) = d2 at *
    omega
theorem own_sl4_0 {n0 n1 n2 n3 : Nat} (h0 : n0 < 8) (h1 : n1 < 8) (h2 : n2 < 8) (h3 : n3 < 8) : (((((((if (Int32.ofNat n0) < (Int32.ofNat n0) then (1 : Int32) else (0 : Int32)) + (if (Int32.ofNat n1) < (Int32.ofNat n0) then (1 : Int32) else (0 : Int32))) + (if (Int32.ofNat n2) < (Int32.ofNat n0) then (1 : Int32) else (0 : Int32))) + (if (Int32.ofNat n3) < (Int32.ofNat n0) then (1 : Int32) else (0 : Int32))) + (0 : Int32)) + (0 : Int32)) + (0 : Int32)) < (4 : Int32) ∧ ¬ (((((((if (Int32.ofNat n0) < (Int32.ofNat n0) then (1 : Int32) else (0 : Int32)) + (if (Int32.ofNat n1) < (Int32.ofNat n0) then (1 : Int32) else (0 : Int32))) + (if (Int32.ofNat n2) < (Int32.ofNat n0) then (1 : Int32) else (0 : Int32))) + (if (Int32.ofNat n3) < (Int32.ofNat n0) then (1 : Int32) else (0 : Int32))) + (0 : Int32)) + (0 : Int32)) + (0 : Int32)) < 0 ∧ (fl 4 (HH [n0, n1, n2, n3] 4))[((((((((if (Int32.ofNat n0) < (Int32.ofNat n0) then (1 : Int32) else (0 : Int32)) + (if (Int32.ofNat n1) < (Int32.ofNat n0) then (1 : Int32) else (0 : Int32))) + (if (Int32.ofNat n2) < (Int32.ofNat n0) then (1 : Int32) else (0 : Int32))) + (if (Int32.ofNat n3) < (Int32.ofNat n0) then (1 : Int32) else (0 : Int32))) + (0 : Int32)) + (0 : Int32)) + (0 : Int32))).toNatClampNeg]? = some (.int (Int32.ofNat n1)) := by
  rw [← own_ps4_0 h0 h1 h2 h3]
  obtain ⟨b1, b2, b3⟩ := own_bd4_0 h0 h1 h2 h3
  refine ⟨b3, b1, ?_⟩
  rw [fl_get b2]
  have e3 : HH [n0, n1, n2, n3] 4 (ps [n0, n1, n2, n3] 0).toNatClampNeg = HH [n0, n1, n2, n3] 3 (ps [n0, n1, n2, n3] 0).toNatClampNeg := put_ne (own_ne4_0_3 h0 h1 h2 h3)
  have e2 : HH [n0, n1, n2, n3] 3 (ps [n0, n1, n2, n3] 0).toNatClampNeg = HH [n0, n1, n2, n3] 2 (ps [n0, n1, n2, n3] 0).toNatClampNeg := put_ne (own_ne4_0_2 h0 h1 h2 h3)
  have e1 : HH [n0, n1, n2, n3] 2 (ps [n0, n1, n2, n3] 0).toNatClampNeg = HH [n0, n1, n2, n3] 1 (ps [n0, n1, n2, n3] 0).toNatClampNeg := put_ne (own_ne4_0_1 h0 h1 h2 h3)
  have e0 : HH [n0, n1, n2, n3] 1 (ps [n0, n1, n2, n3] 0).toNatClampNeg = (Int32.ofNat n1) := put_eq
  rw [e3, e2, e1, e0]
theorem own_sl4_1 {n0 n1 n2 n3 : Nat} (h0 : n0 < 8) (h1 : n1 < 8) (h2 : n2 < 8) (h3 : n3 < 8) : (((((((if (Int32.ofNat n0) < (Int32.ofNat n1) then (1 : Int32) else (0 : Int32)) + (if (Int32.ofNat n1) < (Int32.ofNat n1) then (1 : Int32) else (0 : Int32))) + (if (Int32.ofNat n2) < (Int32.ofNat n1) then (1 : Int32) else (0 : Int32))) + (if (Int32.ofNat n3) < (Int32.ofNat n1) then (1 : Int32) else (0 : Int32))) + (0 : Int32)) + (0 : Int32)) + (((((if (Int32.ofNat n0) = (Int32.ofNat n1) then (1 : Int32) else (0 : Int32)) + (0 : Int32)) + (0 : Int32)) + (0 : Int32)) + (0 : Int32))) < (4 : Int32) ∧ ¬ (((((((if (Int32.ofNat n0) < (Int32.ofNat n1) then (1 : Int32) else (0 : Int32)) + (if (Int32.ofNat n1) < (Int32.ofNat n1) then (1 : Int32) else (0 : Int32))) + (if (Int32.ofNat n2) < (Int32.ofNat n1) then (1 : Int32) else (0 : Int32))) + (if (Int32.ofNat n3) < (Int32.ofNat n1) then (1 : Int32) else (0 : Int32))) + (0 : Int32)) + (0 : Int32)) + (((((if (Int32.ofNat n0) = (Int32.ofNat n1) then (1 : Int32) else (0 : Int32)) + (0 : Int32)) + (0 : Int32)) + (0 : Int32)) + (0 : Int32))) < 0 ∧ (fl 4 (HH [n0, n1, n2, n3] 4))[((((((((if (Int32.ofNat n0) < (Int32.ofNat n1) then (1 : Int32) else (0 : Int32)) + (if (Int32.ofNat n1) < (Int32.ofNat n1) then (1 : Int32) else (0 : Int32))) + (if (Int32.ofNat n2) < (Int32.ofNat n1) then (1 : Int32) else (0 : Int32))) + (if (Int32.ofNat n3) < (Int32.ofNat n1) then (1 : Int32) else (0 : Int32))) + (0 : Int32)) + (0 : Int32)) + (((((if (Int32.ofNat n0) = (Int32.ofNat n1) then (1 : Int32) else (0 : Int32)) + (0 : Int32)) + (0 : Int32)) + (0 : Int32)) + (0 : Int32)))).toNatClampNeg]? = some (.int (Int32.ofNat n0)) := by
  rw [← own_ps4_1 h0 h1 h2 h3]
  obtain ⟨b1, b2, b3⟩ := own_bd4_1 h0 h1 h2 h3
  refine ⟨b3, b1, ?_⟩
  rw [fl_get b2]
  have e3 : HH [n0, n1, n2, n3] 4 (ps [n0, n1, n2, n3] 1).toNatClampNeg = HH [n0, n1, n2, n3] 3 (ps [n0, n1, n2, n3] 1).toNatClampNeg := put_ne (own_ne4_1_3 h0 h1 h2 h3)
  have e2 : HH [n0, n1, n2, n3] 3 (ps [n0, n1, n2, n3] 1).toNatClampNeg = HH [n0, n1, n2, n3] 2 (ps [n0, n1, n2, n3] 1).toNatClampNeg := put_ne (own_ne4_1_2 h0 h1 h2 h3)
  have e1 : HH [n0, n1, n2, n3] 2 (ps [n0, n1, n2, n3] 1).toNatClampNeg = (Int32.ofNat n0) := put_eq
  rw [e3, e2, e1]
theorem own_sl4_2 {n0 n1 n2 n3 : Nat} (h0 : n0 < 8) (h1 : n1 < 8) (h2 : n2 < 8) (h3 : n3 < 8) : (((((((if (Int32.ofNat n0) < (Int32.ofNat n2) then (1 : Int32) else (0 : Int32)) + (if (Int32.ofNat n1) < (Int32.ofNat n2) then (1 : Int32) else (0 : Int32))) + (if (Int32.ofNat n2) < (Int32.ofNat n2) then (1 : Int32) else (0 : Int32))) + (if (Int32.ofNat n3) < (Int32.ofNat n2) then (1 : Int32) else (0 : Int32))) + (0 : Int32)) + (0 : Int32)) + (((((if (Int32.ofNat n0) = (Int32.ofNat n2) then (1 : Int32) else (0 : Int32)) + (if (Int32.ofNat n1) = (Int32.ofNat n2) then (1 : Int32) else (0 : Int32))) + (0 : Int32)) + (0 : Int32)) + (0 : Int32))) < (4 : Int32) ∧ ¬ (((((((if (Int32.ofNat n0) < (Int32.ofNat n2) then (1 : Int32) else (0 : Int32)) + (if (Int32.ofNat n1) < (Int32.ofNat n2) then (1 : Int32) else (0 : Int32))) + (if (Int32.ofNat n2) < (Int32.ofNat n2) then (1 : Int32) else (0 : Int32))) + (if (Int32.ofNat n3) < (Int32.ofNat n2) then (1 : Int32) else (0 : Int32))) + (0 : Int32)) + (0 : Int32)) + (((((if (Int32.ofNat n0) = (Int32.ofNat n2) then (1 : Int32) else (0 : Int32)) + (if (Int32.ofNat n1) = (Int32.ofNat n2) then (1 : Int32) else (0 : Int32))) + (0 : Int32)) + (0 : Int32)) + (0 : Int32))) < 0 ∧ (fl 4 (HH [n0, n1, n2, n3] 4))[((((((((if (Int32.ofNat n0) < (Int32.ofNat n2) then (1 : Int32) else (0 : Int32)) + (if (Int32.ofNat n1) < (Int32.ofNat n2) then (1 : Int32) else (0 : Int32))) + (if (Int32.ofNat n2) < (Int32.ofNat n2) then (1 : Int32) else (0 : Int32))) + (if (Int32.ofNat n3) < (Int32.ofNat n2) then (1 : Int32) else (0 : Int32))) + (0 : Int32)) + (0 : Int32)) + (((((if (Int32.ofNat n0) = (Int32.ofNat n2) then (1 : Int32) else (0 : Int32)) + (if (Int32.ofNat n1) = (Int32.ofNat n2) then (1 : Int32) else (0 : Int32))) + (0 : Int32)) + (0 : Int32)) + (0 : Int32)))).toNatClampNeg]? = some (.int (Int32.ofNat n3)) := by
  rw [← own_ps4_2 h0 h1 h2 h3]
  obtain ⟨b1, b2, b3⟩ := own_bd4_2 h0 h1 h2 h3
  refine ⟨b3, b1, ?_⟩
  rw [fl_get b2]
  have e3 : HH [n0, n1, n2, n3] 4 (ps [n0, n1, n2, n3] 2).toNatClampNeg = HH [n0, n1, n2, n3] 3 (ps [n0, n1, n2, n3] 2).toNatClampNeg := put_ne (own_ne4_2_3 h0 h1 h2 h3)
  have e2 : HH [n0, n1, n2, n3] 3 (ps [n0, n1, n2, n3] 2).toNatClampNeg = (Int32.ofNat n3) := put_eq
  rw [e3, e2]
theorem own_sl4_3 {n0 n1 n2 n3 : Nat} (h0 : n0 < 8) (h1 : n1 < 8) (h2 : n2 < 8) (h3 : n3 < 8) : (((((((if (Int32.ofNat n0) < (Int32.ofNat n3) then (1 : Int32) else (0 : Int32)) + (if (Int32.ofNat n1) < (Int32.ofNat n3) then (1 : Int32) else (0 : Int32))) + (if (Int32.ofNat n2) < (Int32.ofNat n3) then (1 : Int32) else (0 : Int32))) + (if (Int32.ofNat n3) < (Int32.ofNat n3) then (1 : Int32) else (0 : Int32))) + (0 : Int32)) + (0 : Int32)) + (((((if (Int32.ofNat n0) = (Int32.ofNat n3) then (1 : Int32) else (0 : Int32)) + (if (Int32.ofNat n1) = (Int32.ofNat n3) then (1 : Int32) else (0 : Int32))) + (if (Int32.ofNat n2) = (Int32.ofNat n3) then (1 : Int32) else (0 : Int32))) + (0 : Int32)) + (0 : Int32))) < (4 : Int32) ∧ ¬ (((((((if (Int32.ofNat n0) < (Int32.ofNat n3) then (1 : Int32) else (0 : Int32)) + (if (Int32.ofNat n1) < (Int32.ofNat n3) then (1 : Int32) else (0 : Int32))) + (if (Int32.ofNat n2) < (Int32.ofNat n3) then (1 : Int32) else (0 : Int32))) + (if (Int32.ofNat n3) < (Int32.ofNat n3) then (1 : Int32) else (0 : Int32))) + (0 : Int32)) + (0 : Int32)) + (((((if (Int32.ofNat n0) = (Int32.ofNat n3) then (1 : Int32) else (0 : Int32)) + (if (Int32.ofNat n1) = (Int32.ofNat n3) then (1 : Int32) else (0 : Int32))) + (if (Int32.ofNat n2) = (Int32.ofNat n3) then (1 : Int32) else (0 : Int32))) + (0 : Int32)) + (0 : Int32))) < 0 ∧ (fl 4 (HH [n0, n1, n2, n3] 4))[((((((((if (Int32.ofNat n0) < (Int32.ofNat n3) then (1 : Int32) else (0 : Int32)) + (if (Int32.ofNat n1) < (Int32.ofNat n3) then (1 : Int32) else (0 : Int32))) + (if (Int32.ofNat n2) < (Int32.ofNat n3) then (1 : Int32) else (0 : Int32))) + (if (Int32.ofNat n3) < (Int32.ofNat n3) then (1 : Int32) else (0 : Int32))) + (0 : Int32)) + (0 : Int32)) + (((((if (Int32.ofNat n0) = (Int32.ofNat n3) then (1 : Int32) else (0 : Int32)) + (if (Int32.ofNat n1) = (Int32.ofNat n3) then (1 : Int32) else (0 : Int32))) + (if (Int32.ofNat n2) = (Int32.ofNat n3) then (1 : Int32) else (0 : Int32))) + (0 : Int32)) + (0 : Int32)))).toNatClampNeg]? = some (.int (Int32.ofNat n2)) := by
  rw [← own_ps4_3 h0 h1 h2 h3]
  obtain ⟨b1, b2, b3⟩ := own_bd4_3 h0 h1 h2 h3
  refine ⟨b3, b1, ?_⟩
  rw [fl_get b2]
  have e3 : HH [n0, n1, n2, n3] 4 (ps [n0, n1, n2, n3] 3).toNatClampNeg = (Int32.ofNat n2) := put_eq
  rw [e3]
theorem own_off6_0 {n0 n1 n2 n3 n4 n5 : Nat} (h0 : n0 < 8) (h1 : n1 < 8) (h2 : n2 < 8) (h3 : n3 < 8) (h4 : n4 < 8) (h5 : n5 < 8) : ac (g1 [n0, n1, n2, n3, n4, n5]) 8 0 = ((((((if (Int32.ofNat n0) < (0 : Int32) then (1 : Int32) else (0 : Int32)) + (if (Int32.ofNat n1) < (0 : Int32) then (1 : Int32) else (0 : Int32))) + (if (Int32.ofNat n2) < (0 : Int32) then (1 : Int32) else (0 : Int32))) + (if (Int32.ofNat n3) < (0 : Int32) then (1 : Int32) else (0 : Int32))) + (if (Int32.ofNat n4) < (0 : Int32) then (1 : Int32) else (0 : Int32))) + (if (Int32.ofNat n5) < (0 : Int32) then (1 : Int32) else (0 : Int32))) := by
  rw [ac_sm _ (by decide)]
  simp only [g1, List.foldl, sm_inc, sm_zf, show (Int32.ofNat n0 < (0 : Int32)) ↔ n0 + 1 ≤ 0 from own_lt h0 (by decide), show (Int32.ofNat n1 < (0 : Int32)) ↔ n1 + 1 ≤ 0 from own_lt h1 (by decide), show (Int32.ofNat n2 < (0 : Int32)) ↔ n2 + 1 ≤ 0 from own_lt h2 (by decide), show (Int32.ofNat n3 < (0 : Int32)) ↔ n3 + 1 ≤ 0 from own_lt h3 (by decide), show (Int32.ofNat n4 < (0 : Int32)) ↔ n4 + 1 ≤ 0 from own_lt h4 (by decide), show (Int32.ofNat n5 < (0 : Int32)) ↔ n5 + 1 ≤ 0 from own_lt h5 (by decide)]
  simp only [Int32.zero_add, Int32.add_zero]
theorem own_off6_1 {n0 n1 n2 n3 n4 n5 : Nat} (h0 : n0 < 8) (h1 : n1 < 8) (h2 : n2 < 8) (h3 : n3 < 8) (h4 : n4 < 8) (h5 : n5 < 8) : ac (g1 [n0, n1, n2, n3, n4, n5]) 8 1 = ((((((if (Int32.ofNat n0) < (1 : Int32) then (1 : Int32) else (0 : Int32)) + (if (Int32.ofNat n1) < (1 : Int32) then (1 : Int32) else (0 : Int32))) + (if (Int32.ofNat n2) < (1 : Int32) then (1 : Int32) else (0 : Int32))) + (if (Int32.ofNat n3) < (1 : Int32) then (1 : Int32) else (0 : Int32))) + (if (Int32.ofNat n4) < (1 : Int32) then (1 : Int32) else (0 : Int32))) + (if (Int32.ofNat n5) < (1 : Int32) then (1 : Int32) else (0 : Int32))) := by
  rw [ac_sm _ (by decide)]
  simp only [g1, List.foldl, sm_inc, sm_zf, show (Int32.ofNat n0 < (1 : Int32)) ↔ n0 + 1 ≤ 1 from own_lt h0 (by decide), show (Int32.ofNat n1 < (1 : Int32)) ↔ n1 + 1 ≤ 1 from own_lt h1 (by decide), show (Int32.ofNat n2 < (1 : Int32)) ↔ n2 + 1 ≤ 1 from own_lt h2 (by decide), show (Int32.ofNat n3 < (1 : Int32)) ↔ n3 + 1 ≤ 1 from own_lt h3 (by decide), show (Int32.ofNat n4 < (1 : Int32)) ↔ n4 + 1 ≤ 1 from own_lt h4 (by decide), show (Int32.ofNat n5 < (1 : Int32)) ↔ n5 + 1 ≤ 1 from own_lt h5 (by decide)]
  simp only [Int32.zero_add, Int32.add_zero]
theorem own_off6_2 {n0 n1 n2 n3 n4 n5 : Nat} (h0 : n0 < 8) (h1 : n1 < 8) (h2 : n2 < 8) (h3 : n3 < 8) (h4 : n4 < 8) (h5 : n5 < 8) : ac (g1 [n0, n1, n2, n3, n4, n5]) 8 2 = ((((((if (Int32.ofNat n0) < (2 : Int32) then (1 : Int32) else (0 : Int32)) + (if (Int32.ofNat n1) < (2 : Int32) then (1 : Int32) else (0 : Int32))) + (if (Int32.ofNat n2) < (2 : Int32) then (1 : Int32) else (0 : Int32))) + (if (Int32.ofNat n3) < (2 : Int32) then (1 : Int32) else (0 : Int32))) + (if (Int32.ofNat n4) < (2 : Int32) then (1 : Int32) else (0 : Int32))) + (if (Int32.ofNat n5) < (2 : Int32) then (1 : Int32) else (0 : Int32))) := by
  rw [ac_sm _ (by decide)]
  simp only [g1, List.foldl, sm_inc, sm_zf, show (Int32.ofNat n0 < (2 : Int32)) ↔ n0 + 1 ≤ 2 from own_lt h0 (by decide), show (Int32.ofNat n1 < (2 : Int32)) ↔ n1 + 1 ≤ 2 from own_lt h1 (by decide), show (Int32.ofNat n2 < (2 : Int32)) ↔ n2 + 1 ≤ 2 from own_lt h2 (by decide), show (Int32.ofNat n3 < (2 : Int32)) ↔ n3 + 1 ≤ 2 from own_lt h3 (by decide), show (Int32.ofNat n4 < (2 : Int32)) ↔ n4 + 1 ≤ 2 from own_lt h4 (by decide), show (Int32.ofNat n5 < (2 : Int32)) ↔ n5 + 1 ≤ 2 from own_lt h5 (by decide)]
  simp only [Int32.zero_add, Int32.add_zero]
theorem own_off6_3 {n0 n1 n2 n3 n4 n5 : Nat} (h0 : n0 < 8) (h1 : n1 < 8) (h2 : n2 < 8) (h3 : n3 < 8) (h4 : n4 < 8) (h5 : n5 < 8) : ac (g1 [n0, n1, n2, n3, n4, n5]) 8 3 = ((((((if (Int32.ofNat n0) < (3 : Int32) then (1 : Int32) else (0 : Int32)) + (if (Int32.ofNat n1) < (3 : Int32) then (1 : Int32) else (0 : Int32))) + (if (Int32.ofNat n2) < (3 : Int32) then (1 : Int32) else (0 : Int32))) + (if (Int32.ofNat n3) < (3 : Int32) then (1 : Int32) else (0 : Int32))) + (if (Int32.ofNat n4) < (3 : Int32) then (1 : Int32) else (0 : Int32))) + (if (Int32.ofNat n5) < (3 : Int32) then (1 : Int32) else (0 : Int32))) := by
  rw [ac_sm _ (by decide)]
  simp only [g1, List.foldl, sm_inc, sm_zf, show (Int32.ofNat n0 < (3 : Int32)) ↔ n0 + 1 ≤ 3 from own_lt h0 (by decide), show (Int32.ofNat n1 < (3 : Int32)) ↔ n1 + 1 ≤ 3 from own_lt h1 (by decide), show (Int32.ofNat n2 < (3 : Int32)) ↔ n2 + 1 ≤ 3 from own_lt h2 (by decide), show (Int32.ofNat n3 < (3 : Int32)) ↔ n3 + 1 ≤ 3 from own_lt h3 (by decide), show (Int32.ofNat n4 < (3 : Int32)) ↔ n4 + 1 ≤ 3 from own_lt h4 (by decide), show (Int32.ofNat n5 < (3 : Int32)) ↔ n5 + 1 ≤ 3 from own_lt h5 (by decide)]
  simp only [Int32.zero_add, Int32.add_zero]
theorem own_off6_4 {n0 n1 n2 n3 n4 n5 : Nat} (h0 : n0 < 8) (h1 : n1 < 8) (h2 : n2 < 8) (h3 : n3 < 8) (h4 : n4 < 8) (h5 : n5 < 8) : ac (g1 [n0, n1, n2, n3, n4, n5]) 8 4 = ((((((if (Int32.ofNat n0) < (4 : Int32) then (1 : Int32) else (0 : Int32)) + (if (Int32.ofNat n1) < (4 : Int32) then (1 : Int32) else (0 : Int32))) + (if (Int32.ofNat n2) < (4 : Int32) then (1 : Int32) else (0 : Int32))) + (if (Int32.ofNat n3) < (4 : Int32) then (1 : Int32) else (0 : Int32))) + (if (Int32.ofNat n4) < (4 : Int32) then (1 : Int32) else (0 : Int32))) + (if (Int32.ofNat n5) < (4 : Int32) then (1 : Int32) else (0 : Int32))) := by
  rw [ac_sm _ (by decide)]
  simp only [g1, List.foldl, sm_inc, sm_zf, show (Int32.ofNat n0 < (4 : Int32)) ↔ n0 + 1 ≤ 4 from own_lt h0 (by decide), show (Int32.ofNat n1 < (4 : Int32)) ↔ n1 + 1 ≤ 4 from own_lt h1 (by decide), show (Int32.ofNat n2 < (4 : Int32)) ↔ n2 + 1 ≤ 4 from own_lt h2 (by decide), show (Int32.ofNat n3 < (4 : Int32)) ↔ n3 + 1 ≤ 4 from own_lt h3 (by decide), show (Int32.ofNat n4 < (4 : Int32)) ↔ n4 + 1 ≤ 4 from own_lt h4 (by decide), show (Int32.ofNat n5 < (4 : Int32)) ↔ n5 + 1 ≤ 4 from own_lt h5 (by decide)]
  simp only [Int32.zero_add, Int32.add_zero]
theorem own_off6_5 {n0 n1 n2 n3 n4 n5 : Nat} (h0 : n0 < 8) (h1 : n1 < 8) (h2 : n2 < 8) (h3 : n3 < 8) (h4 : n4 < 8) (h5 : n5 < 8) : ac (g1 [n0, n1, n2, n3, n4, n5]) 8 5 = ((((((if (Int32.ofNat n0) < (5 : Int32) then (1 : Int32) else (0 : Int32)) + (if (Int32.ofNat n1) < (5 : Int32) then (1 : Int32) else (0 : Int32))) + (if (Int32.ofNat n2) < (5 : Int32) then (1 : Int32) else (0 : Int32))) + (if (Int32.ofNat n3) < (5 : Int32) then (1 : Int32) else (0 : Int32))) + (if (Int32.ofNat n4) < (5 : Int32) then (1 : Int32) else (0 : Int32))) + (if (Int32.ofNat n5) < (5 : Int32) then (1 : Int32) else (0 : Int32))) := by
  rw [ac_sm _ (by decide)]
  simp only [g1, List.foldl, sm_inc, sm_zf, show (Int32.ofNat n0 < (5 : Int32)) ↔ n0 + 1 ≤ 5 from own_lt h0 (by decide), show (Int32.ofNat n1 < (5 : Int32)) ↔ n1 + 1 ≤ 5 from own_lt h1 (by decide), show (Int32.ofNat n2 < (5 : Int32)) ↔ n2 + 1 ≤ 5 from own_lt h2 (by decide), show (Int32.ofNat n3 < (5 : Int32)) ↔ n3 + 1 ≤ 5 from own_lt h3 (by decide), show (Int32.ofNat n4 < (5 : Int32)) ↔ n4 + 1 ≤ 5 from own_lt h4 (by decide), show (Int32.ofNat n5 < (5 : Int32)) ↔ n5 + 1 ≤ 5 from own_lt h5 (by decide)]
  simp only [Int32.zero_add, Int32.add_zero]
theorem own_off6_6 {n0 n1 n2 n3 n4 n5 : Nat} (h0 : n0 < 8) (h1 : n1 < 8) (h2 : n2 < 8) (h3 : n3 < 8) (h4 : n4 < 8) (h5 : n5 < 8) : ac (g1 [n0, n1, n2, n3, n4, n5]) 8 6 = ((((((if (Int32.ofNat n0) < (6 : Int32) then (1 : Int32) else (0 : Int32)) + (if (Int32.ofNat n1) < (6 : Int32) then (1 : Int32) else (0 : Int32))) + (if (Int32.ofNat n2) < (6 : Int32) then (1 : Int32) else (0 : Int32))) + (if (Int32.ofNat n3) < (6 : Int32) then (1 : Int32) else (0 : Int32))) + (if (Int32.ofNat n4) < (6 : Int32) then (1 : Int32) else (0 : Int32))) + (if (Int32.ofNat n5) < (6 : Int32) then (1 : Int32) else (0 : Int32))) := by
  rw [ac_sm _ (by decide)]
  simp only [g1, List.foldl, sm_inc, sm_zf, show (Int32.ofNat n0 < (6 : Int32)) ↔ n0 + 1 ≤ 6 from own_lt h0 (by decide), show (Int32.ofNat n1 < (6 : Int32)) ↔ n1 + 1 ≤ 6 from own_lt h1 (by decide), show (Int32.ofNat n2 < (6 : Int32)) ↔ n2 + 1 ≤ 6 from own_lt h2 (by decide), show (Int32.ofNat n3 < (6 : Int32)) ↔ n3 + 1 ≤ 6 from own_lt h3 (by decide), show (Int32.ofNat n4 < (6 : Int32)) ↔ n4 + 1 ≤ 6 from own_lt h4 (by decide), show (Int32.ofNat n5 < (6 : Int32)) ↔ n5 + 1 ≤ 6 from own_lt h5 (by decide)]
  simp only [Int32.zero_add, Int32.add_zero]
theorem own_off6_7 {n0 n1 n2 n3 n4 n5 : Nat} (h0 : n0 < 8) (h1 : n1 < 8) (h2 : n2 < 8) (h3 : n3 < 8) (h4 : n4 < 8) (h5 : n5 < 8) : ac (g1 [n0, n1, n2, n3, n4, n5]) 8 7 = ((((((if (Int32.ofNat n0) < (7 : Int32) then (1 : Int32) else (0 : Int32)) + (if (Int32.ofNat n1) < (7 : Int32) then (1 : Int32) else (0 : Int32))) + (if (Int32.ofNat n2) < (7 : Int32) then (1 : Int32) else (0 : Int32))) + (if (Int32.ofNat n3) < (7 : Int32) then (1 : Int32) else (0 : Int32))) + (if (Int32.ofNat n4) < (7 : Int32) then (1 : Int32) else (0 : Int32))) + (if (Int32.ofNat n5) < (7 : Int32) then (1 : Int32) else (0 : Int32))) := by
  rw [ac_sm _ (by decide)]
  simp only [g1, List.foldl, sm_inc, sm_zf, show (Int32.ofNat n0 < (7 : Int32)) ↔ n0 + 1 ≤ 7 from own_lt h0 (by decide), show (Int32.ofNat n1 < (7 : Int32)) ↔ n1 + 1 ≤ 7 from own_lt h1 (by decide), show (Int32.ofNat n2 < (7 : Int32)) ↔ n2 + 1 ≤ 7 from own_lt h2 (by decide), show (Int32.ofNat n3 < (7 : Int32)) ↔ n3 + 1 ≤ 7 from own_lt h3 (by decide), show (Int32.ofNat n4 < (7 : Int32)) ↔ n4 + 1 ≤ 7 from own_lt h4 (by decide), show (Int32.ofNat n5 < (7 : Int32)) ↔ n5 + 1 ≤ 7 from own_lt h5 (by decide)]
  simp only [Int32.zero_add, Int32.add_zero]
theorem own_off6_8 {n0 n1 n2 n3 n4 n5 : Nat} (h0 : n0 < 8) (h1 : n1 < 8) (h2 : n2 < 8) (h3 : n3 < 8) (h4 : n4 < 8) (h5 : n5 < 8) : ac (g1 [n0, n1, n2, n3, n4, n5]) 8 8 = ((((((if (Int32.ofNat n0) < (8 : Int32) then (1 : Int32) else (0 : Int32)) + (if (Int32.ofNat n1) < (8 : Int32) then (1 : Int32) else (0 : Int32))) + (if (Int32.ofNat n2) < (8 : Int32) then (1 : Int32) else (0 : Int32))) + (if (Int32.ofNat n3) < (8 : Int32) then (1 : Int32) else (0 : Int32))) + (if (Int32.ofNat n4) < (8 : Int32) then (1 : Int32) else (0 : Int32))) + (if (Int32.ofNat n5) < (8 : Int32) then (1 : Int32) else (0 : Int32))) := by
  rw [ac_sm _ (by decide)]
  simp only [g1, List.foldl, sm_inc, sm_zf, show (Int32.ofNat n0 < (8 : Int32)) ↔ n0 + 1 ≤ 8 from own_lt h0 (by decide), show (Int32.ofNat n1 < (8 : Int32)) ↔ n1 + 1 ≤ 8 from own_lt h1 (by decide), show (Int32.ofNat n2 < (8 : Int32)) ↔ n2 + 1 ≤ 8 from own_lt h2 (by decide), show (Int32.ofNat n3 < (8 : Int32)) ↔ n3 + 1 ≤ 8 from own_lt h3 (by decide), show (Int32.ofNat n4 < (8 : Int32)) ↔ n4 + 1 ≤ 8 from own_lt h4 (by decide), show (Int32.ofNat n5 < (8 : Int32)) ↔ n5 + 1 ≤ 8 from own_lt h5 (by decide)]
  simp only [Int32.zero_add, Int32.add_zero]
theorem own_ps6_0 {n0 n1 n2 n3 n4 n5 : Nat} (h0 : n0 < 8) (h1 : n1 < 8) (h2 : n2 < 8) (h3 : n3 < 8) (h4 : n4 < 8) (h5 : n5 < 8) : ps [n0, n1, n2, n3, n4, n5] 0 = (((((((if (Int32.ofNat n0) < (Int32.ofNat n0) then (1 : Int32) else (0 : Int32)) + (if (Int32.ofNat n1) < (Int32.ofNat n0) then (1 : Int32) else (0 : Int32))) + (if (Int32.ofNat n2) < (Int32.ofNat n0) then (1 : Int32) else (0 : Int32))) + (if (Int32.ofNat n3) < (Int32.ofNat n0) then (1 : Int32) else (0 : Int32))) + (if (Int32.ofNat n4) < (Int32.ofNat n0) then (1 : Int32) else (0 : Int32))) + (if (Int32.ofNat n5) < (Int32.ofNat n0) then (1 : Int32) else (0 : Int32))) + (0 : Int32)) := by
  show (ac (g1 [n0, n1, n2, n3, n4, n5]) 8) n0 = _
  skip
  rw [ac_sm _ (by omega)]
  simp only [g1, List.foldl, sm_inc, sm_zf, show (Int32.ofNat n0 < Int32.ofNat n0) ↔ n0 + 1 ≤ n0 from own_lt h0 (by omega), show (Int32.ofNat n1 < Int32.ofNat n0) ↔ n1 + 1 ≤ n0 from own_lt h1 (by omega), show (Int32.ofNat n2 < Int32.ofNat n0) ↔ n2 + 1 ≤ n0 from own_lt h2 (by omega), show (Int32.ofNat n3 < Int32.ofNat n0) ↔ n3 + 1 ≤ n0 from own_lt h3 (by omega), show (Int32.ofNat n4 < Int32.ofNat n0) ↔ n4 + 1 ≤ n0 from own_lt h4 (by omega), show (Int32.ofNat n5 < Int32.ofNat n0) ↔ n5 + 1 ≤ n0 from own_lt h5 (by omega)]
  simp only [Int32.zero_add, Int32.add_zero, Int32.add_assoc]
theorem own_pi6_0 {n0 n1 n2 n3 n4 n5 : Nat} (h0 : n0 < 8) (h1 : n1 < 8) (h2 : n2 < 8) (h3 : n3 < 8) (h4 : n4 < 8) (h5 : n5 < 8) : (ps [n0, n1, n2, n3, n4, n5] 0).toInt = (0 : Int) + (if n0 + 1 ≤ n0 then (1 : Int) else 0) + (if n1 + 1 ≤ n0 then (1 : Int) else 0) + (if n2 + 1 ≤ n0 then (1 : Int) else 0) + (if n3 + 1 ≤ n0 then (1 : Int) else 0) + (if n4 + 1 ≤ n0 then (1 : Int) else 0) + (if n5 + 1 ≤ n0 then (1 : Int) else 0) ∧ 0 ≤ (0 : Int) + (if n0 + 1 ≤ n0 then (1 : Int) else 0) + (if n1 + 1 ≤ n0 then (1 : Int) else 0) + (if n2 + 1 ≤ n0 then (1 : Int) else 0) + (if n3 + 1 ≤ n0 then (1 : Int) else 0) + (if n4 + 1 ≤ n0 then (1 : Int) else 0) + (if n5 + 1 ≤ n0 then (1 : Int) else 0) := by
  have e : ps [n0, n1, n2, n3, n4, n5] 0 = (ac (g1 [n0, n1, n2, n3, n4, n5]) 8) n0 := rfl
  skip
  rw [ac_sm _ (by omega)] at e
  simp only [g1, List.foldl, sm_inc, sm_zf] at e
  rw [e]
  have z : (0 : Int32).toInt = 0 ∧ (0 : Int) ≤ 0 ∧ (0 : Int) ≤ 0 := by decide
  have q := (own_b2 (n5 + 1 ≤ n0) (own_b2 (n4 + 1 ≤ n0) (own_b2 (n3 + 1 ≤ n0) (own_b2 (n2 + 1 ≤ n0) (own_b2 (n1 + 1 ≤ n0) (own_b2 (n0 + 1 ≤ n0) z (by decide)) (by decide)) (by decide)) (by decide)) (by decide)) (by decide))
  exact ⟨q.1, q.2.1⟩
theorem own_bd6_0 {n0 n1 n2 n3 n4 n5 : Nat} (h0 : n0 < 8) (h1 : n1 < 8) (h2 : n2 < 8) (h3 : n3 < 8) (h4 : n4 < 8) (h5 : n5 < 8) : ¬ ps [n0, n1, n2, n3, n4, n5] 0 < 0 ∧ (ps [n0, n1, n2, n3, n4, n5] 0).toNatClampNeg < 6 ∧ ps [n0, n1, n2, n3, n4, n5] 0 < (6 : Int32) := by
  obtain ⟨e, p⟩ := own_pi6_0 h0 h1 h2 h3 h4 h5
  have c := own_cl e p
  have t0 := t_01 n0 n0
  have t1 := t_01 n1 n0
  have t2 := t_01 n2 n0
  have t3 := t_01 n3 n0
  have t4 := t_01 n4 n0
  have t5 := t_01 n5 n0
  have tj : (if n0 + 1 ≤ n0 then (1 : Int) else 0) = 0 := if_neg (by omega)
  generalize (if n0 + 1 ≤ n0 then (1 : Int) else 0) = a0 at *
  generalize (if n1 + 1 ≤ n0 then (1 : Int) else 0) = a1 at *
  generalize (if n2 + 1 ≤ n0 then (1 : Int) else 0) = a2 at *
  generalize (if n3 + 1 ≤ n0 then (1 : Int) else 0) = a3 at *
  generalize (if n4 + 1 ≤ n0 then (1 : Int) else 0) = a4 at *
  generalize (if n5 + 1 ≤ n0 then (1 : Int) else 0) = a5 at *
  generalize (if n0 = n1 then (1 : Int) else 0) = c1 at *
  generalize (if n0 = n2 then (1 : Int) else 0) = c2 at *
  generalize (if n0 = n3 then (1 : Int) else 0) = c3 at *
  generalize (if n0 = n4 then (1 : Int) else 0) = c4 at *
  generalize (if n0 = n5 then (1 : Int) else 0) = c5 at *
  have eM : (6 : Int32).toInt = 6 := by decide
  have e0 : (0 : Int32).toInt = 0 := by decide
  simp only [Int32.lt_iff_toInt_lt, e, eM, e0]
  omega
theorem own_ps6_1 {n0 n1 n2 n3 n4 n5 : Nat} (h0 : n0 < 8) (h1 : n1 < 8) (h2 : n2 < 8) (h3 : n3 < 8) (h4 : n4 < 8) (h5 : n5 < 8) : ps [n0, n1, n2, n3, n4, n5] 1 = (((((((if (Int32.ofNat n0) < (Int32.ofNat n1) then (1 : Int32) else (0 : Int32)) + (if (Int32.ofNat n1) < (Int32.ofNat n1) then (1 : Int32) else (0 : Int32))) + (if (Int32.ofNat n2) < (Int32.ofNat n1) then (1 : Int32) else (0 : Int32))) + (if (Int32.ofNat n3) < (Int32.ofNat n1) then (1 : Int32) else (0 : Int32))) + (if (Int32.ofNat n4) < (Int32.ofNat n1) then (1 : Int32) else (0 : Int32))) + (if (Int32.ofNat n5) < (Int32.ofNat n1) then (1 : Int32) else (0 : Int32))) + (((((if (Int32.ofNat n0) = (Int32.ofNat n1) then (1 : Int32) else (0 : Int32)) + (0 : Int32)) + (0 : Int32)) + (0 : Int32)) + (0 : Int32))) := by
  show (inc (ac (g1 [n0, n1, n2, n3, n4, n5]) 8) n0) n1 = _
  simp only [inc_val]
  rw [ac_sm _ (by omega)]
  simp only [g1, List.foldl, sm_inc, sm_zf, show (Int32.ofNat n0 < Int32.ofNat n1) ↔ n0 + 1 ≤ n1 from own_lt h0 (by omega), show (Int32.ofNat n1 < Int32.ofNat n1) ↔ n1 + 1 ≤ n1 from own_lt h1 (by omega), show (Int32.ofNat n2 < Int32.ofNat n1) ↔ n2 + 1 ≤ n1 from own_lt h2 (by omega), show (Int32.ofNat n3 < Int32.ofNat n1) ↔ n3 + 1 ≤ n1 from own_lt h3 (by omega), show (Int32.ofNat n4 < Int32.ofNat n1) ↔ n4 + 1 ≤ n1 from own_lt h4 (by omega), show (Int32.ofNat n5 < Int32.ofNat n1) ↔ n5 + 1 ≤ n1 from own_lt h5 (by omega), show (Int32.ofNat n0 = Int32.ofNat n1) ↔ n1 = n0 from own_eqn h0 h1]
  simp only [Int32.zero_add, Int32.add_zero, Int32.add_assoc]
theorem own_pi6_1 {n0 n1 n2 n3 n4 n5 : Nat} (h0 : n0 < 8) (h1 : n1 < 8) (h2 : n2 < 8) (h3 : n3 < 8) (h4 : n4 < 8) (h5 : n5 < 8) : (ps [n0, n1, n2, n3, n4, n5] 1).toInt = (0 : Int) + (if n0 + 1 ≤ n1 then (1 : Int) else 0) + (if n1 + 1 ≤ n1 then (1 : Int) else 0) + (if n2 + 1 ≤ n1 then (1 : Int) else 0) + (if n3 + 1 ≤ n1 then (1 : Int) else 0) + (if n4 + 1 ≤ n1 then (1 : Int) else 0) + (if n5 + 1 ≤ n1 then (1 : Int) else 0) + (if n1 = n0 then (1 : Int) else 0) ∧ 0 ≤ (0 : Int) + (if n0 + 1 ≤ n1 then (1 : Int) else 0) + (if n1 + 1 ≤ n1 then (1 : Int) else 0) + (if n2 + 1 ≤ n1 then (1 : Int) else 0) + (if n3 + 1 ≤ n1 then (1 : Int) else 0) + (if n4 + 1 ≤ n1 then (1 : Int) else 0) + (if n5 + 1 ≤ n1 then (1 : Int) else 0) + (if n1 = n0 then (1 : Int) else 0) := by
  have e : ps [n0, n1, n2, n3, n4, n5] 1 = (inc (ac (g1 [n0, n1, n2, n3, n4, n5]) 8) n0) n1 := rfl
  simp only [inc_val] at e
  rw [ac_sm _ (by omega)] at e
  simp only [g1, List.foldl, sm_inc, sm_zf] at e
  rw [e]
  have z : (0 : Int32).toInt = 0 ∧ (0 : Int) ≤ 0 ∧ (0 : Int) ≤ 0 := by decide
  have q := (own_b2 (n1 = n0) (own_b2 (n5 + 1 ≤ n1) (own_b2 (n4 + 1 ≤ n1) (own_b2 (n3 + 1 ≤ n1) (own_b2 (n2 + 1 ≤ n1) (own_b2 (n1 + 1 ≤ n1) (own_b2 (n0 + 1 ≤ n1) z (by decide)) (by decide)) (by decide)) (by decide)) (by decide)) (by decide)) (by decide))
  exact ⟨q.1, q.2.1⟩
theorem own_bd6_1 {n0 n1 n2 n3 n4 n5 : Nat} (h0 : n0 < 8) (h1 : n1 < 8) (h2 : n2 < 8) (h3 : n3 < 8) (h4 : n4 < 8) (h5 : n5 < 8) : ¬ ps [n0, n1, n2, n3, n4, n5] 1 < 0 ∧ (ps [n0, n1, n2, n3, n4, n5] 1).toNatClampNeg < 6 ∧ ps [n0, n1, n2, n3, n4, n5] 1 < (6 : Int32) := by
  obtain ⟨e, p⟩ := own_pi6_1 h0 h1 h2 h3 h4 h5
  have c := own_cl e p
  have t0 := t_01 n0 n1
  have t1 := t_01 n1 n1
  have t2 := t_01 n2 n1
  have t3 := t_01 n3 n1
  have t4 := t_01 n4 n1
  have t5 := t_01 n5 n1
  have tj : (if n1 + 1 ≤ n1 then (1 : Int) else 0) = 0 := if_neg (by omega)
  generalize (if n0 + 1 ≤ n1 then (1 : Int) else 0) = a0 at *
  generalize (if n1 + 1 ≤ n1 then (1 : Int) else 0) = a1 at *
  generalize (if n2 + 1 ≤ n1 then (1 : Int) else 0) = a2 at *
  generalize (if n3 + 1 ≤ n1 then (1 : Int) else 0) = a3 at *
  generalize (if n4 + 1 ≤ n1 then (1 : Int) else 0) = a4 at *
  generalize (if n5 + 1 ≤ n1 then (1 : Int) else 0) = a5 at *
  generalize (if n1 = n0 then (1 : Int) else 0) = c0 at *
  generalize (if n1 = n2 then (1 : Int) else 0) = c2 at *
  generalize (if n1 = n3 then (1 : Int) else 0) = c3 at *
  generalize (if n1 = n4 then (1 : Int) else 0) = c4 at *
  generalize (if n1 = n5 then (1 : Int) else 0) = c5 at *
  have eM : (6 : Int32).toInt = 6 := by decide
  have e0 : (0 : Int32).toInt = 0 := by decide
  simp only [Int32.lt_iff_toInt_lt, e, eM, e0]
  omega
theorem own_ps6_2 {n0 n1 n2 n3 n4 n5 : Nat} (h0 : n0 < 8) (h1 : n1 < 8) (h2 : n2 < 8) (h3 : n3 < 8) (h4 : n4 < 8) (h5 : n5 < 8) : ps [n0, n1, n2, n3, n4, n5] 2 = (((((((if (Int32.ofNat n0) < (Int32.ofNat n2) then (1 : Int32) else (0 : Int32)) + (if (Int32.ofNat n1) < (Int32.ofNat n2) then (1 : Int32) else (0 : Int32))) + (if (Int32.ofNat n2) < (Int32.ofNat n2) then (1 : Int32) else (0 : Int32))) + (if (Int32.ofNat n3) < (Int32.ofNat n2) then (1 : Int32) else (0 : Int32))) + (if (Int32.ofNat n4) < (Int32.ofNat n2) then (1 : Int32) else (0 : Int32))) + (if (Int32.ofNat n5) < (Int32.ofNat n2) then (1 : Int32) else (0 : Int32))) + (((((if (Int32.ofNat n0) = (Int32.ofNat n2) then (1 : Int32) else (0 : Int32)) + (if (Int32.ofNat n1) = (Int32.ofNat n2) then (1 : Int32) else (0 : Int32))) + (0 : Int32)) + (0 : Int32)) + (0 : Int32))) := by
  show (inc (inc (ac (g1 [n0, n1, n2, n3, n4, n5]) 8) n0) n1) n2 = _
  simp only [inc_val]
  rw [ac_sm _ (by omega)]
  simp only [g1, List.foldl, sm_inc, sm_zf, show (Int32.ofNat n0 < Int32.ofNat n2) ↔ n0 + 1 ≤ n2 from own_lt h0 (by omega), show (Int32.ofNat n1 < Int32.ofNat n2) ↔ n1 + 1 ≤ n2 from own_lt h1 (by omega), show (Int32.ofNat n2 < Int32.ofNat n2) ↔ n2 + 1 ≤ n2 from own_lt h2 (by omega), show (Int32.ofNat n3 < Int32.ofNat n2) ↔ n3 + 1 ≤ n2 from own_lt h3 (by omega), show (Int32.ofNat n4 < Int32.ofNat n2) ↔ n4 + 1 ≤ n2 from own_lt h4 (by omega), show (Int32.ofNat n5 < Int32.ofNat n2) ↔ n5 + 1 ≤ n2 from own_lt h5 (by omega), show (Int32.ofNat n0 = Int32.ofNat n2) ↔ n2 = n0 from own_eqn h0 h2, show (Int32.ofNat n1 = Int32.ofNat n2) ↔ n2 = n1 from own_eqn h1 h2]
  simp only [Int32.zero_add, Int32.add_zero, Int32.add_assoc]
theorem own_pi6_2 {n0 n1 n2 n3 n4 n5 : Nat} (h0 : n0 < 8) (h1 : n1 < 8) (h2 : n2 < 8) (h3 : n3 < 8) (h4 : n4 < 8) (h5 : n5 < 8) : (ps [n0, n1, n2, n3, n4, n5] 2).toInt = (0 : Int) + (if n0 + 1 ≤ n2 then (1 : Int) else 0) + (if n1 + 1 ≤ n2 then (1 : Int) else 0) + (if n2 + 1 ≤ n2 then (1 : Int) else 0) + (if n3 + 1 ≤ n2 then (1 : Int) else 0) + (if n4 + 1 ≤ n2 then (1 : Int) else 0) + (if n5 + 1 ≤ n2 then (1 : Int) else 0) + (if n2 = n0 then (1 : Int) else 0) + (if n2 = n1 then (1 : Int) else 0) ∧ 0 ≤ (0 : Int) + (if n0 + 1 ≤ n2 then (1 : Int) else 0) + (if n1 + 1 ≤ n2 then (1 : Int) else 0) + (if n2 + 1 ≤ n2 then (1 : Int) else 0) + (if n3 + 1 ≤ n2 then (1 : Int) else 0) + (if n4 + 1 ≤ n2 then (1 : Int) else 0) + (if n5 + 1 ≤ n2 then (1 : Int) else 0) + (if n2 = n0 then (1 : Int) else 0) + (if n2 = n1 then (1 : Int) else 0) := by
  have e : ps [n0, n1, n2, n3, n4, n5] 2 = (inc (inc (ac (g1 [n0, n1, n2, n3, n4, n5]) 8) n0) n1) n2 := rfl
  simp only [inc_val] at e
  rw [ac_sm _ (by omega)] at e
  simp only [g1, List.foldl, sm_inc, sm_zf] at e
  rw [e]
  have z : (0 : Int32).toInt = 0 ∧ (0 : Int) ≤ 0 ∧ (0 : Int) ≤ 0 := by decide
  have q := (own_b2 (n2 = n1) (own_b2 (n2 = n0) (own_b2 (n5 + 1 ≤ n2) (own_b2 (n4 + 1 ≤ n2) (own_b2 (n3 + 1 ≤ n2) (own_b2 (n2 + 1 ≤ n2) (own_b2 (n1 + 1 ≤ n2) (own_b2 (n0 + 1 ≤ n2) z (by decide)) (by decide)) (by decide)) (by decide)) (by decide)) (by decide)) (by decide)) (by decide))
  exact ⟨q.1, q.2.1⟩
theorem own_bd6_2 {n0 n1 n2 n3 n4 n5 : Nat} (h0 : n0 < 8) (h1 : n1 < 8) (h2 : n2 < 8) (h3 : n3 < 8) (h4 : n4 < 8) (h5 : n5 < 8) : ¬ ps [n0, n1, n2, n3, n4, n5] 2 < 0 ∧ (ps [n0, n1, n2, n3, n4, n5] 2).toNatClampNeg < 6 ∧ ps [n0, n1, n2, n3, n4, n5] 2 < (6 : Int32) := by
  obtain ⟨e, p⟩ := own_pi6_2 h0 h1 h2 h3 h4 h5
  have c := own_cl e p
  have t0 := t_01 n0 n2
  have t1 := t_01 n1 n2
  have t2 := t_01 n2 n2
  have t3 := t_01 n3 n2
  have t4 := t_01 n4 n2
  have t5 := t_01 n5 n2
  have tj : (if n2 + 1 ≤ n2 then (1 : Int) else 0) = 0 := if_neg (by omega)
  generalize (if n0 + 1 ≤ n2 then (1 : Int) else 0) = a0 at *
  generalize (if n1 + 1 ≤ n2 then (1 : Int) else 0) = a1 at *
  generalize (if n2 + 1 ≤ n2 then (1 : Int) else 0) = a2 at *
  generalize (if n3 + 1 ≤ n2 then (1 : Int) else 0) = a3 at *
  generalize (if n4 + 1 ≤ n2 then (1 : Int) else 0) = a4 at *
  generalize (if n5 + 1 ≤ n2 then (1 : Int) else 0) = a5 at *
  generalize (if n2 = n0 then (1 : Int) else 0) = c0 at *
  generalize (if n2 = n1 then (1 : Int) else 0) = c1 at *
  generalize (if n2 = n3 then (1 : Int) else 0) = c3 at *
  generalize (if n2 = n4 then (1 : Int) else 0) = c4 at *
  generalize (if n2 = n5 then (1 : Int) else 0) = c5 at *
  have eM : (6 : Int32).toInt = 6 := by decide
  have e0 : (0 : Int32).toInt = 0 := by decide
  simp only [Int32.lt_iff_toInt_lt, e, eM, e0]
  omega
theorem own_ps6_3 {n0 n1 n2 n3 n4 n5 : Nat} (h0 : n0 < 8) (h1 : n1 < 8) (h2 : n2 < 8) (h3 : n3 < 8) (h4 : n4 < 8) (h5 : n5 < 8) : ps [n0, n1, n2, n3, n4, n5] 3 = (((((((if (Int32.ofNat n0) < (Int32.ofNat n3) then (1 : Int32) else (0 : Int32)) + (if (Int32.ofNat n1) < (Int32.ofNat n3) then (1 : Int32) else (0 : Int32))) + (if (Int32.ofNat n2) < (Int32.ofNat n3) then (1 : Int32) else (0 : Int32))) + (if (Int32.ofNat n3) < (Int32.ofNat n3) then (1 : Int32) else (0 : Int32))) + (if (Int32.ofNat n4) < (Int32.ofNat n3) then (1 : Int32) else (0 : Int32))) + (if (Int32.ofNat n5) < (Int32.ofNat n3) then (1 : Int32) else (0 : Int32))) + (((((if (Int32.ofNat n0) = (Int32.ofNat n3) then (1 : Int32) else (0 : Int32)) + (if (Int32.ofNat n1) = (Int32.ofNat n3) then (1 : Int32) else (0 : Int32))) + (if (Int32.ofNat n2) = (Int32.ofNat n3) then (1 : Int32) else (0 : Int32))) + (0 : Int32)) + (0 : Int32))) := by
  show (inc (inc (inc (ac (g1 [n0, n1, n2, n3, n4, n5]) 8) n0) n1) n2) n3 = _
  simp only [inc_val]
  rw [ac_sm _ (by omega)]
  simp only [g1, List.foldl, sm_inc, sm_zf, show (Int32.ofNat n0 < Int32.ofNat n3) ↔ n0 + 1 ≤ n3 from own_lt h0 (by omega), show (Int32.ofNat n1 < Int32.ofNat n3) ↔ n1 + 1 ≤ n3 from own_lt h1 (by omega), show (Int32.ofNat n2 < Int32.ofNat n3) ↔ n2 + 1 ≤ n3 from own_lt h2 (by omega), show (Int32.ofNat n3 < Int32.ofNat n3) ↔ n3 + 1 ≤ n3 from own_lt h3 (by omega), show (Int32.ofNat n4 < Int32.ofNat n3) ↔ n4 + 1 ≤ n3 from own_lt h4 (by omega), show (Int32.ofNat n5 < Int32.ofNat n3) ↔ n5 + 1 ≤ n3 from own_lt h5 (by omega), show (Int32.ofNat n0 = Int32.ofNat n3) ↔ n3 = n0 from own_eqn h0 h3, show (Int32.ofNat n1 = Int32.ofNat n3) ↔ n3 = n1 from own_eqn h1 h3, show (Int32.ofNat n2 = Int32.ofNat n3) ↔ n3 = n2 from own_eqn h2 h3]
  simp only [Int32.zero_add, Int32.add_zero, Int32.add_assoc]
theorem own_pi6_3 {n0 n1 n2 n3 n4 n5 : Nat} (h0 : n0 < 8) (h1 : n1 < 8) (h2 : n2 < 8) (h3 : n3 < 8) (h4 : n4 < 8) (h5 : n5 < 8) : (ps [n0, n1, n2, n3, n4, n5] 3).toInt = (0 : Int) + (if n0 + 1 ≤ n3 then (1 : Int) else 0) + (if n1 + 1 ≤ n3 then (1 : Int) else 0) + (if n2 + 1 ≤ n3 then (1 : Int) else 0) + (if n3 + 1 ≤ n3 then (1 : Int) else 0) + (if n4 + 1 ≤ n3 then (1 : Int) else 0) + (if n5 + 1 ≤ n3 then (1 : Int) else 0) + (if n3 = n0 then (1 : Int) else 0) + (if n3 = n1 then (1 : Int) else 0) + (if n3 = n2 then (1 : Int) else 0) ∧ 0 ≤ (0 : Int) + (if n0 + 1 ≤ n3 then (1 : Int) else 0) + (if n1 + 1 ≤ n3 then (1 : Int) else 0) + (if n2 + 1 ≤ n3 then (1 : Int) else 0) + (if n3 + 1 ≤ n3 then (1 : Int) else 0) + (if n4 + 1 ≤ n3 then (1 : Int) else 0) + (if n5 + 1 ≤ n3 then (1 : Int) else 0) + (if n3 = n0 then (1 : Int) else 0) + (if n3 = n1 then (1 : Int) else 0) + (if n3 = n2 then (1 : Int) else 0) := by
  have e : ps [n0, n1, n2, n3, n4, n5] 3 = (inc (inc (inc (ac (g1 [n0, n1, n2, n3, n4, n5]) 8) n0) n1) n2) n3 := rfl
  simp only [inc_val] at e
  rw [ac_sm _ (by omega)] at e
  simp only [g1, List.foldl, sm_inc, sm_zf] at e
  rw [e]
  have z : (0 : Int32).toInt = 0 ∧ (0 : Int) ≤ 0 ∧ (0 : Int) ≤ 0 := by decide
  have q := (own_b2 (n3 = n2) (own_b2 (n3 = n1) (own_b2 (n3 = n0) (own_b2 (n5 + 1 ≤ n3) (own_b2 (n4 + 1 ≤ n3) (own_b2 (n3 + 1 ≤ n3) (own_b2 (n2 + 1 ≤ n3) (own_b2 (n1 + 1 ≤ n3) (own_b2 (n0 + 1 ≤ n3) z (by decide)) (by decide)) (by decide)) (by decide)) (by decide)) (by decide)) (by decide)) (by decide)) (by decide))
  exact ⟨q.1, q.2.1⟩
theorem own_bd6_3 {n0 n1 n2 n3 n4 n5 : Nat} (h0 : n0 < 8) (h1 : n1 < 8) (h2 : n2 < 8) (h3 : n3 < 8) (h4 : n4 < 8) (h5 : n5 < 8) : ¬ ps [n0, n1, n2, n3, n4, n5] 3 < 0 ∧ (ps [n0, n1, n2, n3, n4, n5] 3).toNatClampNeg < 6 ∧ ps [n0, n1, n2, n3, n4, n5] 3 < (6 : Int32) := by
  obtain ⟨e, p⟩ := own_pi6_3 h0 h1 h2 h3 h4 h5
  have c := own_cl e p
  have t0 := t_01 n0 n3
  have t1 := t_01 n1 n3
  have t2 := t_01 n2 n3
  have t3 := t_01 n3 n3
  have t4 := t_01 n4 n3
  have t5 := t_01 n5 n3
  have tj : (if n3 + 1 ≤ n3 then (1 : Int) else 0) = 0 := if_neg (by omega)
  generalize (if n0 + 1 ≤ n3 then (1 : Int) else 0) = a0 at *
  generalize (if n1 + 1 ≤ n3 then (1 : Int) else 0) = a1 at *
  generalize (if n2 + 1 ≤ n3 then (1 : Int) else 0) = a2 at *
  generalize (if n3 + 1 ≤ n3 then (1 : Int) else 0) = a3 at *
  generalize (if n4 + 1 ≤ n3 then (1 : Int) else 0) = a4 at *
  generalize (if n5 + 1 ≤ n3 then (1 : Int) else 0) = a5 at *
  generalize (if n3 = n0 then (1 : Int) else 0) = c0 at *
  generalize (if n3 = n1 then (1 : Int) else 0) = c1 at *
  generalize (if n3 = n2 then (1 : Int) else 0) = c2 at *
  generalize (if n3 = n4 then (1 : Int) else 0) = c4 at *
  generalize (if n3 = n5 then (1 : Int) else 0) = c5 at *
  have eM : (6 : Int32).toInt = 6 := by decide
  have e0 : (0 : Int32).toInt = 0 := by decide
  simp only [Int32.lt_iff_toInt_lt, e, eM, e0]
  omega
theorem own_ps6_4 {n0 n1 n2 n3 n4 n5 : Nat} (h0 : n0 < 8) (h1 : n1 < 8) (h2 : n2 < 8) (h3 : n3 < 8) (h4 : n4 < 8) (h5 : n5 < 8) : ps [n0, n1, n2, n3, n4, n5] 4 = (((((((if (Int32.ofNat n0) < (Int32.ofNat n4) then (1 : Int32) else (0 : Int32)) + (if (Int32.ofNat n1) < (Int32.ofNat n4) then (1 : Int32) else (0 : Int32))) + (if (Int32.ofNat n2) < (Int32.ofNat n4) then (1 : Int32) else (0 : Int32))) + (if (Int32.ofNat n3) < (Int32.ofNat n4) then (1 : Int32) else (0 : Int32))) + (if (Int32.ofNat n4) < (Int32.ofNat n4) then (1 : Int32) else (0 : Int32))) + (if (Int32.ofNat n5) < (Int32.ofNat n4) then (1 : Int32) else (0 : Int32))) + (((((if (Int32.ofNat n0) = (Int32.ofNat n4) then (1 : Int32) else (0 : Int32)) + (if (Int32.ofNat n1) = (Int32.ofNat n4) then (1 : Int32) else (0 : Int32))) + (if (Int32.ofNat n2) = (Int32.ofNat n4) then (1 : Int32) else (0 : Int32))) + (if (Int32.ofNat n3) = (Int32.ofNat n4) then (1 : Int32) else (0 : Int32))) + (0 : Int32))) := by
  show (inc (inc (inc (inc (ac (g1 [n0, n1, n2, n3, n4, n5]) 8) n0) n1) n2) n3) n4 = _
  simp only [inc_val]
  rw [ac_sm _ (by omega)]
  simp only [g1, List.foldl, sm_inc, sm_zf, show (Int32.ofNat n0 < Int32.ofNat n4) ↔ n0 + 1 ≤ n4 from own_lt h0 (by omega), show (Int32.ofNat n1 < Int32.ofNat n4) ↔ n1 + 1 ≤ n4 from own_lt h1 (by omega), show (Int32.ofNat n2 < Int32.ofNat n4) ↔ n2 + 1 ≤ n4 from own_lt h2 (by omega), show (Int32.ofNat n3 < Int32.ofNat n4) ↔ n3 + 1 ≤ n4 from own_lt h3 (by omega), show (Int32.ofNat n4 < Int32.ofNat n4) ↔ n4 + 1 ≤ n4 from own_lt h4 (by omega), show (Int32.ofNat n5 < Int32.ofNat n4) ↔ n5 + 1 ≤ n4 from own_lt h5 (by omega), show (Int32.ofNat n0 = Int32.ofNat n4) ↔ n4 = n0 from own_eqn h0 h4, show (Int32.ofNat n1 = Int32.ofNat n4) ↔ n4 = n1 from own_eqn h1 h4, show (Int32.ofNat n2 = Int32.ofNat n4) ↔ n4 = n2 from own_eqn h2 h4, show (Int32.ofNat n3 = Int32.ofNat n4) ↔ n4 = n3 from own_eqn h3 h4]
  simp only [Int32.zero_add, Int32.add_zero, Int32.add_assoc]
theorem own_pi6_4 {n0 n1 n2 n3 n4 n5 : Nat} (h0 : n0 < 8) (h1 : n1 < 8) (h2 : n2 < 8) (h3 : n3 < 8) (h4 : n4 < 8) (h5 : n5 < 8) : (ps [n0, n1, n2, n3, n4, n5] 4).toInt = (0 : Int) + (if n0 + 1 ≤ n4 then (1 : Int) else 0) + (if n1 + 1 ≤ n4 then (1 : Int) else 0) + (if n2 + 1 ≤ n4 then (1 : Int) else 0) + (if n3 + 1 ≤ n4 then (1 : Int) else 0) + (if n4 + 1 ≤ n4 then (1 : Int) else 0) + (if n5 + 1 ≤ n4 then (1 : Int) else 0) + (if n4 = n0 then (1 : Int) else 0) + (if n4 = n1 then (1 : Int) else 0) + (if n4 = n2 then (1 : Int) else 0) + (if n4 = n3 then (1 : Int) else 0) ∧ 0 ≤ (0 : Int) + (if n0 + 1 ≤ n4 then (1 : Int) else 0) + (if n1 + 1 ≤ n4 then (1 : Int) else 0) + (if n2 + 1 ≤ n4 then (1 : Int) else 0) + (if n3 + 1 ≤ n4 then (1 : Int) else 0) + (if n4 + 1 ≤ n4 then (1 : Int) else 0) + (if n5 + 1 ≤ n4 then (1 : Int) else 0) + (if n4 = n0 then (1 : Int) else 0) + (if n4 = n1 then (1 : Int) else 0) + (if n4 = n2 then (1 : Int) else 0) + (if n4 = n3 then (1 : Int) else 0) := by
  have e : ps [n0, n1, n2, n3, n4, n5] 4 = (inc (inc (inc (inc (ac (g1 [n0, n1, n2, n3, n4, n5]) 8) n0) n1) n2) n3) n4 := rfl
  simp only [inc_val] at e
  rw [ac_sm _ (by omega)] at e
  simp only [g1, List.foldl, sm_inc, sm_zf] at e
  rw [e]
  have z : (0 : Int32).toInt = 0 ∧ (0 : Int) ≤ 0 ∧ (0 : Int) ≤ 0 := by decide
  have q := (own_b2 (n4 = n3) (own_b2 (n4 = n2) (own_b2 (n4 = n1) (own_b2 (n4 = n0) (own_b2 (n5 + 1 ≤ n4) (own_b2 (n4 + 1 ≤ n4) (own_b2 (n3 + 1 ≤ n4) (own_b2 (n2 + 1 ≤ n4) (own_b2 (n1 + 1 ≤ n4) (own_b2 (n0 + 1 ≤ n4) z (by decide)) (by decide)) (by decide)) (by decide)) (by decide)) (by decide)) (by decide)) (by decide)) (by decide)) (by decide))
  exact ⟨q.1, q.2.1⟩
theorem own_bd6_4 {n0 n1 n2 n3 n4 n5 : Nat} (h0 : n0 < 8) (h1 : n1 < 8) (h2 : n2 < 8) (h3 : n3 < 8) (h4 : n4 < 8) (h5 : n5 < 8) : ¬ ps [n0, n1, n2, n3, n4, n5] 4 < 0 ∧ (ps [n0, n1, n2, n3, n4, n5] 4).toNatClampNeg < 6 ∧ ps [n0, n1, n2, n3, n4, n5] 4 < (6 : Int32) := by
  obtain ⟨e, p⟩ := own_pi6_4 h0 h1 h2 h3 h4 h5
  have c := own_cl e p
  have t0 := t_01 n0 n4
  have t1 := t_01 n1 n4
  have t2 := t_01 n2 n4
  have t3 := t_01 n3 n4
  have t4 := t_01 n4 n4
  have t5 := t_01 n5 n4
  have tj : (if n4 + 1 ≤ n4 then (1 : Int) else 0) = 0 := if_neg (by omega)
  generalize (if n0 + 1 ≤ n4 then (1 : Int) else 0) = a0 at *
  generalize (if n1 + 1 ≤ n4 then (1 : Int) else 0) = a1 at *
  generalize (if n2 + 1 ≤ n4 then (1 : Int) else 0) = a2 at *
  generalize (if n3 + 1 ≤ n4 then (1 : Int) else 0) = a3 at *
  generalize (if n4 + 1 ≤ n4 then (1 : Int) else 0) = a4 at *
  generalize (if n5 + 1 ≤ n4 then (1 : Int) else 0) = a5 at *
  generalize (if n4 = n0 then (1 : Int) else 0) = c0 at *
  generalize (if n4 = n1 then (1 : Int) else 0) = c1 at *
  generalize (if n4 = n2 then (1 : Int) else 0) = c2 at *
  generalize (if n4 = n3 then (1 : Int) else 0) = c3 at *
  generalize (if n4 = n5 then (1 : Int) else 0) = c5 at *
  have eM : (6 : Int32).toInt = 6 := by decide
  have e0 : (0 : Int32).toInt = 0 := by decide
  simp only [Int32.lt_iff_toInt_lt, e, eM, e0]
  omega
theorem own_ps6_5 {n0 n1 n2 n3 n4 n5 : Nat} (h0 : n0 < 8) (h1 : n1 < 8) (h2 : n2 < 8) (h3 : n3 < 8) (h4 : n4 < 8) (h5 : n5 < 8) : ps [n0, n1, n2, n3, n4, n5] 5 = (((((((if (Int32.ofNat n0) < (Int32.ofNat n5) then (1 : Int32) else (0 : Int32)) + (if (Int32.ofNat n1) < (Int32.ofNat n5) then (1 : Int32) else (0 : Int32))) + (if (Int32.ofNat n2) < (Int32.ofNat n5) then (1 : Int32) else (0 : Int32))) + (if (Int32.ofNat n3) < (Int32.ofNat n5) then (1 : Int32) else (0 : Int32))) + (if (Int32.ofNat n4) < (Int32.ofNat n5) then (1 : Int32) else (0 : Int32))) + (if (Int32.ofNat n5) < (Int32.ofNat n5) then (1 : Int32) else (0 : Int32))) + (((((if (Int32.ofNat n0) = (Int32.ofNat n5) then (1 : Int32) else (0 : Int32)) + (if (Int32.ofNat n1) = (Int32.ofNat n5) then (1 : Int32) else (0 : Int32))) + (if (Int32.ofNat n2) = (Int32.ofNat n5) then (1 : Int32) else (0 : Int32))) + (if (Int32.ofNat n3) = (Int32.ofNat n5) then (1 : Int32) else (0 : Int32))) + (if (Int32.ofNat n4) = (Int32.ofNat n5) then (1 : Int32) else (0 : Int32)))) := by
  show (inc (inc (inc (inc (inc (ac (g1 [n0, n1, n2, n3, n4, n5]) 8) n0) n1) n2) n3) n4) n5 = _
  simp only [inc_val]
  rw [ac_sm _ (by omega)]
  simp only [g1, List.foldl, sm_inc, sm_zf, show (Int32.ofNat n0 < Int32.ofNat n5) ↔ n0 + 1 ≤ n5 from own_lt h0 (by omega), show (Int32.ofNat n1 < Int32.ofNat n5) ↔ n1 + 1 ≤ n5 from own_lt h1 (by omega), show (Int32.ofNat n2 < Int32.ofNat n5) ↔ n2 + 1 ≤ n5 from own_lt h2 (by omega), show (Int32.ofNat n3 < Int32.ofNat n5) ↔ n3 + 1 ≤ n5 from own_lt h3 (by omega), show (Int32.ofNat n4 < Int32.ofNat n5) ↔ n4 + 1 ≤ n5 from own_lt h4 (by omega), show (Int32.ofNat n5 < Int32.ofNat n5) ↔ n5 + 1 ≤ n5 from own_lt h5 (by omega), show (Int32.ofNat n0 = Int32.ofNat n5) ↔ n5 = n0 from own_eqn h0 h5, show (Int32.ofNat n1 = Int32.ofNat n5) ↔ n5 = n1 from own_eqn h1 h5, show (Int32.ofNat n2 = Int32.ofNat n5) ↔ n5 = n2 from own_eqn h2 h5, show (Int32.ofNat n3 = Int32.ofNat n5) ↔ n5 = n3 from own_eqn h3 h5, show (Int32.ofNat n4 = Int32.ofNat n5) ↔ n5 = n4 from own_eqn h4 h5]
  simp only [Int32.zero_add, Int32.add_zero, Int32.add_assoc]
theorem own_pi6_5 {n0 n1 n2 n3 n4 n5 : Nat} (h0 : n0 < 8) (h1 : n1 < 8) (h2 : n2 < 8) (h3 : n3 < 8) (h4 : n4 < 8) (h5 : n5 < 8) : (ps [n0, n1, n2, n3, n4, n5] 5).toInt = (0 : Int) + (if n0 + 1 ≤ n5 then (1 : Int) else 0) + (if n1 + 1 ≤ n5 then (1 : Int) else 0) + (if n2 + 1 ≤ n5 then (1 : Int) else 0) + (if n3 + 1 ≤ n5 then (1 : Int) else 0) + (if n4 + 1 ≤ n5 then (1 : Int) else 0) + (if n5 + 1 ≤ n5 then (1 : Int) else 0) + (if n5 = n0 then (1 : Int) else 0) + (if n5 = n1 then (1 : Int) else 0) + (if n5 = n2 then (1 : Int) else 0) + (if n5 = n3 then (1 : Int) else 0) + (if n5 = n4 then (1 : Int) else 0) ∧ 0 ≤ (0 : Int) + (if n0 + 1 ≤ n5 then (1 : Int) else 0) + (if n1 + 1 ≤ n5 then (1 : Int) else 0) + (if n2 + 1 ≤ n5 then (1 : Int) else 0) + (if n3 + 1 ≤ n5 then (1 : Int) else 0) + (if n4 + 1 ≤ n5 then (1 : Int) else 0) + (if n5 + 1 ≤ n5 then (1 : Int) else 0) + (if n5 = n0 then (1 : Int) else 0) + (if n5 = n1 then (1 : Int) else 0) + (if n5 = n2 then (1 : Int) else 0) + (if n5 = n3 then (1 : Int) else 0) + (if n5 = n4 then (1 : Int) else 0) := by
  have e : ps [n0, n1, n2, n3, n4, n5] 5 = (inc (inc (inc (inc (inc (ac (g1 [n0, n1, n2, n3, n4, n5]) 8) n0) n1) n2) n3) n4) n5 := rfl
  simp only [inc_val] at e
  rw [ac_sm _ (by omega)] at e
  simp only [g1, List.foldl, sm_inc, sm_zf] at e
  rw [e]
  have z : (0 : Int32).toInt = 0 ∧ (0 : Int) ≤ 0 ∧ (0 : Int) ≤ 0 := by decide
  have q := (own_b2 (n5 = n4) (own_b2 (n5 = n3) (own_b2 (n5 = n2) (own_b2 (n5 = n1) (own_b2 (n5 = n0) (own_b2 (n5 + 1 ≤ n5) (own_b2 (n4 + 1 ≤ n5) (own_b2 (n3 + 1 ≤ n5) (own_b2 (n2 + 1 ≤ n5) (own_b2 (n1 + 1 ≤ n5) (own_b2 (n0 + 1 ≤ n5) z (by decide)) (by decide)) (by decide)) (by decide)) (by decide)) (by decide)) (by decide)) (by decide)) (by decide)) (by decide)) (by decide))
  exact ⟨q.1, q.2.1⟩
theorem own_bd6_5 {n0 n1 n2 n3 n4 n5 : Nat} (h0 : n0 < 8) (h1 : n1 < 8) (h2 : n2 < 8) (h3 : n3 < 8) (h4 : n4 < 8) (h5 : n5 < 8) : ¬ ps [n0, n1, n2, n3, n4, n5] 5 < 0 ∧ (ps [n0, n1, n2, n3, n4, n5] 5).toNatClampNeg < 6 ∧ ps [n0, n1, n2, n3, n4, n5] 5 < (6 : Int32) := by
  obtain ⟨e, p⟩ := own_pi6_5 h0 h1 h2 h3 h4 h5
  have c := own_cl e p
  have t0 := t_01 n0 n5
  have t1 := t_01 n1 n5
  have t2 := t_01 n2 n5
  have t3 := t_01 n3 n5
  have t4 := t_01 n4 n5
  have t5 := t_01 n5 n5
  have tj : (if n5 + 1 ≤ n5 then (1 : Int) else 0) = 0 := if_neg (by omega)
  generalize (if n0 + 1 ≤ n5 then (1 : Int) else 0) = a0 at *
  generalize (if n1 + 1 ≤ n5 then (1 : Int) else 0) = a1 at *
  generalize (if n2 + 1 ≤ n5 then (1 : Int) else 0) = a2 at *
  generalize (if n3 + 1 ≤ n5 then (1 : Int) else 0) = a3 at *
  generalize (if n4 + 1 ≤ n5 then (1 : Int) else 0) = a4 at *
  generalize (if n5 + 1 ≤ n5 then (1 : Int) else 0) = a5 at *
  generalize (if n5 = n0 then (1 : Int) else 0) = c0 at *
  generalize (if n5 = n1 then (1 : Int) else 0) = c1 at *
  generalize (if n5 = n2 then (1 : Int) else 0) = c2 at *
  generalize (if n5 = n3 then (1 : Int) else 0) = c3 at *
  generalize (if n5 = n4 then (1 : Int) else 0) = c4 at *
  have eM : (6 : Int32).toInt = 6 := by decide
  have e0 : (0 : Int32).toInt = 0 := by decide
  simp only [Int32.lt_iff_toInt_lt, e, eM, e0]
  omega
theorem own_ne6_0_1 {n0 n1 n2 n3 n4 n5 : Nat} (h0 : n0 < 8) (h1 : n1 < 8) (h2 : n2 < 8) (h3 : n3 < 8) (h4 : n4 < 8) (h5 : n5 < 8) : (ps [n0, n1, n2, n3, n4, n5] 0).toNatClampNeg ≠ (ps [n0, n1, n2, n3, n4, n5] 1).toNatClampNeg := by
  obtain ⟨ei, pi⟩ := own_pi6_0 h0 h1 h2 h3 h4 h5
  obtain ⟨ej, pj⟩ := own_pi6_1 h0 h1 h2 h3 h4 h5
  have ci := own_cl ei pi
  have cj := own_cl ej pj
  clear ei ej
  rcases Nat.lt_trichotomy n0 n1 with h | h | h
  · have t0 := t_le (l := n0) h
    have t1 := t_le1 (l := n1) (Nat.le_of_lt h)
    have t2 := t_le1 (l := n2) (Nat.le_of_lt h)
    have t3 := t_le1 (l := n3) (Nat.le_of_lt h)
    have t4 := t_le1 (l := n4) (Nat.le_of_lt h)
    have t5 := t_le1 (l := n5) (Nat.le_of_lt h)
    have ti : (if n0 = n0 then (1 : Int) else 0) = 1 := if_pos rfl
    have tz : (if n0 + 1 ≤ n0 then (1 : Int) else 0) = 0 := if_neg (by omega)
    rw [ti] at t0
    clear ti
    have s0 := t_01 n0 n1
    generalize (if n0 + 1 ≤ n0 then (1 : Int) else 0) = a0 at *
    generalize (if n0 + 1 ≤ n1 then (1 : Int) else 0) = b0 at *
    generalize (if n1 + 1 ≤ n0 then (1 : Int) else 0) = a1 at *
    generalize (if n1 + 1 ≤ n1 then (1 : Int) else 0) = b1 at *
    generalize (if n2 + 1 ≤ n0 then (1 : Int) else 0) = a2 at *
    generalize (if n2 + 1 ≤ n1 then (1 : Int) else 0) = b2 at *
    generalize (if n3 + 1 ≤ n0 then (1 : Int) else 0) = a3 at *
    generalize (if n3 + 1 ≤ n1 then (1 : Int) else 0) = b3 at *
    generalize (if n4 + 1 ≤ n0 then (1 : Int) else 0) = a4 at *
    generalize (if n4 + 1 ≤ n1 then (1 : Int) else 0) = b4 at *
    generalize (if n5 + 1 ≤ n0 then (1 : Int) else 0) = a5 at *
    generalize (if n5 + 1 ≤ n1 then (1 : Int) else 0) = b5 at *
    generalize (if n1 = n0 then (1 : Int) else 0) = d0 at *
    omega
  · have ti : (if n1 = n0 then (1 : Int) else 0) = 1 := if_pos h.symm
    have u0 : (if n0 + 1 ≤ n0 then (1 : Int) else 0) = (if n0 + 1 ≤ n1 then (1 : Int) else 0) := by rw [h]
    have u1 : (if n1 + 1 ≤ n0 then (1 : Int) else 0) = (if n1 + 1 ≤ n1 then (1 : Int) else 0) := by rw [h]
    have u2 : (if n2 + 1 ≤ n0 then (1 : Int) else 0) = (if n2 + 1 ≤ n1 then (1 : Int) else 0) := by rw [h]
    have u3 : (if n3 + 1 ≤ n0 then (1 : Int) else 0) = (if n3 + 1 ≤ n1 then (1 : Int) else 0) := by rw [h]
    have u4 : (if n4 + 1 ≤ n0 then (1 : Int) else 0) = (if n4 + 1 ≤ n1 then (1 : Int) else 0) := by rw [h]
    have u5 : (if n5 + 1 ≤ n0 then (1 : Int) else 0) = (if n5 + 1 ≤ n1 then (1 : Int) else 0) := by rw [h]
    have s0 := t_01 n0 n1
    generalize (if n0 + 1 ≤ n0 then (1 : Int) else 0) = a0 at *
    generalize (if n0 + 1 ≤ n1 then (1 : Int) else 0) = b0 at *
    generalize (if n1 + 1 ≤ n0 then (1 : Int) else 0) = a1 at *
    generalize (if n1 + 1 ≤ n1 then (1 : Int) else 0) = b1 at *
    generalize (if n2 + 1 ≤ n0 then (1 : Int) else 0) = a2 at *
    generalize (if n2 + 1 ≤ n1 then (1 : Int) else 0) = b2 at *
    generalize (if n3 + 1 ≤ n0 then (1 : Int) else 0) = a3 at *
    generalize (if n3 + 1 ≤ n1 then (1 : Int) else 0) = b3 at *
    generalize (if n4 + 1 ≤ n0 then (1 : Int) else 0) = a4 at *
    generalize (if n4 + 1 ≤ n1 then (1 : Int) else 0) = b4 at *
    generalize (if n5 + 1 ≤ n0 then (1 : Int) else 0) = a5 at *
    generalize (if n5 + 1 ≤ n1 then (1 : Int) else 0) = b5 at *
    generalize (if n1 = n0 then (1 : Int) else 0) = d0 at *
    omega
  · have t0 := t_le (l := n0) h
    have t1 := t_le (l := n1) h
    have t2 := t_le1 (l := n2) (Nat.le_of_lt h)
    have t3 := t_le1 (l := n3) (Nat.le_of_lt h)
    have t4 := t_le1 (l := n4) (Nat.le_of_lt h)
    have t5 := t_le1 (l := n5) (Nat.le_of_lt h)
    have ti : (if n1 = n1 then (1 : Int) else 0) = 1 := if_pos rfl
    have tz : (if n1 + 1 ≤ n1 then (1 : Int) else 0) = 0 := if_neg (by omega)
    rw [ti] at t1
    clear ti
    generalize (if n0 + 1 ≤ n0 then (1 : Int) else 0) = a0 at *
    generalize (if n0 + 1 ≤ n1 then (1 : Int) else 0) = b0 at *
    generalize (if n1 + 1 ≤ n0 then (1 : Int) else 0) = a1 at *
    generalize (if n1 + 1 ≤ n1 then (1 : Int) else 0) = b1 at *
    generalize (if n2 + 1 ≤ n0 then (1 : Int) else 0) = a2 at *
    generalize (if n2 + 1 ≤ n1 then (1 : Int) else 0) = b2 at *
    generalize (if n3 + 1 ≤ n0 then (1 : Int) else 0) = a3 at *
    generalize (if n3 + 1 ≤ n1 then (1 : Int) else 0) = b3 at *
    generalize (if n4 + 1 ≤ n0 then (1 : Int) else 0) = a4 at *
    generalize (if n4 + 1 ≤ n1 then (1 : Int) else 0) = b4 at *
    generalize (if n5 + 1 ≤ n0 then (1 : Int) else 0) = a5 at *
    generalize (if n5 + 1 ≤ n1 then (1 : Int) else 0) = b5 at *
    generalize (if n1 = n0 then (1 : Int) else 0) = d0 at *
    omega
theorem own_ne6_0_2 {n0 n1 n2 n3 n4 n5 : Nat} (h0 : n0 < 8) (h1 : n1 < 8) (h2 : n2 < 8) (h3 : n3 < 8) (h4 : n4 < 8) (h5 : n5 < 8) : (ps [n0, n1, n2, n3, n4, n5] 0).toNatClampNeg ≠ (ps [n0, n1, n2, n3, n4, n5] 2).toNatClampNeg := by
  obtain ⟨ei, pi⟩ := own_pi6_0 h0 h1 h2 h3 h4 h5
  obtain ⟨ej, pj⟩ := own_pi6_2 h0 h1 h2 h3 h4 h5
  have ci := own_cl ei pi
  have cj := own_cl ej pj
  clear ei ej
  rcases Nat.lt_trichotomy n0 n2 with h | h | h
  · have t0 := t_le (l := n0) h
    have t1 := t_le1 (l := n1) (Nat.le_of_lt h)
    have t2 := t_le1 (l := n2) (Nat.le_of_lt h)
    have t3 := t_le1 (l := n3) (Nat.le_of_lt h)
    have t4 := t_le1 (l := n4) (Nat.le_of_lt h)
    have t5 := t_le1 (l := n5) (Nat.le_of_lt h)
    have ti : (if n0 = n0 then (1 : Int) else 0) = 1 := if_pos rfl
    have tz : (if n0 + 1 ≤ n0 then (1 : Int) else 0) = 0 := if_neg (by omega)
    rw [ti] at t0
    clear ti
    have s0 := t_01 n0 n2
    have s1 := t_01 n1 n2
    generalize (if n0 + 1 ≤ n0 then (1 : Int) else 0) = a0 at *
    generalize (if n0 + 1 ≤ n2 then (1 : Int) else 0) = b0 at *
    generalize (if n1 + 1 ≤ n0 then (1 : Int) else 0) = a1 at *
    generalize (if n1 + 1 ≤ n2 then (1 : Int) else 0) = b1 at *
    generalize (if n2 + 1 ≤ n0 then (1 : Int) else 0) = a2 at *
    generalize (if n2 + 1 ≤ n2 then (1 : Int) else 0) = b2 at *
    generalize (if n3 + 1 ≤ n0 then (1 : Int) else 0) = a3 at *
    generalize (if n3 + 1 ≤ n2 then (1 : Int) else 0) = b3 at *
    generalize (if n4 + 1 ≤ n0 then (1 : Int) else 0) = a4 at *
    generalize (if n4 + 1 ≤ n2 then (1 : Int) else 0) = b4 at *
    generalize (if n5 + 1 ≤ n0 then (1 : Int) else 0) = a5 at *
    generalize (if n5 + 1 ≤ n2 then (1 : Int) else 0) = b5 at *
    generalize (if n2 = n0 then (1 : Int) else 0) = d0 at *
    generalize (if n2 = n1 then (1 : Int) else 0) = d1 at *
    omega
  · have ti : (if n2 = n0 then (1 : Int) else 0) = 1 := if_pos h.symm
    have u0 : (if n0 + 1 ≤ n0 then (1 : Int) else 0) = (if n0 + 1 ≤ n2 then (1 : Int) else 0) := by rw [h]
    have u1 : (if n1 + 1 ≤ n0 then (1 : Int) else 0) = (if n1 + 1 ≤ n2 then (1 : Int) else 0) := by rw [h]
    have u2 : (if n2 + 1 ≤ n0 then (1 : Int) else 0) = (if n2 + 1 ≤ n2 then (1 : Int) else 0) := by rw [h]
    have u3 : (if n3 + 1 ≤ n0 then (1 : Int) else 0) = (if n3 + 1 ≤ n2 then (1 : Int) else 0) := by rw [h]
    have u4 : (if n4 + 1 ≤ n0 then (1 : Int) else 0) = (if n4 + 1 ≤ n2 then (1 : Int) else 0) := by rw [h]
    have u5 : (if n5 + 1 ≤ n0 then (1 : Int) else 0) = (if n5 + 1 ≤ n2 then (1 : Int) else 0) := by rw [h]
    have s0 := t_01 n0 n2
    have s1 := t_01 n1 n2
    generalize (if n0 + 1 ≤ n0 then (1 : Int) else 0) = a0 at *
    generalize (if n0 + 1 ≤ n2 then (1 : Int) else 0) = b0 at *
    generalize (if n1 + 1 ≤ n0 then (1 : Int) else 0) = a1 at *
    generalize (if n1 + 1 ≤ n2 then (1 : Int) else 0) = b1 at *
    generalize (if n2 + 1 ≤ n0 then (1 : Int) else 0) = a2 at *
    generalize (if n2 + 1 ≤ n2 then (1 : Int) else 0) = b2 at *
    generalize (if n3 + 1 ≤ n0 then (1 : Int) else 0) = a3 at *
    generalize (if n3 + 1 ≤ n2 then (1 : Int) else 0) = b3 at *
    generalize (if n4 + 1 ≤ n0 then (1 : Int) else 0) = a4 at *
    generalize (if n4 + 1 ≤ n2 then (1 : Int) else 0) = b4 at *
    generalize (if n5 + 1 ≤ n0 then (1 : Int) else 0) = a5 at *
    generalize (if n5 + 1 ≤ n2 then (1 : Int) else 0) = b5 at *
    generalize (if n2 = n0 then (1 : Int) else 0) = d0 at *
    generalize (if n2 = n1 then (1 : Int) else 0) = d1 at *
    omega
  · have t0 := t_le (l := n0) h
    have t1 := t_le (l := n1) h
    have t2 := t_le (l := n2) h
    have t3 := t_le1 (l := n3) (Nat.le_of_lt h)
    have t4 := t_le1 (l := n4) (Nat.le_of_lt h)
    have t5 := t_le1 (l := n5) (Nat.le_of_lt h)
    have ti : (if n2 = n2 then (1 : Int) else 0) = 1 := if_pos rfl
    have tz : (if n2 + 1 ≤ n2 then (1 : Int) else 0) = 0 := if_neg (by omega)
    rw [ti] at t2
    clear ti
    generalize (if n0 + 1 ≤ n0 then (1 : Int) else 0) = a0 at *
    generalize (if n0 + 1 ≤ n2 then (1 : Int) else 0) = b0 at *
    generalize (if n1 + 1 ≤ n0 then (1 : Int) else 0) = a1 at *
    generalize (if n1 + 1 ≤ n2 then (1 : Int) else 0) = b1 at *
    generalize (if n2 + 1 ≤ n0 then (1 : Int) else 0) = a2 at *
    generalize (if n2 + 1 ≤ n2 then (1 : Int) else 0) = b2 at *
    generalize (if n3 + 1 ≤ n0 then (1 : Int) else 0) = a3 at *
    generalize (if n3 + 1 ≤ n2 then (1 : Int) else 0) = b3 at *
    generalize (if n4 + 1 ≤ n0 then (1 : Int) else 0) = a4 at *
    generalize (if n4 + 1 ≤ n2 then (1 : Int) else 0) = b4 at *
    generalize (if n5 + 1 ≤ n0 then (1 : Int) else 0) = a5 at *
    generalize (if n5 + 1 ≤ n2 then (1 : Int) else 0) = b5 at *
    generalize (if n2 = n0 then (1 : Int) else 0) = d0 at *
    generalize (if n2 = n1 then (1 : Int) else 0) = d1 at *
    omega
theorem own_ne6_0_3 {n0 n1 n2 n3 n4 n5 : Nat} (h0 : n0 < 8) (h1 : n1 < 8) (h2 : n2 < 8) (h3 : n3 < 8) (h4 : n4 < 8) (h5 : n5 < 8) : (ps [n0, n1, n2, n3, n4, n5] 0).toNatClampNeg ≠ (ps [n0, n1, n2, n3, n4, n5] 3).toNatClampNeg := by
  obtain ⟨ei, pi⟩ := own_pi6_0 h0 h1 h2 h3 h4 h5
  obtain ⟨ej, pj⟩ := own_pi6_3 h0 h1 h2 h3 h4 h5
  have ci := own_cl ei pi
  have cj := own_cl ej pj
  clear ei ej
  rcases Nat.lt_trichotomy n0 n3 with h | h | h
  · have t0 := t_le (l := n0) h
    have t1 := t_le1 (l := n1) (Nat.le_of_lt h)
    have t2 := t_le1 (l := n2) (Nat.le_of_lt h)
    have t3 := t_le1 (l := n3) (Nat.le_of_lt h)
    have t4 := t_le1 (l := n4) (Nat.le_of_lt h)
    have t5 := t_le1 (l := n5) (Nat.le_of_lt h)
    have ti : (if n0 = n0 then (1 : Int) else 0) = 1 := if_pos rfl
    have tz : (if n0 + 1 ≤ n0 then (1 : Int) else 0) = 0 := if_neg (by omega)
    rw [ti] at t0
    clear ti
    have s0 := t_01 n0 n3
    have s1 := t_01 n1 n3
    have s2 := t_01 n2 n3
    generalize (if n0 + 1 ≤ n0 then (1 : Int) else 0) = a0 at *
    generalize (if n0 + 1 ≤ n3 then (1 : Int) else 0) = b0 at *
    generalize (if n1 + 1 ≤ n0 then (1 : Int) else 0) = a1 at *
    generalize (if n1 + 1 ≤ n3 then (1 : Int) else 0) = b1 at *
    generalize (if n2 + 1 ≤ n0 then (1 : Int) else 0) = a2 at *
    generalize (if n2 + 1 ≤ n3 then (1 : Int) else 0) = b2 at *
    generalize (if n3 + 1 ≤ n0 then (1 : Int) else 0) = a3 at *
    generalize (if n3 + 1 ≤ n3 then (1 : Int) else 0) = b3 at *
    generalize (if n4 + 1 ≤ n0 then (1 : Int) else 0) = a4 at *
    generalize (if n4 + 1 ≤ n3 then (1 : Int) else 0) = b4 at *
    generalize (if n5 + 1 ≤ n0 then (1 : Int) else 0) = a5 at *
    generalize (if n5 + 1 ≤ n3 then (1 : Int) else 0) = b5 at *
    generalize (if n3 = n0 then (1 : Int) else 0) = d0 at *
    generalize (if n3 = n1 then (1 : Int) else 0) = d1 at *
    generalize (if n3 = n2 then (1 : Int) else 0) = d2 at *
    omega
  · have ti : (if n3 = n0 then (1 : Int) else 0) = 1 := if_pos h.symm
    have u0 : (if n0 + 1 ≤ n0 then (1 : Int) else 0) = (if n0 + 1 ≤ n3 then (1 : Int) else 0) := by rw [h]
    have u1 : (if n1 + 1 ≤ n0 then (1 : Int) else 0) = (if n1 + 1 ≤ n3 then (1 : Int) else 0) := by rw [h]
    have u2 : (if n2 + 1 ≤ n0 then (1 : Int) else 0) = (if n2 + 1 ≤ n3 then (1 : Int) else 0) := by rw [h]
    have u3 : (if n3 + 1 ≤ n0 then (1 : Int) else 0) = (if n3 + 1 ≤ n3 then (1 : Int) else 0) := by rw [h]
    have u4 : (if n4 + 1 ≤ n0 then (1 : Int) else 0) = (if n4 + 1 ≤ n3 then (1 : Int) else 0) := by rw [h]
    have u5 : (if n5 + 1 ≤ n0 then (1 : Int) else 0) = (if n5 + 1 ≤ n3 then (1 : Int) else 0) := by rw [h]
    have s0 := t_01 n0 n3
    have s1 := t_01 n1 n3
    have s2 := t_01 n2 n3
    generalize (if n0 + 1 ≤ n0 then (1 : Int) else 0) = a0 at *
    generalize (if n0 + 1 ≤ n3 then (1 : Int) else 0) = b0 at *
    generalize (if n1 + 1 ≤ n0 then (1 : Int) else 0) = a1 at *
    generalize (if n1 + 1 ≤ n3 then (1 : Int) else 0) = b1 at *
    generalize (if n2 + 1 ≤ n0 then (1 : Int) else 0) = a2 at *
    generalize (if n2 + 1 ≤ n3 then (1 : Int) else 0) = b2 at *
    generalize (if n3 + 1 ≤ n0 then (1 : Int) else 0) = a3 at *
    generalize (if n3 + 1 ≤ n3 then (1 : Int) else 0) = b3 at *
    generalize (if n4 + 1 ≤ n0 then (1 : Int) else 0) = a4 at *
    generalize (if n4 + 1 ≤ n3 then (1 : Int) else 0) = b4 at *
    generalize (if n5 + 1 ≤ n0 then (1 : Int) else 0) = a5 at *
    generalize (if n5 + 1 ≤ n3 then (1 : Int) else 0) = b5 at *
    generalize (if n3 = n0 then (1 : Int) else 0) = d0 at *
    generalize (if n3 = n1 then (1 : Int) else 0) = d1 at *
    generalize (if n3 = n2 then (1 : Int) else 0) = d2 at *
    omega
  · have t0 := t_le (l := n0) h
    have t1 := t_le (l := n1) h
    have t2 := t_le (l := n2) h
    have t3 := t_le (l := n3) h
    have t4 := t_le1 (l := n4) (Nat.le_of_lt h)
    have t5 := t_le1 (l := n5) (Nat.le_of_lt h)
    have ti : (if n3 = n3 then (1 : Int) else 0) = 1 := if_pos rfl
    have tz : (if n3 + 1 ≤ n3 then (1 : Int) else 0) = 0 := if_neg (by omega)
    rw [ti] at t3
    clear ti
    generalize (if n0 + 1 ≤ n0 then (1 : Int) else 0) = a0 at *
    generalize (if n0 + 1 ≤ n3 then (1 : Int) else 0) = b0 at *
    generalize (if n1 + 1 ≤ n0 then (1 : Int) else 0) = a1 at *
    generalize (if n1 + 1 ≤ n3 then (1 : Int) else 0) = b1 at *
    generalize (if n2 + 1 ≤ n0 then (1 : Int) else 0) = a2 at *
    generalize (if n2 + 1 ≤ n3 then (1 : Int) else 0) = b2 at *
    generalize (if n3 + 1 ≤ n0 then (1 : Int) else 0) = a3 at *
    generalize (if n3 + 1 ≤ n3 then (1 : Int) else 0) = b3 at *
    generalize (if n4 + 1 ≤ n0 then (1 : Int) else 0) = a4 at *
    generalize (if n4 + 1 ≤ n3 then (1 : Int) else 0) = b4 at *
    generalize (if n5 + 1 ≤ n0 then (1 : Int) else 0) = a5 at *
    generalize (if n5 + 1 ≤ n3 then (1 : Int) else 0) = b5 at *
    generalize (if n3 = n0 then (1 : Int) else 0) = d0 at *
    generalize (if n3 = n1 then (1 : Int) else 0) = d1 at *
    generalize (if n3 = n2 then (1 : Int) else 0) = d2 at *
    omega
theorem own_ne6_0_4 {n0 n1 n2 n3 n4 n5 : Nat} (h0 : n0 < 8) (h1 : n1 < 8) (h2 : n2 < 8) (h3 : n3 < 8) (h4 : n4 < 8) (h5 : n5 < 8) : (ps [n0, n1, n2, n3, n4, n5] 0).toNatClampNeg ≠ (ps [n0, n1, n2, n3, n4, n5] 4).toNatClampNeg := by
  obtain ⟨ei, pi⟩ := own_pi6_0 h0 h1 h2 h3 h4 h5
  obtain ⟨ej, pj⟩ := own_pi6_4 h0 h1 h2 h3 h4 h5
  have ci := own_cl ei pi
  have cj := own_cl ej pj
  clear ei ej
  rcases Nat.lt_trichotomy n0 n4 with h | h | h
  · have t0 := t_le (l := n0) h
    have t1 := t_le1 (l := n1) (Nat.le_of_lt h)
    have t2 := t_le1 (l := n2) (Nat.le_of_lt h)
    have t3 := t_le1 (l := n3) (Nat.le_of_lt h)
    have t4 := t_le1 (l := n4) (Nat.le_of_lt h)
    have t5 := t_le1 (l := n5) (Nat.le_of_lt h)
    have ti : (if n0 = n0 then (1 : Int) else 0) = 1 := if_pos rfl
    have tz : (if n0 + 1 ≤ n0 then (1 : Int) else 0) = 0 := if_neg (by omega)
    rw [ti] at t0
    clear ti
    have s0 := t_01 n0 n4
    have s1 := t_01 n1 n4
    have s2 := t_01 n2 n4
    have s3 := t_01 n3 n4
    generalize (if n0 + 1 ≤ n0 then (1 : Int) else 0) = a0 at *
    generalize (if n0 + 1 ≤ n4 then (1 : Int) else 0) = b0 at *
    generalize (if n1 + 1 ≤ n0 then (1 : Int) else 0) = a1 at *
    generalize (if n1 + 1 ≤ n4 then (1 : Int) else 0) = b1 at *
    generalize (if n2 + 1 ≤ n0 then (1 : Int) else 0) = a2 at *
    generalize (if n2 + 1 ≤ n4 then (1 : Int) else 0) = b2 at *
    generalize (if n3 + 1 ≤ n0 then (1 : Int) else 0) = a3 at *
    generalize (if n3 + 1 ≤ n4 then (1 : Int) else 0) = b3 at *
    generalize (if n4 + 1 ≤ n0 then (1 : Int) else 0) = a4 at *
    generalize (if n4 + 1 ≤ n4 then (1 : Int) else 0) = b4 at *
    generalize (if n5 + 1 ≤ n0 then (1 : Int) else 0) = a5 at *
    generalize (if n5 + 1 ≤ n4 then (1 : Int) else 0) = b5 at *
    generalize (if n4 = n0 then (1 : Int) else 0) = d0 at *
    generalize (if n4 = n1 then (1 : Int) else 0) = d1 at *
    generalize (if n4 = n2 then (1 : Int) else 0) = d2 at *
    generalize (if n4 = n3 then (1 : Int) else 0) = d3 at *
    omega
  · have ti : (if n4 = n0 then (1 : Int) else 0) = 1 := if_pos h.symm
    have u0 : (if n0 + 1 ≤ n0 then (1 : Int) else 0) = (if n0 + 1 ≤ n4 then (1 : Int) else 0) := by rw [h]
    have u1 : (if n1 + 1 ≤ n0 then (1 : Int) else 0) = (if n1 + 1 ≤ n4 then (1 : Int) else 0) := by rw [h]
    have u2 : (if n2 + 1 ≤ n0 then (1 : Int) else 0) = (if n2 + 1 ≤ n4 then (1 : Int) else 0) := by rw [h]
    have u3 : (if n3 + 1 ≤ n0 then (1 : Int) else 0) = (if n3 + 1 ≤ n4 then (1 : Int) else 0) := by rw [h]
    have u4 : (if n4 + 1 ≤ n0 then (1 : Int) else 0) = (if n4 + 1 ≤ n4 then (1 : Int) else 0) := by rw [h]
    have u5 : (if n5 + 1 ≤ n0 then (1 : Int) else 0) = (if n5 + 1 ≤ n4 then (1 : Int) else 0) := by rw [h]
    have s0 := t_01 n0 n4
    have s1 := t_01 n1 n4
    have s2 := t_01 n2 n4
    have s3 := t_01 n3 n4
    generalize (if n0 + 1 ≤ n0 then (1 : Int) else 0) = a0 at *
    generalize (if n0 + 1 ≤ n4 then (1 : Int) else 0) = b0 at *
    generalize (if n1 + 1 ≤ n0 then (1 : Int) else 0) = a1 at *
    generalize (if n1 + 1 ≤ n4 then (1 : Int) else 0) = b1 at *
    generalize (if n2 + 1 ≤ n0 then (1 : Int) else 0) = a2 at *
    generalize (if n2 + 1 ≤ n4 then (1 : Int) else 0) = b2 at *
    generalize (if n3 + 1 ≤ n0 then (1 : Int) else 0) = a3 at *
    generalize (if n3 + 1 ≤ n4 then (1 : Int) else 0) = b3 at *
    generalize (if n4 + 1 ≤ n0 then (1 : Int) else 0) = a4 at *
    generalize (if n4 + 1 ≤ n4 then (1 : Int) else 0) = b4 at *
    generalize (if n5 + 1 ≤ n0 then (1 : Int) else 0) = a5 at *
    generalize (if n5 + 1 ≤ n4 then (1 : Int) else 0) = b5 at *
    generalize (if n4 = n0 then (1 : Int) else 0) = d0 at *
    generalize (if n4 = n1 then (1 : Int) else 0) = d1 at *
    generalize (if n4 = n2 then (1 : Int) else 0) = d2 at *
    generalize (if n4 = n3 then (1 : Int) else 0) = d3 at *
    omega
  · have t0 := t_le (l := n0) h
    have t1 := t_le (l := n1) h
    have t2 := t_le (l := n2) h
    have t3 := t_le (l := n3) h
    have t4 := t_le (l := n4) h
    have t5 := t_le1 (l := n5) (Nat.le_of_lt h)
    have ti : (if n4 = n4 then (1 : Int) else 0) = 1 := if_pos rfl
    have tz : (if n4 + 1 ≤ n4 then (1 : Int) else 0) = 0 := if_neg (by omega)
    rw [ti] at t4
    clear ti
    generalize (if n0 + 1 ≤ n0 then (1 : Int) else 0) = a0 at *
    generalize (if n0 + 1 ≤ n4 then (1 : Int) else 0) = b0 at *
    generalize (if n1 + 1 ≤ n0 then (1 : Int) else 0) = a1 at *
    generalize (if n1 + 1 ≤ n4 then (1 : Int) else 0) = b1 at *
    generalize (if n2 + 1 ≤ n0 then (1 : Int) else 0) = a2 at *
    generalize (if n2 + 1 ≤ n4 then (1 : Int) else 0) = b2 at *
    generalize (if n3 + 1 ≤ n0 then (1 : Int) else 0) = a3 at *
    generalize (if n3 + 1 ≤ n4 then (1 : Int) else 0) = b3 at *
    generalize (if n4 + 1 ≤ n0 then (1 : Int) else 0) = a4 at *
    generalize (if n4 + 1 ≤ n4 then (1 : Int) else 0) = b4 at *
    generalize (if n5 + 1 ≤ n0 then (1 : Int) else 0) = a5 at *
    generalize (if n5 + 1 ≤ n4 then (1 : Int) else 0) = b5 at *
    generalize (if n4 = n0 then (1 : Int) else 0) = d0 at *
    generalize (if n4 = n1 then (1 : Int) else 0) = d1 at *
    generalize (if n4 = n2 then (1 : Int) else 0) = d2 at *
    generalize (if n4 = n3 then (1 : Int) else 0) = d3 at *
    omega
theorem own_ne6_0_5 {n0 n1 n2 n3 n4 n5 : Nat} (h0 : n0 < 8) (h1 : n1 < 8) (h2 : n2 < 8) (h3 : n3 < 8) (h4 : n4 < 8) (h5 : n5 < 8) : (ps [n0, n1, n2, n3, n4, n5] 0).toNatClampNeg ≠ (ps [n0, n1, n2, n3, n4, n5] 5).toNatClampNeg := by
  obtain ⟨ei, pi⟩ := own_pi6_0 h0 h1 h2 h3 h4 h5
  obtain ⟨ej, pj⟩ := own_pi6_5 h0 h1 h2 h3 h4 h5
  have ci := own_cl ei pi
  have cj := own_cl ej pj
  clear ei ej
  rcases Nat.lt_trichotomy n0 n5 with h | h | h
  · have t0 := t_le (l := n0) h
    have t1 := t_le1 (l := n1) (Nat.le_of_lt h)
    have t2 := t_le1 (l := n2) (Nat.le_of_lt h)
    have t3 := t_le1 (l := n3) (Nat.le_of_lt h)
    have t4 := t_le1 (l := n4) (Nat.le_of_lt h)
    have t5 := t_le1 (l := n5) (Nat.le_of_lt h)
    have ti : (if n0 = n0 then (1 : Int) else 0) = 1 := if_pos rfl
    have tz : (if n0 + 1 ≤ n0 then (1 : Int) else 0) = 0 := if_neg (by omega)
    rw [ti] at t0
    clear ti
    have s0 := t_01 n0 n5
    have s1 := t_01 n1 n5
    have s2 := t_01 n2 n5
    have s3 := t_01 n3 n5
    have s4 := t_01 n4 n5
    generalize (if n0 + 1 ≤ n0 then (1 : Int) else 0) = a0 at *
    generalize (if n0 + 1 ≤ n5 then (1 : Int) else 0) = b0 at *
    generalize (if n1 + 1 ≤ n0 then (1 : Int) else 0) = a1 at *
    generalize (if n1 + 1 ≤ n5 then (1 : Int) else 0) = b1 at *
    generalize (if n2 + 1 ≤ n0 then (1 : Int) else 0) = a2 at *
    generalize (if n2 + 1 ≤ n5 then (1 : Int) else 0) = b2 at *
    generalize (if n3 + 1 ≤ n0 then (1 : Int) else 0) = a3 at *
    generalize (if n3 + 1 ≤ n5 then (1 : Int) else 0) = b3 at *
    generalize (if n4 + 1 ≤ n0 then (1 : Int) else 0) = a4 at *
    generalize (if n4 + 1 ≤ n5 then (1 : Int) else 0) = b4 at *
    generalize (if n5 + 1 ≤ n0 then (1 : Int) else 0) = a5 at *
    generalize (if n5 + 1 ≤ n5 then (1 : Int) else 0) = b5 at *
    generalize (if n5 = n0 then (1 : Int) else 0) = d0 at *
    generalize (if n5 = n1 then (1 : Int) else 0) = d1 at *
    generalize (if n5 = n2 then (1 : Int) else 0) = d2 at *
    generalize (if n5 = n3 then (1 : Int) else 0) = d3 at *
    generalize (if n5 = n4 then (1 : Int) else 0) = d4 at *
    omega
  · have ti : (if n5 = n0 then (1 : Int) else 0) = 1 := if_pos h.symm
    have u0 : (if n0 + 1 ≤ n0 then (1 : Int) else 0) = (if n0 + 1 ≤ n5 then (1 : Int) else 0) := by rw [h]
    have u1 : (if n1 + 1 ≤ n0 then (1 : Int) else 0) = (if n1 + 1 ≤ n5 then (1 : Int) else 0) := by rw [h]
    have u2 : (if n2 + 1 ≤ n0 then (1 : Int) else 0) = (if n2 + 1 ≤ n5 then (1 : Int) else 0) := by rw [h]
    have u3 : (if n3 + 1 ≤ n0 then (1 : Int) else 0) = (if n3 + 1 ≤ n5 then (1 : Int) else 0) := by rw [h]
    have u4 : (if n4 + 1 ≤ n0 then (1 : Int) else 0) = (if n4 + 1 ≤ n5 then (1 : Int) else 0) := by rw [h]
    have u5 : (if n5 + 1 ≤ n0 then (1 : Int) else 0) = (if n5 + 1 ≤ n5 then (1 : Int) else 0) := by rw [h]
    have s0 := t_01 n0 n5
    have s1 := t_01 n1 n5
    have s2 := t_01 n2 n5
    have s3 := t_01 n3 n5
    have s4 := t_01 n4 n5
    generalize (if n0 + 1 ≤ n0 then (1 : Int) else 0) = a0 at *
    generalize (if n0 + 1 ≤ n5 then (1 : Int) else 0) = b0 at *
    generalize (if n1 + 1 ≤ n0 then (1 : Int) else 0) = a1 at *
    generalize (if n1 + 1 ≤ n5 then (1 : Int) else 0) = b1 at *
    generalize (if n2 + 1 ≤ n0 then (1 : Int) else 0) = a2 at *
    generalize (if n2 + 1 ≤ n5 then (1 : Int) else 0) = b2 at *
    generalize (if n3 + 1 ≤ n0 then (1 : Int) else 0) = a3 at *
    generalize (if n3 + 1 ≤ n5 then (1 : Int) else 0) = b3 at *
    generalize (if n4 + 1 ≤ n0 then (1 : Int) else 0) = a4 at *
    generalize (if n4 + 1 ≤ n5 then (1 : Int) else 0) = b4 at *
    generalize (if n5 + 1 ≤ n0 then (1 : Int) else 0) = a5 at *
    generalize (if n5 + 1 ≤ n5 then (1 : Int) else 0) = b5 at *
    generalize (if n5 = n0 then (1 : Int) else 0) = d0 at *
    generalize (if n5 = n1 then (1 : Int) else 0) = d1 at *
    generalize (if n5 = n2 then (1 : Int) else 0) = d2 at *
    generalize (if n5 = n3 then (1 : Int) else 0) = d3 at *
    generalize (if n5 = n4 then (1 : Int) else 0) = d4 at *
    omega
  · have t0 := t_le (l := n0) h
    have t1 := t_le (l := n1) h
    have t2 := t_le (l := n2) h
    have t3 := t_le (l := n3) h
    have t4 := t_le (l := n4) h
    have t5 := t_le (l := n5) h
    have ti : (if n5 = n5 then (1 : Int) else 0) = 1 := if_pos rfl
    have tz : (if n5 + 1 ≤ n5 then (1 : Int) else 0) = 0 := if_neg (by omega)
    rw [ti] at t5
    clear ti
    generalize (if n0 + 1 ≤ n0 then (1 : Int) else 0) = a0 at *
    generalize (if n0 + 1 ≤ n5 then (1 : Int) else 0) = b0 at *
    generalize (if n1 + 1 ≤ n0 then (1 : Int) else 0) = a1 at *
    generalize (if n1 + 1 ≤ n5 then (1 : Int) else 0) = b1 at *
    generalize (if n2 + 1 ≤ n0 then (1 : Int) else 0) = a2 at *
    generalize (if n2 + 1 ≤ n5 then (1 : Int) else 0) = b2 at *
    generalize (if n3 + 1 ≤ n0 then (1 : Int) else 0) = a3 at *
    generalize (if n3 + 1 ≤ n5 then (1 : Int) else 0) = b3 at *
    generalize (if n4 + 1 ≤ n0 then (1 : Int) else 0) = a4 at *
    generalize (if n4 + 1 ≤ n5 then (1 : Int) else 0) = b4 at *
    generalize (if n5 + 1 ≤ n0 then (1 : Int) else 0) = a5 at *
    generalize (if n5 + 1 ≤ n5 then (1 : Int) else 0) = b5 at *
    generalize (if n5 = n0 then (1 : Int) else 0) = d0 at *
    generalize (if n5 = n1 then (1 : Int) else 0) = d1 at *
    generalize (if n5 = n2 then (1 : Int) else 0) = d2 at *
    generalize (if n5 = n3 then (1 : Int) else 0) = d3 at *
    generalize (if n5 = n4 then (1 : Int) else 0) = d4 at *
    omega
theorem own_ne6_1_2 {n0 n1 n2 n3 n4 n5 : Nat} (h0 : n0 < 8) (h1 : n1 < 8) (h2 : n2 < 8) (h3 : n3 < 8) (h4 : n4 < 8) (h5 : n5 < 8) : (ps [n0, n1, n2, n3, n4, n5] 1).toNatClampNeg ≠ (ps [n0, n1, n2, n3, n4, n5] 2).toNatClampNeg := by
  obtain ⟨ei, pi⟩ := own_pi6_1 h0 h1 h2 h3 h4 h5
  obtain ⟨ej, pj⟩ := own_pi6_2 h0 h1 h2 h3 h4 h5
  have ci := own_cl ei pi
  have cj := own_cl ej pj
  clear ei ej
  rcases Nat.lt_trichotomy n1 n2 with h | h | h
  · have t0 := t_le (l := n0) h
    have t1 := t_le (l := n1) h
    have t2 := t_le1 (l := n2) (Nat.le_of_lt h)
    have t3 := t_le1 (l := n3) (Nat.le_of_lt h)
    have t4 := t_le1 (l := n4) (Nat.le_of_lt h)
    have t5 := t_le1 (l := n5) (Nat.le_of_lt h)
    have ti : (if n1 = n1 then (1 : Int) else 0) = 1 := if_pos rfl
    have tz : (if n1 + 1 ≤ n1 then (1 : Int) else 0) = 0 := if_neg (by omega)
    rw [ti] at t1
    clear ti
    have s0 := t_01 n0 n2
    have s1 := t_01 n1 n2
    generalize (if n0 + 1 ≤ n1 then (1 : Int) else 0) = a0 at *
    generalize (if n0 + 1 ≤ n2 then (1 : Int) else 0) = b0 at *
    generalize (if n1 + 1 ≤ n1 then (1 : Int) else 0) = a1 at *
    generalize (if n1 + 1 ≤ n2 then (1 : Int) else 0) = b1 at *
    generalize (if n2 + 1 ≤ n1 then (1 : Int) else 0) = a2 at *
    generalize (if n2 + 1 ≤ n2 then (1 : Int) else 0) = b2 at *
    generalize (if n3 + 1 ≤ n1 then (1 : Int) else 0) = a3 at *
    generalize (if n3 + 1 ≤ n2 then (1 : Int) else 0) = b3 at *
    generalize (if n4 + 1 ≤ n1 then (1 : Int) else 0) = a4 at *
    generalize (if n4 + 1 ≤ n2 then (1 : Int) else 0) = b4 at *
    generalize (if n5 + 1 ≤ n1 then (1 : Int) else 0) = a5 at *
    generalize (if n5 + 1 ≤ n2 then (1 : Int) else 0) = b5 at *
    generalize (if n1 = n0 then (1 : Int) else 0) = c0 at *
    generalize (if n2 = n0 then (1 : Int) else 0) = d0 at *
    generalize (if n2 = n1 then (1 : Int) else 0) = d1 at *
    omega
  · have ti : (if n2 = n1 then (1 : Int) else 0) = 1 := if_pos h.symm
    have u0 : (if n0 + 1 ≤ n1 then (1 : Int) else 0) = (if n0 + 1 ≤ n2 then (1 : Int) else 0) := by rw [h]
    have u1 : (if n1 + 1 ≤ n1 then (1 : Int) else 0) = (if n1 + 1 ≤ n2 then (1 : Int) else 0) := by rw [h]
    have u2 : (if n2 + 1 ≤ n1 then (1 : Int) else 0) = (if n2 + 1 ≤ n2 then (1 : Int) else 0) := by rw [h]
    have u3 : (if n3 + 1 ≤ n1 then (1 : Int) else 0) = (if n3 + 1 ≤ n2 then (1 : Int) else 0) := by rw [h]
    have u4 : (if n4 + 1 ≤ n1 then (1 : Int) else 0) = (if n4 + 1 ≤ n2 then (1 : Int) else 0) := by rw [h]
    have u5 : (if n5 + 1 ≤ n1 then (1 : Int) else 0) = (if n5 + 1 ≤ n2 then (1 : Int) else 0) := by rw [h]
    have w0 : (if n1 = n0 then (1 : Int) else 0) = (if n2 = n0 then (1 : Int) else 0) := by rw [h]
    have s0 := t_01 n0 n2
    have s1 := t_01 n1 n2
    generalize (if n0 + 1 ≤ n1 then (1 : Int) else 0) = a0 at *
    generalize (if n0 + 1 ≤ n2 then (1 : Int) else 0) = b0 at *
    generalize (if n1 + 1 ≤ n1 then (1 : Int) else 0) = a1 at *
    generalize (if n1 + 1 ≤ n2 then (1 : Int) else 0) = b1 at *
    generalize (if n2 + 1 ≤ n1 then (1 : Int) else 0) = a2 at *
    generalize (if n2 + 1 ≤ n2 then (1 : Int) else 0) = b2 at *
    generalize (if n3 + 1 ≤ n1 then (1 : Int) else 0) = a3 at *
    generalize (if n3 + 1 ≤ n2 then (1 : Int) else 0) = b3 at *
    generalize (if n4 + 1 ≤ n1 then (1 : Int) else 0) = a4 at *
    generalize (if n4 + 1 ≤ n2 then (1 : Int) else 0) = b4 at *
    generalize (if n5 + 1 ≤ n1 then (1 : Int) else 0) = a5 at *
    generalize (if n5 + 1 ≤ n2 then (1 : Int) else 0) = b5 at *
    generalize (if n1 = n0 then (1 : Int) else 0) = c0 at *
    generalize (if n2 = n0 then (1 : Int) else 0) = d0 at *
    generalize (if n2 = n1 then (1 : Int) else 0) = d1 at *
    omega
  · have t0 := t_le (l := n0) h
    have t1 := t_le (l := n1) h
    have t2 := t_le (l := n2) h
    have t3 := t_le1 (l := n3) (Nat.le_of_lt h)
    have t4 := t_le1 (l := n4) (Nat.le_of_lt h)
    have t5 := t_le1 (l := n5) (Nat.le_of_lt h)
    have ti : (if n2 = n2 then (1 : Int) else 0) = 1 := if_pos rfl
    have tz : (if n2 + 1 ≤ n2 then (1 : Int) else 0) = 0 := if_neg (by omega)
    rw [ti] at t2
    clear ti
    have s0 := t_01 n0 n1
    generalize (if n0 + 1 ≤ n1 then (1 : Int) else 0) = a0 at *
    generalize (if n0 + 1 ≤ n2 then (1 : Int) else 0) = b0 at *
    generalize (if n1 + 1 ≤ n1 then (1 : Int) else 0) = a1 at *
    generalize (if n1 + 1 ≤ n2 then (1 : Int) else 0) = b1 at *
    generalize (if n2 + 1 ≤ n1 then (1 : Int) else 0) = a2 at *
    generalize (if n2 + 1 ≤ n2 then (1 : Int) else 0) = b2 at *
    generalize (if n3 + 1 ≤ n1 then (1 : Int) else 0) = a3 at *
    generalize (if n3 + 1 ≤ n2 then (1 : Int) else 0) = b3 at *
    generalize (if n4 + 1 ≤ n1 then (1 : Int) else 0) = a4 at *
    generalize (if n4 + 1 ≤ n2 then (1 : Int) else 0) = b4 at *
    generalize (if n5 + 1 ≤ n1 then (1 : Int) else 0) = a5 at *
    generalize (if n5 + 1 ≤ n2 then (1 : Int) else 0) = b5 at *
    generalize (if n1 = n0 then (1 : Int) else 0) = c0 at *
    generalize (if n2 = n0 then (1 : Int) else 0) = d0 at *
    generalize (if n2 = n1 then (1 : Int) else 0) = d1 at *
    omega
theorem own_ne6_1_3 {n0 n1 n2 n3 n4 n5 : Nat} (h0 : n0 < 8) (h1 : n1 < 8) (h2 : n2 < 8) (h3 : n3 < 8) (h4 : n4 < 8) (h5 : n5 < 8) : (ps [n0, n1, n2, n3, n4, n5] 1).toNatClampNeg ≠ (ps [n0, n1, n2, n3, n4, n5] 3).toNatClampNeg := by
  obtain ⟨ei, pi⟩ := own_pi6_1 h0 h1 h2 h3 h4 h5
  obtain ⟨ej, pj⟩ := own_pi6_3 h0 h1 h2 h3 h4 h5
  have ci := own_cl ei pi
  have cj := own_cl ej pj
  clear ei ej
  rcases Nat.lt_trichotomy n1 n3 with h | h | h
  · have t0 := t_le (l := n0) h
    have t1 := t_le (l := n1) h
    have t2 := t_le1 (l := n2) (Nat.le_of_lt h)
    have t3 := t_le1 (l := n3) (Nat.le_of_lt h)
    have t4 := t_le1 (l := n4) (Nat.le_of_lt h)
    have t5 := t_le1 (l := n5) (Nat.le_of_lt h)
    have ti : (if n1 = n1 then (1 : Int) else 0) = 1 := if_pos rfl
    have tz : (if n1 + 1 ≤ n1 then (1 : Int) else 0) = 0 := if_neg (by omega)
    rw [ti] at t1
    clear ti
    have s0 := t_01 n0 n3
    have s1 := t_01 n1 n3
    have s2 := t_01 n2 n3
    generalize (if n0 + 1 ≤ n1 then (1 : Int) else 0) = a0 at *
    generalize (if n0 + 1 ≤ n3 then (1 : Int) else 0) = b0 at *
    generalize (if n1 + 1 ≤ n1 then (1 : Int) else 0) = a1 at *
    generalize (if n1 + 1 ≤ n3 then (1 : Int) else 0) = b1 at *
    generalize (if n2 + 1 ≤ n1 then (1 : Int) else 0) = a2 at *
    generalize (if n2 + 1 ≤ n3 then (1 : Int) else 0) = b2 at *
    generalize (if n3 + 1 ≤ n1 then (1 : Int) else 0) = a3 at *
    generalize (if n3 + 1 ≤ n3 then (1 : Int) else 0) = b3 at *
    generalize (if n4 + 1 ≤ n1 then (1 : Int) else 0) = a4 at *
    generalize (if n4 + 1 ≤ n3 then (1 : Int) else 0) = b4 at *
    generalize (if n5 + 1 ≤ n1 then (1 : Int) else 0) = a5 at *
    generalize (if n5 + 1 ≤ n3 then (1 : Int) else 0) = b5 at *
    generalize (if n1 = n0 then (1 : Int) else 0) = c0 at *
    generalize (if n3 = n0 then (1 : Int) else 0) = d0 at *
    generalize (if n3 = n1 then (1 : Int) else 0) = d1 at *
    generalize (if n3 = n2 then (1 : Int) else 0) = d2 at *
    omega
  · have ti : (if n3 = n1 then (1 : Int) else 0) = 1 := if_pos h.symm
    have u0 : (if n0 + 1 ≤ n1 then (1 : Int) else 0) = (if n0 + 1 ≤ n3 then (1 : Int) else 0) := by rw [h]
    have u1 : (if n1 + 1 ≤ n1 then (1 : Int) else 0) = (if n1 + 1 ≤ n3 then (1 : Int) else 0) := by rw [h]
    have u2 : (if n2 + 1 ≤ n1 then (1 : Int) else 0) = (if n2 + 1 ≤ n3 then (1 : Int) else 0) := by rw [h]
    have u3 : (if n3 + 1 ≤ n1 then (1 : Int) else 0) = (if n3 + 1 ≤ n3 then (1 : Int) else 0) := by rw [h]
    have u4 : (if n4 + 1 ≤ n1 then (1 : Int) else 0) = (if n4 + 1 ≤ n3 then (1 : Int) else 0) := by rw [h]
    have u5 : (if n5 + 1 ≤ n1 then (1 : Int) else 0) = (if n5 + 1 ≤ n3 then (1 : Int) else 0) := by rw [h]
    have w0 : (if n1 = n0 then (1 : Int) else 0) = (if n3 = n0 then (1 : Int) else 0) := by rw [h]
    have s0 := t_01 n0 n3
    have s1 := t_01 n1 n3
    have s2 := t_01 n2 n3
    generalize (if n0 + 1 ≤ n1 then (1 : Int) else 0) = a0 at *
    generalize (if n0 + 1 ≤ n3 then (1 : Int) else 0) = b0 at *
    generalize (if n1 + 1 ≤ n1 then (1 : Int) else 0) = a1 at *
    generalize (if n1 + 1 ≤ n3 then (1 : Int) else 0) = b1 at *
    generalize (if n2 + 1 ≤ n1 then (1 : Int) else 0) = a2 at *
    generalize (if n2 + 1 ≤ n3 then (1 : Int) else 0) = b2 at *
    generalize (if n3 + 1 ≤ n1 then (1 : Int) else 0) = a3 at *
    generalize (if n3 + 1 ≤ n3 then (1 : Int) else 0) = b3 at *
    generalize (if n4 + 1 ≤ n1 then (1 : Int) else 0) = a4 at *
    generalize (if n4 + 1 ≤ n3 then (1 : Int) else 0) = b4 at *
    generalize (if n5 + 1 ≤ n1 then (1 : Int) else 0) = a5 at *
    generalize (if n5 + 1 ≤ n3 then (1 : Int) else 0) = b5 at *
    generalize (if n1 = n0 then (1 : Int) else 0) = c0 at *
    generalize (if n3 = n0 then (1 : Int) else 0) = d0 at *
    generalize (if n3 = n1 then (1 : Int) else 0) = d1 at *
    generalize (if n3 = n2 then (1 : Int) else 0) = d2 at *
    omega
  · have t0 := t_le (l := n0) h
    have t1 := t_le (l := n1) h
    have t2 := t_le (l := n2) h
    have t3 := t_le (l := n3) h
    have t4 := t_le1 (l := n4) (Nat.le_of_lt h)
    have t5 := t_le1 (l := n5) (Nat.le_of_lt h)
    have ti : (if n3 = n3 then (1 : Int) else 0) = 1 := if_pos rfl
    have tz : (if n3 + 1 ≤ n3 then (1 : Int) else 0) = 0 := if_neg (by omega)
    rw [ti] at t3
    clear ti
    have s0 := t_01 n0 n1
    generalize (if n0 + 1 ≤ n1 then (1 : Int) else 0) = a0 at *
    generalize (if n0 + 1 ≤ n3 then (1 : Int) else 0) = b0 at *
    generalize (if n1 + 1 ≤ n1 then (1 : Int) else 0) = a1 at *
    generalize (if n1 + 1 ≤ n3 then (1 : Int) else 0) = b1 at *
    generalize (if n2 + 1 ≤ n1 then (1 : Int) else 0) = a2 at *
    generalize (if n2 + 1 ≤ n3 then (1 : Int) else 0) = b2 at *
    generalize (if n3 + 1 ≤ n1 then (1 : Int) else 0) = a3 at *
    generalize (if n3 + 1 ≤ n3 then (1 : Int) else 0) = b3 at *
    generalize (if n4 + 1 ≤ n1 then (1 : Int) else 0) = a4 at *
    generalize (if n4 + 1 ≤ n3 then (1 : Int) else 0) = b4 at *
    generalize (if n5 + 1 ≤ n1 then (1 : Int) else 0) = a5 at *
    generalize (if n5 + 1 ≤ n3 then (1 : Int) else 0) = b5 at *
    generalize (if n1 = n0 then (1 : Int) else 0) = c0 at *
    generalize (if n3 = n0 then (1 : Int) else 0) = d0 at *
    generalize (if n3 = n1 then (1 : Int) else 0) = d1 at *
    generalize (if n3 = n2 then (1 : Int) else 0) = d2 at *
    omega
theorem own_ne6_1_4 {n0 n1 n2 n3 n4 n5 : Nat} (h0 : n0 < 8) (h1 : n1 < 8) (h2 : n2 < 8) (h3 : n3 < 8) (h4 : n4 < 8) (h5 : n5 < 8) : (ps [n0, n1, n2, n3, n4, n5] 1).toNatClampNeg ≠ (ps [n0, n1, n2, n3, n4, n5] 4).toNatClampNeg := by
  obtain ⟨ei, pi⟩ := own_pi6_1 h0 h1 h2 h3 h4 h5
  obtain ⟨ej, pj⟩ := own_pi6_4 h0 h1 h2 h3 h4 h5
  have ci := own_cl ei pi
  have cj := own_cl ej pj
  clear ei ej
  rcases Nat.lt_trichotomy n1 n4 with h | h | h
  · have t0 := t_le (l := n0) h
    have t1 := t_le (l := n1) h
    have t2 := t_le1 (l := n2) (Nat.le_of_lt h)
    have t3 := t_le1 (l := n3) (Nat.le_of_lt h)
    have t4 := t_le1 (l := n4) (Nat.le_of_lt h)
    have t5 := t_le1 (l := n5) (Nat.le_of_lt h)
    have ti : (if n1 = n1 then (1 : Int) else 0) = 1 := if_pos rfl
    have tz : (if n1 + 1 ≤ n1 then (1 : Int) else 0) = 0 := if_neg (by omega)
    rw [ti] at t1
    clear ti
    have s0 := t_01 n0 n4
    have s1 := t_01 n1 n4
    have s2 := t_01 n2 n4
    have s3 := t_01 n3 n4
    generalize (if n0 + 1 ≤ n1 then (1 : Int) else 0) = a0 at *
    generalize (if n0 + 1 ≤ n4 then (1 : Int) else 0) = b0 at *
    generalize (if n1 + 1 ≤ n1 then (1 : Int) else 0) = a1 at *
    generalize (if n1 + 1 ≤ n4 then (1 : Int) else 0) = b1 at *
    generalize (if n2 + 1 ≤ n1 then (1 : Int) else 0) = a2 at *
    generalize (if n2 + 1 ≤ n4 then (1 : Int) else 0) = b2 at *
    generalize (if n3 + 1 ≤ n1 then (1 : Int) else 0) = a3 at *
    generalize (if n3 + 1 ≤ n4 then (1 : Int) else 0) = b3 at *
    generalize (if n4 + 1 ≤ n1 then (1 : Int) else 0) = a4 at *
    generalize (if n4 + 1 ≤ n4 then (1 : Int) else 0) = b4 at *
    generalize (if n5 + 1 ≤ n1 then (1 : Int) else 0) = a5 at *
    generalize (if n5 + 1 ≤ n4 then (1 : Int) else 0) = b5 at *
    generalize (if n1 = n0 then (1 : Int) else 0) = c0 at *
    generalize (if n4 = n0 then (1 : Int) else 0) = d0 at *
    generalize (if n4 = n1 then (1 : Int) else 0) = d1 at *
    generalize (if n4 = n2 then (1 : Int) else 0) = d2 at *
    generalize (if n4 = n3 then (1 : Int) else 0) = d3 at *
    omega
  · have ti : (if n4 = n1 then (1 : Int) else 0) = 1 := if_pos h.symm
    have u0 : (if n0 + 1 ≤ n1 then (1 : Int) else 0) = (if n0 + 1 ≤ n4 then (1 : Int) else 0) := by rw [h]
    have u1 : (if n1 + 1 ≤ n1 then (1 : Int) else 0) = (if n1 + 1 ≤ n4 then (1 : Int) else 0) := by rw [h]
    have u2 : (if n2 + 1 ≤ n1 then (1 : Int) else 0) = (if n2 + 1 ≤ n4 then (1 : Int) else 0) := by rw [h]
    have u3 : (if n3 + 1 ≤ n1 then (1 : Int) else 0) = (if n3 + 1 ≤ n4 then (1 : Int) else 0) := by rw [h]
    have u4 : (if n4 + 1 ≤ n1 then (1 : Int) else 0) = (if n4 + 1 ≤ n4 then (1 : Int) else 0) := by rw [h]
    have u5 : (if n5 + 1 ≤ n1 then (1 : Int) else 0) = (if n5 + 1 ≤ n4 then (1 : Int) else 0) := by rw [h]
    have w0 : (if n1 = n0 then (1 : Int) else 0) = (if n4 = n0 then (1 : Int) else 0) := by rw [h]
    have s0 := t_01 n0 n4
    have s1 := t_01 n1 n4
    have s2 := t_01 n2 n4
    have s3 := t_01 n3 n4
    generalize (if n0 + 1 ≤ n1 then (1 : Int) else 0) = a0 at *
    generalize (if n0 + 1 ≤ n4 then (1 : Int) else 0) = b0 at *
    generalize (if n1 + 1 ≤ n1 then (1 : Int) else 0) = a1 at *
    generalize (if n1 + 1 ≤ n4 then (1 : Int) else 0) = b1 at *
    generalize (if n2 + 1 ≤ n1 then (1 : Int) else 0) = a2 at *
    generalize (if n2 + 1 ≤ n4 then (1 : Int) else 0) = b2 at *
    generalize (if n3 + 1 ≤ n1 then (1 : Int) else 0) = a3 at *
    generalize (if n3 + 1 ≤ n4 then (1 : Int) else 0) = b3 at *
    generalize (if n4 + 1 ≤ n1 then (1 : Int) else 0) = a4 at *
    generalize (if n4 + 1 ≤ n4 then (1 : Int) else 0) = b4 at *
    generalize (if n5 + 1 ≤ n1 then (1 : Int) else 0) = a5 at *
    generalize (if n5 + 1 ≤ n4 then (1 : Int) else 0) = b5 at *
    generalize (if n1 = n0 then (1 : Int) else 0) = c0 at *
    generalize (if n4 = n0 then (1 : Int) else 0) = d0 at *
    generalize (if n4 = n1 then (1 : Int) else 0) = d1 at *
    generalize (if n4 = n2 then (1 : Int) else 0) = d2 at *
    generalize (if n4 = n3 then (1 : Int) else 0) = d3 at *
    omega
  · have t0 := t_le (l := n0) h
    have t1 := t_le (l := n1) h
    have t2 := t_le (l := n2) h
    have t3 := t_le (l := n3) h
    have t4 := t_le (l := n4) h
    have t5 := t_le1 (l := n5) (Nat.le_of_lt h)
    have ti : (if n4 = n4 then (1 : Int) else 0) = 1 := if_pos rfl
    have tz : (if n4 + 1 ≤ n4 then (1 : Int) else 0) = 0 := if_neg (by omega)
    rw [ti] at t4
    clear ti
    have s0 := t_01 n0 n1
    generalize (if n0 + 1 ≤ n1 then (1 : Int) else 0) = a0 at *
    generalize (if n0 + 1 ≤ n4 then (1 : Int) else 0) = b0 at *
    generalize (if n1 + 1 ≤ n1 then (1 : Int) else 0) = a1 at *
    generalize (if n1 + 1 ≤ n4 then (1 : Int) else 0) = b1 at *
    generalize (if n2 + 1 ≤ n1 then (1 : Int) else 0) = a2 at *
    generalize (if n2 + 1 ≤ n4 then (1 : Int) else 0) = b2 at *
    generalize (if n3 + 1 ≤ n1 then (1 : Int) else 0) = a3 at *
    generalize (if n3 + 1 ≤ n4 then (1 : Int) else 0) = b3 at *
    generalize (if n4 + 1 ≤ n1 then (1 : Int) else 0) = a4 at *
    generalize (if n4 + 1 ≤ n4 then (1 : Int) else 0) = b4 at *
    generalize (if n5 + 1 ≤ n1 then (1 : Int) else 0) = a5 at *
    generalize (if n5 + 1 ≤ n4 then (1 : Int) else 0) = b5 at *
    generalize (if n1 = n0 then (1 : Int) else 0) = c0 at *
    generalize (if n4 = n0 then (1 : Int) else 0) = d0 at *
    generalize (if n4 = n1 then (1 : Int) else 0) = d1 at *
    generalize (if n4 = n2 then (1 : Int) else 0) = d2 at *
    generalize (if n4 = n3 then (1 : Int) else 0) = d3 at *
    omega
theorem own_ne6_1_5 {n0 n1 n2 n3 n4 n5 : Nat} (h0 : n0 < 8) (h1 : n1 < 8) (h2 : n2 < 8) (h3 : n3 < 8) (h4 : n4 < 8) (h5 : n5 < 8) : (ps [n0, n1, n2, n3, n4, n5] 1).toNatClampNeg ≠ (ps [n0, n1, n2, n3, n4, n5] 5).toNatClampNeg := by
  obtain ⟨ei, pi⟩ := own_pi6_1 h0 h1 h2 h3 h4 h5
  obtain ⟨ej, pj⟩ := own_pi6_5 h0 h1 h2 h3 h4 h5
  have ci := own_cl ei pi
  have cj := own_cl ej pj
  clear ei ej
  rcases Nat.lt_trichotomy n1 n5 with h | h | h
  · have t0 := t_le (l := n0) h
    have t1 := t_le (l := n1) h
    have t2 := t_le1 (l := n2) (Nat.le_of_lt h)
    have t3 := t_le1 (l := n3) (Nat.le_of_lt h)
    have t4 := t_le1 (l := n4) (Nat.le_of_lt h)
    have t5 := t_le1 (l := n5) (Nat.le_of_lt h)
    have ti : (if n1 = n1 then (1 : Int) else 0) = 1 := if_pos rfl
    have tz : (if n1 + 1 ≤ n1 then (1 : Int) else 0) = 0 := if_neg (by omega)
    rw [ti] at t1
    clear ti
    have s0 := t_01 n0 n5
    have s1 := t_01 n1 n5
    have s2 := t_01 n2 n5
    have s3 := t_01 n3 n5
    have s4 := t_01 n4 n5
    generalize (if n0 + 1 ≤ n1 then (1 : Int) else 0) = a0 at *
    generalize (if n0 + 1 ≤ n5 then (1 : Int) else 0) = b0 at *
    generalize (if n1 + 1 ≤ n1 then (1 : Int) else 0) = a1 at *
    generalize (if n1 + 1 ≤ n5 then (1 : Int) else 0) = b1 at *
    generalize (if n2 + 1 ≤ n1 then (1 : Int) else 0) = a2 at *
    generalize (if n2 + 1 ≤ n5 then (1 : Int) else 0) = b2 at *
    generalize (if n3 + 1 ≤ n1 then (1 : Int) else 0) = a3 at *
    generalize (if n3 + 1 ≤ n5 then (1 : Int) else 0) = b3 at *
    generalize (if n4 + 1 ≤ n1 then (1 : Int) else 0) = a4 at *
    generalize (if n4 + 1 ≤ n5 then (1 : Int) else 0) = b4 at *
    generalize (if n5 + 1 ≤ n1 then (1 : Int) else 0) = a5 at *
    generalize (if n5 + 1 ≤ n5 then (1 : Int) else 0) = b5 at *
    generalize (if n1 = n0 then (1 : Int) else 0) = c0 at *
    generalize (if n5 = n0 then (1 : Int) else 0) = d0 at *
    generalize (if n5 = n1 then (1 : Int) else 0) = d1 at *
    generalize (if n5 = n2 then (1 : Int) else 0) = d2 at *
    generalize (if n5 = n3 then (1 : Int) else 0) = d3 at *
    generalize (if n5 = n4 then (1 : Int) else 0) = d4 at *
    omega
  · have ti : (if n5 = n1 then (1 : Int) else 0) = 1 := if_pos h.symm
    have u0 : (if n0 + 1 ≤ n1 then (1 : Int) else 0) = (if n0 + 1 ≤ n5 then (1 : Int) else 0) := by rw [h]
    have u1 : (if n1 + 1 ≤ n1 then (1 : Int) else 0) = (if n1 + 1 ≤ n5 then (1 : Int) else 0) := by rw [h]
    have u2 : (if n2 + 1 ≤ n1 then (1 : Int) else 0) = (if n2 + 1 ≤ n5 then (1 : Int) else 0) := by rw [h]
    have u3 : (if n3 + 1 ≤ n1 then (1 : Int) else 0) = (if n3 + 1 ≤ n5 then (1 : Int) else 0) := by rw [h]
    have u4 : (if n4 + 1 ≤ n1 then (1 : Int) else 0) = (if n4 + 1 ≤ n5 then (1 : Int) else 0) := by rw [h]
    have u5 : (if n5 + 1 ≤ n1 then (1 : Int) else 0) = (if n5 + 1 ≤ n5 then (1 : Int) else 0) := by rw [h]
    have w0 : (if n1 = n0 then (1 : Int) else 0) = (if n5 = n0 then (1 : Int) else 0) := by rw [h]
    have s0 := t_01 n0 n5
    have s1 := t_01 n1 n5
    have s2 := t_01 n2 n5
    have s3 := t_01 n3 n5
    have s4 := t_01 n4 n5
    generalize (if n0 + 1 ≤ n1 then (1 : Int) else 0) = a0 at *
    generalize (if n0 + 1 ≤ n5 then (1 : Int) else 0) = b0 at *
    generalize (if n1 + 1 ≤ n1 then (1 : Int) else 0) = a1 at *
    generalize (if n1 + 1 ≤ n5 then (1 : Int) else 0) = b1 at *
    generalize (if n2 + 1 ≤ n1 then (1 : Int) else 0) = a2 at *
    generalize (if n2 + 1 ≤ n5 then (1 : Int) else 0) = b2 at *
    generalize (if n3 + 1 ≤ n1 then (1 : Int) else 0) = a3 at *
    generalize (if n3 + 1 ≤ n5 then (1 : Int) else 0) = b3 at *
    generalize (if n4 + 1 ≤ n1 then (1 : Int) else 0) = a4 at *
    generalize (if n4 + 1 ≤ n5 then (1 : Int) else 0) = b4 at *
    generalize (if n5 + 1 ≤ n1 then (1 : Int) else 0) = a5 at *
    generalize (if n5 + 1 ≤ n5 then (1 : Int) else 0) = b5 at *
    generalize (if n1 = n0 then (1 : Int) else 0) = c0 at *
    generalize (if n5 = n0 then (1 : Int) else 0) = d0 at *
    generalize (if n5 = n1 then (1 : Int) else 0) = d1 at *
    generalize (if n5 = n2 then (1 : Int) else 0) = d2 at *
    generalize (if n5 = n3 then (1 : Int) else 0) = d3 at *
    generalize (if n5 = n4 then (1 : Int) else 0) = d4 at *
    omega
  · have t0 := t_le (l := n0) h
    have t1 := t_le (l := n1) h
    have t2 := t_le (l := n2) h
    have t3 := t_le (l := n3) h
    have t4 := t_le (l := n4) h
    have t5 := t_le (l := n5) h
    have ti : (if n5 = n5 then (1 : Int) else 0) = 1 := if_pos rfl
    have tz : (if n5 + 1 ≤ n5 then (1 : Int) else 0) = 0 := if_neg (by omega)
    rw [ti] at t5
    clear ti
    have s0 := t_01 n0 n1
    generalize (if n0 + 1 ≤ n1 then (1 : Int) else 0) = a0 at *
    generalize (if n0 + 1 ≤ n5 then (1 : Int) else 0) = b0 at *
    generalize (if n1 + 1 ≤ n1 then (1 : Int) else 0) = a1 at *
    generalize (if n1 + 1 ≤ n5 then (1 : Int) else 0) = b1 at *
    generalize (if n2 + 1 ≤ n1 then (1 : Int) else 0) = a2 at *
    generalize (if n2 + 1 ≤ n5 then (1 : Int) else 0) = b2 at *
    generalize (if n3 + 1 ≤ n1 then (1 : Int) else 0) = a3 at *
    generalize (if n3 + 1 ≤ n5 then (1 : Int) else 0) = b3 at *
    generalize (if n4 + 1 ≤ n1 then (1 : Int) else 0) = a4 at *
    generalize (if n4 + 1 ≤ n5 then (1 : Int) else 0) = b4 at *
    generalize (if n5 + 1 ≤ n1 then (1 : Int) else 0) = a5 at *
    generalize (if n5 + 1 ≤ n5 then (1 : Int) else 0) = b5 at *
    generalize (if n1 = n0 then (1 : Int) else 0) = c0 at *
    generalize (if n5 = n0 then (1 : Int) else 0) = d0 at *
    generalize (if n5 = n1 then (1 : Int) else 0) = d1 at *
    generalize (if n5 = n2 then (1 : Int) else 0) = d2 at *
    generalize (if n5 = n3 then (1 : Int) else 0) = d3 at *
    generalize (if n5 = n4 then (1 : Int) else 0) = d4 at *
    omega
theorem own_ne6_2_3 {n0 n1 n2 n3 n4 n5 : Nat} (h0 : n0 < 8) (h1 : n1 < 8) (h2 : n2 < 8) (h3 : n3 < 8) (h4 : n4 < 8) (h5 : n5 < 8) : (ps [n0, n1, n2, n3, n4, n5] 2).toNatClampNeg ≠ (ps [n0, n1, n2, n3, n4, n5] 3).toNatClampNeg := by
  obtain ⟨ei, pi⟩ := own_pi6_2 h0 h1 h2 h3 h4 h5
  obtain ⟨ej, pj⟩ := own_pi6_3 h0 h1 h2 h3 h4 h5
  have ci := own_cl ei pi
  have cj := own_cl ej pj
  clear ei ej
  rcases Nat.lt_trichotomy n2 n3 with h | h | h
  · have t0 := t_le (l := n0) h
    have t1 := t_le (l := n1) h
    have t2 := t_le (l := n2) h
    have t3 := t_le1 (l := n3) (Nat.le_of_lt h)
    have t4 := t_le1 (l := n4) (Nat.le_of_lt h)
    have t5 := t_le1 (l := n5) (Nat.le_of_lt h)
    have ti : (if n2 = n2 then (1 : Int) else 0) = 1 := if_pos rfl
    have tz : (if n2 + 1 ≤ n2 then (1 : Int) else 0) = 0 := if_neg (by omega)
    rw [ti] at t2
    clear ti
    have s0 := t_01 n0 n3
    have s1 := t_01 n1 n3
    have s2 := t_01 n2 n3
    generalize (if n0 + 1 ≤ n2 then (1 : Int) else 0) = a0 at *
    generalize (if n0 + 1 ≤ n3 then (1 : Int) else 0) = b0 at *
    generalize (if n1 + 1 ≤ n2 then (1 : Int) else 0) = a1 at *
    generalize (if n1 + 1 ≤ n3 then (1 : Int) else 0) = b1 at *
    generalize (if n2 + 1 ≤ n2 then (1 : Int) else 0) = a2 at *
    generalize (if n2 + 1 ≤ n3 then (1 : Int) else 0) = b2 at *
    generalize (if n3 + 1 ≤ n2 then (1 : Int) else 0) = a3 at *
    generalize (if n3 + 1 ≤ n3 then (1 : Int) else 0) = b3 at *
    generalize (if n4 + 1 ≤ n2 then (1 : Int) else 0) = a4 at *
    generalize (if n4 + 1 ≤ n3 then (1 : Int) else 0) = b4 at *
    generalize (if n5 + 1 ≤ n2 then (1 : Int) else 0) = a5 at *
    generalize (if n5 + 1 ≤ n3 then (1 : Int) else 0) = b5 at *
    generalize (if n2 = n0 then (1 : Int) else 0) = c0 at *
    generalize (if n2 = n1 then (1 : Int) else 0) = c1 at *
    generalize (if n3 = n0 then (1 : Int) else 0) = d0 at *
    generalize (if n3 = n1 then (1 : Int) else 0) = d1 at *
    generalize (if n3 = n2 then (1 : Int) else 0) = d2 at *
    omega
  · have ti : (if n3 = n2 then (1 : Int) else 0) = 1 := if_pos h.symm
    have u0 : (if n0 + 1 ≤ n2 then (1 : Int) else 0) = (if n0 + 1 ≤ n3 then (1 : Int) else 0) := by rw [h]
    have u1 : (if n1 + 1 ≤ n2 then (1 : Int) else 0) = (if n1 + 1 ≤ n3 then (1 : Int) else 0) := by rw [h]
    have u2 : (if n2 + 1 ≤ n2 then (1 : Int) else 0) = (if n2 + 1 ≤ n3 then (1 : Int) else 0) := by rw [h]
    have u3 : (if n3 + 1 ≤ n2 then (1 : Int) else 0) = (if n3 + 1 ≤ n3 then (1 : Int) else 0) := by rw [h]
    have u4 : (if n4 + 1 ≤ n2 then (1 : Int) else 0) = (if n4 + 1 ≤ n3 then (1 : Int) else 0) := by rw [h]
    have u5 : (if n5 + 1 ≤ n2 then (1 : Int) else 0) = (if n5 + 1 ≤ n3 then (1 : Int) else 0) := by rw [h]
    have w0 : (if n2 = n0 then (1 : Int) else 0) = (if n3 = n0 then (1 : Int) else 0) := by rw [h]
    have w1 : (if n2 = n1 then (1 : Int) else 0) = (if n3 = n1 then (1 : Int) else 0) := by rw [h]
    have s0 := t_01 n0 n3
    have s1 := t_01 n1 n3
    have s2 := t_01 n2 n3
    generalize (if n0 + 1 ≤ n2 then (1 : Int) else 0) = a0 at *
    generalize (if n0 + 1 ≤ n3 then (1 : Int) else 0) = b0 at *
    generalize (if n1 + 1 ≤ n2 then (1 : Int) else 0) = a1 at *
    generalize (if n1 + 1 ≤ n3 then (1 : Int) else 0) = b1 at *
    generalize (if n2 + 1 ≤ n2 then (1 : Int) else 0) = a2 at *
    generalize (if n2 + 1 ≤ n3 then (1 : Int) else 0) = b2 at *
    generalize (if n3 + 1 ≤ n2 then (1 : Int) else 0) = a3 at *
    generalize (if n3 + 1 ≤ n3 then (1 : Int) else 0) = b3 at *
    generalize (if n4 + 1 ≤ n2 then (1 : Int) else 0) = a4 at *
    generalize (if n4 + 1 ≤ n3 then (1 : Int) else 0) = b4 at *
    generalize (if n5 + 1 ≤ n2 then (1 : Int) else 0) = a5 at *
    generalize (if n5 + 1 ≤ n3 then (1 : Int) else 0) = b5 at *
    generalize (if n2 = n0 then (1 : Int) else 0) = c0 at *
    generalize (if n2 = n1 then (1 : Int) else 0) = c1 at *
    generalize (if n3 = n0 then (1 : Int) else 0) = d0 at *
    generalize (if n3 = n1 then (1 : Int) else 0) = d1 at *
    generalize (if n3 = n2 then (1 : Int) else 0) = d2 at *
    omega
  · have t0 := t_le (l := n0) h
    have t1 := t_le (l := n1) h
    have t2 := t_le (l := n2) h
    have t3 := t_le (l := n3) h
    have t4 := t_le1 (l := n4) (Nat.le_of_lt h)
    have t5 := t_le1 (l := n5) (Nat.le_of_lt h)
    have ti : (if n3 = n3 then (1 : Int) else 0) = 1 := if_pos rfl
    have tz : (if n3 + 1 ≤ n3 then (1 : Int) else 0) = 0 := if_neg (by omega)
    rw [ti] at t3
    clear ti
    have s0 := t_01 n0 n2
    have s1 := t_01 n1 n2
    generalize (if n0 + 1 ≤ n2 then (1 : Int) else 0) = a0 at *
    generalize (if n0 + 1 ≤ n3 then (1 : Int) else 0) = b0 at *
    generalize (if n1 + 1 ≤ n2 then (1 : Int) else 0) = a1 at *
    generalize (if n1 + 1 ≤ n3 then (1 : Int) else 0) = b1 at *
    generalize (if n2 + 1 ≤ n2 then (1 : Int) else 0) = a2 at *
    generalize (if n2 + 1 ≤ n3 then (1 : Int) else 0) = b2 at *
    generalize (if n3 + 1 ≤ n2 then (1 : Int) else 0) = a3 at *
    generalize (if n3 + 1 ≤ n3 then (1 : Int) else 0) = b3 at *
    generalize (if n4 + 1 ≤ n2 then (1 : Int) else 0) = a4 at *
    generalize (if n4 + 1 ≤ n3 then (1 : Int) else 0) = b4 at *
    generalize (if n5 + 1 ≤ n2 then (1 : Int) else 0) = a5 at *
    generalize (if n5 + 1 ≤ n3 then (1 : Int) else 0) = b5 at *
    generalize (if n2 = n0 then (1 : Int) else 0) = c0 at *
    generalize (if n2 = n1 then (1 : Int) else 0) = c1 at *
    generalize (if n3 = n0 then (1 : Int) else 0) = d0 at *
    generalize (if n3 = n1 then (1 : Int) else 0) = d1 at *
    generalize (if n3 = n2 then (1 : Int) else 0) = d2 at *
    omega
theorem own_ne6_2_4 {n0 n1 n2 n3 n4 n5 : Nat} (h0 : n0 < 8) (h1 : n1 < 8) (h2 : n2 < 8) (h3 : n3 < 8) (h4 : n4 < 8) (h5 : n5 < 8) : (ps [n0, n1, n2, n3, n4, n5] 2).toNatClampNeg ≠ (ps [n0, n1, n2, n3, n4, n5] 4).toNatClampNeg := by
  obtain ⟨ei, pi⟩ := own_pi6_2 h0 h1 h2 h3 h4 h5
  obtain ⟨ej, pj⟩ := own_pi6_4 h0 h1 h2 h3 h4 h5
  have ci := own_cl ei pi
  have cj := own_cl ej pj
  clear ei ej
  rcases Nat.lt_trichotomy n2 n4 with h | h | h
  · have t0 := t_le (l := n0) h
    have t1 := t_le (l := n1) h
    have t2 := t_le (l := n2) h
    have t3 := t_le1 (l := n3) (Nat.le_of_lt h)
    have t4 := t_le1 (l := n4) (Nat.le_of_lt h)
    have t5 := t_le1 (l := n5) (Nat.le_of_lt h)
    have ti : (if n2 = n2 then (1 : Int) else 0) = 1 := if_pos rfl
    have tz : (if n2 + 1 ≤ n2 then (1 : Int) else 0) = 0 := if_neg (by omega)
    rw [ti] at t2
    clear ti
    have s0 := t_01 n0 n4
    have s1 := t_01 n1 n4
    have s2 := t_01 n2 n4
    have s3 := t_01 n3 n4
    generalize (if n0 + 1 ≤ n2 then (1 : Int) else 0) = a0 at *
    generalize (if n0 + 1 ≤ n4 then (1 : Int) else 0) = b0 at *
    generalize (if n1 + 1 ≤ n2 then (1 : Int) else 0) = a1 at *
    generalize (if n1 + 1 ≤ n4 then (1 : Int) else 0) = b1 at *
    generalize (if n2 + 1 ≤ n2 then (1 : Int) else 0) = a2 at *
    generalize (if n2 + 1 ≤ n4 then (1 : Int) else 0) = b2 at *
    generalize (if n3 + 1 ≤ n2 then (1 : Int) else 0) = a3 at *
    generalize (if n3 + 1 ≤ n4 then (1 : Int) else 0) = b3 at *
    generalize (if n4 + 1 ≤ n2 then (1 : Int) else 0) = a4 at *
    generalize (if n4 + 1 ≤ n4 then (1 : Int) else 0) = b4 at *
    generalize (if n5 + 1 ≤ n2 then (1 : Int) else 0) = a5 at *
    generalize (if n5 + 1 ≤ n4 then (1 : Int) else 0) = b5 at *
    generalize (if n2 = n0 then (1 : Int) else 0) = c0 at *
    generalize (if n2 = n1 then (1 : Int) else 0) = c1 at *
    generalize (if n4 = n0 then (1 : Int) else 0) = d0 at *
    generalize (if n4 = n1 then (1 : Int) else 0) = d1 at *
    generalize (if n4 = n2 then (1 : Int) else 0) = d2 at *
    generalize (if n4 = n3 then (1 : Int) else 0) = d3 at *
    omega
  · have ti : (if n4 = n2 then (1 : Int) else 0) = 1 := if_pos h.symm
    have u0 : (if n0 + 1 ≤ n2 then (1 : Int) else 0) = (if n0 + 1 ≤ n4 then (1 : Int) else 0) := by rw [h]
    have u1 : (if n1 + 1 ≤ n2 then (1 : Int) else 0) = (if n1 + 1 ≤ n4 then (1 : Int) else 0) := by rw [h]
    have u2 : (if n2 + 1 ≤ n2 then (1 : Int) else 0) = (if n2 + 1 ≤ n4 then (1 : Int) else 0) := by rw [h]
    have u3 : (if n3 + 1 ≤ n2 then (1 : Int) else 0) = (if n3 + 1 ≤ n4 then (1 : Int) else 0) := by rw [h]
    have u4 : (if n4 + 1 ≤ n2 then (1 : Int) else 0) = (if n4 + 1 ≤ n4 then (1 : Int) else 0) := by rw [h]
    have u5 : (if n5 + 1 ≤ n2 then (1 : Int) else 0) = (if n5 + 1 ≤ n4 then (1 : Int) else 0) := by rw [h]
    have w0 : (if n2 = n0 then (1 : Int) else 0) = (if n4 = n0 then (1 : Int) else 0) := by rw [h]
    have w1 : (if n2 = n1 then (1 : Int) else 0) = (if n4 = n1 then (1 : Int) else 0) := by rw [h]
    have s0 := t_01 n0 n4
    have s1 := t_01 n1 n4
    have s2 := t_01 n2 n4
    have s3 := t_01 n3 n4
    generalize (if n0 + 1 ≤ n2 then (1 : Int) else 0) = a0 at *
    generalize (if n0 + 1 ≤ n4 then (1 : Int) else 0) = b0 at *
    generalize (if n1 + 1 ≤ n2 then (1 : Int) else 0) = a1 at *
    generalize (if n1 + 1 ≤ n4 then (1 : Int) else 0) = b1 at *
    generalize (if n2 + 1 ≤ n2 then (1 : Int) else 0) = a2 at *
    generalize (if n2 + 1 ≤ n4 then (1 : Int) else 0) = b2 at *
    generalize (if n3 + 1 ≤ n2 then (1 : Int) else 0) = a3 at *
    generalize (if n3 + 1 ≤ n4 then (1 : Int) else 0) = b3 at *
    generalize (if n4 + 1 ≤ n2 then (1 : Int) else 0) = a4 at *
    generalize (if n4 + 1 ≤ n4 then (1 : Int) else 0) = b4 at *
    generalize (if n5 + 1 ≤ n2 then (1 : Int) else 0) = a5 at *
    generalize (if n5 + 1 ≤ n4 then (1 : Int) else 0) = b5 at *
    generalize (if n2 = n0 then (1 : Int) else 0) = c0 at *
    generalize (if n2 = n1 then (1 : Int) else 0) = c1 at *
    generalize (if n4 = n0 then (1 : Int) else 0) = d0 at *
    generalize (if n4 = n1 then (1 : Int) else 0) = d1 at *
    generalize (if n4 = n2 then (1 : Int) else 0) = d2 at *
    generalize (if n4 = n3 then (1 : Int) else 0) = d3 at *
    omega
  · have t0 := t_le (l := n0) h
    have t1 := t_le (l := n1) h
    have t2 := t_le (l := n2) h
    have t3 := t_le (l := n3) h
    have t4 := t_le (l := n4) h
    have t5 := t_le1 (l := n5) (Nat.le_of_lt h)
    have ti : (if n4 = n4 then (1 : Int) else 0) = 1 := if_pos rfl
    have tz : (if n4 + 1 ≤ n4 then (1 : Int) else 0) = 0 := if_neg (by omega)
    rw [ti] at t4
    clear ti
    have s0 := t_01 n0 n2
    have s1 := t_01 n1 n2
    generalize (if n0 + 1 ≤ n2 then (1 : Int) else 0) = a0 at *
    generalize (if n0 + 1 ≤ n4 then (1 : Int) else 0) = b0 at *
    generalize (if n1 + 1 ≤ n2 then (1 : Int) else 0) = a1 at *
    generalize (if n1 + 1 ≤ n4 then (1 : Int) else 0) = b1 at *
    generalize (if n2 + 1 ≤ n2 then (1 : Int) else 0) = a2 at *
    generalize (if n2 + 1 ≤ n4 then (1 : Int) else 0) = b2 at *
    generalize (if n3 + 1 ≤ n2 then (1 : Int) else 0) = a3 at *
    generalize (if n3 + 1 ≤ n4 then (1 : Int) else 0) = b3 at *
    generalize (if n4 + 1 ≤ n2 then (1 : Int) else 0) = a4 at *
    generalize (if n4 + 1 ≤ n4 then (1 : Int) else 0) = b4 at *
    generalize (if n5 + 1 ≤ n2 then (1 : Int) else 0) = a5 at *
    generalize (if n5 + 1 ≤ n4 then (1 : Int) else 0) = b5 at *
    generalize (if n2 = n0 then (1 : Int) else 0) = c0 at *
    generalize (if n2 = n1 then (1 : Int) else 0) = c1 at *
    generalize (if n4 = n0 then (1 : Int) else 0) = d0 at *
    generalize (if n4 = n1 then (1 : Int) else 0) = d1 at *
    generalize (if n4 = n2 then (1 : Int) else 0) = d2 at *
    generalize (if n4 = n3 then (1 : Int) else 0) = d3 at *
    omega
theorem own_ne6_2_5 {n0 n1 n2 n3 n4 n5 : Nat} (h0 : n0 < 8) (h1 : n1 < 8) (h2 : n2 < 8) (h3 : n3 < 8) (h4 : n4 < 8) (h5 : n5 < 8) : (ps [n0, n1, n2, n3, n4, n5] 2).toNatClampNeg ≠ (ps [n0, n1, n2, n3, n4, n5] 5).toNatClampNeg := by
  obtain ⟨ei, pi⟩ := own_pi6_2 h0 h1 h2 h3 h4 h5
  obtain ⟨ej, pj⟩ := own_pi6_5 h0 h1 h2 h3 h4 h5
  have ci := own_cl ei pi
  have cj := own_cl ej pj
  clear ei ej
  rcases Nat.lt_trichotomy n2 n5 with h | h | h
  · have t0 := t_le (l := n0) h
    have t1 := t_le (l := n1) h
    have t2 := t_le (l := n2) h
    have t3 := t_le1 (l := n3) (Nat.le_of_lt h)
    have t4 := t_le1 (l := n4) (Nat.le_of_lt h)
    have t5 := t_le1 (l := n5) (Nat.le_of_lt h)
    have ti : (if n2 = n2 then (1 : Int) else 0) = 1 := if_pos rfl
    have tz : (if n2 + 1 ≤ n2 then (1 : Int) else 0) = 0 := if_neg (by omega)
    rw [ti] at t2
    clear ti
    have s0 := t_01 n0 n5
    have s1 := t_01 n1 n5
    have s2 := t_01 n2 n5
    have s3 := t_01 n3 n5
    have s4 := t_01 n4 n5
    generalize (if n0 + 1 ≤ n2 then (1 : Int) else 0) = a0 at *
    generalize (if n0 + 1 ≤ n5 then (1 : Int) else 0) = b0 at *
    generalize (if n1 + 1 ≤ n2 then (1 : Int) else 0) = a1 at *
    generalize (if n1 + 1 ≤ n5 then (1 : Int) else 0) = b1 at *
    generalize (if n2 + 1 ≤ n2 then (1 : Int) else 0) = a2 at *
    generalize (if n2 + 1 ≤ n5 then (1 : Int) else 0) = b2 at *
    generalize (if n3 + 1 ≤ n2 then (1 : Int) else 0) = a3 at *
    generalize (if n3 + 1 ≤ n5 then (1 : Int) else 0) = b3 at *
    generalize (if n4 + 1 ≤ n2 then (1 : Int) else 0) = a4 at *
    generalize (if n4 + 1 ≤ n5 then (1 : Int) else 0) = b4 at *
    generalize (if n5 + 1 ≤ n2 then (1 : Int) else 0) = a5 at *
    generalize (if n5 + 1 ≤ n5 then (1 : Int) else 0) = b5 at *
    generalize (if n2 = n0 then (1 : Int) else 0) = c0 at *
    generalize (if n2 = n1 then (1 : Int) else 0) = c1 at *
    generalize (if n5 = n0 then (1 : Int) else 0) = d0 at *
    generalize (if n5 = n1 then (1 : Int) else 0) = d1 at *
    generalize (if n5 = n2 then (1 : Int) else 0) = d2 at *
    generalize (if n5 = n3 then (1 : Int) else 0) = d3 at *
    generalize (if n5 = n4 then (1 : Int) else 0) = d4 at *
    omega
  · have ti : (if n5 = n2 then (1 : Int) else 0) = 1 := if_pos h.symm
    have u0 : (if n0 + 1 ≤ n2 then (1 : Int) else 0) = (if n0 + 1 ≤ n5 then (1 : Int) else 0) := by rw [h]
    have u1 : (if n1 + 1 ≤ n2 then (1 : Int) else 0) = (if n1 + 1 ≤ n5 then (1 : Int) else 0) := by rw [h]
    have u2 : (if n2 + 1 ≤ n2 then (1 : Int) else 0) = (if n2 + 1 ≤ n5 then (1 : Int) else 0) := by rw [h]
    have u3 : (if n3 + 1 ≤ n2 then (1 : Int) else 0) = (if n3 + 1 ≤ n5 then (1 : Int) else 0) := by rw [h]
    have u4 : (if n4 + 1 ≤ n2 then (1 : Int) else 0) = (if n4 + 1 ≤ n5 then (1 : Int) else 0) := by rw [h]
    have u5 : (if n5 + 1 ≤ n2 then (1 : Int) else 0) = (if n5 + 1 ≤ n5 then (1 : Int) else 0) := by rw [h]
    have w0 : (if n2 = n0 then (1 : Int) else 0) = (if n5 = n0 then (1 : Int) else 0) := by rw [h]
    have w1 : (if n2 = n1 then (1 : Int) else 0) = (if n5 = n1 then (1 : Int) else 0) := by rw [h]
    have s0 := t_01 n0 n5
    have s1 := t_01 n1 n5
    have s2 := t_01 n2 n5
    have s3 := t_01 n3 n5
    have s4 := t_01 n4 n5
    generalize (if n0 + 1 ≤ n2 then (1 : Int) else 0) = a0 at *
    generalize (if n0 + 1 ≤ n5 then (1 : Int) else 0) = b0 at *
    generalize (if n1 + 1 ≤ n2 then (1 : Int) else 0) = a1 at *
    generalize (if n1 + 1 ≤ n5 then (1 : Int) else 0) = b1 at *
    generalize (if n2 + 1 ≤ n2 then (1 : Int) else 0) = a2 at *
    generalize (if n2 + 1 ≤ n5 then (1 : Int) else 0) = b2 at *
    generalize (if n3 + 1 ≤ n2 then (1 : Int) else 0) = a3 at *
    generalize (if n3 + 1 ≤ n5 then (1 : Int) else 0) = b3 at *
    generalize (if n4 + 1 ≤ n2 then (1 : Int) else 0) = a4 at *
    generalize (if n4 + 1 ≤ n5 then (1 : Int) else 0) = b4 at *
    generalize (if n5 + 1 ≤ n2 then (1 : Int) else 0) = a5 at *
    generalize (if n5 + 1 ≤ n5 then (1 : Int) else 0) = b5 at *
    generalize (if n2 = n0 then (1 : Int) else 0) = c0 at *
    generalize (if n2 = n1 then (1 : Int) else 0) = c1 at *
    generalize (if n5 = n0 then (1 : Int) else 0) = d0 at *
    generalize (if n5 = n1 then (1 : Int) else 0) = d1 at *
    generalize (if n5 = n2 then (1 : Int) else 0) = d2 at *
    generalize (if n5 = n3 then (1 : Int) else 0) = d3 at *
    generalize (if n5 = n4 then (1 : Int) else 0) = d4 at *
    omega
  · have t0 := t_le (l := n0) h
    have t1 := t_le (l := n1) h
    have t2 := t_le (l := n2) h
    have t3 := t_le (l := n3) h
    have t4 := t_le (l := n4) h
    have t5 := t_le (l := n5) h
    have ti : (if n5 = n5 then (1 : Int) else 0) = 1 := if_pos rfl
    have tz : (if n5 + 1 ≤ n5 then (1 : Int) else 0) = 0 := if_neg (by omega)
    rw [ti] at t5
    clear ti
    have s0 := t_01 n0 n2
    have s1 := t_01 n1 n2
    generalize (if n0 + 1 ≤ n2 then (1 : Int) else 0) = a0 at *
    generalize (if n0 + 1 ≤ n5 then (1 : Int) else 0) = b0 at *
    generalize (if n1 + 1 ≤ n2 then (1 : Int) else 0) = a1 at *
    generalize (if n1 + 1 ≤ n5 then (1 : Int) else 0) = b1 at *
    generalize (if n2 + 1 ≤ n2 then (1 : Int) else 0) = a2 at *
    generalize (if n2 + 1 ≤ n5 then (1 : Int) else 0) = b2 at *
    generalize (if n3 + 1 ≤ n2 then (1 : Int) else 0) = a3 at *
    generalize (if n3 + 1 ≤ n5 then (1 : Int) else 0) = b3 at *
    generalize (if n4 + 1 ≤ n2 then (1 : Int) else 0) = a4 at *
    generalize (if n4 + 1 ≤ n5 then (1 : Int) else 0) = b4 at *
    generalize (if n5 + 1 ≤ n2 then (1 : Int) else 0) = a5 at *
    generalize (if n5 + 1 ≤ n5 then (1 : Int) else 0) = b5 at *
    generalize (if n2 = n0 then (1 : Int) else 0) = c0 at *
    generalize (if n2 = n1 then (1 : Int) else 0) = c1 at *
    generalize (if n5 = n0 then (1 : Int) else 0) = d0 at *
    generalize (if n5 = n1 then (1 : Int) else 0) = d1 at *
    generalize (if n5 = n2 then (1 : Int) else 0) = d2 at *
    generalize (if n5 = n3 then (1 : Int) else 0) = d3 at *
    generalize (if n5 = n4 then (1 : Int) else 0) = d4 at *
    omega
theorem own_ne6_3_4 {n0 n1 n2 n3 n4 n5 : Nat} (h0 : n0 < 8) (h1 : n1 < 8) (h2 : n2 < 8) (h3 : n3 < 8) (h4 : n4 < 8) (h5 : n5 < 8) : (ps [n0, n1, n2, n3, n4, n5] 3).toNatClampNeg ≠ (ps [n0, n1, n2, n3, n4, n5] 4).toNatClampNeg := by
  obtain ⟨ei, pi⟩ := own_pi6_3 h0 h1 h2 h3 h4 h5
  obtain ⟨ej, pj⟩ := own_pi6_4 h0 h1 h2 h3 h4 h5
  have ci := own_cl ei pi
  have cj := own_cl ej pj
  clear ei ej
  rcases Nat.lt_trichotomy n3 n4 with h | h | h
  · have t0 := t_le (l := n0) h
    have t1 := t_le (l := n1) h
    have t2 := t_le (l := n2) h
    have t3 := t_le (l := n3) h
    have t4 := t_le1 (l := n4) (Nat.le_of_lt h)
    have t5 := t_le1 (l := n5) (Nat.le_of_lt h)
    have ti : (if n3 = n3 then (1 : Int) else 0) = 1 := if_pos rfl
    have tz : (if n3 + 1 ≤ n3 then (1 : Int) else 0) = 0 := if_neg (by omega)
    rw [ti] at t3
    clear ti
    have s0 := t_01 n0 n4
    have s1 := t_01 n1 n4
    have s2 := t_01 n2 n4
    have s3 := t_01 n3 n4
    generalize (if n0 + 1 ≤ n3 then (1 : Int) else 0) = a0 at *
    generalize (if n0 + 1 ≤ n4 then (1 : Int) else 0) = b0 at *
    generalize (if n1 + 1 ≤ n3 then (1 : Int) else 0) = a1 at *
    generalize (if n1 + 1 ≤ n4 then (1 : Int) else 0) = b1 at *
    generalize (if n2 + 1 ≤ n3 then (1 : Int) else 0) = a2 at *
    generalize (if n2 + 1 ≤ n4 then (1 : Int) else 0) = b2 at *
    generalize (if n3 + 1 ≤ n3 then (1 : Int) else 0) = a3 at *
    generalize (if n3 + 1 ≤ n4 then (1 : Int) else 0) = b3 at *
    generalize (if n4 + 1 ≤ n3 then (1 : Int) else 0) = a4 at *
    generalize (if n4 + 1 ≤ n4 then (1 : Int) else 0) = b4 at *
    generalize (if n5 + 1 ≤ n3 then (1 : Int) else 0) = a5 at *
    generalize (if n5 + 1 ≤ n4 then (1 : Int) else 0) = b5 at *
    generalize (if n3 = n0 then (1 : Int) else 0) = c0 at *
    generalize (if n3 = n1 then (1 : Int) else 0) = c1 at *
    generalize (if n3 = n2 then (1 : Int) else 0) = c2 at *
    generalize (if n4 = n0 then (1 : Int) else 0) = d0 at *
    generalize (if n4 = n1 then (1 : Int) else 0) = d1 at *
    generalize (if n4 = n2 then (1 : Int) else 0) = d2 at *
    generalize (if n4 = n3 then (1 : Int) else 0) = d3 at *
    omega
  · have ti : (if n4 = n3 then (1 : Int) else 0) = 1 := if_pos h.symm
    have u0 : (if n0 + 1 ≤ n3 then (1 : Int) else 0) = (if n0 + 1 ≤ n4 then (1 : Int) else 0) := by rw [h]
    have u1 : (if n1 + 1 ≤ n3 then (1 : Int) else 0) = (if n1 + 1 ≤ n4 then (1 : Int) else 0) := by rw [h]
    have u2 : (if n2 + 1 ≤ n3 then (1 : Int) else 0) = (if n2 + 1 ≤ n4 then (1 : Int) else 0) := by rw [h]
    have u3 : (if n3 + 1 ≤ n3 then (1 : Int) else 0) = (if n3 + 1 ≤ n4 then (1 : Int) else 0) := by rw [h]
    have u4 : (if n4 + 1 ≤ n3 then (1 : Int) else 0) = (if n4 + 1 ≤ n4 then (1 : Int) else 0) := by rw [h]
    have u5 : (if n5 + 1 ≤ n3 then (1 : Int) else 0) = (if n5 + 1 ≤ n4 then (1 : Int) else 0) := by rw [h]
    have w0 : (if n3 = n0 then (1 : Int) else 0) = (if n4 = n0 then (1 : Int) else 0) := by rw [h]
    have w1 : (if n3 = n1 then (1 : Int) else 0) = (if n4 = n1 then (1 : Int) else 0) := by rw [h]
    have w2 : (if n3 = n2 then (1 : Int) else 0) = (if n4 = n2 then (1 : Int) else 0) := by rw [h]
    have s0 := t_01 n0 n4
    have s1 := t_01 n1 n4
    have s2 := t_01 n2 n4
    have s3 := t_01 n3 n4
    generalize (if n0 + 1 ≤ n3 then (1 : Int) else 0) = a0 at *
    generalize (if n0 + 1 ≤ n4 then (1 : Int) else 0) = b0 at *
    generalize (if n1 + 1 ≤ n3 then (1 : Int) else 0) = a1 at *
    generalize (if n1 + 1 ≤ n4 then (1 : Int) else 0) = b1 at *
    generalize (if n2 + 1 ≤ n3 then (1 : Int) else 0) = a2 at *
    generalize (if n2 + 1 ≤ n4 then (1 : Int) else 0) = b2 at *
    generalize (if n3 + 1 ≤ n3 then (1 : Int) else 0) = a3 at *
    generalize (if n3 + 1 ≤ n4 then (1 : Int) else 0) = b3 at *
    generalize (if n4 + 1 ≤ n3 then (1 : Int) else 0) = a4 at *
    generalize (if n4 + 1 ≤ n4 then (1 : Int) else 0) = b4 at *
    generalize (if n5 + 1 ≤ n3 then (1 : Int) else 0) = a5 at *
    generalize (if n5 + 1 ≤ n4 then (1 : Int) else 0) = b5 at *
    generalize (if n3 = n0 then (1 : Int) else 0) = c0 at *
    generalize (if n3 = n1 then (1 : Int) else 0) = c1 at *
    generalize (if n3 = n2 then (1 : Int) else 0) = c2 at *
    generalize (if n4 = n0 then (1 : Int) else 0) = d0 at *
    generalize (if n4 = n1 then (1 : Int) else 0) = d1 at *
    generalize (if n4 = n2 then (1 : Int) else 0) = d2 at *
    generalize (if n4 = n3 then (1 : Int) else 0) = d3 at *
    omega
  · have t0 := t_le (l := n0) h
    have t1 := t_le (l := n1) h
    have t2 := t_le (l := n2) h
    have t3 := t_le (l := n3) h
    have t4 := t_le (l := n4) h
    have t5 := t_le1 (l := n5) (Nat.le_of_lt h)
    have ti : (if n4 = n4 then (1 : Int) else 0) = 1 := if_pos rfl
    have tz : (if n4 + 1 ≤ n4 then (1 : Int) else 0) = 0 := if_neg (by omega)
    rw [ti] at t4
    clear ti
    have s0 := t_01 n0 n3
    have s1 := t_01 n1 n3
    have s2 := t_01 n2 n3
    generalize (if n0 + 1 ≤ n3 then (1 : Int) else 0) = a0 at *
    generalize (if n0 + 1 ≤ n4 then (1 : Int) else 0) = b0 at *
    generalize (if n1 + 1 ≤ n3 then (1 : Int) else 0) = a1 at *
    generalize (if n1 + 1 ≤ n4 then (1 : Int) else 0) = b1 at *
    generalize (if n2 + 1 ≤ n3 then (1 : Int) else 0) = a2 at *
    generalize (if n2 + 1 ≤ n4 then (1 : Int) else 0) = b2 at *
    generalize (if n3 + 1 ≤ n3 then (1 : Int) else 0) = a3 at *
    generalize (if n3 + 1 ≤ n4 then (1 : Int) else 0) = b3 at *
    generalize (if n4 + 1 ≤ n3 then (1 : Int) else 0) = a4 at *
    generalize (if n4 + 1 ≤ n4 then (1 : Int) else 0) = b4 at *
    generalize (if n5 + 1 ≤ n3 then (1 : Int) else 0) = a5 at *
    generalize (if n5 + 1 ≤ n4 then (1 : Int) else 0) = b5 at *
    generalize (if n3 = n0 then (1 : Int) else 0) = c0 at *
    generalize (if n3 = n1 then (1 : Int) else 0) = c1 at *
    generalize (if n3 = n2 then (1 : Int) else 0) = c2 at *
    generalize (if n4 = n0 then (1 : Int) else 0) = d0 at *
    generalize (if n4 = n1 then (1 : Int) else 0) = d1 at *
    generalize (if n4 = n2 then (1 : Int) else 0) = d2 at *
    generalize (if n4 = n3 then (1 : Int) else 0) = d3 at *
    omega
theorem own_ne6_3_5 {n0 n1 n2 n3 n4 n5 : Nat} (h0 : n0 < 8) (h1 : n1 < 8) (h2 : n2 < 8) (h3 : n3 < 8) (h4 : n4 < 8) (h5 : n5 < 8) : (ps [n0, n1, n2, n3, n4, n5] 3).toNatClampNeg ≠ (ps [n0, n1, n2, n3, n4, n5] 5).toNatClampNeg := by
  obtain ⟨ei, pi⟩ := own_pi6_3 h0 h1 h2 h3 h4 h5
  obtain ⟨ej, pj⟩ := own_pi6_5 h0 h1 h2 h3 h4 h5
  have ci := own_cl ei pi
  have cj := own_cl ej pj
  clear ei ej
  rcases Nat.lt_trichotomy n3 n5 with h | h | h
  · have t0 := t_le (l := n0) h
    have t1 := t_le (l := n1) h
    have t2 := t_le (l := n2) h
    have t3 := t_le (l := n3) h
    have t4 := t_le1 (l := n4) (Nat.le_of_lt h)
    have t5 := t_le1 (l := n5) (Nat.le_of_lt h)
    have ti : (if n3 = n3 then (1 : Int) else 0) = 1 := if_pos rfl
    have tz : (if n3 + 1 ≤ n3 then (1 : Int) else 0) = 0 := if_neg (by omega)
    rw [ti] at t3
    clear ti
    have s0 := t_01 n0 n5
    have s1 := t_01 n1 n5
    have s2 := t_01 n2 n5
    have s3 := t_01 n3 n5
    have s4 := t_01 n4 n5
    generalize (if n0 + 1 ≤ n3 then (1 : Int) else 0) = a0 at *
    generalize (if n0 + 1 ≤ n5 then (1 : Int) else 0) = b0 at *
    generalize (if n1 + 1 ≤ n3 then (1 : Int) else 0) = a1 at *
    generalize (if n1 + 1 ≤ n5 then (1 : Int) else 0) = b1 at *
    generalize (if n2 + 1 ≤ n3 then (1 : Int) else 0) = a2 at *
    generalize (if n2 + 1 ≤ n5 then (1 : Int) else 0) = b2 at *
    generalize (if n3 + 1 ≤ n3 then (1 : Int) else 0) = a3 at *
    generalize (if n3 + 1 ≤ n5 then (1 : Int) else 0) = b3 at *
    generalize (if n4 + 1 ≤ n3 then (1 : Int) else 0) = a4 at *
    generalize (if n4 + 1 ≤ n5 then (1 : Int) else 0) = b4 at *
    generalize (if n5 + 1 ≤ n3 then (1 : Int) else 0) = a5 at *
    generalize (if n5 + 1 ≤ n5 then (1 : Int) else 0) = b5 at *
    generalize (if n3 = n0 then (1 : Int) else 0) = c0 at *
    generalize (if n3 = n1 then (1 : Int) else 0) = c1 at *
    generalize (if n3 = n2 then (1 : Int) else 0) = c2 at *
    generalize (if n5 = n0 then (1 : Int) else 0) = d0 at *
    generalize (if n5 = n1 then (1 : Int) else 0) = d1 at *
    generalize (if n5 = n2 then (1 : Int) else 0) = d2 at *
    generalize (if n5 = n3 then (1 : Int) else 0) = d3 at *
    generalize (if n5 = n4 then (1 : Int) else 0) = d4 at *
    omega
  · have ti : (if n5 = n3 then (1 : Int) else 0) = 1 := if_pos h.symm
    have u0 : (if n0 + 1 ≤ n3 then (1 : Int) else 0) = (if n0 + 1 ≤ n5 then (1 : Int) else 0) := by rw [h]
    have u1 : (if n1 + 1 ≤ n3 then (1 : Int) else 0) = (if n1 + 1 ≤ n5 then (1 : Int) else 0) := by rw [h]
    have u2 : (if n2 + 1 ≤ n3 then (1 : Int) else 0) = (if n2 + 1 ≤ n5 then (1 : Int) else 0) := by rw [h]
    have u3 : (if n3 + 1 ≤ n3 then (1 : Int) else 0) = (if n3 + 1 ≤ n5 then (1 : Int) else 0) := by rw [h]
    have u4 : (if n4 + 1 ≤ n3 then (1 : Int) else 0) = (if n4 + 1 ≤ n5 then (1 : Int) else 0) := by rw [h]
    have u5 : (if n5 + 1 ≤ n3 then (1 : Int) else 0) = (if n5 + 1 ≤ n5 then (1 : Int) else 0) := by rw [h]
    have w0 : (if n3 = n0 then (1 : Int) else 0) = (if n5 = n0 then (1 : Int) else 0) := by rw [h]
    have w1 : (if n3 = n1 then (1 : Int) else 0) = (if n5 = n1 then (1 : Int) else 0) := by rw [h]
    have w2 : (if n3 = n2 then (1 : Int) else 0) = (if n5 = n2 then (1 : Int) else 0) := by rw [h]
    have s0 := t_01 n0 n5
    have s1 := t_01 n1 n5
    have s2 := t_01 n2 n5
    have s3 := t_01 n3 n5
    have s4 := t_01 n4 n5
    generalize (if n0 + 1 ≤ n3 then (1 : Int) else 0) = a0 at *
    generalize (if n0 + 1 ≤ n5 then (1 : Int) else 0) = b0 at *
    generalize (if n1 + 1 ≤ n3 then (1 : Int) else 0) = a1 at *
    generalize (if n1 + 1 ≤ n5 then (1 : Int) else 0) = b1 at *
    generalize (if n2 + 1 ≤ n3 then (1 : Int) else 0) = a2 at *
    generalize (if n2 + 1 ≤ n5 then (1 : Int) else 0) = b2 at *
    generalize (if n3 + 1 ≤ n3 then (1 : Int) else 0) = a3 at *
    generalize (if n3 + 1 ≤ n5 then (1 : Int) else 0) = b3 at *
    generalize (if n4 + 1 ≤ n3 then (1 : Int) else 0) = a4 at *
    generalize (if n4 + 1 ≤ n5 then (1 : Int) else 0) = b4 at *
    generalize (if n5 + 1 ≤ n3 then (1 : Int) else 0) = a5 at *
    generalize (if n5 + 1 ≤ n5 then (1 : Int) else 0) = b5 at *
    generalize (if n3 = n0 then (1 : Int) else 0) = c0 at *
    generalize (if n3 = n1 then (1 : Int) else 0) = c1 at *
    generalize (if n3 = n2 then (1 : Int) else 0) = c2 at *
    generalize (if n5 = n0 then (1 : Int) else 0) = d0 at *
    generalize (if n5 = n1 then (1 : Int) else 0) = d1 at *
    generalize (if n5 = n2 then (1 : Int) else 0) = d2 at *
    generalize (if n5 = n3 then (1 : Int) else 0) = d3 at *
    generalize (if n5 = n4 then (1 : Int) else 0) = d4 at *
    omega
  · have t0 := t_le (l := n0) h
    have t1 := t_le (l := n1) h
    have t2 := t_le (l := n2) h
    have t3 := t_le (l := n3) h
    have t4 := t_le (l := n4) h
    have t5 := t_le (l := n5) h
    have ti : (if n5 = n5 then (1 : Int) else 0) = 1 := if_pos rfl
    have tz : (if n5 + 1 ≤ n5 then (1 : Int) else 0) = 0 := if_neg (by omega)
    rw [ti] at t5
    clear ti
    have s0 := t_01 n0 n3
    have s1 := t_01 n1 n3
    have s2 := t_01 n2 n3
    generalize (if n0 + 1 ≤ n3 then (1 : Int) else 0) = a0 at *
    generalize (if n0 + 1 ≤ n5 then (1 : Int) else 0) = b0 at *
    generalize (if n1 + 1 ≤ n3 then (1 : Int) else 0) = a1 at *
    generalize (if n1 + 1 ≤ n5 then (1 : Int) else 0) = b1 at *
    generalize (if n2 + 1 ≤ n3 then (1 : Int) else 0) = a2 at *
    generalize (if n2 + 1 ≤ n5 then (1 : Int) else 0) = b2 at *
    generalize (if n3 + 1 ≤ n3 then (1 : Int) else 0) = a3 at *
    generalize (if n3 + 1 ≤ n5 then (1 : Int) else 0) = b3 at *
    generalize (if n4 + 1 ≤ n3 then (1 : Int) else 0) = a4 at *
    generalize (if n4 + 1 ≤ n5 then (1 : Int) else 0) = b4 at *
    generalize (if n5 + 1 ≤ n3 then (1 : Int) else 0) = a5 at *
    generalize (if n5 + 1 ≤ n5 then (1 : Int) else 0) = b5 at *
    generalize (if n3 = n0 then (1 : Int) else 0) = c0 at *
    generalize (if n3 = n1 then (1 : Int) else 0) = c1 at *
    generalize (if n3 = n2 then (1 : Int) else 0) = c2 at *
    generalize (if n5 = n0 then (1 : Int) else 0) = d0 at *
    generalize (if n5 = n1 then (1 : Int) else 0) = d1 at *
    generalize (if n5 = n2 then (1 : Int) else 0) = d2 at *
    generalize (if n5 = n3 then (1 : Int) else 0) = d3 at *
    generalize (if n5 = n4 then (1 : Int) else 0) = d4 at *
    omega
theorem own_ne6_4_5 {n0 n1 n2 n3 n4 n5 : Nat} (h0 : n0 < 8) (h1 : n1 < 8) (h2 : n2 < 8) (h3 : n3 < 8) (h4 : n4 < 8) (h5 : n5 < 8) : (ps [n0, n1, n2, n3, n4, n5] 4).toNatClampNeg ≠ (ps [n0, n1, n2, n3, n4, n5] 5).toNatClampNeg := by
  obtain ⟨ei, pi⟩ := own_pi6_4 h0 h1 h2 h3 h4 h5
  obtain ⟨ej, pj⟩ := own_pi6_5 h0 h1 h2 h3 h4 h5
  have ci := own_cl ei pi
  have cj := own_cl ej pj
  clear ei ej
  rcases Nat.lt_trichotomy n4 n5 with h | h | h
  · have t0 := t_le (l := n0) h
    have t1 := t_le (l := n1) h
    have t2 := t_le (l := n2) h
    have t3 := t_le (l := n3) h
    have t4 := t_le (l := n4) h
    have t5 := t_le1 (l := n5) (Nat.le_of_lt h)
    have ti : (if n4 = n4 then (1 : Int) else 0) = 1 := if_pos rfl
    have tz : (if n4 + 1 ≤ n4 then (1 : Int) else 0) = 0 := if_neg (by omega)
    rw [ti] at t4
    clear ti
    have s0 := t_01 n0 n5
    have s1 := t_01 n1 n5
    have s2 := t_01 n2 n5
    have s3 := t_01 n3 n5
    have s4 := t_01 n4 n5
    generalize (if n0 + 1 ≤ n4 then (1 : Int) else 0) = a0 at *
    generalize (if n0 + 1 ≤ n5 then (1 : Int) else 0) = b0 at *
    generalize (if n1 + 1 ≤ n4 then (1 : Int) else 0) = a1 at *
    generalize (if n1 + 1 ≤ n5 then (1 : Int) else 0) = b1 at *
    generalize (if n2 + 1 ≤ n4 then (1 : Int) else 0) = a2 at *
    generalize (if n2 + 1 ≤ n5 then (1 : Int) else 0) = b2 at *
    generalize (if n3 + 1 ≤ n4 then (1 : Int) else 0) = a3 at *
    generalize (if n3 + 1 ≤ n5 then (1 : Int) else 0) = b3 at *
    generalize (if n4 + 1 ≤ n4 then (1 : Int) else 0) = a4 at *
    generalize (if n4 + 1 ≤ n5 then (1 : Int) else 0) = b4 at *
    generalize (if n5 + 1 ≤ n4 then (1 : Int) else 0) = a5 at *
    generalize (if n5 + 1 ≤ n5 then (1 : Int) else 0) = b5 at *
    generalize (if n4 = n0 then (1 : Int) else 0) = c0 at *
    generalize (if n4 = n1 then (1 : Int) else 0) = c1 at *
    generalize (if n4 = n2 then (1 : Int) else 0) = c2 at *
    generalize (if n4 = n3 then (1 : Int) else 0) = c3 at *
    generalize (if n5 = n0 then (1 : Int) else 0) = d0 at *
    generalize (if n5 = n1 then (1 : Int) else 0) = d1 at *
    generalize (if n5 = n2 then (1 : Int) else 0) = d2 at *
    generalize (if n5 = n3 then (1 : Int) else 0) = d3 at *
    generalize (if n5 = n4 then (1 : Int) else 0) = d4 at *
    omega
  · have ti : (if n5 = n4 then (1 : Int) else 0) = 1 := if_pos h.symm
    have u0 : (if n0 + 1 ≤ n4 then (1 : Int) else 0) = (if n0 + 1 ≤ n5 then (1 : Int) else 0) := by rw [h]
    have u1 : (if n1 + 1 ≤ n4 then (1 : Int) else 0) = (if n1 + 1 ≤ n5 then (1 : Int) else 0) := by rw [h]
    have u2 : (if n2 + 1 ≤ n4 then (1 : Int) else 0) = (if n2 + 1 ≤ n5 then (1 : Int) else 0) := by rw [h]
    have u3 : (if n3 + 1 ≤ n4 then (1 : Int) else 0) = (if n3 + 1 ≤ n5 then (1 : Int) else 0) := by rw [h]
    have u4 : (if n4 + 1 ≤ n4 then (1 : Int) else 0) = (if n4 + 1 ≤ n5 then (1 : Int) else 0) := by rw [h]
    have u5 : (if n5 + 1 ≤ n4 then (1 : Int) else 0) = (if n5 + 1 ≤ n5 then (1 : Int) else 0) := by rw [h]
    have w0 : (if n4 = n0 then (1 : Int) else 0) = (if n5 = n0 then (1 : Int) else 0) := by rw [h]
    have w1 : (if n4 = n1 then (1 : Int) else 0) = (if n5 = n1 then (1 : Int) else 0) := by rw [h]
    have w2 : (if n4 = n2 then (1 : Int) else 0) = (if n5 = n2 then (1 : Int) else 0) := by rw [h]
    have w3 : (if n4 = n3 then (1 : Int) else 0) = (if n5 = n3 then (1 : Int) else 0) := by rw [h]
    have s0 := t_01 n0 n5
    have s1 := t_01 n1 n5
    have s2 := t_01 n2 n5
    have s3 := t_01 n3 n5
    have s4 := t_01 n4 n5
    generalize (if n0 + 1 ≤ n4 then (1 : Int) else 0) = a0 at *
    generalize (if n0 + 1 ≤ n5 then (1 : Int) else 0) = b0 at *
    generalize (if n1 + 1 ≤ n4 then (1 : Int) else 0) = a1 at *
    generalize (if n1 + 1 ≤ n5 then (1 : Int) else 0) = b1 at *
    generalize (if n2 + 1 ≤ n4 then (1 : Int) else 0) = a2 at *
    generalize (if n2 + 1 ≤ n5 then (1 : Int) else 0) = b2 at *
    generalize (if n3 + 1 ≤ n4 then (1 : Int) else 0) = a3 at *
    generalize (if n3 + 1 ≤ n5 then (1 : Int) else 0) = b3 at *
    generalize (if n4 + 1 ≤ n4 then (1 : Int) else 0) = a4 at *
    generalize (if n4 + 1 ≤ n5 then (1 : Int) else 0) = b4 at *
    generalize (if n5 + 1 ≤ n4 then (1 : Int) else 0) = a5 at *
    generalize (if n5 + 1 ≤ n5 then (1 : Int) else 0) = b5 at *
    generalize (if n4 = n0 then (1 : Int) else 0) = c0 at *
    generalize (if n4 = n1 then (1 : Int) else 0) = c1 at *
    generalize (if n4 = n2 then (1 : Int) else 0) = c2 at *
    generalize (if n4 = n3 then (1 : Int) else 0) = c3 at *
    generalize (if n5 = n0 then (1 : Int) else 0) = d0 at *
    generalize (if n5 = n1 then (1 : Int) else 0) = d1 at *
    generalize (if n5 = n2 then (1 : Int) else 0) = d2 at *
    generalize (if n5 = n3 then (1 : Int) else 0) = d3 at *
    generalize (if n5 = n4 then (1 : Int) else 0) = d4 at *
    omega
  · have t0 := t_le (l := n0) h
    have t1 := t_le (l := n1) h
    have t2 := t_le (l := n2) h
    have t3 := t_le (l := n3) h
    have t4 := t_le (l := n4) h
    have t5 := t_le (l := n5) h
    have ti : (if n5 = n5 then (1 : Int) else 0) = 1 := if_pos rfl
    have tz : (if n5 + 1 ≤ n5 then (1 : Int) else 0) = 0 := if_neg (by omega)
    rw [ti] at t5
    clear ti
    have s0 := t_01 n0 n4
    have s1 := t_01 n1 n4
    have s2 := t_01 n2 n4
    have s3 := t_01 n3 n4
    generalize (if n0 + 1 ≤ n4 then (1 : Int) else 0) = a0 at *
    generalize (if n0 + 1 ≤ n5 then (1 : Int) else 0) = b0 at *
    generalize (if n1 + 1 ≤ n4 then (1 : Int) else 0) = a1 at *
    generalize (if n1 + 1 ≤ n5 then (1 : Int) else 0) = b1 at *
    generalize (if n2 + 1 ≤ n4 then (1 : Int) else 0) = a2 at *
    generalize (if n2 + 1 ≤ n5 then (1 : Int) else 0) = b2 at *
    generalize (if n3 + 1 ≤ n4 then (1 : Int) else 0) = a3 at *
    generalize (if n3 + 1 ≤ n5 then (1 : Int) else 0) = b3 at *
    generalize (if n4 + 1 ≤ n4 then (1 : Int) else 0) = a4 at *
    generalize (if n4 + 1 ≤ n5 then (1 : Int) else 0) = b4 at *
    generalize (if n5 + 1 ≤ n4 then (1 : Int) else 0) = a5 at *
    generalize (if n5 + 1 ≤ n5 then (1 : Int) else 0) = b5 at *
    generalize (if n4 = n0 then (1 : Int) else 0) = c0 at *
    generalize (if n4 = n1 then (1 : Int) else 0) = c1 at *
    generalize (if n4 = n2 then (1 : Int) else 0) = c2 at *
    generalize (if n4 = n3 then (1 : Int) else 0) = c3 at *
    generalize (if n5 = n0 then (1 : Int) else 0) = d0 at *
    generalize (if n5 = n1 then (1 : Int) else 0) = d1 at *
    generalize (if n5 = n2 then (1 : Int) else 0) = d2 at *
    generalize (if n5 = n3 then (1 : Int) else 0) = d3 at *
    generalize (if n5 = n4 then (1 : Int) else 0) = d4 at *
    omega
theorem own_sl6_0 {n0 n1 n2 n3 n4 n5 : Nat} (h0 : n0 < 8) (h1 : n1 < 8) (h2 : n2 < 8) (h3 : n3 < 8) (h4 : n4 < 8) (h5 : n5 < 8) : (((((((if (Int32.ofNat n0) < (Int32.ofNat n0) then (1 : Int32) else (0 : Int32)) + (if (Int32.ofNat n1) < (Int32.ofNat n0) then (1 : Int32) else (0 : Int32))) + (if (Int32.ofNat n2) < (Int32.ofNat n0) then (1 : Int32) else (0 : Int32))) + (if (Int32.ofNat n3) < (Int32.ofNat n0) then (1 : Int32) else (0 : Int32))) + (if (Int32.ofNat n4) < (Int32.ofNat n0) then (1 : Int32) else (0 : Int32))) + (if (Int32.ofNat n5) < (Int32.ofNat n0) then (1 : Int32) else (0 : Int32))) + (0 : Int32)) < (6 : Int32) ∧ ¬ (((((((if (Int32.ofNat n0) < (Int32.ofNat n0) then (1 : Int32) else (0 : Int32)) + (if (Int32.ofNat n1) < (Int32.ofNat n0) then (1 : Int32) else (0 : Int32))) + (if (Int32.ofNat n2) < (Int32.ofNat n0) then (1 : Int32) else (0 : Int32))) + (if (Int32.ofNat n3) < (Int32.ofNat n0) then (1 : Int32) else (0 : Int32))) + (if (Int32.ofNat n4) < (Int32.ofNat n0) then (1 : Int32) else (0 : Int32))) + (if (Int32.ofNat n5) < (Int32.ofNat n0) then (1 : Int32) else (0 : Int32))) + (0 : Int32)) < 0 ∧ (fl 6 (HH [n0, n1, n2, n3, n4, n5] 6))[((((((((if (Int32.ofNat n0) < (Int32.ofNat n0) then (1 : Int32) else (0 : Int32)) + (if (Int32.ofNat n1) < (Int32.ofNat n0) then (1 : Int32) else (0 : Int32))) + (if (Int32.ofNat n2) < (Int32.ofNat n0) then (1 : Int32) else (0 : Int32))) + (if (Int32.ofNat n3) < (Int32.ofNat n0) then (1 : Int32) else (0 : Int32))) + (if (Int32.ofNat n4) < (Int32.ofNat n0) then (1 : Int32) else (0 : Int32))) + (if (Int32.ofNat n5) < (Int32.ofNat n0) then (1 : Int32) else (0 : Int32))) + (0 : Int32))).toNatClampNeg]? = some (.int (Int32.ofNat n1)) := by
  rw [← own_ps6_0 h0 h1 h2 h3 h4 h5]
  obtain ⟨b1, b2, b3⟩ := own_bd6_0 h0 h1 h2 h3 h4 h5
  refine ⟨b3, b1, ?_⟩
  rw [fl_get b2]
  have e5 : HH [n0, n1, n2, n3, n4, n5] 6 (ps [n0, n1, n2, n3, n4, n5] 0).toNatClampNeg = HH [n0, n1, n2, n3, n4, n5] 5 (ps [n0, n1, n2, n3, n4, n5] 0).toNatClampNeg := put_ne (own_ne6_0_5 h0 h1 h2 h3 h4 h5)
  have e4 : HH [n0, n1, n2, n3, n4, n5] 5 (ps [n0, n1, n2, n3, n4, n5] 0).toNatClampNeg = HH [n0, n1, n2, n3, n4, n5] 4 (ps [n0, n1, n2, n3, n4, n5] 0).toNatClampNeg := put_ne (own_ne6_0_4 h0 h1 h2 h3 h4 h5)
  have e3 : HH [n0, n1, n2, n3, n4, n5] 4 (ps [n0, n1, n2, n3, n4, n5] 0).toNatClampNeg = HH [n0, n1, n2, n3, n4, n5] 3 (ps [n0, n1, n2, n3, n4, n5] 0).toNatClampNeg := put_ne (own_ne6_0_3 h0 h1 h2 h3 h4 h5)
  have e2 : HH [n0, n1, n2, n3, n4, n5] 3 (ps [n0, n1, n2, n3, n4, n5] 0).toNatClampNeg = HH [n0, n1, n2, n3, n4, n5] 2 (ps [n0, n1, n2, n3, n4, n5] 0).toNatClampNeg := put_ne (own_ne6_0_2 h0 h1 h2 h3 h4 h5)
  have e1 : HH [n0, n1, n2, n3, n4, n5] 2 (ps [n0, n1, n2, n3, n4, n5] 0).toNatClampNeg = HH [n0, n1, n2, n3, n4, n5] 1 (ps [n0, n1, n2, n3, n4, n5] 0).toNatClampNeg := put_ne (own_ne6_0_1 h0 h1 h2 h3 h4 h5)
  have e0 : HH [n0, n1, n2, n3, n4, n5] 1 (ps [n0, n1, n2, n3, n4, n5] 0).toNatClampNeg = (Int32.ofNat n1) := put_eq
  rw [e5, e4, e3, e2, e1, e0]
theorem own_sl6_1 {n0 n1 n2 n3 n4 n5 : Nat} (h0 : n0 < 8) (h1 : n1 < 8) (h2 : n2 < 8) (h3 : n3 < 8) (h4 : n4 < 8) (h5 : n5 < 8) : (((((((if (Int32.ofNat n0) < (Int32.ofNat n1) then (1 : Int32) else (0 : Int32)) + (if (Int32.ofNat n1) < (Int32.ofNat n1) then (1 : Int32) else (0 : Int32))) + (if (Int32.ofNat n2) < (Int32.ofNat n1) then (1 : Int32) else (0 : Int32))) + (if (Int32.ofNat n3) < (Int32.ofNat n1) then (1 : Int32) else (0 : Int32))) + (if (Int32.ofNat n4) < (Int32.ofNat n1) then (1 : Int32) else (0 : Int32))) + (if (Int32.ofNat n5) < (Int32.ofNat n1) then (1 : Int32) else (0 : Int32))) + (((((if (Int32.ofNat n0) = (Int32.ofNat n1) then (1 : Int32) else (0 : Int32)) + (0 : Int32)) + (0 : Int32)) + (0 : Int32)) + (0 : Int32))) < (6 : Int32) ∧ ¬ (((((((if (Int32.ofNat n0) < (Int32.ofNat n1) then (1 : Int32) else (0 : Int32)) + (if (Int32.ofNat n1) < (Int32.ofNat n1) then (1 : Int32) else (0 : Int32))) + (if (Int32.ofNat n2) < (Int32.ofNat n1) then (1 : Int32) else (0 : Int32))) + (if (Int32.ofNat n3) < (Int32.ofNat n1) then (1 : Int32) else (0 : Int32))) + (if (Int32.ofNat n4) < (Int32.ofNat n1) then (1 : Int32) else (0 : Int32))) + (if (Int32.ofNat n5) < (Int32.ofNat n1) then (1 : Int32) else (0 : Int32))) + (((((if (Int32.ofNat n0) = (Int32.ofNat n1) then (1 : Int32) else (0 : Int32)) + (0 : Int32)) + (0 : Int32)) + (0 : Int32)) + (0 : Int32))) < 0 ∧ (fl 6 (HH [n0, n1, n2, n3, n4, n5] 6))[((((((((if (Int32.ofNat n0) < (Int32.ofNat n1) then (1 : Int32) else (0 : Int32)) + (if (Int32.ofNat n1) < (Int32.ofNat n1) then (1 : Int32) else (0 : Int32))) + (if (Int32.ofNat n2) < (Int32.ofNat n1) then (1 : Int32) else (0 : Int32))) + (if (Int32.ofNat n3) < (Int32.ofNat n1) then (1 : Int32) else (0 : Int32))) + (if (Int32.ofNat n4) < (Int32.ofNat n1) then (1 : Int32) else (0 : Int32))) + (if (Int32.ofNat n5) < (Int32.ofNat n1) then (1 : Int32) else (0 : Int32))) + (((((if (Int32.ofNat n0) = (Int32.ofNat n1) then (1 : Int32) else (0 : Int32)) + (0 : Int32)) + (0 : Int32)) + (0 : Int32)) + (0 : Int32)))).toNatClampNeg]? = some (.int (Int32.ofNat n0)) := by
  rw [← own_ps6_1 h0 h1 h2 h3 h4 h5]
  obtain ⟨b1, b2, b3⟩ := own_bd6_1 h0 h1 h2 h3 h4 h5
  refine ⟨b3, b1, ?_⟩
  rw [fl_get b2]
  have e5 : HH [n0, n1, n2, n3, n4, n5] 6 (ps [n0, n1, n2, n3, n4, n5] 1).toNatClampNeg = HH [n0, n1, n2, n3, n4, n5] 5 (ps [n0, n1, n2, n3, n4, n5] 1).toNatClampNeg := put_ne (own_ne6_1_5 h0 h1 h2 h3 h4 h5)
  have e4 : HH [n0, n1, n2, n3, n4, n5] 5 (ps [n0, n1, n2, n3, n4, n5] 1).toNatClampNeg = HH [n0, n1, n2, n3, n4, n5] 4 (ps [n0, n1, n2, n3, n4, n5] 1).toNatClampNeg := put_ne (own_ne6_1_4 h0 h1 h2 h3 h4 h5)
  have e3 : HH [n0, n1, n2, n3, n4, n5] 4 (ps [n0, n1, n2, n3, n4, n5] 1).toNatClampNeg = HH [n0, n1, n2, n3, n4, n5] 3 (ps [n0, n1, n2, n3, n4, n5] 1).toNatClampNeg := put_ne (own_ne6_1_3 h0 h1 h2 h3 h4 h5)
  have e2 : HH [n0, n1, n2, n3, n4, n5] 3 (ps [n0, n1, n2, n3, n4, n5] 1).toNatClampNeg = HH [n0, n1, n2, n3, n4, n5] 2 (ps [n0, n1, n2, n3, n4, n5] 1).toNatClampNeg := put_ne (own_ne6_1_2 h0 h1 h2 h3 h4 h5)
  have e1 : HH [n0, n1, n2, n3, n4, n5] 2 (ps [n0, n1, n2, n3, n4, n5] 1).toNatClampNeg = (Int32.ofNat n0) := put_eq
  rw [e5, e4, e3, e2, e1]
theorem own_sl6_2 {n0 n1 n2 n3 n4 n5 : Nat} (h0 : n0 < 8) (h1 : n1 < 8) (h2 : n2 < 8) (h3 : n3 < 8) (h4 : n4 < 8) (h5 : n5 < 8) : (((((((if (Int32.ofNat n0) < (Int32.ofNat n2) then (1 : Int32) else (0 : Int32)) + (if (Int32.ofNat n1) < (Int32.ofNat n2) then (1 : Int32) else (0 : Int32))) + (if (Int32.ofNat n2) < (Int32.ofNat n2) then (1 : Int32) else (0 : Int32))) + (if (Int32.ofNat n3) < (Int32.ofNat n2) then (1 : Int32) else (0 : Int32))) + (if (Int32.ofNat n4) < (Int32.ofNat n2) then (1 : Int32) else (0 : Int32))) + (if (Int32.ofNat n5) < (Int32.ofNat n2) then (1 : Int32) else (0 : Int32))) + (((((if (Int32.ofNat n0) = (Int32.ofNat n2) then (1 : Int32) else (0 : Int32)) + (if (Int32.ofNat n1) = (Int32.ofNat n2) then (1 : Int32) else (0 : Int32))) + (0 : Int32)) + (0 : Int32)) + (0 : Int32))) < (6 : Int32) ∧ ¬ (((((((if (Int32.ofNat n0) < (Int32.ofNat n2) then (1 : Int32) else (0 : Int32)) + (if (Int32.ofNat n1) < (Int32.ofNat n2) then (1 : Int32) else (0 : Int32))) + (if (Int32.ofNat n2) < (Int32.ofNat n2) then (1 : Int32) else (0 : Int32))) + (if (Int32.ofNat n3) < (Int32.ofNat n2) then (1 : Int32) else (0 : Int32))) + (if (Int32.ofNat n4) < (Int32.ofNat n2) then (1 : Int32) else (0 : Int32))) + (if (Int32.ofNat n5) < (Int32.ofNat n2) then (1 : Int32) else (0 : Int32))) + (((((if (Int32.ofNat n0) = (Int32.ofNat n2) then (1 : Int32) else (0 : Int32)) + (if (Int32.ofNat n1) = (Int32.ofNat n2) then (1 : Int32) else (0 : Int32))) + (0 : Int32)) + (0 : Int32)) + (0 : Int32))) < 0 ∧ (fl 6 (HH [n0, n1, n2, n3, n4, n5] 6))[((((((((if (Int32.ofNat n0) < (Int32.ofNat n2) then (1 : Int32) else (0 : Int32)) + (if (Int32.ofNat n1) < (Int32.ofNat n2) then (1 : Int32) else (0 : Int32))) + (if (Int32.ofNat n2) < (Int32.ofNat n2) then (1 : Int32) else (0 : Int32))) + (if (Int32.ofNat n3) < (Int32.ofNat n2) then (1 : Int32) else (0 : Int32))) + (if (Int32.ofNat n4) < (Int32.ofNat n2) then (1 : Int32) else (0 : Int32))) + (if (Int32.ofNat n5) < (Int32.ofNat n2) then (1 : Int32) else (0 : Int32))) + (((((if (Int32.ofNat n0) = (Int32.ofNat n2) then (1 : Int32) else (0 : Int32)) + (if (Int32.ofNat n1) = (Int32.ofNat n2) then (1 : Int32) else (0 : Int32))) + (0 : Int32)) + (0 : Int32)) + (0 : Int32)))).toNatClampNeg]? = some (.int (Int32.ofNat n3)) := by
  rw [← own_ps6_2 h0 h1 h2 h3 h4 h5]
  obtain ⟨b1, b2, b3⟩ := own_bd6_2 h0 h1 h2 h3 h4 h5
  refine ⟨b3, b1, ?_⟩
  rw [fl_get b2]
  have e5 : HH [n0, n1, n2, n3, n4, n5] 6 (ps [n0, n1, n2, n3, n4, n5] 2).toNatClampNeg = HH [n0, n1, n2, n3, n4, n5] 5 (ps [n0, n1, n2, n3, n4, n5] 2).toNatClampNeg := put_ne (own_ne6_2_5 h0 h1 h2 h3 h4 h5)
  have e4 : HH [n0, n1, n2, n3, n4, n5] 5 (ps [n0, n1, n2, n3, n4, n5] 2).toNatClampNeg = HH [n0, n1, n2, n3, n4, n5] 4 (ps [n0, n1, n2, n3, n4, n5] 2).toNatClampNeg := put_ne (own_ne6_2_4 h0 h1 h2 h3 h4 h5)
  have e3 : HH [n0, n1, n2, n3, n4, n5] 4 (ps [n0, n1, n2, n3, n4, n5] 2).toNatClampNeg = HH [n0, n1, n2, n3, n4, n5] 3 (ps [n0, n1, n2, n3, n4, n5] 2).toNatClampNeg := put_ne (own_ne6_2_3 h0 h1 h2 h3 h4 h5)
  have e2 : HH [n0, n1, n2, n3, n4, n5] 3 (ps [n0, n1, n2, n3, n4, n5] 2).toNatClampNeg = (Int32.ofNat n3) := put_eq
  rw [e5, e4, e3, e2]
theorem own_sl6_3 {n0 n1 n2 n3 n4 n5 : Nat} (h0 : n0 < 8) (h1 : n1 < 8) (h2 : n2 < 8) (h3 : n3 < 8) (h4 : n4 < 8) (h5 : n5 < 8) : (((((((if (Int32.ofNat n0) < (Int32.ofNat n3) then (1 : Int32) else (0 : Int32)) + (if (Int32.ofNat n1) < (Int32.ofNat n3) then (1 : Int32) else (0 : Int32))) + (if (Int32.ofNat n2) < (Int32.ofNat n3) then (1 : Int32) else (0 : Int32))) + (if (Int32.ofNat n3) < (Int32.ofNat n3) then (1 : Int32) else (0 : Int32))) + (if (Int32.ofNat n4) < (Int32.ofNat n3) then (1 : Int32) else (0 : Int32))) + (if (Int32.ofNat n5) < (Int32.ofNat n3) then (1 : Int32) else (0 : Int32))) + (((((if (Int32.ofNat n0) = (Int32.ofNat n3) then (1 : Int32) else (0 : Int32)) + (if (Int32.ofNat n1) = (Int32.ofNat n3) then (1 : Int32) else (0 : Int32))) + (if (Int32.ofNat n2) = (Int32.ofNat n3) then (1 : Int32) else (0 : Int32))) + (0 : Int32)) + (0 : Int32))) < (6 : Int32) ∧ ¬ (((((((if (Int32.ofNat n0) < (Int32.ofNat n3) then (1 : Int32) else (0 : Int32)) + (if (Int32.ofNat n1) < (Int32.ofNat n3) then (1 : Int32) else (0 : Int32))) + (if (Int32.ofNat n2) < (Int32.ofNat n3) then (1 : Int32) else (0 : Int32))) + (if (Int32.ofNat n3) < (Int32.ofNat n3) then (1 : Int32) else (0 : Int32))) + (if (Int32.ofNat n4) < (Int32.ofNat n3) then (1 : Int32) else (0 : Int32))) + (if (Int32.ofNat n5) < (Int32.ofNat n3) then (1 : Int32) else (0 : Int32))) + (((((if (Int32.ofNat n0) = (Int32.ofNat n3) then (1 : Int32) else (0 : Int32)) + (if (Int32.ofNat n1) = (Int32.ofNat n3) then (1 : Int32) else (0 : Int32))) + (if (Int32.ofNat n2) = (Int32.ofNat n3) then (1 : Int32) else (0 : Int32))) + (0 : Int32)) + (0 : Int32))) < 0 ∧ (fl 6 (HH [n0, n1, n2, n3, n4, n5] 6))[((((((((if (Int32.ofNat n0) < (Int32.ofNat n3) then (1 : Int32) else (0 : Int32)) + (if (Int32.ofNat n1) < (Int32.ofNat n3) then (1 : Int32) else (0 : Int32))) + (if (Int32.ofNat n2) < (Int32.ofNat n3) then (1 : Int32) else (0 : Int32))) + (if (Int32.ofNat n3) < (Int32.ofNat n3) then (1 : Int32) else (0 : Int32))) + (if (Int32.ofNat n4) < (Int32.ofNat n3) then (1 : Int32) else (0 : Int32))) + (if (Int32.ofNat n5) < (Int32.ofNat n3) then (1 : Int32) else (0 : Int32))) + (((((if (Int32.ofNat n0) = (Int32.ofNat n3) then (1 : Int32) else (0 : Int32)) + (if (Int32.ofNat n1) = (Int32.ofNat n3) then (1 : Int32) else (0 : Int32))) + (if (Int32.ofNat n2) = (Int32.ofNat n3) then (1 : Int32) else (0 : Int32))) + (0 : Int32)) + (0 : Int32)))).toNatClampNeg]? = some (.int (Int32.ofNat n2)) := by
  rw [← own_ps6_3 h0 h1 h2 h3 h4 h5]
  obtain ⟨b1, b2, b3⟩ := own_bd6_3 h0 h1 h2 h3 h4 h5
  refine ⟨b3, b1, ?_⟩
  rw [fl_get b2]
  have e5 : HH [n0, n1, n2, n3, n4, n5] 6 (ps [n0, n1, n2, n3, n4, n5] 3).toNatClampNeg = HH [n0, n1, n2, n3, n4, n5] 5 (ps [n0, n1, n2, n3, n4, n5] 3).toNatClampNeg := put_ne (own_ne6_3_5 h0 h1 h2 h3 h4 h5)
  have e4 : HH [n0, n1, n2, n3, n4, n5] 5 (ps [n0, n1, n2, n3, n4, n5] 3).toNatClampNeg = HH [n0, n1, n2, n3, n4, n5] 4 (ps [n0, n1, n2, n3, n4, n5] 3).toNatClampNeg := put_ne (own_ne6_3_4 h0 h1 h2 h3 h4 h5)
  have e3 : HH [n0, n1, n2, n3, n4, n5] 4 (ps [n0, n1, n2, n3, n4, n5] 3).toNatClampNeg = (Int32.ofNat n2) := put_eq
  rw [e5, e4, e3]
theorem own_sl6_4 {n0 n1 n2 n3 n4 n5 : Nat} (h0 : n0 < 8) (h1 : n1 < 8) (h2 : n2 < 8) (h3 : n3 < 8) (h4 : n4 < 8) (h5 : n5 < 8) : (((((((if (Int32.ofNat n0) < (Int32.ofNat n4) then (1 : Int32) else (0 : Int32)) + (if (Int32.ofNat n1) < (Int32.ofNat n4) then (1 : Int32) else (0 : Int32))) + (if (Int32.ofNat n2) < (Int32.ofNat n4) then (1 : Int32) else (0 : Int32))) + (if (Int32.ofNat n3) < (Int32.ofNat n4) then (1 : Int32) else (0 : Int32))) + (if (Int32.ofNat n4) < (Int32.ofNat n4) then (1 : Int32) else (0 : Int32))) + (if (Int32.ofNat n5) < (Int32.ofNat n4) then (1 : Int32) else (0 : Int32))) + (((((if (Int32.ofNat n0) = (Int32.ofNat n4) then (1 : Int32) else (0 : Int32)) + (if (Int32.ofNat n1) = (Int32.ofNat n4) then (1 : Int32) else (0 : Int32))) + (if (Int32.ofNat n2) = (Int32.ofNat n4) then (1 : Int32) else (0 : Int32))) + (if (Int32.ofNat n3) = (Int32.ofNat n4) then (1 : Int32) else (0 : Int32))) + (0 : Int32))) < (6 : Int32) ∧ ¬ (((((((if (Int32.ofNat n0) < (Int32.ofNat n4) then (1 : Int32) else (0 : Int32)) + (if (Int32.ofNat n1) < (Int32.ofNat n4) then (1 : Int32) else (0 : Int32))) + (if (Int32.ofNat n2) < (Int32.ofNat n4) then (1 : Int32) else (0 : Int32))) + (if (Int32.ofNat n3) < (Int32.ofNat n4) then (1 : Int32) else (0 : Int32))) + (if (Int32.ofNat n4) < (Int32.ofNat n4) then (1 : Int32) else (0 : Int32))) + (if (Int32.ofNat n5) < (Int32.ofNat n4) then (1 : Int32) else (0 : Int32))) + (((((if (Int32.ofNat n0) = (Int32.ofNat n4) then (1 : Int32) else (0 : Int32)) + (if (Int32.ofNat n1) = (Int32.ofNat n4) then (1 : Int32) else (0 : Int32))) + (if (Int32.ofNat n2) = (Int32.ofNat n4) then (1 : Int32) else (0 : Int32))) + (if (Int32.ofNat n3) = (Int32.ofNat n4) then (1 : Int32) else (0 : Int32))) + (0 : Int32))) < 0 ∧ (fl 6 (HH [n0, n1, n2, n3, n4, n5] 6))[((((((((if (Int32.ofNat n0) < (Int32.ofNat n4) then (1 : Int32) else (0 : Int32)) + (if (Int32.ofNat n1) < (Int32.ofNat n4) then (1 : Int32) else (0 : Int32))) + (if (Int32.ofNat n2) < (Int32.ofNat n4) then (1 : Int32) else (0 : Int32))) + (if (Int32.ofNat n3) < (Int32.ofNat n4) then (1 : Int32) else (0 : Int32))) + (if (Int32.ofNat n4) < (Int32.ofNat n4) then (1 : Int32) else (0 : Int32))) + (if (Int32.ofNat n5) < (Int32.ofNat n4) then (1 : Int32) else (0 : Int32))) + (((((if (Int32.ofNat n0) = (Int32.ofNat n4) then (1 : Int32) else (0 : Int32)) + (if (Int32.ofNat n1) = (Int32.ofNat n4) then (1 : Int32) else (0 : Int32))) + (if (Int32.ofNat n2) = (Int32.ofNat n4) then (1 : Int32) else (0 : Int32))) + (if (Int32.ofNat n3) = (Int32.ofNat n4) then (1 : Int32) else (0 : Int32))) + (0 : Int32)))).toNatClampNeg]? = some (.int (Int32.ofNat n5)) := by
  rw [← own_ps6_4 h0 h1 h2 h3 h4 h5]
  obtain ⟨b1, b2, b3⟩ := own_bd6_4 h0 h1 h2 h3 h4 h5
  refine ⟨b3, b1, ?_⟩
  rw [fl_get b2]
  have e5 : HH [n0, n1, n2, n3, n4, n5] 6 (ps [n0, n1, n2, n3, n4, n5] 4).toNatClampNeg = HH [n0, n1, n2, n3, n4, n5] 5 (ps [n0, n1, n2, n3, n4, n5] 4).toNatClampNeg := put_ne (own_ne6_4_5 h0 h1 h2 h3 h4 h5)
  have e4 : HH [n0, n1, n2, n3, n4, n5] 5 (ps [n0, n1, n2, n3, n4, n5] 4).toNatClampNeg = (Int32.ofNat n5) := put_eq
  rw [e5, e4]
theorem own_sl6_5 {n0 n1 n2 n3 n4 n5 : Nat} (h0 : n0 < 8) (h1 : n1 < 8) (h2 : n2 < 8) (h3 : n3 < 8) (h4 : n4 < 8) (h5 : n5 < 8) : (((((((if (Int32.ofNat n0) < (Int32.ofNat n5) then (1 : Int32) else (0 : Int32)) + (if (Int32.ofNat n1) < (Int32.ofNat n5) then (1 : Int32) else (0 : Int32))) + (if (Int32.ofNat n2) < (Int32.ofNat n5) then (1 : Int32) else (0 : Int32))) + (if (Int32.ofNat n3) < (Int32.ofNat n5) then (1 : Int32) else (0 : Int32))) + (if (Int32.ofNat n4) < (Int32.ofNat n5) then (1 : Int32) else (0 : Int32))) + (if (Int32.ofNat n5) < (Int32.ofNat n5) then (1 : Int32) else (0 : Int32))) + (((((if (Int32.ofNat n0) = (Int32.ofNat n5) then (1 : Int32) else (0 : Int32)) + (if (Int32.ofNat n1) = (Int32.ofNat n5) then (1 : Int32) else (0 : Int32))) + (if (Int32.ofNat n2) = (Int32.ofNat n5) then (1 : Int32) else (0 : Int32))) + (if (Int32.ofNat n3) = (Int32.ofNat n5) then (1 : Int32) else (0 : Int32))) + (if (Int32.ofNat n4) = (Int32.ofNat n5) then (1 : Int32) else (0 : Int32)))) < (6 : Int32) ∧ ¬ (((((((if (Int32.ofNat n0) < (Int32.ofNat n5) then (1 : Int32) else (0 : Int32)) + (if (Int32.ofNat n1) < (Int32.ofNat n5) then (1 : Int32) else (0 : Int32))) + (if (Int32.ofNat n2) < (Int32.ofNat n5) then (1 : Int32) else (0 : Int32))) + (if (Int32.ofNat n3) < (Int32.ofNat n5) then (1 : Int32) else (0 : Int32))) + (if (Int32.ofNat n4) < (Int32.ofNat n5) then (1 : Int32) else (0 : Int32))) + (if (Int32.ofNat n5) < (Int32.ofNat n5) then (1 : Int32) else (0 : Int32))) + (((((if (Int32.ofNat n0) = (Int32.ofNat n5) then (1 : Int32) else (0 : Int32)) + (if (Int32.ofNat n1) = (Int32.ofNat n5) then (1 : Int32) else (0 : Int32))) + (if (Int32.ofNat n2) = (Int32.ofNat n5) then (1 : Int32) else (0 : Int32))) + (if (Int32.ofNat n3) = (Int32.ofNat n5) then (1 : Int32) else (0 : Int32))) + (if (Int32.ofNat n4) = (Int32.ofNat n5) then (1 : Int32) else (0 : Int32)))) < 0 ∧ (fl 6 (HH [n0, n1, n2, n3, n4, n5] 6))[((((((((if (Int32.ofNat n0) < (Int32.ofNat n5) then (1 : Int32) else (0 : Int32)) + (if (Int32.ofNat n1) < (Int32.ofNat n5) then (1 : Int32) else (0 : Int32))) + (if (Int32.ofNat n2) < (Int32.ofNat n5) then (1 : Int32) else (0 : Int32))) + (if (Int32.ofNat n3) < (Int32.ofNat n5) then (1 : Int32) else (0 : Int32))) + (if (Int32.ofNat n4) < (Int32.ofNat n5) then (1 : Int32) else (0 : Int32))) + (if (Int32.ofNat n5) < (Int32.ofNat n5) then (1 : Int32) else (0 : Int32))) + (((((if (Int32.ofNat n0) = (Int32.ofNat n5) then (1 : Int32) else (0 : Int32)) + (if (Int32.ofNat n1) = (Int32.ofNat n5) then (1 : Int32) else (0 : Int32))) + (if (Int32.ofNat n2) = (Int32.ofNat n5) then (1 : Int32) else (0 : Int32))) + (if (Int32.ofNat n3) = (Int32.ofNat n5) then (1 : Int32) else (0 : Int32))) + (if (Int32.ofNat n4) = (Int32.ofNat n5) then (1 : Int32) else (0 : Int32))))).toNatClampNeg]? = some (.int (Int32.ofNat n4)) := by
  rw [← own_ps6_5 h0 h1 h2 h3 h4 h5]
  obtain ⟨b1, b2, b3⟩ := own_bd6_5 h0 h1 h2 h3 h4 h5
  refine ⟨b3, b1, ?_⟩
  rw [fl_get b2]
  have e5 : HH [n0, n1, n2, n3, n4, n5] 6 (ps [n0, n1, n2, n3, n4, n5] 5).toNatClampNeg = (Int32.ofNat n4) := put_eq
  rw [e5]
theorem c_law (l : Launch) (Z : State) (a0 : Array Value) (hw : ∀ d ∈ tables_1, d.before a0 Z = true) {B : Nat} (p0 p1 p2 p3 : Int32) :
    Con l Z FM B x code maxLocals ret room_1 tables_1 #[.int p0, .int p1, .int p2, .int p3] [] (fun v os => v = some (.int 1)) := by
  refine Con.of (plainFor_of_name (by first | (simp [plainName, overriddenIn]; done) | decide +kernel)) (ls := #[.val (.int p0), .val (.int p1), .val (.int p2), .val (.int p3), .unset, .unset, .unset, .unset, .unset, .unset, .unset]) (fun m => by first | (simp [entryFrame, mkF, argsToLocals, Value.category, maxLocals]; done) | rfl) ?_
  intro p_ e_ h_ s_ m_ bl_ me_ c_ T0 W0
  refine g_iload_n (pc := 0) W0 at_0 rfl ?_
  refine g_iconst (pc := 1) (3 : Int32) (by decide) W0 at_1 ?_
  refine g_iand (pc := 2) W0 at_2 ?_
  refine g_istore (pc := 3) (ls' := #[.val (.int p0), .val (.int p1), .val (.int p2), .val (.int p3), .val (.int (p3 &&& (3 : Int32))), .unset, .unset, .unset, .unset, .unset, .unset]) W0 at_3 rfl ?_
  refine g_bipush (pc := 5) (6 : Int32) (by decide) W0 at_5 ?_
  refine g_newarray (pc := 7) (ty := .int) (vs := [.int (0 : Int32), .int (0 : Int32), .int (0 : Int32), .int (0 : Int32), .int (0 : Int32), .int (0 : Int32)]) 6 W0 (wd hw 0 rfl) rfl (by decide) (by decide) (by decide) rfl at_7 (by decide) (by decide) (fun T2 b1 W3 => ?_)
  have W4 := W3.re (os' := [(b1, (.array .int), [.int (0 : Int32), .int (0 : Int32), .int (0 : Int32), .int (0 : Int32), .int (0 : Int32), .int (0 : Int32)])]) rfl
  refine g_astore (pc := 9) (ls' := #[.val (.int p0), .val (.int p1), .val (.int p2), .val (.int p3), .val (.int (p3 &&& (3 : Int32))), .val (.ref b1), .unset, .unset, .unset, .unset, .unset]) W4 at_9 rfl rfl ?_
  refine g_aload (pc := 11) W4 at_11 rfl rfl ?_
  refine g_iconst (pc := 13) (0 : Int32) (by decide) W4 at_13 ?_
  refine g_iload_n (pc := 14) W4 at_14 rfl ?_
  refine g_bipush (pc := 15) (7 : Int32) (by decide) W4 at_15 ?_
  refine g_iand (pc := 17) W4 at_17 ?_
  refine g_iastore (pc := 18) (i := 0) (os' := [(b1, (.array .int), [.int (p0 &&& (7 : Int32)), .int (0 : Int32), .int (0 : Int32), .int (0 : Int32), .int (0 : Int32), .int (0 : Int32)])]) 0 W4 rfl (by decide) (by decide) (Nat.le_of_ble_eq_true rfl) rfl at_18 (fun T5 W6 => ?_)
  refine g_aload (pc := 19) W6 at_19 rfl rfl ?_
  refine g_iconst (pc := 21) (1 : Int32) (by decide) W6 at_21 ?_
  refine g_iload_n (pc := 22) W6 at_22 rfl ?_
  refine g_iconst (pc := 23) (3 : Int32) (by decide) W6 at_23 ?_
  refine g_iushr (pc := 24) W6 at_24 ?_
  refine g_bipush (pc := 25) (7 : Int32) (by decide) W6 at_25 ?_
  refine g_iand (pc := 27) W6 at_27 ?_
  refine g_iastore (pc := 28) (i := 0) (os' := [(b1, (.array .int), [.int (p0 &&& (7 : Int32)), .int ((XT.ushr p0 (3 : Int32)) &&& (7 : Int32)), .int (0 : Int32), .int (0 : Int32), .int (0 : Int32), .int (0 : Int32)])]) 1 W6 rfl (by decide) (by decide) (Nat.le_of_ble_eq_true rfl) rfl at_28 (fun T7 W8 => ?_)
  refine g_aload (pc := 29) W8 at_29 rfl rfl ?_
  refine g_iconst (pc := 31) (2 : Int32) (by decide) W8 at_31 ?_
  refine g_iload_n (pc := 32) W8 at_32 rfl ?_
  refine g_bipush (pc := 33) (7 : Int32) (by decide) W8 at_33 ?_
  refine g_iand (pc := 35) W8 at_35 ?_
  refine g_iastore (pc := 36) (i := 0) (os' := [(b1, (.array .int), [.int (p0 &&& (7 : Int32)), .int ((XT.ushr p0 (3 : Int32)) &&& (7 : Int32)), .int (p1 &&& (7 : Int32)), .int (0 : Int32), .int (0 : Int32), .int (0 : Int32)])]) 2 W8 rfl (by decide) (by decide) (Nat.le_of_ble_eq_true rfl) rfl at_36 (fun T9 W10 => ?_)
  refine g_aload (pc := 37) W10 at_37 rfl rfl ?_
  refine g_iconst (pc := 39) (3 : Int32) (by decide) W10 at_39 ?_
  refine g_iload_n (pc := 40) W10 at_40 rfl ?_
  refine g_iconst (pc := 41) (3 : Int32) (by decide) W10 at_41 ?_
  refine g_iushr (pc := 42) W10 at_42 ?_
  refine g_bipush (pc := 43) (7 : Int32) (by decide) W10 at_43 ?_
  refine g_iand (pc := 45) W10 at_45 ?_
  refine g_iastore (pc := 46) (i := 0) (os' := [(b1, (.array .int), [.int (p0 &&& (7 : Int32)), .int ((XT.ushr p0 (3 : Int32)) &&& (7 : Int32)), .int (p1 &&& (7 : Int32)), .int ((XT.ushr p1 (3 : Int32)) &&& (7 : Int32)), .int (0 : Int32), .int (0 : Int32)])]) 3 W10 rfl (by decide) (by decide) (Nat.le_of_ble_eq_true rfl) rfl at_46 (fun T11 W12 => ?_)
  refine g_aload (pc := 47) W12 at_47 rfl rfl ?_
  refine g_iconst (pc := 49) (4 : Int32) (by decide) W12 at_49 ?_
  refine g_iload_n (pc := 50) W12 at_50 rfl ?_
  refine g_bipush (pc := 51) (7 : Int32) (by decide) W12 at_51 ?_
  refine g_iand (pc := 53) W12 at_53 ?_
  refine g_iastore (pc := 54) (i := 0) (os' := [(b1, (.array .int), [.int (p0 &&& (7 : Int32)), .int ((XT.ushr p0 (3 : Int32)) &&& (7 : Int32)), .int (p1 &&& (7 : Int32)), .int ((XT.ushr p1 (3 : Int32)) &&& (7 : Int32)), .int (p2 &&& (7 : Int32)), .int (0 : Int32)])]) 4 W12 rfl (by decide) (by decide) (Nat.le_of_ble_eq_true rfl) rfl at_54 (fun T13 W14 => ?_)
  refine g_aload (pc := 55) W14 at_55 rfl rfl ?_
  refine g_iconst (pc := 57) (5 : Int32) (by decide) W14 at_57 ?_
  refine g_iload_n (pc := 58) W14 at_58 rfl ?_
  refine g_iconst (pc := 59) (3 : Int32) (by decide) W14 at_59 ?_
  refine g_iushr (pc := 60) W14 at_60 ?_
  refine g_bipush (pc := 61) (7 : Int32) (by decide) W14 at_61 ?_
  refine g_iand (pc := 63) W14 at_63 ?_
  refine g_iastore (pc := 64) (i := 0) (os' := [(b1, (.array .int), [.int (p0 &&& (7 : Int32)), .int ((XT.ushr p0 (3 : Int32)) &&& (7 : Int32)), .int (p1 &&& (7 : Int32)), .int ((XT.ushr p1 (3 : Int32)) &&& (7 : Int32)), .int (p2 &&& (7 : Int32)), .int ((XT.ushr p2 (3 : Int32)) &&& (7 : Int32))])]) 5 W14 rfl (by decide) (by decide) (Nat.le_of_ble_eq_true rfl) rfl at_64 (fun T15 W16 => ?_)
  obtain ⟨n0, h0, he0⟩ := own_e p0
  obtain ⟨n1, h1, he1⟩ := own_e (XT.ushr p0 (3 : Int32))
  obtain ⟨n2, h2, he2⟩ := own_e p1
  obtain ⟨n3, h3, he3⟩ := own_e (XT.ushr p1 (3 : Int32))
  obtain ⟨n4, h4, he4⟩ := own_e p2
  obtain ⟨n5, h5, he5⟩ := own_e (XT.ushr p2 (3 : Int32))
  rw [he0] at W16
  rw [he1] at W16
  rw [he2] at W16
  rw [he3] at W16
  rw [he4] at W16
  rw [he5] at W16
  refine g_new (pc := 65) (vs := [.null, .int (0 : Int32)]) W16 (wd hw 1 rfl) (wd hw 2 rfl) (wd hw 3 rfl) (cls_IntPairs hw) (by decide) at_65 (by decide) (by decide) (fun T18 b17 W19 => ?_)
  have W20 := W19.re (os' := [(b1, (.array .int), [.int (Int32.ofNat n0), .int (Int32.ofNat n1), .int (Int32.ofNat n2), .int (Int32.ofNat n3), .int (Int32.ofNat n4), .int (Int32.ofNat n5)]), (b17, O_IntPairs, [.null, .int (0 : Int32)])]) rfl
  refine g_dup (pc := 68) W20 at_68 rfl ?_
  refine g_init (pc := 69) (Wt := 1) (argsL := []) (rest := [.ref b17]) (loc := [(b17, O_IntPairs, [.null, .int (0 : Int32)])]) (rst := [(b1, (.array .int), [.int (Int32.ofNat n0), .int (Int32.ofNat n1), .int (Int32.ofNat n2), .int (Int32.ofNat n3), .int (Int32.ofNat n4), .int (Int32.ofNat n5)])]) W20 rfl (wd hw 4 rfl) (wd hw 5 rfl) (wd hw 3 rfl) (wd hw 6 rfl) (by decide) (c_init l Z a0 hw b17) ⟨[1, 0], by decide, rfl⟩ rfl pd___V rfl rfl rfl (Nat.le_of_ble_eq_true rfl) (by decide) (by decide) (by decide) (by decide) at_69 ?_
  rintro T22 _ _ ⟨rfl, b21, rfl⟩ W23
  have W24 := W23.re (os' := [(b17, O_IntPairs, [.ref b21, .int (0 : Int32)]), (b21, (.array .int), (List.replicate 64 (.int (0 : Int32)))), (b1, (.array .int), [.int (Int32.ofNat n0), .int (Int32.ofNat n1), .int (Int32.ofNat n2), .int (Int32.ofNat n3), .int (Int32.ofNat n4), .int (Int32.ofNat n5)])]) rfl
  show Go p_ e_ bl_ _ (T22.setTop (mkF m_ 72 _ [.ref b17]))
  refine g_astore (pc := 72) (ls' := #[.val (.int p0), .val (.int p1), .val (.int p2), .val (.int p3), .val (.int (p3 &&& (3 : Int32))), .val (.ref b1), .val (.ref b17), .unset, .unset, .unset, .unset]) W24 at_72 rfl rfl ?_
  rcases own_k p3 with hl | hl | hl | hl
  · rw [hl]
    refine g_iload (pc := 74) W24 at_74 rfl ?_
    refine g_ifY 93 (pc := 76) W24 at_76 (by decide) (by decide) (by decide) ?_
    refine g_iload (pc := 93) W24 at_93 rfl ?_
    refine g_iconst (pc := 95) (1 : Int32) (by decide) W24 at_95 ?_
    refine g_icmpY 113 (pc := 96) W24 at_96 (by decide) (by decide) (by decide) ?_
    refine g_iload (pc := 113) W24 at_113 rfl ?_
    refine g_iconst (pc := 115) (2 : Int32) (by decide) W24 at_115 ?_
    refine g_icmpY 133 (pc := 116) W24 at_116 (by decide) (by decide) (by decide) ?_
    refine g_iconst (pc := 133) (2 : Int32) (by decide) W24 at_133 ?_
    refine g_iload (pc := 134) W24 at_134 rfl ?_
    refine g_imul (pc := 136) W24 at_136 ?_
    show Go p_ e_ bl_ _ (T22.setTop (mkF m_ 137 _ [.int (0 : Int32)]))
    refine g_istore (pc := 137) (ls' := #[.val (.int p0), .val (.int p1), .val (.int p2), .val (.int p3), .val (.int (0 : Int32)), .val (.ref b1), .val (.ref b17), .val (.int (0 : Int32)), .unset, .unset, .unset]) W24 at_137 rfl ?_
    refine g_bipush (pc := 139) (9 : Int32) (by decide) W24 at_139 ?_
    refine g_newarray (pc := 141) (ty := .int) (vs := [.int (0 : Int32), .int (0 : Int32), .int (0 : Int32), .int (0 : Int32), .int (0 : Int32), .int (0 : Int32), .int (0 : Int32), .int (0 : Int32), .int (0 : Int32)]) 9 W24 (wd hw 0 rfl) rfl (by decide) (by decide) (by decide) rfl at_141 (by decide) (by decide) (fun T26 b25 W27 => ?_)
    have W28 := W27.re (os' := [(b17, O_IntPairs, [.ref b21, .int (0 : Int32)]), (b21, (.array .int), (List.replicate 64 (.int (0 : Int32)))), (b1, (.array .int), [.int (Int32.ofNat n0), .int (Int32.ofNat n1), .int (Int32.ofNat n2), .int (Int32.ofNat n3), .int (Int32.ofNat n4), .int (Int32.ofNat n5)]), (b25, (.array .int), [.int (0 : Int32), .int (0 : Int32), .int (0 : Int32), .int (0 : Int32), .int (0 : Int32), .int (0 : Int32), .int (0 : Int32), .int (0 : Int32), .int (0 : Int32)])]) rfl
    have W29 := W28.re (os' := [(b17, O_IntPairs, [.ref b21, .int (0 : Int32)]), (b21, (.array .int), (List.replicate 64 (.int (0 : Int32)))), (b1, (.array .int), [.int (Int32.ofNat n0), .int (Int32.ofNat n1), .int (Int32.ofNat n2), .int (Int32.ofNat n3), .int (Int32.ofNat n4), .int (Int32.ofNat n5)]), (b25, (.array .int), (fl 9 zf))]) rfl
    refine g_astore (pc := 143) (ls' := #[.val (.int p0), .val (.int p1), .val (.int p2), .val (.int p3), .val (.int (0 : Int32)), .val (.ref b1), .val (.ref b17), .val (.int (0 : Int32)), .val (.ref b25), .unset, .unset]) W29 at_143 rfl rfl ?_
    refine g_aload (pc := 145) W29 at_145 rfl rfl ?_
    refine g_aload (pc := 147) W29 at_147 rfl rfl ?_
    refine g_virtual (i := 0) (pc := 149) (Wt := 0) (argsL := [.ref b25]) (rest := []) (loc := [(b17, O_IntPairs, [.ref b21, .int (0 : Int32)]), (b21, (.array .int), (List.replicate 64 (.int (0 : Int32)))), (b25, (.array .int), (fl 9 zf))]) (rst := [(b1, (.array .int), [.int (Int32.ofNat n0), .int (Int32.ofNat n1), .int (Int32.ofNat n2), .int (Int32.ofNat n3), .int (Int32.ofNat n4), .int (Int32.ofNat n5)])]) W29 (wd hw 19 rfl) (wd hw 21 rfl) (wd hw 3 rfl) (wd hw 23 rfl) (wd hw 20 rfl) (wd hw 22 rfl) rfl (by decide) (c_part0 l Z a0 hw b17 b21 b25 (List.replicate 64 (.int (0 : Int32)))) ⟨[0, 1, 3, 2], by decide, rfl⟩ rfl pd_AI__AI rfl rfl rfl (Nat.le_of_ble_eq_true rfl) (by decide) (by decide) (by decide) (by decide) at_149 ?_
    rintro T32 _ _ ⟨b30, b31, rfl, rfl⟩ W33
    have W34 := W33.re (os' := [(b25, (.array .int), (fl 9 (ac (g1 []) 8))), (b30, (.array .int), (fl 8 (NX [] 0))), (b17, O_IntPairs, [.ref b21, .int (0 : Int32)]), (b21, (.array .int), (List.replicate 64 (.int (0 : Int32)))), (b31, (.array .int), (fl 0 (HH [] 0))), (b1, (.array .int), [.int (Int32.ofNat n0), .int (Int32.ofNat n1), .int (Int32.ofNat n2), .int (Int32.ofNat n3), .int (Int32.ofNat n4), .int (Int32.ofNat n5)])]) rfl
    show Go p_ e_ bl_ _ (T32.setTop (mkF m_ 152 _ [.ref b31]))
    refine g_astore (pc := 152) (ls' := #[.val (.int p0), .val (.int p1), .val (.int p2), .val (.int p3), .val (.int (0 : Int32)), .val (.ref b1), .val (.ref b17), .val (.int (0 : Int32)), .val (.ref b25), .val (.ref b31), .unset]) W34 at_152 rfl rfl ?_
    refine g_aload (pc := 154) W34 at_154 rfl rfl ?_
    refine g_arraylength (pc := 156) (i := 4) (0 : Int32) W34 rfl (by rw [fl_len]; rfl) at_156 ?_
    refine g_iload (pc := 157) W34 at_157 rfl ?_
    refine g_icmpY 164 (pc := 159) W34 at_159 (by decide) (by decide) (by decide) ?_
    refine g_iconst (pc := 164) (1 : Int32) (by decide) W34 at_164 ?_
    refine g_istore (pc := 165) (ls' := #[.val (.int p0), .val (.int p1), .val (.int p2), .val (.int p3), .val (.int (0 : Int32)), .val (.ref b1), .val (.ref b17), .val (.int (0 : Int32)), .val (.ref b25), .val (.ref b31), .val (.int (1 : Int32))]) W34 at_165 rfl ?_
    refine g_iload (pc := 167) W34 at_167 rfl ?_
    refine g_aload (pc := 169) W34 at_169 rfl rfl ?_
    refine g_iconst (pc := 171) (0 : Int32) (by decide) W34 at_171 ?_
    refine g_iaload (pc := 172) (i := 0) (v := .int (ac (g1 []) 8 0)) W34 rfl (by decide) (fl_get (i := 0) (by decide)) at_172 ?_
    refine g_aload (pc := 173) W34 at_173 rfl rfl ?_
    refine g_iload (pc := 175) W34 at_175 rfl ?_
    refine g_iconst (pc := 177) (0 : Int32) (by decide) W34 at_177 ?_
    refine g_static (pc := 178) (Wt := 2) (argsL := [.ref b1, .int (0 : Int32), .int (0 : Int32)]) (rest := [.int (ac (g1 []) 8 0), .int (1 : Int32)]) (loc := [(b1, (.array .int), [.int (Int32.ofNat n0), .int (Int32.ofNat n1), .int (Int32.ofNat n2), .int (Int32.ofNat n3), .int (Int32.ofNat n4), .int (Int32.ofNat n5)])]) (rst := [(b25, (.array .int), (fl 9 (ac (g1 []) 8))), (b30, (.array .int), (fl 8 (NX [] 0))), (b17, O_IntPairs, [.ref b21, .int (0 : Int32)]), (b21, (.array .int), (List.replicate 64 (.int (0 : Int32)))), (b31, (.array .int), (fl 0 (HH [] 0)))]) W34 (wd hw 46 rfl) (wd hw 47 rfl) (wd hw 48 rfl) (wd hw 49 rfl) (by decide) (c_below0 l Z a0 hw b1 (0 : Int32) (Int32.ofNat n0) (Int32.ofNat n1) (Int32.ofNat n2) (Int32.ofNat n3) (Int32.ofNat n4) (Int32.ofNat n5)) ⟨[5, 0, 1, 2, 3, 4], by decide, rfl⟩ rfl pd_AIII__I rfl rfl rfl (Nat.le_of_ble_eq_true rfl) (by decide) (by decide) (by decide) (by decide) at_178 ?_
    rintro T35 _ _ ⟨rfl, rfl⟩ W36
    have W37 := W36.re (os' := [(b1, (.array .int), [.int (Int32.ofNat n0), .int (Int32.ofNat n1), .int (Int32.ofNat n2), .int (Int32.ofNat n3), .int (Int32.ofNat n4), .int (Int32.ofNat n5)]), (b25, (.array .int), (fl 9 (ac (g1 []) 8))), (b30, (.array .int), (fl 8 (NX [] 0))), (b17, O_IntPairs, [.ref b21, .int (0 : Int32)]), (b21, (.array .int), (List.replicate 64 (.int (0 : Int32)))), (b31, (.array .int), (fl 0 (HH [] 0)))]) rfl
    show Go p_ e_ bl_ _ (T35.setTop (mkF m_ 181 _ [.int (0 : Int32), .int (ac (g1 []) 8 0), .int (1 : Int32)]))
    refine g_icmpN (pc := 181) W37 at_181 (teq (own_off0_0 )).2 ?_
    refine g_iconst (pc := 184) (1 : Int32) (by decide) W37 at_184 ?_
    refine g_goto 189 (pc := 185) W37 at_185 (by decide) (by decide) ?_
    refine g_iand (pc := 189) W37 at_189 ?_
    show Go p_ e_ bl_ _ (T35.setTop (mkF m_ 190 _ [.int (1 : Int32)]))
    refine g_istore (pc := 190) (ls' := #[.val (.int p0), .val (.int p1), .val (.int p2), .val (.int p3), .val (.int (0 : Int32)), .val (.ref b1), .val (.ref b17), .val (.int (0 : Int32)), .val (.ref b25), .val (.ref b31), .val (.int (1 : Int32))]) W37 at_190 rfl ?_
    refine g_iload (pc := 192) W37 at_192 rfl ?_
    refine g_aload (pc := 194) W37 at_194 rfl rfl ?_
    refine g_iconst (pc := 196) (1 : Int32) (by decide) W37 at_196 ?_
    refine g_iaload (pc := 197) (i := 1) (v := .int (ac (g1 []) 8 1)) W37 rfl (by decide) (fl_get (i := 1) (by decide)) at_197 ?_
    refine g_aload (pc := 198) W37 at_198 rfl rfl ?_
    refine g_iload (pc := 200) W37 at_200 rfl ?_
    refine g_iconst (pc := 202) (1 : Int32) (by decide) W37 at_202 ?_
    refine g_static (pc := 203) (Wt := 2) (argsL := [.ref b1, .int (0 : Int32), .int (1 : Int32)]) (rest := [.int (ac (g1 []) 8 1), .int (1 : Int32)]) (loc := [(b1, (.array .int), [.int (Int32.ofNat n0), .int (Int32.ofNat n1), .int (Int32.ofNat n2), .int (Int32.ofNat n3), .int (Int32.ofNat n4), .int (Int32.ofNat n5)])]) (rst := [(b25, (.array .int), (fl 9 (ac (g1 []) 8))), (b30, (.array .int), (fl 8 (NX [] 0))), (b17, O_IntPairs, [.ref b21, .int (0 : Int32)]), (b21, (.array .int), (List.replicate 64 (.int (0 : Int32)))), (b31, (.array .int), (fl 0 (HH [] 0)))]) W37 (wd hw 46 rfl) (wd hw 47 rfl) (wd hw 48 rfl) (wd hw 49 rfl) (by decide) (c_below0 l Z a0 hw b1 (1 : Int32) (Int32.ofNat n0) (Int32.ofNat n1) (Int32.ofNat n2) (Int32.ofNat n3) (Int32.ofNat n4) (Int32.ofNat n5)) ⟨[0, 1, 2, 3, 4, 5], by decide, rfl⟩ rfl pd_AIII__I rfl rfl rfl (Nat.le_of_ble_eq_true rfl) (by decide) (by decide) (by decide) (by decide) at_203 ?_
    rintro T38 _ _ ⟨rfl, rfl⟩ W39
    have W40 := W39.re (os' := [(b1, (.array .int), [.int (Int32.ofNat n0), .int (Int32.ofNat n1), .int (Int32.ofNat n2), .int (Int32.ofNat n3), .int (Int32.ofNat n4), .int (Int32.ofNat n5)]), (b25, (.array .int), (fl 9 (ac (g1 []) 8))), (b30, (.array .int), (fl 8 (NX [] 0))), (b17, O_IntPairs, [.ref b21, .int (0 : Int32)]), (b21, (.array .int), (List.replicate 64 (.int (0 : Int32)))), (b31, (.array .int), (fl 0 (HH [] 0)))]) rfl
    show Go p_ e_ bl_ _ (T38.setTop (mkF m_ 206 _ [.int (0 : Int32), .int (ac (g1 []) 8 1), .int (1 : Int32)]))
    refine g_icmpN (pc := 206) W40 at_206 (teq (own_off0_1 )).2 ?_
    refine g_iconst (pc := 209) (1 : Int32) (by decide) W40 at_209 ?_
    refine g_goto 214 (pc := 210) W40 at_210 (by decide) (by decide) ?_
    refine g_iand (pc := 214) W40 at_214 ?_
    show Go p_ e_ bl_ _ (T38.setTop (mkF m_ 215 _ [.int (1 : Int32)]))
    refine g_istore (pc := 215) (ls' := #[.val (.int p0), .val (.int p1), .val (.int p2), .val (.int p3), .val (.int (0 : Int32)), .val (.ref b1), .val (.ref b17), .val (.int (0 : Int32)), .val (.ref b25), .val (.ref b31), .val (.int (1 : Int32))]) W40 at_215 rfl ?_
    refine g_iload (pc := 217) W40 at_217 rfl ?_
    refine g_aload (pc := 219) W40 at_219 rfl rfl ?_
    refine g_iconst (pc := 221) (2 : Int32) (by decide) W40 at_221 ?_
    refine g_iaload (pc := 222) (i := 1) (v := .int (ac (g1 []) 8 2)) W40 rfl (by decide) (fl_get (i := 2) (by decide)) at_222 ?_
    refine g_aload (pc := 223) W40 at_223 rfl rfl ?_
    refine g_iload (pc := 225) W40 at_225 rfl ?_
    refine g_iconst (pc := 227) (2 : Int32) (by decide) W40 at_227 ?_
    refine g_static (pc := 228) (Wt := 2) (argsL := [.ref b1, .int (0 : Int32), .int (2 : Int32)]) (rest := [.int (ac (g1 []) 8 2), .int (1 : Int32)]) (loc := [(b1, (.array .int), [.int (Int32.ofNat n0), .int (Int32.ofNat n1), .int (Int32.ofNat n2), .int (Int32.ofNat n3), .int (Int32.ofNat n4), .int (Int32.ofNat n5)])]) (rst := [(b25, (.array .int), (fl 9 (ac (g1 []) 8))), (b30, (.array .int), (fl 8 (NX [] 0))), (b17, O_IntPairs, [.ref b21, .int (0 : Int32)]), (b21, (.array .int), (List.replicate 64 (.int (0 : Int32)))), (b31, (.array .int), (fl 0 (HH [] 0)))]) W40 (wd hw 46 rfl) (wd hw 47 rfl) (wd hw 48 rfl) (wd hw 49 rfl) (by decide) (c_below0 l Z a0 hw b1 (2 : Int32) (Int32.ofNat n0) (Int32.ofNat n1) (Int32.ofNat n2) (Int32.ofNat n3) (Int32.ofNat n4) (Int32.ofNat n5)) ⟨[0, 1, 2, 3, 4, 5], by decide, rfl⟩ rfl pd_AIII__I rfl rfl rfl (Nat.le_of_ble_eq_true rfl) (by decide) (by decide) (by decide) (by decide) at_228 ?_
    rintro T41 _ _ ⟨rfl, rfl⟩ W42
    have W43 := W42.re (os' := [(b1, (.array .int), [.int (Int32.ofNat n0), .int (Int32.ofNat n1), .int (Int32.ofNat n2), .int (Int32.ofNat n3), .int (Int32.ofNat n4), .int (Int32.ofNat n5)]), (b25, (.array .int), (fl 9 (ac (g1 []) 8))), (b30, (.array .int), (fl 8 (NX [] 0))), (b17, O_IntPairs, [.ref b21, .int (0 : Int32)]), (b21, (.array .int), (List.replicate 64 (.int (0 : Int32)))), (b31, (.array .int), (fl 0 (HH [] 0)))]) rfl
    show Go p_ e_ bl_ _ (T41.setTop (mkF m_ 231 _ [.int (0 : Int32), .int (ac (g1 []) 8 2), .int (1 : Int32)]))
    refine g_icmpN (pc := 231) W43 at_231 (teq (own_off0_2 )).2 ?_
    refine g_iconst (pc := 234) (1 : Int32) (by decide) W43 at_234 ?_
    refine g_goto 239 (pc := 235) W43 at_235 (by decide) (by decide) ?_
    refine g_iand (pc := 239) W43 at_239 ?_
    show Go p_ e_ bl_ _ (T41.setTop (mkF m_ 240 _ [.int (1 : Int32)]))
    refine g_istore (pc := 240) (ls' := #[.val (.int p0), .val (.int p1), .val (.int p2), .val (.int p3), .val (.int (0 : Int32)), .val (.ref b1), .val (.ref b17), .val (.int (0 : Int32)), .val (.ref b25), .val (.ref b31), .val (.int (1 : Int32))]) W43 at_240 rfl ?_
    refine g_iload (pc := 242) W43 at_242 rfl ?_
    refine g_aload (pc := 244) W43 at_244 rfl rfl ?_
    refine g_iconst (pc := 246) (3 : Int32) (by decide) W43 at_246 ?_
    refine g_iaload (pc := 247) (i := 1) (v := .int (ac (g1 []) 8 3)) W43 rfl (by decide) (fl_get (i := 3) (by decide)) at_247 ?_
    refine g_aload (pc := 248) W43 at_248 rfl rfl ?_
    refine g_iload (pc := 250) W43 at_250 rfl ?_
    refine g_iconst (pc := 252) (3 : Int32) (by decide) W43 at_252 ?_
    refine g_static (pc := 253) (Wt := 2) (argsL := [.ref b1, .int (0 : Int32), .int (3 : Int32)]) (rest := [.int (ac (g1 []) 8 3), .int (1 : Int32)]) (loc := [(b1, (.array .int), [.int (Int32.ofNat n0), .int (Int32.ofNat n1), .int (Int32.ofNat n2), .int (Int32.ofNat n3), .int (Int32.ofNat n4), .int (Int32.ofNat n5)])]) (rst := [(b25, (.array .int), (fl 9 (ac (g1 []) 8))), (b30, (.array .int), (fl 8 (NX [] 0))), (b17, O_IntPairs, [.ref b21, .int (0 : Int32)]), (b21, (.array .int), (List.replicate 64 (.int (0 : Int32)))), (b31, (.array .int), (fl 0 (HH [] 0)))]) W43 (wd hw 46 rfl) (wd hw 47 rfl) (wd hw 48 rfl) (wd hw 49 rfl) (by decide) (c_below0 l Z a0 hw b1 (3 : Int32) (Int32.ofNat n0) (Int32.ofNat n1) (Int32.ofNat n2) (Int32.ofNat n3) (Int32.ofNat n4) (Int32.ofNat n5)) ⟨[0, 1, 2, 3, 4, 5], by decide, rfl⟩ rfl pd_AIII__I rfl rfl rfl (Nat.le_of_ble_eq_true rfl) (by decide) (by decide) (by decide) (by decide) at_253 ?_
    rintro T44 _ _ ⟨rfl, rfl⟩ W45
    have W46 := W45.re (os' := [(b1, (.array .int), [.int (Int32.ofNat n0), .int (Int32.ofNat n1), .int (Int32.ofNat n2), .int (Int32.ofNat n3), .int (Int32.ofNat n4), .int (Int32.ofNat n5)]), (b25, (.array .int), (fl 9 (ac (g1 []) 8))), (b30, (.array .int), (fl 8 (NX [] 0))), (b17, O_IntPairs, [.ref b21, .int (0 : Int32)]), (b21, (.array .int), (List.replicate 64 (.int (0 : Int32)))), (b31, (.array .int), (fl 0 (HH [] 0)))]) rfl
    show Go p_ e_ bl_ _ (T44.setTop (mkF m_ 256 _ [.int (0 : Int32), .int (ac (g1 []) 8 3), .int (1 : Int32)]))
    refine g_icmpN (pc := 256) W46 at_256 (teq (own_off0_3 )).2 ?_
    refine g_iconst (pc := 259) (1 : Int32) (by decide) W46 at_259 ?_
    refine g_goto 264 (pc := 260) W46 at_260 (by decide) (by decide) ?_
    refine g_iand (pc := 264) W46 at_264 ?_
    show Go p_ e_ bl_ _ (T44.setTop (mkF m_ 265 _ [.int (1 : Int32)]))
    refine g_istore (pc := 265) (ls' := #[.val (.int p0), .val (.int p1), .val (.int p2), .val (.int p3), .val (.int (0 : Int32)), .val (.ref b1), .val (.ref b17), .val (.int (0 : Int32)), .val (.ref b25), .val (.ref b31), .val (.int (1 : Int32))]) W46 at_265 rfl ?_
    refine g_iload (pc := 267) W46 at_267 rfl ?_
    refine g_aload (pc := 269) W46 at_269 rfl rfl ?_
    refine g_iconst (pc := 271) (4 : Int32) (by decide) W46 at_271 ?_
    refine g_iaload (pc := 272) (i := 1) (v := .int (ac (g1 []) 8 4)) W46 rfl (by decide) (fl_get (i := 4) (by decide)) at_272 ?_
    refine g_aload (pc := 273) W46 at_273 rfl rfl ?_
    refine g_iload (pc := 275) W46 at_275 rfl ?_
    refine g_iconst (pc := 277) (4 : Int32) (by decide) W46 at_277 ?_
    refine g_static (pc := 278) (Wt := 2) (argsL := [.ref b1, .int (0 : Int32), .int (4 : Int32)]) (rest := [.int (ac (g1 []) 8 4), .int (1 : Int32)]) (loc := [(b1, (.array .int), [.int (Int32.ofNat n0), .int (Int32.ofNat n1), .int (Int32.ofNat n2), .int (Int32.ofNat n3), .int (Int32.ofNat n4), .int (Int32.ofNat n5)])]) (rst := [(b25, (.array .int), (fl 9 (ac (g1 []) 8))), (b30, (.array .int), (fl 8 (NX [] 0))), (b17, O_IntPairs, [.ref b21, .int (0 : Int32)]), (b21, (.array .int), (List.replicate 64 (.int (0 : Int32)))), (b31, (.array .int), (fl 0 (HH [] 0)))]) W46 (wd hw 46 rfl) (wd hw 47 rfl) (wd hw 48 rfl) (wd hw 49 rfl) (by decide) (c_below0 l Z a0 hw b1 (4 : Int32) (Int32.ofNat n0) (Int32.ofNat n1) (Int32.ofNat n2) (Int32.ofNat n3) (Int32.ofNat n4) (Int32.ofNat n5)) ⟨[0, 1, 2, 3, 4, 5], by decide, rfl⟩ rfl pd_AIII__I rfl rfl rfl (Nat.le_of_ble_eq_true rfl) (by decide) (by decide) (by decide) (by decide) at_278 ?_
    rintro T47 _ _ ⟨rfl, rfl⟩ W48
    have W49 := W48.re (os' := [(b1, (.array .int), [.int (Int32.ofNat n0), .int (Int32.ofNat n1), .int (Int32.ofNat n2), .int (Int32.ofNat n3), .int (Int32.ofNat n4), .int (Int32.ofNat n5)]), (b25, (.array .int), (fl 9 (ac (g1 []) 8))), (b30, (.array .int), (fl 8 (NX [] 0))), (b17, O_IntPairs, [.ref b21, .int (0 : Int32)]), (b21, (.array .int), (List.replicate 64 (.int (0 : Int32)))), (b31, (.array .int), (fl 0 (HH [] 0)))]) rfl
    show Go p_ e_ bl_ _ (T47.setTop (mkF m_ 281 _ [.int (0 : Int32), .int (ac (g1 []) 8 4), .int (1 : Int32)]))
    refine g_icmpN (pc := 281) W49 at_281 (teq (own_off0_4 )).2 ?_
    refine g_iconst (pc := 284) (1 : Int32) (by decide) W49 at_284 ?_
    refine g_goto 289 (pc := 285) W49 at_285 (by decide) (by decide) ?_
    refine g_iand (pc := 289) W49 at_289 ?_
    show Go p_ e_ bl_ _ (T47.setTop (mkF m_ 290 _ [.int (1 : Int32)]))
    refine g_istore (pc := 290) (ls' := #[.val (.int p0), .val (.int p1), .val (.int p2), .val (.int p3), .val (.int (0 : Int32)), .val (.ref b1), .val (.ref b17), .val (.int (0 : Int32)), .val (.ref b25), .val (.ref b31), .val (.int (1 : Int32))]) W49 at_290 rfl ?_
    refine g_iload (pc := 292) W49 at_292 rfl ?_
    refine g_aload (pc := 294) W49 at_294 rfl rfl ?_
    refine g_iconst (pc := 296) (5 : Int32) (by decide) W49 at_296 ?_
    refine g_iaload (pc := 297) (i := 1) (v := .int (ac (g1 []) 8 5)) W49 rfl (by decide) (fl_get (i := 5) (by decide)) at_297 ?_
    refine g_aload (pc := 298) W49 at_298 rfl rfl ?_
    refine g_iload (pc := 300) W49 at_300 rfl ?_
    refine g_iconst (pc := 302) (5 : Int32) (by decide) W49 at_302 ?_
    refine g_static (pc := 303) (Wt := 2) (argsL := [.ref b1, .int (0 : Int32), .int (5 : Int32)]) (rest := [.int (ac (g1 []) 8 5), .int (1 : Int32)]) (loc := [(b1, (.array .int), [.int (Int32.ofNat n0), .int (Int32.ofNat n1), .int (Int32.ofNat n2), .int (Int32.ofNat n3), .int (Int32.ofNat n4), .int (Int32.ofNat n5)])]) (rst := [(b25, (.array .int), (fl 9 (ac (g1 []) 8))), (b30, (.array .int), (fl 8 (NX [] 0))), (b17, O_IntPairs, [.ref b21, .int (0 : Int32)]), (b21, (.array .int), (List.replicate 64 (.int (0 : Int32)))), (b31, (.array .int), (fl 0 (HH [] 0)))]) W49 (wd hw 46 rfl) (wd hw 47 rfl) (wd hw 48 rfl) (wd hw 49 rfl) (by decide) (c_below0 l Z a0 hw b1 (5 : Int32) (Int32.ofNat n0) (Int32.ofNat n1) (Int32.ofNat n2) (Int32.ofNat n3) (Int32.ofNat n4) (Int32.ofNat n5)) ⟨[0, 1, 2, 3, 4, 5], by decide, rfl⟩ rfl pd_AIII__I rfl rfl rfl (Nat.le_of_ble_eq_true rfl) (by decide) (by decide) (by decide) (by decide) at_303 ?_
    rintro T50 _ _ ⟨rfl, rfl⟩ W51
    have W52 := W51.re (os' := [(b1, (.array .int), [.int (Int32.ofNat n0), .int (Int32.ofNat n1), .int (Int32.ofNat n2), .int (Int32.ofNat n3), .int (Int32.ofNat n4), .int (Int32.ofNat n5)]), (b25, (.array .int), (fl 9 (ac (g1 []) 8))), (b30, (.array .int), (fl 8 (NX [] 0))), (b17, O_IntPairs, [.ref b21, .int (0 : Int32)]), (b21, (.array .int), (List.replicate 64 (.int (0 : Int32)))), (b31, (.array .int), (fl 0 (HH [] 0)))]) rfl
    show Go p_ e_ bl_ _ (T50.setTop (mkF m_ 306 _ [.int (0 : Int32), .int (ac (g1 []) 8 5), .int (1 : Int32)]))
    refine g_icmpN (pc := 306) W52 at_306 (teq (own_off0_5 )).2 ?_
    refine g_iconst (pc := 309) (1 : Int32) (by decide) W52 at_309 ?_
    refine g_goto 314 (pc := 310) W52 at_310 (by decide) (by decide) ?_
    refine g_iand (pc := 314) W52 at_314 ?_
    show Go p_ e_ bl_ _ (T50.setTop (mkF m_ 315 _ [.int (1 : Int32)]))
    refine g_istore (pc := 315) (ls' := #[.val (.int p0), .val (.int p1), .val (.int p2), .val (.int p3), .val (.int (0 : Int32)), .val (.ref b1), .val (.ref b17), .val (.int (0 : Int32)), .val (.ref b25), .val (.ref b31), .val (.int (1 : Int32))]) W52 at_315 rfl ?_
    refine g_iload (pc := 317) W52 at_317 rfl ?_
    refine g_aload (pc := 319) W52 at_319 rfl rfl ?_
    refine g_bipush (pc := 321) (6 : Int32) (by decide) W52 at_321 ?_
    refine g_iaload (pc := 323) (i := 1) (v := .int (ac (g1 []) 8 6)) W52 rfl (by decide) (fl_get (i := 6) (by decide)) at_323 ?_
    refine g_aload (pc := 324) W52 at_324 rfl rfl ?_
    refine g_iload (pc := 326) W52 at_326 rfl ?_
    refine g_bipush (pc := 328) (6 : Int32) (by decide) W52 at_328 ?_
    refine g_static (pc := 330) (Wt := 2) (argsL := [.ref b1, .int (0 : Int32), .int (6 : Int32)]) (rest := [.int (ac (g1 []) 8 6), .int (1 : Int32)]) (loc := [(b1, (.array .int), [.int (Int32.ofNat n0), .int (Int32.ofNat n1), .int (Int32.ofNat n2), .int (Int32.ofNat n3), .int (Int32.ofNat n4), .int (Int32.ofNat n5)])]) (rst := [(b25, (.array .int), (fl 9 (ac (g1 []) 8))), (b30, (.array .int), (fl 8 (NX [] 0))), (b17, O_IntPairs, [.ref b21, .int (0 : Int32)]), (b21, (.array .int), (List.replicate 64 (.int (0 : Int32)))), (b31, (.array .int), (fl 0 (HH [] 0)))]) W52 (wd hw 46 rfl) (wd hw 47 rfl) (wd hw 48 rfl) (wd hw 49 rfl) (by decide) (c_below0 l Z a0 hw b1 (6 : Int32) (Int32.ofNat n0) (Int32.ofNat n1) (Int32.ofNat n2) (Int32.ofNat n3) (Int32.ofNat n4) (Int32.ofNat n5)) ⟨[0, 1, 2, 3, 4, 5], by decide, rfl⟩ rfl pd_AIII__I rfl rfl rfl (Nat.le_of_ble_eq_true rfl) (by decide) (by decide) (by decide) (by decide) at_330 ?_
    rintro T53 _ _ ⟨rfl, rfl⟩ W54
    have W55 := W54.re (os' := [(b1, (.array .int), [.int (Int32.ofNat n0), .int (Int32.ofNat n1), .int (Int32.ofNat n2), .int (Int32.ofNat n3), .int (Int32.ofNat n4), .int (Int32.ofNat n5)]), (b25, (.array .int), (fl 9 (ac (g1 []) 8))), (b30, (.array .int), (fl 8 (NX [] 0))), (b17, O_IntPairs, [.ref b21, .int (0 : Int32)]), (b21, (.array .int), (List.replicate 64 (.int (0 : Int32)))), (b31, (.array .int), (fl 0 (HH [] 0)))]) rfl
    show Go p_ e_ bl_ _ (T53.setTop (mkF m_ 333 _ [.int (0 : Int32), .int (ac (g1 []) 8 6), .int (1 : Int32)]))
    refine g_icmpN (pc := 333) W55 at_333 (teq (own_off0_6 )).2 ?_
    refine g_iconst (pc := 336) (1 : Int32) (by decide) W55 at_336 ?_
    refine g_goto 341 (pc := 337) W55 at_337 (by decide) (by decide) ?_
    refine g_iand (pc := 341) W55 at_341 ?_
    show Go p_ e_ bl_ _ (T53.setTop (mkF m_ 342 _ [.int (1 : Int32)]))
    refine g_istore (pc := 342) (ls' := #[.val (.int p0), .val (.int p1), .val (.int p2), .val (.int p3), .val (.int (0 : Int32)), .val (.ref b1), .val (.ref b17), .val (.int (0 : Int32)), .val (.ref b25), .val (.ref b31), .val (.int (1 : Int32))]) W55 at_342 rfl ?_
    refine g_iload (pc := 344) W55 at_344 rfl ?_
    refine g_aload (pc := 346) W55 at_346 rfl rfl ?_
    refine g_bipush (pc := 348) (7 : Int32) (by decide) W55 at_348 ?_
    refine g_iaload (pc := 350) (i := 1) (v := .int (ac (g1 []) 8 7)) W55 rfl (by decide) (fl_get (i := 7) (by decide)) at_350 ?_
    refine g_aload (pc := 351) W55 at_351 rfl rfl ?_
    refine g_iload (pc := 353) W55 at_353 rfl ?_
    refine g_bipush (pc := 355) (7 : Int32) (by decide) W55 at_355 ?_
    refine g_static (pc := 357) (Wt := 2) (argsL := [.ref b1, .int (0 : Int32), .int (7 : Int32)]) (rest := [.int (ac (g1 []) 8 7), .int (1 : Int32)]) (loc := [(b1, (.array .int), [.int (Int32.ofNat n0), .int (Int32.ofNat n1), .int (Int32.ofNat n2), .int (Int32.ofNat n3), .int (Int32.ofNat n4), .int (Int32.ofNat n5)])]) (rst := [(b25, (.array .int), (fl 9 (ac (g1 []) 8))), (b30, (.array .int), (fl 8 (NX [] 0))), (b17, O_IntPairs, [.ref b21, .int (0 : Int32)]), (b21, (.array .int), (List.replicate 64 (.int (0 : Int32)))), (b31, (.array .int), (fl 0 (HH [] 0)))]) W55 (wd hw 46 rfl) (wd hw 47 rfl) (wd hw 48 rfl) (wd hw 49 rfl) (by decide) (c_below0 l Z a0 hw b1 (7 : Int32) (Int32.ofNat n0) (Int32.ofNat n1) (Int32.ofNat n2) (Int32.ofNat n3) (Int32.ofNat n4) (Int32.ofNat n5)) ⟨[0, 1, 2, 3, 4, 5], by decide, rfl⟩ rfl pd_AIII__I rfl rfl rfl (Nat.le_of_ble_eq_true rfl) (by decide) (by decide) (by decide) (by decide) at_357 ?_
    rintro T56 _ _ ⟨rfl, rfl⟩ W57
    have W58 := W57.re (os' := [(b1, (.array .int), [.int (Int32.ofNat n0), .int (Int32.ofNat n1), .int (Int32.ofNat n2), .int (Int32.ofNat n3), .int (Int32.ofNat n4), .int (Int32.ofNat n5)]), (b25, (.array .int), (fl 9 (ac (g1 []) 8))), (b30, (.array .int), (fl 8 (NX [] 0))), (b17, O_IntPairs, [.ref b21, .int (0 : Int32)]), (b21, (.array .int), (List.replicate 64 (.int (0 : Int32)))), (b31, (.array .int), (fl 0 (HH [] 0)))]) rfl
    show Go p_ e_ bl_ _ (T56.setTop (mkF m_ 360 _ [.int (0 : Int32), .int (ac (g1 []) 8 7), .int (1 : Int32)]))
    refine g_icmpN (pc := 360) W58 at_360 (teq (own_off0_7 )).2 ?_
    refine g_iconst (pc := 363) (1 : Int32) (by decide) W58 at_363 ?_
    refine g_goto 368 (pc := 364) W58 at_364 (by decide) (by decide) ?_
    refine g_iand (pc := 368) W58 at_368 ?_
    show Go p_ e_ bl_ _ (T56.setTop (mkF m_ 369 _ [.int (1 : Int32)]))
    refine g_istore (pc := 369) (ls' := #[.val (.int p0), .val (.int p1), .val (.int p2), .val (.int p3), .val (.int (0 : Int32)), .val (.ref b1), .val (.ref b17), .val (.int (0 : Int32)), .val (.ref b25), .val (.ref b31), .val (.int (1 : Int32))]) W58 at_369 rfl ?_
    refine g_iload (pc := 371) W58 at_371 rfl ?_
    refine g_aload (pc := 373) W58 at_373 rfl rfl ?_
    refine g_bipush (pc := 375) (8 : Int32) (by decide) W58 at_375 ?_
    refine g_iaload (pc := 377) (i := 1) (v := .int (ac (g1 []) 8 8)) W58 rfl (by decide) (fl_get (i := 8) (by decide)) at_377 ?_
    refine g_aload (pc := 378) W58 at_378 rfl rfl ?_
    refine g_iload (pc := 380) W58 at_380 rfl ?_
    refine g_bipush (pc := 382) (8 : Int32) (by decide) W58 at_382 ?_
    refine g_static (pc := 384) (Wt := 2) (argsL := [.ref b1, .int (0 : Int32), .int (8 : Int32)]) (rest := [.int (ac (g1 []) 8 8), .int (1 : Int32)]) (loc := [(b1, (.array .int), [.int (Int32.ofNat n0), .int (Int32.ofNat n1), .int (Int32.ofNat n2), .int (Int32.ofNat n3), .int (Int32.ofNat n4), .int (Int32.ofNat n5)])]) (rst := [(b25, (.array .int), (fl 9 (ac (g1 []) 8))), (b30, (.array .int), (fl 8 (NX [] 0))), (b17, O_IntPairs, [.ref b21, .int (0 : Int32)]), (b21, (.array .int), (List.replicate 64 (.int (0 : Int32)))), (b31, (.array .int), (fl 0 (HH [] 0)))]) W58 (wd hw 46 rfl) (wd hw 47 rfl) (wd hw 48 rfl) (wd hw 49 rfl) (by decide) (c_below0 l Z a0 hw b1 (8 : Int32) (Int32.ofNat n0) (Int32.ofNat n1) (Int32.ofNat n2) (Int32.ofNat n3) (Int32.ofNat n4) (Int32.ofNat n5)) ⟨[0, 1, 2, 3, 4, 5], by decide, rfl⟩ rfl pd_AIII__I rfl rfl rfl (Nat.le_of_ble_eq_true rfl) (by decide) (by decide) (by decide) (by decide) at_384 ?_
    rintro T59 _ _ ⟨rfl, rfl⟩ W60
    have W61 := W60.re (os' := [(b1, (.array .int), [.int (Int32.ofNat n0), .int (Int32.ofNat n1), .int (Int32.ofNat n2), .int (Int32.ofNat n3), .int (Int32.ofNat n4), .int (Int32.ofNat n5)]), (b25, (.array .int), (fl 9 (ac (g1 []) 8))), (b30, (.array .int), (fl 8 (NX [] 0))), (b17, O_IntPairs, [.ref b21, .int (0 : Int32)]), (b21, (.array .int), (List.replicate 64 (.int (0 : Int32)))), (b31, (.array .int), (fl 0 (HH [] 0)))]) rfl
    show Go p_ e_ bl_ _ (T59.setTop (mkF m_ 387 _ [.int (0 : Int32), .int (ac (g1 []) 8 8), .int (1 : Int32)]))
    refine g_icmpN (pc := 387) W61 at_387 (teq (own_off0_8 )).2 ?_
    refine g_iconst (pc := 390) (1 : Int32) (by decide) W61 at_390 ?_
    refine g_goto 395 (pc := 391) W61 at_391 (by decide) (by decide) ?_
    refine g_iand (pc := 395) W61 at_395 ?_
    show Go p_ e_ bl_ _ (T59.setTop (mkF m_ 396 _ [.int (1 : Int32)]))
    refine g_istore (pc := 396) (ls' := #[.val (.int p0), .val (.int p1), .val (.int p2), .val (.int p3), .val (.int (0 : Int32)), .val (.ref b1), .val (.ref b17), .val (.int (0 : Int32)), .val (.ref b25), .val (.ref b31), .val (.int (1 : Int32))]) W61 at_396 rfl ?_
    refine g_iload (pc := 398) W61 at_398 rfl ?_
    refine g_aload (pc := 400) W61 at_400 rfl rfl ?_
    refine g_iload (pc := 402) W61 at_402 rfl ?_
    refine g_aload (pc := 404) W61 at_404 rfl rfl ?_
    refine g_iconst (pc := 406) (0 : Int32) (by decide) W61 at_406 ?_
    refine g_static (pc := 407) (Wt := 1) (argsL := [.ref b1, .int (0 : Int32), .ref b31, .int (0 : Int32)]) (rest := [.int (1 : Int32)]) (loc := [(b1, (.array .int), [.int (Int32.ofNat n0), .int (Int32.ofNat n1), .int (Int32.ofNat n2), .int (Int32.ofNat n3), .int (Int32.ofNat n4), .int (Int32.ofNat n5)]), (b31, (.array .int), (fl 0 (HH [] 0)))]) (rst := [(b25, (.array .int), (fl 9 (ac (g1 []) 8))), (b30, (.array .int), (fl 8 (NX [] 0))), (b17, O_IntPairs, [.ref b21, .int (0 : Int32)]), (b21, (.array .int), (List.replicate 64 (.int (0 : Int32))))]) W61 (wd hw 53 rfl) (wd hw 54 rfl) (wd hw 48 rfl) (wd hw 55 rfl) (by decide) (c_slot00 l Z a0 hw b1 b31 (Int32.ofNat n0) (Int32.ofNat n1) (Int32.ofNat n2) (Int32.ofNat n3) (Int32.ofNat n4) (Int32.ofNat n5) (fl 0 (HH [] 0))) ⟨[0, 5, 1, 2, 3, 4], by decide, rfl⟩ rfl pd_AIIAII__Z rfl rfl rfl (Nat.le_of_ble_eq_true rfl) (by decide) (by decide) (by decide) (by decide) at_407 ?_
    rintro T62 _ _ ⟨rfl, rfl⟩ W63
    have W64 := W63.re (os' := [(b1, (.array .int), [.int (Int32.ofNat n0), .int (Int32.ofNat n1), .int (Int32.ofNat n2), .int (Int32.ofNat n3), .int (Int32.ofNat n4), .int (Int32.ofNat n5)]), (b31, (.array .int), (fl 0 (HH [] 0))), (b25, (.array .int), (fl 9 (ac (g1 []) 8))), (b30, (.array .int), (fl 8 (NX [] 0))), (b17, O_IntPairs, [.ref b21, .int (0 : Int32)]), (b21, (.array .int), (List.replicate 64 (.int (0 : Int32))))]) rfl
    show Go p_ e_ bl_ _ (T62.setTop (mkF m_ 410 _ [.int (1 : Int32), .int (1 : Int32)]))
    refine g_iand (pc := 410) W64 at_410 ?_
    show Go p_ e_ bl_ _ (T62.setTop (mkF m_ 411 _ [.int (1 : Int32)]))
    refine g_istore (pc := 411) (ls' := #[.val (.int p0), .val (.int p1), .val (.int p2), .val (.int p3), .val (.int (0 : Int32)), .val (.ref b1), .val (.ref b17), .val (.int (0 : Int32)), .val (.ref b25), .val (.ref b31), .val (.int (1 : Int32))]) W64 at_411 rfl ?_
    refine g_iload (pc := 413) W64 at_413 rfl ?_
    refine g_aload (pc := 415) W64 at_415 rfl rfl ?_
    refine g_iload (pc := 417) W64 at_417 rfl ?_
    refine g_aload (pc := 419) W64 at_419 rfl rfl ?_
    refine g_iconst (pc := 421) (1 : Int32) (by decide) W64 at_421 ?_
    refine g_static (pc := 422) (Wt := 1) (argsL := [.ref b1, .int (0 : Int32), .ref b31, .int (1 : Int32)]) (rest := [.int (1 : Int32)]) (loc := [(b1, (.array .int), [.int (Int32.ofNat n0), .int (Int32.ofNat n1), .int (Int32.ofNat n2), .int (Int32.ofNat n3), .int (Int32.ofNat n4), .int (Int32.ofNat n5)]), (b31, (.array .int), (fl 0 (HH [] 0)))]) (rst := [(b25, (.array .int), (fl 9 (ac (g1 []) 8))), (b30, (.array .int), (fl 8 (NX [] 0))), (b17, O_IntPairs, [.ref b21, .int (0 : Int32)]), (b21, (.array .int), (List.replicate 64 (.int (0 : Int32))))]) W64 (wd hw 53 rfl) (wd hw 54 rfl) (wd hw 48 rfl) (wd hw 55 rfl) (by decide) (c_slot01 l Z a0 hw b1 b31 (Int32.ofNat n0) (Int32.ofNat n1) (Int32.ofNat n2) (Int32.ofNat n3) (Int32.ofNat n4) (Int32.ofNat n5) (fl 0 (HH [] 0))) ⟨[0, 1, 2, 3, 4, 5], by decide, rfl⟩ rfl pd_AIIAII__Z rfl rfl rfl (Nat.le_of_ble_eq_true rfl) (by decide) (by decide) (by decide) (by decide) at_422 ?_
    rintro T65 _ _ ⟨rfl, rfl⟩ W66
    have W67 := W66.re (os' := [(b1, (.array .int), [.int (Int32.ofNat n0), .int (Int32.ofNat n1), .int (Int32.ofNat n2), .int (Int32.ofNat n3), .int (Int32.ofNat n4), .int (Int32.ofNat n5)]), (b31, (.array .int), (fl 0 (HH [] 0))), (b25, (.array .int), (fl 9 (ac (g1 []) 8))), (b30, (.array .int), (fl 8 (NX [] 0))), (b17, O_IntPairs, [.ref b21, .int (0 : Int32)]), (b21, (.array .int), (List.replicate 64 (.int (0 : Int32))))]) rfl
    show Go p_ e_ bl_ _ (T65.setTop (mkF m_ 425 _ [.int (1 : Int32), .int (1 : Int32)]))
    refine g_iand (pc := 425) W67 at_425 ?_
    show Go p_ e_ bl_ _ (T65.setTop (mkF m_ 426 _ [.int (1 : Int32)]))
    refine g_istore (pc := 426) (ls' := #[.val (.int p0), .val (.int p1), .val (.int p2), .val (.int p3), .val (.int (0 : Int32)), .val (.ref b1), .val (.ref b17), .val (.int (0 : Int32)), .val (.ref b25), .val (.ref b31), .val (.int (1 : Int32))]) W67 at_426 rfl ?_
    refine g_iload (pc := 428) W67 at_428 rfl ?_
    refine g_aload (pc := 430) W67 at_430 rfl rfl ?_
    refine g_iload (pc := 432) W67 at_432 rfl ?_
    refine g_aload (pc := 434) W67 at_434 rfl rfl ?_
    refine g_iconst (pc := 436) (2 : Int32) (by decide) W67 at_436 ?_
    refine g_static (pc := 437) (Wt := 1) (argsL := [.ref b1, .int (0 : Int32), .ref b31, .int (2 : Int32)]) (rest := [.int (1 : Int32)]) (loc := [(b1, (.array .int), [.int (Int32.ofNat n0), .int (Int32.ofNat n1), .int (Int32.ofNat n2), .int (Int32.ofNat n3), .int (Int32.ofNat n4), .int (Int32.ofNat n5)]), (b31, (.array .int), (fl 0 (HH [] 0)))]) (rst := [(b25, (.array .int), (fl 9 (ac (g1 []) 8))), (b30, (.array .int), (fl 8 (NX [] 0))), (b17, O_IntPairs, [.ref b21, .int (0 : Int32)]), (b21, (.array .int), (List.replicate 64 (.int (0 : Int32))))]) W67 (wd hw 53 rfl) (wd hw 54 rfl) (wd hw 48 rfl) (wd hw 55 rfl) (by decide) (c_slot02 l Z a0 hw b1 b31 (Int32.ofNat n0) (Int32.ofNat n1) (Int32.ofNat n2) (Int32.ofNat n3) (Int32.ofNat n4) (Int32.ofNat n5) (fl 0 (HH [] 0))) ⟨[0, 1, 2, 3, 4, 5], by decide, rfl⟩ rfl pd_AIIAII__Z rfl rfl rfl (Nat.le_of_ble_eq_true rfl) (by decide) (by decide) (by decide) (by decide) at_437 ?_
    rintro T68 _ _ ⟨rfl, rfl⟩ W69
    have W70 := W69.re (os' := [(b1, (.array .int), [.int (Int32.ofNat n0), .int (Int32.ofNat n1), .int (Int32.ofNat n2), .int (Int32.ofNat n3), .int (Int32.ofNat n4), .int (Int32.ofNat n5)]), (b31, (.array .int), (fl 0 (HH [] 0))), (b25, (.array .int), (fl 9 (ac (g1 []) 8))), (b30, (.array .int), (fl 8 (NX [] 0))), (b17, O_IntPairs, [.ref b21, .int (0 : Int32)]), (b21, (.array .int), (List.replicate 64 (.int (0 : Int32))))]) rfl
    show Go p_ e_ bl_ _ (T68.setTop (mkF m_ 440 _ [.int (1 : Int32), .int (1 : Int32)]))
    refine g_iand (pc := 440) W70 at_440 ?_
    show Go p_ e_ bl_ _ (T68.setTop (mkF m_ 441 _ [.int (1 : Int32)]))
    refine g_istore (pc := 441) (ls' := #[.val (.int p0), .val (.int p1), .val (.int p2), .val (.int p3), .val (.int (0 : Int32)), .val (.ref b1), .val (.ref b17), .val (.int (0 : Int32)), .val (.ref b25), .val (.ref b31), .val (.int (1 : Int32))]) W70 at_441 rfl ?_
    refine g_iload (pc := 443) W70 at_443 rfl ?_
    refine g_aload (pc := 445) W70 at_445 rfl rfl ?_
    refine g_iload (pc := 447) W70 at_447 rfl ?_
    refine g_aload (pc := 449) W70 at_449 rfl rfl ?_
    refine g_iconst (pc := 451) (3 : Int32) (by decide) W70 at_451 ?_
    refine g_static (pc := 452) (Wt := 1) (argsL := [.ref b1, .int (0 : Int32), .ref b31, .int (3 : Int32)]) (rest := [.int (1 : Int32)]) (loc := [(b1, (.array .int), [.int (Int32.ofNat n0), .int (Int32.ofNat n1), .int (Int32.ofNat n2), .int (Int32.ofNat n3), .int (Int32.ofNat n4), .int (Int32.ofNat n5)]), (b31, (.array .int), (fl 0 (HH [] 0)))]) (rst := [(b25, (.array .int), (fl 9 (ac (g1 []) 8))), (b30, (.array .int), (fl 8 (NX [] 0))), (b17, O_IntPairs, [.ref b21, .int (0 : Int32)]), (b21, (.array .int), (List.replicate 64 (.int (0 : Int32))))]) W70 (wd hw 53 rfl) (wd hw 54 rfl) (wd hw 48 rfl) (wd hw 55 rfl) (by decide) (c_slot03 l Z a0 hw b1 b31 (Int32.ofNat n0) (Int32.ofNat n1) (Int32.ofNat n2) (Int32.ofNat n3) (Int32.ofNat n4) (Int32.ofNat n5) (fl 0 (HH [] 0))) ⟨[0, 1, 2, 3, 4, 5], by decide, rfl⟩ rfl pd_AIIAII__Z rfl rfl rfl (Nat.le_of_ble_eq_true rfl) (by decide) (by decide) (by decide) (by decide) at_452 ?_
    rintro T71 _ _ ⟨rfl, rfl⟩ W72
    have W73 := W72.re (os' := [(b1, (.array .int), [.int (Int32.ofNat n0), .int (Int32.ofNat n1), .int (Int32.ofNat n2), .int (Int32.ofNat n3), .int (Int32.ofNat n4), .int (Int32.ofNat n5)]), (b31, (.array .int), (fl 0 (HH [] 0))), (b25, (.array .int), (fl 9 (ac (g1 []) 8))), (b30, (.array .int), (fl 8 (NX [] 0))), (b17, O_IntPairs, [.ref b21, .int (0 : Int32)]), (b21, (.array .int), (List.replicate 64 (.int (0 : Int32))))]) rfl
    show Go p_ e_ bl_ _ (T71.setTop (mkF m_ 455 _ [.int (1 : Int32), .int (1 : Int32)]))
    refine g_iand (pc := 455) W73 at_455 ?_
    show Go p_ e_ bl_ _ (T71.setTop (mkF m_ 456 _ [.int (1 : Int32)]))
    refine g_istore (pc := 456) (ls' := #[.val (.int p0), .val (.int p1), .val (.int p2), .val (.int p3), .val (.int (0 : Int32)), .val (.ref b1), .val (.ref b17), .val (.int (0 : Int32)), .val (.ref b25), .val (.ref b31), .val (.int (1 : Int32))]) W73 at_456 rfl ?_
    refine g_iload (pc := 458) W73 at_458 rfl ?_
    refine g_aload (pc := 460) W73 at_460 rfl rfl ?_
    refine g_iload (pc := 462) W73 at_462 rfl ?_
    refine g_aload (pc := 464) W73 at_464 rfl rfl ?_
    refine g_iconst (pc := 466) (4 : Int32) (by decide) W73 at_466 ?_
    refine g_static (pc := 467) (Wt := 1) (argsL := [.ref b1, .int (0 : Int32), .ref b31, .int (4 : Int32)]) (rest := [.int (1 : Int32)]) (loc := [(b1, (.array .int), [.int (Int32.ofNat n0), .int (Int32.ofNat n1), .int (Int32.ofNat n2), .int (Int32.ofNat n3), .int (Int32.ofNat n4), .int (Int32.ofNat n5)]), (b31, (.array .int), (fl 0 (HH [] 0)))]) (rst := [(b25, (.array .int), (fl 9 (ac (g1 []) 8))), (b30, (.array .int), (fl 8 (NX [] 0))), (b17, O_IntPairs, [.ref b21, .int (0 : Int32)]), (b21, (.array .int), (List.replicate 64 (.int (0 : Int32))))]) W73 (wd hw 53 rfl) (wd hw 54 rfl) (wd hw 48 rfl) (wd hw 55 rfl) (by decide) (c_slot04 l Z a0 hw b1 b31 (Int32.ofNat n0) (Int32.ofNat n1) (Int32.ofNat n2) (Int32.ofNat n3) (Int32.ofNat n4) (Int32.ofNat n5) (fl 0 (HH [] 0))) ⟨[0, 1, 2, 3, 4, 5], by decide, rfl⟩ rfl pd_AIIAII__Z rfl rfl rfl (Nat.le_of_ble_eq_true rfl) (by decide) (by decide) (by decide) (by decide) at_467 ?_
    rintro T74 _ _ ⟨rfl, rfl⟩ W75
    have W76 := W75.re (os' := [(b1, (.array .int), [.int (Int32.ofNat n0), .int (Int32.ofNat n1), .int (Int32.ofNat n2), .int (Int32.ofNat n3), .int (Int32.ofNat n4), .int (Int32.ofNat n5)]), (b31, (.array .int), (fl 0 (HH [] 0))), (b25, (.array .int), (fl 9 (ac (g1 []) 8))), (b30, (.array .int), (fl 8 (NX [] 0))), (b17, O_IntPairs, [.ref b21, .int (0 : Int32)]), (b21, (.array .int), (List.replicate 64 (.int (0 : Int32))))]) rfl
    show Go p_ e_ bl_ _ (T74.setTop (mkF m_ 470 _ [.int (1 : Int32), .int (1 : Int32)]))
    refine g_iand (pc := 470) W76 at_470 ?_
    show Go p_ e_ bl_ _ (T74.setTop (mkF m_ 471 _ [.int (1 : Int32)]))
    refine g_istore (pc := 471) (ls' := #[.val (.int p0), .val (.int p1), .val (.int p2), .val (.int p3), .val (.int (0 : Int32)), .val (.ref b1), .val (.ref b17), .val (.int (0 : Int32)), .val (.ref b25), .val (.ref b31), .val (.int (1 : Int32))]) W76 at_471 rfl ?_
    refine g_iload (pc := 473) W76 at_473 rfl ?_
    refine g_aload (pc := 475) W76 at_475 rfl rfl ?_
    refine g_iload (pc := 477) W76 at_477 rfl ?_
    refine g_aload (pc := 479) W76 at_479 rfl rfl ?_
    refine g_iconst (pc := 481) (5 : Int32) (by decide) W76 at_481 ?_
    refine g_static (pc := 482) (Wt := 1) (argsL := [.ref b1, .int (0 : Int32), .ref b31, .int (5 : Int32)]) (rest := [.int (1 : Int32)]) (loc := [(b1, (.array .int), [.int (Int32.ofNat n0), .int (Int32.ofNat n1), .int (Int32.ofNat n2), .int (Int32.ofNat n3), .int (Int32.ofNat n4), .int (Int32.ofNat n5)]), (b31, (.array .int), (fl 0 (HH [] 0)))]) (rst := [(b25, (.array .int), (fl 9 (ac (g1 []) 8))), (b30, (.array .int), (fl 8 (NX [] 0))), (b17, O_IntPairs, [.ref b21, .int (0 : Int32)]), (b21, (.array .int), (List.replicate 64 (.int (0 : Int32))))]) W76 (wd hw 53 rfl) (wd hw 54 rfl) (wd hw 48 rfl) (wd hw 55 rfl) (by decide) (c_slot05 l Z a0 hw b1 b31 (Int32.ofNat n0) (Int32.ofNat n1) (Int32.ofNat n2) (Int32.ofNat n3) (Int32.ofNat n4) (Int32.ofNat n5) (fl 0 (HH [] 0))) ⟨[0, 1, 2, 3, 4, 5], by decide, rfl⟩ rfl pd_AIIAII__Z rfl rfl rfl (Nat.le_of_ble_eq_true rfl) (by decide) (by decide) (by decide) (by decide) at_482 ?_
    rintro T77 _ _ ⟨rfl, rfl⟩ W78
    have W79 := W78.re (os' := [(b1, (.array .int), [.int (Int32.ofNat n0), .int (Int32.ofNat n1), .int (Int32.ofNat n2), .int (Int32.ofNat n3), .int (Int32.ofNat n4), .int (Int32.ofNat n5)]), (b31, (.array .int), (fl 0 (HH [] 0))), (b25, (.array .int), (fl 9 (ac (g1 []) 8))), (b30, (.array .int), (fl 8 (NX [] 0))), (b17, O_IntPairs, [.ref b21, .int (0 : Int32)]), (b21, (.array .int), (List.replicate 64 (.int (0 : Int32))))]) rfl
    show Go p_ e_ bl_ _ (T77.setTop (mkF m_ 485 _ [.int (1 : Int32), .int (1 : Int32)]))
    refine g_iand (pc := 485) W79 at_485 ?_
    show Go p_ e_ bl_ _ (T77.setTop (mkF m_ 486 _ [.int (1 : Int32)]))
    refine g_istore (pc := 486) (ls' := #[.val (.int p0), .val (.int p1), .val (.int p2), .val (.int p3), .val (.int (0 : Int32)), .val (.ref b1), .val (.ref b17), .val (.int (0 : Int32)), .val (.ref b25), .val (.ref b31), .val (.int (1 : Int32))]) W79 at_486 rfl ?_
    refine g_iload (pc := 488) W79 at_488 rfl ?_
    exact g_zreturn (pc := 490) rfl (by decide) W79 at_490 (by decide) (by decide) rfl
  · rw [hl]
    refine g_iload (pc := 74) W24 at_74 rfl ?_
    refine g_ifN (pc := 76) W24 at_76 (by decide) ?_
    refine g_aload (pc := 79) W24 at_79 rfl rfl ?_
    refine g_aload (pc := 81) W24 at_81 rfl rfl ?_
    refine g_iconst (pc := 83) (0 : Int32) (by decide) W24 at_83 ?_
    refine g_iaload (pc := 84) (i := 2) (v := .int (Int32.ofNat n0)) W24 rfl (by decide) rfl at_84 ?_
    refine g_aload (pc := 85) W24 at_85 rfl rfl ?_
    refine g_iconst (pc := 87) (1 : Int32) (by decide) W24 at_87 ?_
    refine g_iaload (pc := 88) (i := 2) (v := .int (Int32.ofNat n1)) W24 rfl (by decide) rfl at_88 ?_
    refine g_virtual (i := 0) (pc := 89) (Wt := 0) (argsL := [.int (Int32.ofNat n0), .int (Int32.ofNat n1)]) (rest := []) (loc := [(b17, O_IntPairs, [.ref b21, .int (0 : Int32)]), (b21, (.array .int), (List.replicate 64 (.int (0 : Int32))))]) (rst := [(b1, (.array .int), [.int (Int32.ofNat n0), .int (Int32.ofNat n1), .int (Int32.ofNat n2), .int (Int32.ofNat n3), .int (Int32.ofNat n4), .int (Int32.ofNat n5)])]) W24 (wd hw 12 rfl) (wd hw 14 rfl) (wd hw 3 rfl) (wd hw 16 rfl) (wd hw 13 rfl) (wd hw 15 rfl) rfl (by decide) (c_add l Z a0 hw b17 b21 (0 : Int32) (1 : Int32) (Int32.ofNat n0) (Int32.ofNat n1) (List.replicate 64 (.int (0 : Int32))) 0 (by simp) (by decide) (by decide) (by decide) (by decide) (by decide) (by decide) (by decide)) ⟨[0, 1, 2], by decide, rfl⟩ rfl pd_II__Z rfl rfl rfl (Nat.le_of_ble_eq_true rfl) (by decide) (by decide) (by decide) (by decide) at_89 ?_
    rintro T80 _ _ ⟨rfl, rfl⟩ W81
    have W82 := W81.re (os' := [(b17, O_IntPairs, [.ref b21, .int (1 : Int32)]), (b21, (.array .int), (((List.replicate 64 (.int (0 : Int32))).set 0 (.int (Int32.ofNat n0))).set 1 (.int (Int32.ofNat n1)))), (b1, (.array .int), [.int (Int32.ofNat n0), .int (Int32.ofNat n1), .int (Int32.ofNat n2), .int (Int32.ofNat n3), .int (Int32.ofNat n4), .int (Int32.ofNat n5)])]) rfl
    show Go p_ e_ bl_ _ (T80.setTop (mkF m_ 92 _ [.int (1 : Int32)]))
    refine g_pop (pc := 92) W82 at_92 rfl ?_
    refine g_iload (pc := 93) W82 at_93 rfl ?_
    refine g_iconst (pc := 95) (1 : Int32) (by decide) W82 at_95 ?_
    refine g_icmpY 113 (pc := 96) W82 at_96 (by decide) (by decide) (by decide) ?_
    refine g_iload (pc := 113) W82 at_113 rfl ?_
    refine g_iconst (pc := 115) (2 : Int32) (by decide) W82 at_115 ?_
    refine g_icmpY 133 (pc := 116) W82 at_116 (by decide) (by decide) (by decide) ?_
    refine g_iconst (pc := 133) (2 : Int32) (by decide) W82 at_133 ?_
    refine g_iload (pc := 134) W82 at_134 rfl ?_
    refine g_imul (pc := 136) W82 at_136 ?_
    show Go p_ e_ bl_ _ (T80.setTop (mkF m_ 137 _ [.int (2 : Int32)]))
    refine g_istore (pc := 137) (ls' := #[.val (.int p0), .val (.int p1), .val (.int p2), .val (.int p3), .val (.int (1 : Int32)), .val (.ref b1), .val (.ref b17), .val (.int (2 : Int32)), .unset, .unset, .unset]) W82 at_137 rfl ?_
    refine g_bipush (pc := 139) (9 : Int32) (by decide) W82 at_139 ?_
    refine g_newarray (pc := 141) (ty := .int) (vs := [.int (0 : Int32), .int (0 : Int32), .int (0 : Int32), .int (0 : Int32), .int (0 : Int32), .int (0 : Int32), .int (0 : Int32), .int (0 : Int32), .int (0 : Int32)]) 9 W82 (wd hw 0 rfl) rfl (by decide) (by decide) (by decide) rfl at_141 (by decide) (by decide) (fun T84 b83 W85 => ?_)
    have W86 := W85.re (os' := [(b17, O_IntPairs, [.ref b21, .int (1 : Int32)]), (b21, (.array .int), (((List.replicate 64 (.int (0 : Int32))).set 0 (.int (Int32.ofNat n0))).set 1 (.int (Int32.ofNat n1)))), (b1, (.array .int), [.int (Int32.ofNat n0), .int (Int32.ofNat n1), .int (Int32.ofNat n2), .int (Int32.ofNat n3), .int (Int32.ofNat n4), .int (Int32.ofNat n5)]), (b83, (.array .int), [.int (0 : Int32), .int (0 : Int32), .int (0 : Int32), .int (0 : Int32), .int (0 : Int32), .int (0 : Int32), .int (0 : Int32), .int (0 : Int32), .int (0 : Int32)])]) rfl
    have W87 := W86.re (os' := [(b17, O_IntPairs, [.ref b21, .int (1 : Int32)]), (b21, (.array .int), (((List.replicate 64 (.int (0 : Int32))).set 0 (.int (Int32.ofNat n0))).set 1 (.int (Int32.ofNat n1)))), (b1, (.array .int), [.int (Int32.ofNat n0), .int (Int32.ofNat n1), .int (Int32.ofNat n2), .int (Int32.ofNat n3), .int (Int32.ofNat n4), .int (Int32.ofNat n5)]), (b83, (.array .int), (fl 9 zf))]) rfl
    refine g_astore (pc := 143) (ls' := #[.val (.int p0), .val (.int p1), .val (.int p2), .val (.int p3), .val (.int (1 : Int32)), .val (.ref b1), .val (.ref b17), .val (.int (2 : Int32)), .val (.ref b83), .unset, .unset]) W87 at_143 rfl rfl ?_
    refine g_aload (pc := 145) W87 at_145 rfl rfl ?_
    refine g_aload (pc := 147) W87 at_147 rfl rfl ?_
    refine g_virtual (i := 0) (pc := 149) (Wt := 0) (argsL := [.ref b83]) (rest := []) (loc := [(b17, O_IntPairs, [.ref b21, .int (1 : Int32)]), (b21, (.array .int), (((List.replicate 64 (.int (0 : Int32))).set 0 (.int (Int32.ofNat n0))).set 1 (.int (Int32.ofNat n1)))), (b83, (.array .int), (fl 9 zf))]) (rst := [(b1, (.array .int), [.int (Int32.ofNat n0), .int (Int32.ofNat n1), .int (Int32.ofNat n2), .int (Int32.ofNat n3), .int (Int32.ofNat n4), .int (Int32.ofNat n5)])]) W87 (wd hw 19 rfl) (wd hw 21 rfl) (wd hw 3 rfl) (wd hw 23 rfl) (wd hw 20 rfl) (wd hw 22 rfl) rfl (by decide) (c_part1 l Z a0 hw b17 b21 b83 (((List.replicate 64 (.int (0 : Int32))).set 0 (.int (Int32.ofNat n0))).set 1 (.int (Int32.ofNat n1))) n0 n1 h0 h1 rfl rfl (own_bd2_0 h0 h1).1 (own_bd2_0 h0 h1).2.1 (own_bd2_1 h0 h1).1 (own_bd2_1 h0 h1).2.1) ⟨[0, 1, 3, 2], by decide, rfl⟩ rfl pd_AI__AI rfl rfl rfl (Nat.le_of_ble_eq_true rfl) (by decide) (by decide) (by decide) (by decide) at_149 ?_
    rintro T90 _ _ ⟨b88, b89, rfl, rfl⟩ W91
    have W92 := W91.re (os' := [(b17, O_IntPairs, [.ref b21, .int (1 : Int32)]), (b21, (.array .int), (((List.replicate 64 (.int (0 : Int32))).set 0 (.int (Int32.ofNat n0))).set 1 (.int (Int32.ofNat n1)))), (b83, (.array .int), (fl 9 (ac (g1 [n0, n1]) 8))), (b88, (.array .int), (fl 8 (NX [n0, n1] 2))), (b89, (.array .int), (fl 2 (HH [n0, n1] 2))), (b1, (.array .int), [.int (Int32.ofNat n0), .int (Int32.ofNat n1), .int (Int32.ofNat n2), .int (Int32.ofNat n3), .int (Int32.ofNat n4), .int (Int32.ofNat n5)])]) rfl
    show Go p_ e_ bl_ _ (T90.setTop (mkF m_ 152 _ [.ref b89]))
    refine g_astore (pc := 152) (ls' := #[.val (.int p0), .val (.int p1), .val (.int p2), .val (.int p3), .val (.int (1 : Int32)), .val (.ref b1), .val (.ref b17), .val (.int (2 : Int32)), .val (.ref b83), .val (.ref b89), .unset]) W92 at_152 rfl rfl ?_
    refine g_aload (pc := 154) W92 at_154 rfl rfl ?_
    refine g_arraylength (pc := 156) (i := 4) (2 : Int32) W92 rfl (by rw [fl_len]; rfl) at_156 ?_
    refine g_iload (pc := 157) W92 at_157 rfl ?_
    refine g_icmpY 164 (pc := 159) W92 at_159 (by decide) (by decide) (by decide) ?_
    refine g_iconst (pc := 164) (1 : Int32) (by decide) W92 at_164 ?_
    refine g_istore (pc := 165) (ls' := #[.val (.int p0), .val (.int p1), .val (.int p2), .val (.int p3), .val (.int (1 : Int32)), .val (.ref b1), .val (.ref b17), .val (.int (2 : Int32)), .val (.ref b83), .val (.ref b89), .val (.int (1 : Int32))]) W92 at_165 rfl ?_
    refine g_iload (pc := 167) W92 at_167 rfl ?_
    refine g_aload (pc := 169) W92 at_169 rfl rfl ?_
    refine g_iconst (pc := 171) (0 : Int32) (by decide) W92 at_171 ?_
    refine g_iaload (pc := 172) (i := 2) (v := .int (ac (g1 [n0, n1]) 8 0)) W92 rfl (by decide) (fl_get (i := 0) (by decide)) at_172 ?_
    refine g_aload (pc := 173) W92 at_173 rfl rfl ?_
    refine g_iload (pc := 175) W92 at_175 rfl ?_
    refine g_iconst (pc := 177) (0 : Int32) (by decide) W92 at_177 ?_
    refine g_static (pc := 178) (Wt := 2) (argsL := [.ref b1, .int (2 : Int32), .int (0 : Int32)]) (rest := [.int (ac (g1 [n0, n1]) 8 0), .int (1 : Int32)]) (loc := [(b1, (.array .int), [.int (Int32.ofNat n0), .int (Int32.ofNat n1), .int (Int32.ofNat n2), .int (Int32.ofNat n3), .int (Int32.ofNat n4), .int (Int32.ofNat n5)])]) (rst := [(b17, O_IntPairs, [.ref b21, .int (1 : Int32)]), (b21, (.array .int), (((List.replicate 64 (.int (0 : Int32))).set 0 (.int (Int32.ofNat n0))).set 1 (.int (Int32.ofNat n1)))), (b83, (.array .int), (fl 9 (ac (g1 [n0, n1]) 8))), (b88, (.array .int), (fl 8 (NX [n0, n1] 2))), (b89, (.array .int), (fl 2 (HH [n0, n1] 2)))]) W92 (wd hw 46 rfl) (wd hw 47 rfl) (wd hw 48 rfl) (wd hw 49 rfl) (by decide) (c_below2 l Z a0 hw b1 (0 : Int32) (Int32.ofNat n0) (Int32.ofNat n1) (Int32.ofNat n2) (Int32.ofNat n3) (Int32.ofNat n4) (Int32.ofNat n5)) ⟨[5, 0, 1, 2, 3, 4], by decide, rfl⟩ rfl pd_AIII__I rfl rfl rfl (Nat.le_of_ble_eq_true rfl) (by decide) (by decide) (by decide) (by decide) at_178 ?_
    rintro T93 _ _ ⟨rfl, rfl⟩ W94
    have W95 := W94.re (os' := [(b1, (.array .int), [.int (Int32.ofNat n0), .int (Int32.ofNat n1), .int (Int32.ofNat n2), .int (Int32.ofNat n3), .int (Int32.ofNat n4), .int (Int32.ofNat n5)]), (b17, O_IntPairs, [.ref b21, .int (1 : Int32)]), (b21, (.array .int), (((List.replicate 64 (.int (0 : Int32))).set 0 (.int (Int32.ofNat n0))).set 1 (.int (Int32.ofNat n1)))), (b83, (.array .int), (fl 9 (ac (g1 [n0, n1]) 8))), (b88, (.array .int), (fl 8 (NX [n0, n1] 2))), (b89, (.array .int), (fl 2 (HH [n0, n1] 2)))]) rfl
    show Go p_ e_ bl_ _ (T93.setTop (mkF m_ 181 _ [.int ((((((if (Int32.ofNat n0) < (0 : Int32) then (1 : Int32) else (0 : Int32)) + (if (Int32.ofNat n1) < (0 : Int32) then (1 : Int32) else (0 : Int32))) + (0 : Int32)) + (0 : Int32)) + (0 : Int32)) + (0 : Int32)), .int (ac (g1 [n0, n1]) 8 0), .int (1 : Int32)]))
    refine g_icmpN (pc := 181) W95 at_181 (teq (own_off2_0 h0 h1)).2 ?_
    refine g_iconst (pc := 184) (1 : Int32) (by decide) W95 at_184 ?_
    refine g_goto 189 (pc := 185) W95 at_185 (by decide) (by decide) ?_
    refine g_iand (pc := 189) W95 at_189 ?_
    show Go p_ e_ bl_ _ (T93.setTop (mkF m_ 190 _ [.int (1 : Int32)]))
    refine g_istore (pc := 190) (ls' := #[.val (.int p0), .val (.int p1), .val (.int p2), .val (.int p3), .val (.int (1 : Int32)), .val (.ref b1), .val (.ref b17), .val (.int (2 : Int32)), .val (.ref b83), .val (.ref b89), .val (.int (1 : Int32))]) W95 at_190 rfl ?_
    refine g_iload (pc := 192) W95 at_192 rfl ?_
    refine g_aload (pc := 194) W95 at_194 rfl rfl ?_
    refine g_iconst (pc := 196) (1 : Int32) (by decide) W95 at_196 ?_
    refine g_iaload (pc := 197) (i := 3) (v := .int (ac (g1 [n0, n1]) 8 1)) W95 rfl (by decide) (fl_get (i := 1) (by decide)) at_197 ?_
    refine g_aload (pc := 198) W95 at_198 rfl rfl ?_
    refine g_iload (pc := 200) W95 at_200 rfl ?_
    refine g_iconst (pc := 202) (1 : Int32) (by decide) W95 at_202 ?_
    refine g_static (pc := 203) (Wt := 2) (argsL := [.ref b1, .int (2 : Int32), .int (1 : Int32)]) (rest := [.int (ac (g1 [n0, n1]) 8 1), .int (1 : Int32)]) (loc := [(b1, (.array .int), [.int (Int32.ofNat n0), .int (Int32.ofNat n1), .int (Int32.ofNat n2), .int (Int32.ofNat n3), .int (Int32.ofNat n4), .int (Int32.ofNat n5)])]) (rst := [(b17, O_IntPairs, [.ref b21, .int (1 : Int32)]), (b21, (.array .int), (((List.replicate 64 (.int (0 : Int32))).set 0 (.int (Int32.ofNat n0))).set 1 (.int (Int32.ofNat n1)))), (b83, (.array .int), (fl 9 (ac (g1 [n0, n1]) 8))), (b88, (.array .int), (fl 8 (NX [n0, n1] 2))), (b89, (.array .int), (fl 2 (HH [n0, n1] 2)))]) W95 (wd hw 46 rfl) (wd hw 47 rfl) (wd hw 48 rfl) (wd hw 49 rfl) (by decide) (c_below2 l Z a0 hw b1 (1 : Int32) (Int32.ofNat n0) (Int32.ofNat n1) (Int32.ofNat n2) (Int32.ofNat n3) (Int32.ofNat n4) (Int32.ofNat n5)) ⟨[0, 1, 2, 3, 4, 5], by decide, rfl⟩ rfl pd_AIII__I rfl rfl rfl (Nat.le_of_ble_eq_true rfl) (by decide) (by decide) (by decide) (by decide) at_203 ?_
    rintro T96 _ _ ⟨rfl, rfl⟩ W97
    have W98 := W97.re (os' := [(b1, (.array .int), [.int (Int32.ofNat n0), .int (Int32.ofNat n1), .int (Int32.ofNat n2), .int (Int32.ofNat n3), .int (Int32.ofNat n4), .int (Int32.ofNat n5)]), (b17, O_IntPairs, [.ref b21, .int (1 : Int32)]), (b21, (.array .int), (((List.replicate 64 (.int (0 : Int32))).set 0 (.int (Int32.ofNat n0))).set 1 (.int (Int32.ofNat n1)))), (b83, (.array .int), (fl 9 (ac (g1 [n0, n1]) 8))), (b88, (.array .int), (fl 8 (NX [n0, n1] 2))), (b89, (.array .int), (fl 2 (HH [n0, n1] 2)))]) rfl
    show Go p_ e_ bl_ _ (T96.setTop (mkF m_ 206 _ [.int ((((((if (Int32.ofNat n0) < (1 : Int32) then (1 : Int32) else (0 : Int32)) + (if (Int32.ofNat n1) < (1 : Int32) then (1 : Int32) else (0 : Int32))) + (0 : Int32)) + (0 : Int32)) + (0 : Int32)) + (0 : Int32)), .int (ac (g1 [n0, n1]) 8 1), .int (1 : Int32)]))
    refine g_icmpN (pc := 206) W98 at_206 (teq (own_off2_1 h0 h1)).2 ?_
    refine g_iconst (pc := 209) (1 : Int32) (by decide) W98 at_209 ?_
    refine g_goto 214 (pc := 210) W98 at_210 (by decide) (by decide) ?_
    refine g_iand (pc := 214) W98 at_214 ?_
    show Go p_ e_ bl_ _ (T96.setTop (mkF m_ 215 _ [.int (1 : Int32)]))
    refine g_istore (pc := 215) (ls' := #[.val (.int p0), .val (.int p1), .val (.int p2), .val (.int p3), .val (.int (1 : Int32)), .val (.ref b1), .val (.ref b17), .val (.int (2 : Int32)), .val (.ref b83), .val (.ref b89), .val (.int (1 : Int32))]) W98 at_215 rfl ?_
    refine g_iload (pc := 217) W98 at_217 rfl ?_
    refine g_aload (pc := 219) W98 at_219 rfl rfl ?_
    refine g_iconst (pc := 221) (2 : Int32) (by decide) W98 at_221 ?_
    refine g_iaload (pc := 222) (i := 3) (v := .int (ac (g1 [n0, n1]) 8 2)) W98 rfl (by decide) (fl_get (i := 2) (by decide)) at_222 ?_
    refine g_aload (pc := 223) W98 at_223 rfl rfl ?_
    refine g_iload (pc := 225) W98 at_225 rfl ?_
    refine g_iconst (pc := 227) (2 : Int32) (by decide) W98 at_227 ?_
    refine g_static (pc := 228) (Wt := 2) (argsL := [.ref b1, .int (2 : Int32), .int (2 : Int32)]) (rest := [.int (ac (g1 [n0, n1]) 8 2), .int (1 : Int32)]) (loc := [(b1, (.array .int), [.int (Int32.ofNat n0), .int (Int32.ofNat n1), .int (Int32.ofNat n2), .int (Int32.ofNat n3), .int (Int32.ofNat n4), .int (Int32.ofNat n5)])]) (rst := [(b17, O_IntPairs, [.ref b21, .int (1 : Int32)]), (b21, (.array .int), (((List.replicate 64 (.int (0 : Int32))).set 0 (.int (Int32.ofNat n0))).set 1 (.int (Int32.ofNat n1)))), (b83, (.array .int), (fl 9 (ac (g1 [n0, n1]) 8))), (b88, (.array .int), (fl 8 (NX [n0, n1] 2))), (b89, (.array .int), (fl 2 (HH [n0, n1] 2)))]) W98 (wd hw 46 rfl) (wd hw 47 rfl) (wd hw 48 rfl) (wd hw 49 rfl) (by decide) (c_below2 l Z a0 hw b1 (2 : Int32) (Int32.ofNat n0) (Int32.ofNat n1) (Int32.ofNat n2) (Int32.ofNat n3) (Int32.ofNat n4) (Int32.ofNat n5)) ⟨[0, 1, 2, 3, 4, 5], by decide, rfl⟩ rfl pd_AIII__I rfl rfl rfl (Nat.le_of_ble_eq_true rfl) (by decide) (by decide) (by decide) (by decide) at_228 ?_
    rintro T99 _ _ ⟨rfl, rfl⟩ W100
    have W101 := W100.re (os' := [(b1, (.array .int), [.int (Int32.ofNat n0), .int (Int32.ofNat n1), .int (Int32.ofNat n2), .int (Int32.ofNat n3), .int (Int32.ofNat n4), .int (Int32.ofNat n5)]), (b17, O_IntPairs, [.ref b21, .int (1 : Int32)]), (b21, (.array .int), (((List.replicate 64 (.int (0 : Int32))).set 0 (.int (Int32.ofNat n0))).set 1 (.int (Int32.ofNat n1)))), (b83, (.array .int), (fl 9 (ac (g1 [n0, n1]) 8))), (b88, (.array .int), (fl 8 (NX [n0, n1] 2))), (b89, (.array .int), (fl 2 (HH [n0, n1] 2)))]) rfl
    show Go p_ e_ bl_ _ (T99.setTop (mkF m_ 231 _ [.int ((((((if (Int32.ofNat n0) < (2 : Int32) then (1 : Int32) else (0 : Int32)) + (if (Int32.ofNat n1) < (2 : Int32) then (1 : Int32) else (0 : Int32))) + (0 : Int32)) + (0 : Int32)) + (0 : Int32)) + (0 : Int32)), .int (ac (g1 [n0, n1]) 8 2), .int (1 : Int32)]))
    refine g_icmpN (pc := 231) W101 at_231 (teq (own_off2_2 h0 h1)).2 ?_
    refine g_iconst (pc := 234) (1 : Int32) (by decide) W101 at_234 ?_
    refine g_goto 239 (pc := 235) W101 at_235 (by decide) (by decide) ?_
    refine g_iand (pc := 239) W101 at_239 ?_
    show Go p_ e_ bl_ _ (T99.setTop (mkF m_ 240 _ [.int (1 : Int32)]))
    refine g_istore (pc := 240) (ls' := #[.val (.int p0), .val (.int p1), .val (.int p2), .val (.int p3), .val (.int (1 : Int32)), .val (.ref b1), .val (.ref b17), .val (.int (2 : Int32)), .val (.ref b83), .val (.ref b89), .val (.int (1 : Int32))]) W101 at_240 rfl ?_
    refine g_iload (pc := 242) W101 at_242 rfl ?_
    refine g_aload (pc := 244) W101 at_244 rfl rfl ?_
    refine g_iconst (pc := 246) (3 : Int32) (by decide) W101 at_246 ?_
    refine g_iaload (pc := 247) (i := 3) (v := .int (ac (g1 [n0, n1]) 8 3)) W101 rfl (by decide) (fl_get (i := 3) (by decide)) at_247 ?_
    refine g_aload (pc := 248) W101 at_248 rfl rfl ?_
    refine g_iload (pc := 250) W101 at_250 rfl ?_
    refine g_iconst (pc := 252) (3 : Int32) (by decide) W101 at_252 ?_
    refine g_static (pc := 253) (Wt := 2) (argsL := [.ref b1, .int (2 : Int32), .int (3 : Int32)]) (rest := [.int (ac (g1 [n0, n1]) 8 3), .int (1 : Int32)]) (loc := [(b1, (.array .int), [.int (Int32.ofNat n0), .int (Int32.ofNat n1), .int (Int32.ofNat n2), .int (Int32.ofNat n3), .int (Int32.ofNat n4), .int (Int32.ofNat n5)])]) (rst := [(b17, O_IntPairs, [.ref b21, .int (1 : Int32)]), (b21, (.array .int), (((List.replicate 64 (.int (0 : Int32))).set 0 (.int (Int32.ofNat n0))).set 1 (.int (Int32.ofNat n1)))), (b83, (.array .int), (fl 9 (ac (g1 [n0, n1]) 8))), (b88, (.array .int), (fl 8 (NX [n0, n1] 2))), (b89, (.array .int), (fl 2 (HH [n0, n1] 2)))]) W101 (wd hw 46 rfl) (wd hw 47 rfl) (wd hw 48 rfl) (wd hw 49 rfl) (by decide) (c_below2 l Z a0 hw b1 (3 : Int32) (Int32.ofNat n0) (Int32.ofNat n1) (Int32.ofNat n2) (Int32.ofNat n3) (Int32.ofNat n4) (Int32.ofNat n5)) ⟨[0, 1, 2, 3, 4, 5], by decide, rfl⟩ rfl pd_AIII__I rfl rfl rfl (Nat.le_of_ble_eq_true rfl) (by decide) (by decide) (by decide) (by decide) at_253 ?_
    rintro T102 _ _ ⟨rfl, rfl⟩ W103
    have W104 := W103.re (os' := [(b1, (.array .int), [.int (Int32.ofNat n0), .int (Int32.ofNat n1), .int (Int32.ofNat n2), .int (Int32.ofNat n3), .int (Int32.ofNat n4), .int (Int32.ofNat n5)]), (b17, O_IntPairs, [.ref b21, .int (1 : Int32)]), (b21, (.array .int), (((List.replicate 64 (.int (0 : Int32))).set 0 (.int (Int32.ofNat n0))).set 1 (.int (Int32.ofNat n1)))), (b83, (.array .int), (fl 9 (ac (g1 [n0, n1]) 8))), (b88, (.array .int), (fl 8 (NX [n0, n1] 2))), (b89, (.array .int), (fl 2 (HH [n0, n1] 2)))]) rfl
    show Go p_ e_ bl_ _ (T102.setTop (mkF m_ 256 _ [.int ((((((if (Int32.ofNat n0) < (3 : Int32) then (1 : Int32) else (0 : Int32)) + (if (Int32.ofNat n1) < (3 : Int32) then (1 : Int32) else (0 : Int32))) + (0 : Int32)) + (0 : Int32)) + (0 : Int32)) + (0 : Int32)), .int (ac (g1 [n0, n1]) 8 3), .int (1 : Int32)]))
    refine g_icmpN (pc := 256) W104 at_256 (teq (own_off2_3 h0 h1)).2 ?_
    refine g_iconst (pc := 259) (1 : Int32) (by decide) W104 at_259 ?_
    refine g_goto 264 (pc := 260) W104 at_260 (by decide) (by decide) ?_
    refine g_iand (pc := 264) W104 at_264 ?_
    show Go p_ e_ bl_ _ (T102.setTop (mkF m_ 265 _ [.int (1 : Int32)]))
    refine g_istore (pc := 265) (ls' := #[.val (.int p0), .val (.int p1), .val (.int p2), .val (.int p3), .val (.int (1 : Int32)), .val (.ref b1), .val (.ref b17), .val (.int (2 : Int32)), .val (.ref b83), .val (.ref b89), .val (.int (1 : Int32))]) W104 at_265 rfl ?_
    refine g_iload (pc := 267) W104 at_267 rfl ?_
    refine g_aload (pc := 269) W104 at_269 rfl rfl ?_
    refine g_iconst (pc := 271) (4 : Int32) (by decide) W104 at_271 ?_
    refine g_iaload (pc := 272) (i := 3) (v := .int (ac (g1 [n0, n1]) 8 4)) W104 rfl (by decide) (fl_get (i := 4) (by decide)) at_272 ?_
    refine g_aload (pc := 273) W104 at_273 rfl rfl ?_
    refine g_iload (pc := 275) W104 at_275 rfl ?_
    refine g_iconst (pc := 277) (4 : Int32) (by decide) W104 at_277 ?_
    refine g_static (pc := 278) (Wt := 2) (argsL := [.ref b1, .int (2 : Int32), .int (4 : Int32)]) (rest := [.int (ac (g1 [n0, n1]) 8 4), .int (1 : Int32)]) (loc := [(b1, (.array .int), [.int (Int32.ofNat n0), .int (Int32.ofNat n1), .int (Int32.ofNat n2), .int (Int32.ofNat n3), .int (Int32.ofNat n4), .int (Int32.ofNat n5)])]) (rst := [(b17, O_IntPairs, [.ref b21, .int (1 : Int32)]), (b21, (.array .int), (((List.replicate 64 (.int (0 : Int32))).set 0 (.int (Int32.ofNat n0))).set 1 (.int (Int32.ofNat n1)))), (b83, (.array .int), (fl 9 (ac (g1 [n0, n1]) 8))), (b88, (.array .int), (fl 8 (NX [n0, n1] 2))), (b89, (.array .int), (fl 2 (HH [n0, n1] 2)))]) W104 (wd hw 46 rfl) (wd hw 47 rfl) (wd hw 48 rfl) (wd hw 49 rfl) (by decide) (c_below2 l Z a0 hw b1 (4 : Int32) (Int32.ofNat n0) (Int32.ofNat n1) (Int32.ofNat n2) (Int32.ofNat n3) (Int32.ofNat n4) (Int32.ofNat n5)) ⟨[0, 1, 2, 3, 4, 5], by decide, rfl⟩ rfl pd_AIII__I rfl rfl rfl (Nat.le_of_ble_eq_true rfl) (by decide) (by decide) (by decide) (by decide) at_278 ?_
    rintro T105 _ _ ⟨rfl, rfl⟩ W106
    have W107 := W106.re (os' := [(b1, (.array .int), [.int (Int32.ofNat n0), .int (Int32.ofNat n1), .int (Int32.ofNat n2), .int (Int32.ofNat n3), .int (Int32.ofNat n4), .int (Int32.ofNat n5)]), (b17, O_IntPairs, [.ref b21, .int (1 : Int32)]), (b21, (.array .int), (((List.replicate 64 (.int (0 : Int32))).set 0 (.int (Int32.ofNat n0))).set 1 (.int (Int32.ofNat n1)))), (b83, (.array .int), (fl 9 (ac (g1 [n0, n1]) 8))), (b88, (.array .int), (fl 8 (NX [n0, n1] 2))), (b89, (.array .int), (fl 2 (HH [n0, n1] 2)))]) rfl
    show Go p_ e_ bl_ _ (T105.setTop (mkF m_ 281 _ [.int ((((((if (Int32.ofNat n0) < (4 : Int32) then (1 : Int32) else (0 : Int32)) + (if (Int32.ofNat n1) < (4 : Int32) then (1 : Int32) else (0 : Int32))) + (0 : Int32)) + (0 : Int32)) + (0 : Int32)) + (0 : Int32)), .int (ac (g1 [n0, n1]) 8 4), .int (1 : Int32)]))
    refine g_icmpN (pc := 281) W107 at_281 (teq (own_off2_4 h0 h1)).2 ?_
    refine g_iconst (pc := 284) (1 : Int32) (by decide) W107 at_284 ?_
    refine g_goto 289 (pc := 285) W107 at_285 (by decide) (by decide) ?_
    refine g_iand (pc := 289) W107 at_289 ?_
    show Go p_ e_ bl_ _ (T105.setTop (mkF m_ 290 _ [.int (1 : Int32)]))
    refine g_istore (pc := 290) (ls' := #[.val (.int p0), .val (.int p1), .val (.int p2), .val (.int p3), .val (.int (1 : Int32)), .val (.ref b1), .val (.ref b17), .val (.int (2 : Int32)), .val (.ref b83), .val (.ref b89), .val (.int (1 : Int32))]) W107 at_290 rfl ?_
    refine g_iload (pc := 292) W107 at_292 rfl ?_
    refine g_aload (pc := 294) W107 at_294 rfl rfl ?_
    refine g_iconst (pc := 296) (5 : Int32) (by decide) W107 at_296 ?_
    refine g_iaload (pc := 297) (i := 3) (v := .int (ac (g1 [n0, n1]) 8 5)) W107 rfl (by decide) (fl_get (i := 5) (by decide)) at_297 ?_
    refine g_aload (pc := 298) W107 at_298 rfl rfl ?_
    refine g_iload (pc := 300) W107 at_300 rfl ?_
    refine g_iconst (pc := 302) (5 : Int32) (by decide) W107 at_302 ?_
    refine g_static (pc := 303) (Wt := 2) (argsL := [.ref b1, .int (2 : Int32), .int (5 : Int32)]) (rest := [.int (ac (g1 [n0, n1]) 8 5), .int (1 : Int32)]) (loc := [(b1, (.array .int), [.int (Int32.ofNat n0), .int (Int32.ofNat n1), .int (Int32.ofNat n2), .int (Int32.ofNat n3), .int (Int32.ofNat n4), .int (Int32.ofNat n5)])]) (rst := [(b17, O_IntPairs, [.ref b21, .int (1 : Int32)]), (b21, (.array .int), (((List.replicate 64 (.int (0 : Int32))).set 0 (.int (Int32.ofNat n0))).set 1 (.int (Int32.ofNat n1)))), (b83, (.array .int), (fl 9 (ac (g1 [n0, n1]) 8))), (b88, (.array .int), (fl 8 (NX [n0, n1] 2))), (b89, (.array .int), (fl 2 (HH [n0, n1] 2)))]) W107 (wd hw 46 rfl) (wd hw 47 rfl) (wd hw 48 rfl) (wd hw 49 rfl) (by decide) (c_below2 l Z a0 hw b1 (5 : Int32) (Int32.ofNat n0) (Int32.ofNat n1) (Int32.ofNat n2) (Int32.ofNat n3) (Int32.ofNat n4) (Int32.ofNat n5)) ⟨[0, 1, 2, 3, 4, 5], by decide, rfl⟩ rfl pd_AIII__I rfl rfl rfl (Nat.le_of_ble_eq_true rfl) (by decide) (by decide) (by decide) (by decide) at_303 ?_
    rintro T108 _ _ ⟨rfl, rfl⟩ W109
    have W110 := W109.re (os' := [(b1, (.array .int), [.int (Int32.ofNat n0), .int (Int32.ofNat n1), .int (Int32.ofNat n2), .int (Int32.ofNat n3), .int (Int32.ofNat n4), .int (Int32.ofNat n5)]), (b17, O_IntPairs, [.ref b21, .int (1 : Int32)]), (b21, (.array .int), (((List.replicate 64 (.int (0 : Int32))).set 0 (.int (Int32.ofNat n0))).set 1 (.int (Int32.ofNat n1)))), (b83, (.array .int), (fl 9 (ac (g1 [n0, n1]) 8))), (b88, (.array .int), (fl 8 (NX [n0, n1] 2))), (b89, (.array .int), (fl 2 (HH [n0, n1] 2)))]) rfl
    show Go p_ e_ bl_ _ (T108.setTop (mkF m_ 306 _ [.int ((((((if (Int32.ofNat n0) < (5 : Int32) then (1 : Int32) else (0 : Int32)) + (if (Int32.ofNat n1) < (5 : Int32) then (1 : Int32) else (0 : Int32))) + (0 : Int32)) + (0 : Int32)) + (0 : Int32)) + (0 : Int32)), .int (ac (g1 [n0, n1]) 8 5), .int (1 : Int32)]))
    refine g_icmpN (pc := 306) W110 at_306 (teq (own_off2_5 h0 h1)).2 ?_
    refine g_iconst (pc := 309) (1 : Int32) (by decide) W110 at_309 ?_
    refine g_goto 314 (pc := 310) W110 at_310 (by decide) (by decide) ?_
    refine g_iand (pc := 314) W110 at_314 ?_
    show Go p_ e_ bl_ _ (T108.setTop (mkF m_ 315 _ [.int (1 : Int32)]))
    refine g_istore (pc := 315) (ls' := #[.val (.int p0), .val (.int p1), .val (.int p2), .val (.int p3), .val (.int (1 : Int32)), .val (.ref b1), .val (.ref b17), .val (.int (2 : Int32)), .val (.ref b83), .val (.ref b89), .val (.int (1 : Int32))]) W110 at_315 rfl ?_
    refine g_iload (pc := 317) W110 at_317 rfl ?_
    refine g_aload (pc := 319) W110 at_319 rfl rfl ?_
    refine g_bipush (pc := 321) (6 : Int32) (by decide) W110 at_321 ?_
    refine g_iaload (pc := 323) (i := 3) (v := .int (ac (g1 [n0, n1]) 8 6)) W110 rfl (by decide) (fl_get (i := 6) (by decide)) at_323 ?_
    refine g_aload (pc := 324) W110 at_324 rfl rfl ?_
    refine g_iload (pc := 326) W110 at_326 rfl ?_
    refine g_bipush (pc := 328) (6 : Int32) (by decide) W110 at_328 ?_
    refine g_static (pc := 330) (Wt := 2) (argsL := [.ref b1, .int (2 : Int32), .int (6 : Int32)]) (rest := [.int (ac (g1 [n0, n1]) 8 6), .int (1 : Int32)]) (loc := [(b1, (.array .int), [.int (Int32.ofNat n0), .int (Int32.ofNat n1), .int (Int32.ofNat n2), .int (Int32.ofNat n3), .int (Int32.ofNat n4), .int (Int32.ofNat n5)])]) (rst := [(b17, O_IntPairs, [.ref b21, .int (1 : Int32)]), (b21, (.array .int), (((List.replicate 64 (.int (0 : Int32))).set 0 (.int (Int32.ofNat n0))).set 1 (.int (Int32.ofNat n1)))), (b83, (.array .int), (fl 9 (ac (g1 [n0, n1]) 8))), (b88, (.array .int), (fl 8 (NX [n0, n1] 2))), (b89, (.array .int), (fl 2 (HH [n0, n1] 2)))]) W110 (wd hw 46 rfl) (wd hw 47 rfl) (wd hw 48 rfl) (wd hw 49 rfl) (by decide) (c_below2 l Z a0 hw b1 (6 : Int32) (Int32.ofNat n0) (Int32.ofNat n1) (Int32.ofNat n2) (Int32.ofNat n3) (Int32.ofNat n4) (Int32.ofNat n5)) ⟨[0, 1, 2, 3, 4, 5], by decide, rfl⟩ rfl pd_AIII__I rfl rfl rfl (Nat.le_of_ble_eq_true rfl) (by decide) (by decide) (by decide) (by decide) at_330 ?_
    rintro T111 _ _ ⟨rfl, rfl⟩ W112
    have W113 := W112.re (os' := [(b1, (.array .int), [.int (Int32.ofNat n0), .int (Int32.ofNat n1), .int (Int32.ofNat n2), .int (Int32.ofNat n3), .int (Int32.ofNat n4), .int (Int32.ofNat n5)]), (b17, O_IntPairs, [.ref b21, .int (1 : Int32)]), (b21, (.array .int), (((List.replicate 64 (.int (0 : Int32))).set 0 (.int (Int32.ofNat n0))).set 1 (.int (Int32.ofNat n1)))), (b83, (.array .int), (fl 9 (ac (g1 [n0, n1]) 8))), (b88, (.array .int), (fl 8 (NX [n0, n1] 2))), (b89, (.array .int), (fl 2 (HH [n0, n1] 2)))]) rfl
    show Go p_ e_ bl_ _ (T111.setTop (mkF m_ 333 _ [.int ((((((if (Int32.ofNat n0) < (6 : Int32) then (1 : Int32) else (0 : Int32)) + (if (Int32.ofNat n1) < (6 : Int32) then (1 : Int32) else (0 : Int32))) + (0 : Int32)) + (0 : Int32)) + (0 : Int32)) + (0 : Int32)), .int (ac (g1 [n0, n1]) 8 6), .int (1 : Int32)]))
    refine g_icmpN (pc := 333) W113 at_333 (teq (own_off2_6 h0 h1)).2 ?_
    refine g_iconst (pc := 336) (1 : Int32) (by decide) W113 at_336 ?_
    refine g_goto 341 (pc := 337) W113 at_337 (by decide) (by decide) ?_
    refine g_iand (pc := 341) W113 at_341 ?_
    show Go p_ e_ bl_ _ (T111.setTop (mkF m_ 342 _ [.int (1 : Int32)]))
    refine g_istore (pc := 342) (ls' := #[.val (.int p0), .val (.int p1), .val (.int p2), .val (.int p3), .val (.int (1 : Int32)), .val (.ref b1), .val (.ref b17), .val (.int (2 : Int32)), .val (.ref b83), .val (.ref b89), .val (.int (1 : Int32))]) W113 at_342 rfl ?_
    refine g_iload (pc := 344) W113 at_344 rfl ?_
    refine g_aload (pc := 346) W113 at_346 rfl rfl ?_
    refine g_bipush (pc := 348) (7 : Int32) (by decide) W113 at_348 ?_
    refine g_iaload (pc := 350) (i := 3) (v := .int (ac (g1 [n0, n1]) 8 7)) W113 rfl (by decide) (fl_get (i := 7) (by decide)) at_350 ?_
    refine g_aload (pc := 351) W113 at_351 rfl rfl ?_
    refine g_iload (pc := 353) W113 at_353 rfl ?_
    refine g_bipush (pc := 355) (7 : Int32) (by decide) W113 at_355 ?_
    refine g_static (pc := 357) (Wt := 2) (argsL := [.ref b1, .int (2 : Int32), .int (7 : Int32)]) (rest := [.int (ac (g1 [n0, n1]) 8 7), .int (1 : Int32)]) (loc := [(b1, (.array .int), [.int (Int32.ofNat n0), .int (Int32.ofNat n1), .int (Int32.ofNat n2), .int (Int32.ofNat n3), .int (Int32.ofNat n4), .int (Int32.ofNat n5)])]) (rst := [(b17, O_IntPairs, [.ref b21, .int (1 : Int32)]), (b21, (.array .int), (((List.replicate 64 (.int (0 : Int32))).set 0 (.int (Int32.ofNat n0))).set 1 (.int (Int32.ofNat n1)))), (b83, (.array .int), (fl 9 (ac (g1 [n0, n1]) 8))), (b88, (.array .int), (fl 8 (NX [n0, n1] 2))), (b89, (.array .int), (fl 2 (HH [n0, n1] 2)))]) W113 (wd hw 46 rfl) (wd hw 47 rfl) (wd hw 48 rfl) (wd hw 49 rfl) (by decide) (c_below2 l Z a0 hw b1 (7 : Int32) (Int32.ofNat n0) (Int32.ofNat n1) (Int32.ofNat n2) (Int32.ofNat n3) (Int32.ofNat n4) (Int32.ofNat n5)) ⟨[0, 1, 2, 3, 4, 5], by decide, rfl⟩ rfl pd_AIII__I rfl rfl rfl (Nat.le_of_ble_eq_true rfl) (by decide) (by decide) (by decide) (by decide) at_357 ?_
    rintro T114 _ _ ⟨rfl, rfl⟩ W115
    have W116 := W115.re (os' := [(b1, (.array .int), [.int (Int32.ofNat n0), .int (Int32.ofNat n1), .int (Int32.ofNat n2), .int (Int32.ofNat n3), .int (Int32.ofNat n4), .int (Int32.ofNat n5)]), (b17, O_IntPairs, [.ref b21, .int (1 : Int32)]), (b21, (.array .int), (((List.replicate 64 (.int (0 : Int32))).set 0 (.int (Int32.ofNat n0))).set 1 (.int (Int32.ofNat n1)))), (b83, (.array .int), (fl 9 (ac (g1 [n0, n1]) 8))), (b88, (.array .int), (fl 8 (NX [n0, n1] 2))), (b89, (.array .int), (fl 2 (HH [n0, n1] 2)))]) rfl
    show Go p_ e_ bl_ _ (T114.setTop (mkF m_ 360 _ [.int ((((((if (Int32.ofNat n0) < (7 : Int32) then (1 : Int32) else (0 : Int32)) + (if (Int32.ofNat n1) < (7 : Int32) then (1 : Int32) else (0 : Int32))) + (0 : Int32)) + (0 : Int32)) + (0 : Int32)) + (0 : Int32)), .int (ac (g1 [n0, n1]) 8 7), .int (1 : Int32)]))
    refine g_icmpN (pc := 360) W116 at_360 (teq (own_off2_7 h0 h1)).2 ?_
    refine g_iconst (pc := 363) (1 : Int32) (by decide) W116 at_363 ?_
    refine g_goto 368 (pc := 364) W116 at_364 (by decide) (by decide) ?_
    refine g_iand (pc := 368) W116 at_368 ?_
    show Go p_ e_ bl_ _ (T114.setTop (mkF m_ 369 _ [.int (1 : Int32)]))
    refine g_istore (pc := 369) (ls' := #[.val (.int p0), .val (.int p1), .val (.int p2), .val (.int p3), .val (.int (1 : Int32)), .val (.ref b1), .val (.ref b17), .val (.int (2 : Int32)), .val (.ref b83), .val (.ref b89), .val (.int (1 : Int32))]) W116 at_369 rfl ?_
    refine g_iload (pc := 371) W116 at_371 rfl ?_
    refine g_aload (pc := 373) W116 at_373 rfl rfl ?_
    refine g_bipush (pc := 375) (8 : Int32) (by decide) W116 at_375 ?_
    refine g_iaload (pc := 377) (i := 3) (v := .int (ac (g1 [n0, n1]) 8 8)) W116 rfl (by decide) (fl_get (i := 8) (by decide)) at_377 ?_
    refine g_aload (pc := 378) W116 at_378 rfl rfl ?_
    refine g_iload (pc := 380) W116 at_380 rfl ?_
    refine g_bipush (pc := 382) (8 : Int32) (by decide) W116 at_382 ?_
    refine g_static (pc := 384) (Wt := 2) (argsL := [.ref b1, .int (2 : Int32), .int (8 : Int32)]) (rest := [.int (ac (g1 [n0, n1]) 8 8), .int (1 : Int32)]) (loc := [(b1, (.array .int), [.int (Int32.ofNat n0), .int (Int32.ofNat n1), .int (Int32.ofNat n2), .int (Int32.ofNat n3), .int (Int32.ofNat n4), .int (Int32.ofNat n5)])]) (rst := [(b17, O_IntPairs, [.ref b21, .int (1 : Int32)]), (b21, (.array .int), (((List.replicate 64 (.int (0 : Int32))).set 0 (.int (Int32.ofNat n0))).set 1 (.int (Int32.ofNat n1)))), (b83, (.array .int), (fl 9 (ac (g1 [n0, n1]) 8))), (b88, (.array .int), (fl 8 (NX [n0, n1] 2))), (b89, (.array .int), (fl 2 (HH [n0, n1] 2)))]) W116 (wd hw 46 rfl) (wd hw 47 rfl) (wd hw 48 rfl) (wd hw 49 rfl) (by decide) (c_below2 l Z a0 hw b1 (8 : Int32) (Int32.ofNat n0) (Int32.ofNat n1) (Int32.ofNat n2) (Int32.ofNat n3) (Int32.ofNat n4) (Int32.ofNat n5)) ⟨[0, 1, 2, 3, 4, 5], by decide, rfl⟩ rfl pd_AIII__I rfl rfl rfl (Nat.le_of_ble_eq_true rfl) (by decide) (by decide) (by decide) (by decide) at_384 ?_
    rintro T117 _ _ ⟨rfl, rfl⟩ W118
    have W119 := W118.re (os' := [(b1, (.array .int), [.int (Int32.ofNat n0), .int (Int32.ofNat n1), .int (Int32.ofNat n2), .int (Int32.ofNat n3), .int (Int32.ofNat n4), .int (Int32.ofNat n5)]), (b17, O_IntPairs, [.ref b21, .int (1 : Int32)]), (b21, (.array .int), (((List.replicate 64 (.int (0 : Int32))).set 0 (.int (Int32.ofNat n0))).set 1 (.int (Int32.ofNat n1)))), (b83, (.array .int), (fl 9 (ac (g1 [n0, n1]) 8))), (b88, (.array .int), (fl 8 (NX [n0, n1] 2))), (b89, (.array .int), (fl 2 (HH [n0, n1] 2)))]) rfl
    show Go p_ e_ bl_ _ (T117.setTop (mkF m_ 387 _ [.int ((((((if (Int32.ofNat n0) < (8 : Int32) then (1 : Int32) else (0 : Int32)) + (if (Int32.ofNat n1) < (8 : Int32) then (1 : Int32) else (0 : Int32))) + (0 : Int32)) + (0 : Int32)) + (0 : Int32)) + (0 : Int32)), .int (ac (g1 [n0, n1]) 8 8), .int (1 : Int32)]))
    refine g_icmpN (pc := 387) W119 at_387 (teq (own_off2_8 h0 h1)).2 ?_
    refine g_iconst (pc := 390) (1 : Int32) (by decide) W119 at_390 ?_
    refine g_goto 395 (pc := 391) W119 at_391 (by decide) (by decide) ?_
    refine g_iand (pc := 395) W119 at_395 ?_
    show Go p_ e_ bl_ _ (T117.setTop (mkF m_ 396 _ [.int (1 : Int32)]))
    refine g_istore (pc := 396) (ls' := #[.val (.int p0), .val (.int p1), .val (.int p2), .val (.int p3), .val (.int (1 : Int32)), .val (.ref b1), .val (.ref b17), .val (.int (2 : Int32)), .val (.ref b83), .val (.ref b89), .val (.int (1 : Int32))]) W119 at_396 rfl ?_
    refine g_iload (pc := 398) W119 at_398 rfl ?_
    refine g_aload (pc := 400) W119 at_400 rfl rfl ?_
    refine g_iload (pc := 402) W119 at_402 rfl ?_
    refine g_aload (pc := 404) W119 at_404 rfl rfl ?_
    refine g_iconst (pc := 406) (0 : Int32) (by decide) W119 at_406 ?_
    refine g_static (pc := 407) (Wt := 1) (argsL := [.ref b1, .int (2 : Int32), .ref b89, .int (0 : Int32)]) (rest := [.int (1 : Int32)]) (loc := [(b1, (.array .int), [.int (Int32.ofNat n0), .int (Int32.ofNat n1), .int (Int32.ofNat n2), .int (Int32.ofNat n3), .int (Int32.ofNat n4), .int (Int32.ofNat n5)]), (b89, (.array .int), (fl 2 (HH [n0, n1] 2)))]) (rst := [(b17, O_IntPairs, [.ref b21, .int (1 : Int32)]), (b21, (.array .int), (((List.replicate 64 (.int (0 : Int32))).set 0 (.int (Int32.ofNat n0))).set 1 (.int (Int32.ofNat n1)))), (b83, (.array .int), (fl 9 (ac (g1 [n0, n1]) 8))), (b88, (.array .int), (fl 8 (NX [n0, n1] 2)))]) W119 (wd hw 53 rfl) (wd hw 54 rfl) (wd hw 48 rfl) (wd hw 55 rfl) (by decide) (c_slot20 l Z a0 hw b1 b89 (Int32.ofNat n0) (Int32.ofNat n1) (Int32.ofNat n2) (Int32.ofNat n3) (Int32.ofNat n4) (Int32.ofNat n5) (fl 2 (HH [n0, n1] 2)) (by rw [fl_len]; rfl) (own_sl2_0 h0 h1).1 (own_sl2_0 h0 h1).2.1 (own_sl2_0 h0 h1).2.2) ⟨[0, 5, 1, 2, 3, 4], by decide, rfl⟩ rfl pd_AIIAII__Z rfl rfl rfl (Nat.le_of_ble_eq_true rfl) (by decide) (by decide) (by decide) (by decide) at_407 ?_
    rintro T120 _ _ ⟨rfl, rfl⟩ W121
    have W122 := W121.re (os' := [(b1, (.array .int), [.int (Int32.ofNat n0), .int (Int32.ofNat n1), .int (Int32.ofNat n2), .int (Int32.ofNat n3), .int (Int32.ofNat n4), .int (Int32.ofNat n5)]), (b89, (.array .int), (fl 2 (HH [n0, n1] 2))), (b17, O_IntPairs, [.ref b21, .int (1 : Int32)]), (b21, (.array .int), (((List.replicate 64 (.int (0 : Int32))).set 0 (.int (Int32.ofNat n0))).set 1 (.int (Int32.ofNat n1)))), (b83, (.array .int), (fl 9 (ac (g1 [n0, n1]) 8))), (b88, (.array .int), (fl 8 (NX [n0, n1] 2)))]) rfl
    show Go p_ e_ bl_ _ (T120.setTop (mkF m_ 410 _ [.int (1 : Int32), .int (1 : Int32)]))
    refine g_iand (pc := 410) W122 at_410 ?_
    show Go p_ e_ bl_ _ (T120.setTop (mkF m_ 411 _ [.int (1 : Int32)]))
    refine g_istore (pc := 411) (ls' := #[.val (.int p0), .val (.int p1), .val (.int p2), .val (.int p3), .val (.int (1 : Int32)), .val (.ref b1), .val (.ref b17), .val (.int (2 : Int32)), .val (.ref b83), .val (.ref b89), .val (.int (1 : Int32))]) W122 at_411 rfl ?_
    refine g_iload (pc := 413) W122 at_413 rfl ?_
    refine g_aload (pc := 415) W122 at_415 rfl rfl ?_
    refine g_iload (pc := 417) W122 at_417 rfl ?_
    refine g_aload (pc := 419) W122 at_419 rfl rfl ?_
    refine g_iconst (pc := 421) (1 : Int32) (by decide) W122 at_421 ?_
    refine g_static (pc := 422) (Wt := 1) (argsL := [.ref b1, .int (2 : Int32), .ref b89, .int (1 : Int32)]) (rest := [.int (1 : Int32)]) (loc := [(b1, (.array .int), [.int (Int32.ofNat n0), .int (Int32.ofNat n1), .int (Int32.ofNat n2), .int (Int32.ofNat n3), .int (Int32.ofNat n4), .int (Int32.ofNat n5)]), (b89, (.array .int), (fl 2 (HH [n0, n1] 2)))]) (rst := [(b17, O_IntPairs, [.ref b21, .int (1 : Int32)]), (b21, (.array .int), (((List.replicate 64 (.int (0 : Int32))).set 0 (.int (Int32.ofNat n0))).set 1 (.int (Int32.ofNat n1)))), (b83, (.array .int), (fl 9 (ac (g1 [n0, n1]) 8))), (b88, (.array .int), (fl 8 (NX [n0, n1] 2)))]) W122 (wd hw 53 rfl) (wd hw 54 rfl) (wd hw 48 rfl) (wd hw 55 rfl) (by decide) (c_slot21 l Z a0 hw b1 b89 (Int32.ofNat n0) (Int32.ofNat n1) (Int32.ofNat n2) (Int32.ofNat n3) (Int32.ofNat n4) (Int32.ofNat n5) (fl 2 (HH [n0, n1] 2)) (by rw [fl_len]; rfl) (own_sl2_1 h0 h1).1 (own_sl2_1 h0 h1).2.1 (own_sl2_1 h0 h1).2.2) ⟨[0, 1, 2, 3, 4, 5], by decide, rfl⟩ rfl pd_AIIAII__Z rfl rfl rfl (Nat.le_of_ble_eq_true rfl) (by decide) (by decide) (by decide) (by decide) at_422 ?_
    rintro T123 _ _ ⟨rfl, rfl⟩ W124
    have W125 := W124.re (os' := [(b1, (.array .int), [.int (Int32.ofNat n0), .int (Int32.ofNat n1), .int (Int32.ofNat n2), .int (Int32.ofNat n3), .int (Int32.ofNat n4), .int (Int32.ofNat n5)]), (b89, (.array .int), (fl 2 (HH [n0, n1] 2))), (b17, O_IntPairs, [.ref b21, .int (1 : Int32)]), (b21, (.array .int), (((List.replicate 64 (.int (0 : Int32))).set 0 (.int (Int32.ofNat n0))).set 1 (.int (Int32.ofNat n1)))), (b83, (.array .int), (fl 9 (ac (g1 [n0, n1]) 8))), (b88, (.array .int), (fl 8 (NX [n0, n1] 2)))]) rfl
    show Go p_ e_ bl_ _ (T123.setTop (mkF m_ 425 _ [.int (1 : Int32), .int (1 : Int32)]))
    refine g_iand (pc := 425) W125 at_425 ?_
    show Go p_ e_ bl_ _ (T123.setTop (mkF m_ 426 _ [.int (1 : Int32)]))
    refine g_istore (pc := 426) (ls' := #[.val (.int p0), .val (.int p1), .val (.int p2), .val (.int p3), .val (.int (1 : Int32)), .val (.ref b1), .val (.ref b17), .val (.int (2 : Int32)), .val (.ref b83), .val (.ref b89), .val (.int (1 : Int32))]) W125 at_426 rfl ?_
    refine g_iload (pc := 428) W125 at_428 rfl ?_
    refine g_aload (pc := 430) W125 at_430 rfl rfl ?_
    refine g_iload (pc := 432) W125 at_432 rfl ?_
    refine g_aload (pc := 434) W125 at_434 rfl rfl ?_
    refine g_iconst (pc := 436) (2 : Int32) (by decide) W125 at_436 ?_
    refine g_static (pc := 437) (Wt := 1) (argsL := [.ref b1, .int (2 : Int32), .ref b89, .int (2 : Int32)]) (rest := [.int (1 : Int32)]) (loc := [(b1, (.array .int), [.int (Int32.ofNat n0), .int (Int32.ofNat n1), .int (Int32.ofNat n2), .int (Int32.ofNat n3), .int (Int32.ofNat n4), .int (Int32.ofNat n5)]), (b89, (.array .int), (fl 2 (HH [n0, n1] 2)))]) (rst := [(b17, O_IntPairs, [.ref b21, .int (1 : Int32)]), (b21, (.array .int), (((List.replicate 64 (.int (0 : Int32))).set 0 (.int (Int32.ofNat n0))).set 1 (.int (Int32.ofNat n1)))), (b83, (.array .int), (fl 9 (ac (g1 [n0, n1]) 8))), (b88, (.array .int), (fl 8 (NX [n0, n1] 2)))]) W125 (wd hw 53 rfl) (wd hw 54 rfl) (wd hw 48 rfl) (wd hw 55 rfl) (by decide) (c_slot22 l Z a0 hw b1 b89 (Int32.ofNat n0) (Int32.ofNat n1) (Int32.ofNat n2) (Int32.ofNat n3) (Int32.ofNat n4) (Int32.ofNat n5) (fl 2 (HH [n0, n1] 2))) ⟨[0, 1, 2, 3, 4, 5], by decide, rfl⟩ rfl pd_AIIAII__Z rfl rfl rfl (Nat.le_of_ble_eq_true rfl) (by decide) (by decide) (by decide) (by decide) at_437 ?_
    rintro T126 _ _ ⟨rfl, rfl⟩ W127
    have W128 := W127.re (os' := [(b1, (.array .int), [.int (Int32.ofNat n0), .int (Int32.ofNat n1), .int (Int32.ofNat n2), .int (Int32.ofNat n3), .int (Int32.ofNat n4), .int (Int32.ofNat n5)]), (b89, (.array .int), (fl 2 (HH [n0, n1] 2))), (b17, O_IntPairs, [.ref b21, .int (1 : Int32)]), (b21, (.array .int), (((List.replicate 64 (.int (0 : Int32))).set 0 (.int (Int32.ofNat n0))).set 1 (.int (Int32.ofNat n1)))), (b83, (.array .int), (fl 9 (ac (g1 [n0, n1]) 8))), (b88, (.array .int), (fl 8 (NX [n0, n1] 2)))]) rfl
    show Go p_ e_ bl_ _ (T126.setTop (mkF m_ 440 _ [.int (1 : Int32), .int (1 : Int32)]))
    refine g_iand (pc := 440) W128 at_440 ?_
    show Go p_ e_ bl_ _ (T126.setTop (mkF m_ 441 _ [.int (1 : Int32)]))
    refine g_istore (pc := 441) (ls' := #[.val (.int p0), .val (.int p1), .val (.int p2), .val (.int p3), .val (.int (1 : Int32)), .val (.ref b1), .val (.ref b17), .val (.int (2 : Int32)), .val (.ref b83), .val (.ref b89), .val (.int (1 : Int32))]) W128 at_441 rfl ?_
    refine g_iload (pc := 443) W128 at_443 rfl ?_
    refine g_aload (pc := 445) W128 at_445 rfl rfl ?_
    refine g_iload (pc := 447) W128 at_447 rfl ?_
    refine g_aload (pc := 449) W128 at_449 rfl rfl ?_
    refine g_iconst (pc := 451) (3 : Int32) (by decide) W128 at_451 ?_
    refine g_static (pc := 452) (Wt := 1) (argsL := [.ref b1, .int (2 : Int32), .ref b89, .int (3 : Int32)]) (rest := [.int (1 : Int32)]) (loc := [(b1, (.array .int), [.int (Int32.ofNat n0), .int (Int32.ofNat n1), .int (Int32.ofNat n2), .int (Int32.ofNat n3), .int (Int32.ofNat n4), .int (Int32.ofNat n5)]), (b89, (.array .int), (fl 2 (HH [n0, n1] 2)))]) (rst := [(b17, O_IntPairs, [.ref b21, .int (1 : Int32)]), (b21, (.array .int), (((List.replicate 64 (.int (0 : Int32))).set 0 (.int (Int32.ofNat n0))).set 1 (.int (Int32.ofNat n1)))), (b83, (.array .int), (fl 9 (ac (g1 [n0, n1]) 8))), (b88, (.array .int), (fl 8 (NX [n0, n1] 2)))]) W128 (wd hw 53 rfl) (wd hw 54 rfl) (wd hw 48 rfl) (wd hw 55 rfl) (by decide) (c_slot23 l Z a0 hw b1 b89 (Int32.ofNat n0) (Int32.ofNat n1) (Int32.ofNat n2) (Int32.ofNat n3) (Int32.ofNat n4) (Int32.ofNat n5) (fl 2 (HH [n0, n1] 2))) ⟨[0, 1, 2, 3, 4, 5], by decide, rfl⟩ rfl pd_AIIAII__Z rfl rfl rfl (Nat.le_of_ble_eq_true rfl) (by decide) (by decide) (by decide) (by decide) at_452 ?_
    rintro T129 _ _ ⟨rfl, rfl⟩ W130
    have W131 := W130.re (os' := [(b1, (.array .int), [.int (Int32.ofNat n0), .int (Int32.ofNat n1), .int (Int32.ofNat n2), .int (Int32.ofNat n3), .int (Int32.ofNat n4), .int (Int32.ofNat n5)]), (b89, (.array .int), (fl 2 (HH [n0, n1] 2))), (b17, O_IntPairs, [.ref b21, .int (1 : Int32)]), (b21, (.array .int), (((List.replicate 64 (.int (0 : Int32))).set 0 (.int (Int32.ofNat n0))).set 1 (.int (Int32.ofNat n1)))), (b83, (.array .int), (fl 9 (ac (g1 [n0, n1]) 8))), (b88, (.array .int), (fl 8 (NX [n0, n1] 2)))]) rfl
    show Go p_ e_ bl_ _ (T129.setTop (mkF m_ 455 _ [.int (1 : Int32), .int (1 : Int32)]))
    refine g_iand (pc := 455) W131 at_455 ?_
    show Go p_ e_ bl_ _ (T129.setTop (mkF m_ 456 _ [.int (1 : Int32)]))
    refine g_istore (pc := 456) (ls' := #[.val (.int p0), .val (.int p1), .val (.int p2), .val (.int p3), .val (.int (1 : Int32)), .val (.ref b1), .val (.ref b17), .val (.int (2 : Int32)), .val (.ref b83), .val (.ref b89), .val (.int (1 : Int32))]) W131 at_456 rfl ?_
    refine g_iload (pc := 458) W131 at_458 rfl ?_
    refine g_aload (pc := 460) W131 at_460 rfl rfl ?_
    refine g_iload (pc := 462) W131 at_462 rfl ?_
    refine g_aload (pc := 464) W131 at_464 rfl rfl ?_
    refine g_iconst (pc := 466) (4 : Int32) (by decide) W131 at_466 ?_
    refine g_static (pc := 467) (Wt := 1) (argsL := [.ref b1, .int (2 : Int32), .ref b89, .int (4 : Int32)]) (rest := [.int (1 : Int32)]) (loc := [(b1, (.array .int), [.int (Int32.ofNat n0), .int (Int32.ofNat n1), .int (Int32.ofNat n2), .int (Int32.ofNat n3), .int (Int32.ofNat n4), .int (Int32.ofNat n5)]), (b89, (.array .int), (fl 2 (HH [n0, n1] 2)))]) (rst := [(b17, O_IntPairs, [.ref b21, .int (1 : Int32)]), (b21, (.array .int), (((List.replicate 64 (.int (0 : Int32))).set 0 (.int (Int32.ofNat n0))).set 1 (.int (Int32.ofNat n1)))), (b83, (.array .int), (fl 9 (ac (g1 [n0, n1]) 8))), (b88, (.array .int), (fl 8 (NX [n0, n1] 2)))]) W131 (wd hw 53 rfl) (wd hw 54 rfl) (wd hw 48 rfl) (wd hw 55 rfl) (by decide) (c_slot24 l Z a0 hw b1 b89 (Int32.ofNat n0) (Int32.ofNat n1) (Int32.ofNat n2) (Int32.ofNat n3) (Int32.ofNat n4) (Int32.ofNat n5) (fl 2 (HH [n0, n1] 2))) ⟨[0, 1, 2, 3, 4, 5], by decide, rfl⟩ rfl pd_AIIAII__Z rfl rfl rfl (Nat.le_of_ble_eq_true rfl) (by decide) (by decide) (by decide) (by decide) at_467 ?_
    rintro T132 _ _ ⟨rfl, rfl⟩ W133
    have W134 := W133.re (os' := [(b1, (.array .int), [.int (Int32.ofNat n0), .int (Int32.ofNat n1), .int (Int32.ofNat n2), .int (Int32.ofNat n3), .int (Int32.ofNat n4), .int (Int32.ofNat n5)]), (b89, (.array .int), (fl 2 (HH [n0, n1] 2))), (b17, O_IntPairs, [.ref b21, .int (1 : Int32)]), (b21, (.array .int), (((List.replicate 64 (.int (0 : Int32))).set 0 (.int (Int32.ofNat n0))).set 1 (.int (Int32.ofNat n1)))), (b83, (.array .int), (fl 9 (ac (g1 [n0, n1]) 8))), (b88, (.array .int), (fl 8 (NX [n0, n1] 2)))]) rfl
    show Go p_ e_ bl_ _ (T132.setTop (mkF m_ 470 _ [.int (1 : Int32), .int (1 : Int32)]))
    refine g_iand (pc := 470) W134 at_470 ?_
    show Go p_ e_ bl_ _ (T132.setTop (mkF m_ 471 _ [.int (1 : Int32)]))
    refine g_istore (pc := 471) (ls' := #[.val (.int p0), .val (.int p1), .val (.int p2), .val (.int p3), .val (.int (1 : Int32)), .val (.ref b1), .val (.ref b17), .val (.int (2 : Int32)), .val (.ref b83), .val (.ref b89), .val (.int (1 : Int32))]) W134 at_471 rfl ?_
    refine g_iload (pc := 473) W134 at_473 rfl ?_
    refine g_aload (pc := 475) W134 at_475 rfl rfl ?_
    refine g_iload (pc := 477) W134 at_477 rfl ?_
    refine g_aload (pc := 479) W134 at_479 rfl rfl ?_
    refine g_iconst (pc := 481) (5 : Int32) (by decide) W134 at_481 ?_
    refine g_static (pc := 482) (Wt := 1) (argsL := [.ref b1, .int (2 : Int32), .ref b89, .int (5 : Int32)]) (rest := [.int (1 : Int32)]) (loc := [(b1, (.array .int), [.int (Int32.ofNat n0), .int (Int32.ofNat n1), .int (Int32.ofNat n2), .int (Int32.ofNat n3), .int (Int32.ofNat n4), .int (Int32.ofNat n5)]), (b89, (.array .int), (fl 2 (HH [n0, n1] 2)))]) (rst := [(b17, O_IntPairs, [.ref b21, .int (1 : Int32)]), (b21, (.array .int), (((List.replicate 64 (.int (0 : Int32))).set 0 (.int (Int32.ofNat n0))).set 1 (.int (Int32.ofNat n1)))), (b83, (.array .int), (fl 9 (ac (g1 [n0, n1]) 8))), (b88, (.array .int), (fl 8 (NX [n0, n1] 2)))]) W134 (wd hw 53 rfl) (wd hw 54 rfl) (wd hw 48 rfl) (wd hw 55 rfl) (by decide) (c_slot25 l Z a0 hw b1 b89 (Int32.ofNat n0) (Int32.ofNat n1) (Int32.ofNat n2) (Int32.ofNat n3) (Int32.ofNat n4) (Int32.ofNat n5) (fl 2 (HH [n0, n1] 2))) ⟨[0, 1, 2, 3, 4, 5], by decide, rfl⟩ rfl pd_AIIAII__Z rfl rfl rfl (Nat.le_of_ble_eq_true rfl) (by decide) (by decide) (by decide) (by decide) at_482 ?_
    rintro T135 _ _ ⟨rfl, rfl⟩ W136
    have W137 := W136.re (os' := [(b1, (.array .int), [.int (Int32.ofNat n0), .int (Int32.ofNat n1), .int (Int32.ofNat n2), .int (Int32.ofNat n3), .int (Int32.ofNat n4), .int (Int32.ofNat n5)]), (b89, (.array .int), (fl 2 (HH [n0, n1] 2))), (b17, O_IntPairs, [.ref b21, .int (1 : Int32)]), (b21, (.array .int), (((List.replicate 64 (.int (0 : Int32))).set 0 (.int (Int32.ofNat n0))).set 1 (.int (Int32.ofNat n1)))), (b83, (.array .int), (fl 9 (ac (g1 [n0, n1]) 8))), (b88, (.array .int), (fl 8 (NX [n0, n1] 2)))]) rfl
    show Go p_ e_ bl_ _ (T135.setTop (mkF m_ 485 _ [.int (1 : Int32), .int (1 : Int32)]))
    refine g_iand (pc := 485) W137 at_485 ?_
    show Go p_ e_ bl_ _ (T135.setTop (mkF m_ 486 _ [.int (1 : Int32)]))
    refine g_istore (pc := 486) (ls' := #[.val (.int p0), .val (.int p1), .val (.int p2), .val (.int p3), .val (.int (1 : Int32)), .val (.ref b1), .val (.ref b17), .val (.int (2 : Int32)), .val (.ref b83), .val (.ref b89), .val (.int (1 : Int32))]) W137 at_486 rfl ?_
    refine g_iload (pc := 488) W137 at_488 rfl ?_
    exact g_zreturn (pc := 490) rfl (by decide) W137 at_490 (by decide) (by decide) rfl
  · rw [hl]
    refine g_iload (pc := 74) W24 at_74 rfl ?_
    refine g_ifN (pc := 76) W24 at_76 (by decide) ?_
    refine g_aload (pc := 79) W24 at_79 rfl rfl ?_
    refine g_aload (pc := 81) W24 at_81 rfl rfl ?_
    refine g_iconst (pc := 83) (0 : Int32) (by decide) W24 at_83 ?_
    refine g_iaload (pc := 84) (i := 2) (v := .int (Int32.ofNat n0)) W24 rfl (by decide) rfl at_84 ?_
    refine g_aload (pc := 85) W24 at_85 rfl rfl ?_
    refine g_iconst (pc := 87) (1 : Int32) (by decide) W24 at_87 ?_
    refine g_iaload (pc := 88) (i := 2) (v := .int (Int32.ofNat n1)) W24 rfl (by decide) rfl at_88 ?_
    refine g_virtual (i := 0) (pc := 89) (Wt := 0) (argsL := [.int (Int32.ofNat n0), .int (Int32.ofNat n1)]) (rest := []) (loc := [(b17, O_IntPairs, [.ref b21, .int (0 : Int32)]), (b21, (.array .int), (List.replicate 64 (.int (0 : Int32))))]) (rst := [(b1, (.array .int), [.int (Int32.ofNat n0), .int (Int32.ofNat n1), .int (Int32.ofNat n2), .int (Int32.ofNat n3), .int (Int32.ofNat n4), .int (Int32.ofNat n5)])]) W24 (wd hw 12 rfl) (wd hw 14 rfl) (wd hw 3 rfl) (wd hw 16 rfl) (wd hw 13 rfl) (wd hw 15 rfl) rfl (by decide) (c_add l Z a0 hw b17 b21 (0 : Int32) (1 : Int32) (Int32.ofNat n0) (Int32.ofNat n1) (List.replicate 64 (.int (0 : Int32))) 0 (by simp) (by decide) (by decide) (by decide) (by decide) (by decide) (by decide) (by decide)) ⟨[0, 1, 2], by decide, rfl⟩ rfl pd_II__Z rfl rfl rfl (Nat.le_of_ble_eq_true rfl) (by decide) (by decide) (by decide) (by decide) at_89 ?_
    rintro T138 _ _ ⟨rfl, rfl⟩ W139
    have W140 := W139.re (os' := [(b17, O_IntPairs, [.ref b21, .int (1 : Int32)]), (b21, (.array .int), (((List.replicate 64 (.int (0 : Int32))).set 0 (.int (Int32.ofNat n0))).set 1 (.int (Int32.ofNat n1)))), (b1, (.array .int), [.int (Int32.ofNat n0), .int (Int32.ofNat n1), .int (Int32.ofNat n2), .int (Int32.ofNat n3), .int (Int32.ofNat n4), .int (Int32.ofNat n5)])]) rfl
    show Go p_ e_ bl_ _ (T138.setTop (mkF m_ 92 _ [.int (1 : Int32)]))
    refine g_pop (pc := 92) W140 at_92 rfl ?_
    refine g_iload (pc := 93) W140 at_93 rfl ?_
    refine g_iconst (pc := 95) (1 : Int32) (by decide) W140 at_95 ?_
    refine g_icmpN (pc := 96) W140 at_96 (by decide) ?_
    refine g_aload (pc := 99) W140 at_99 rfl rfl ?_
    refine g_aload (pc := 101) W140 at_101 rfl rfl ?_
    refine g_iconst (pc := 103) (2 : Int32) (by decide) W140 at_103 ?_
    refine g_iaload (pc := 104) (i := 2) (v := .int (Int32.ofNat n2)) W140 rfl (by decide) rfl at_104 ?_
    refine g_aload (pc := 105) W140 at_105 rfl rfl ?_
    refine g_iconst (pc := 107) (3 : Int32) (by decide) W140 at_107 ?_
    refine g_iaload (pc := 108) (i := 2) (v := .int (Int32.ofNat n3)) W140 rfl (by decide) rfl at_108 ?_
    refine g_virtual (i := 0) (pc := 109) (Wt := 0) (argsL := [.int (Int32.ofNat n2), .int (Int32.ofNat n3)]) (rest := []) (loc := [(b17, O_IntPairs, [.ref b21, .int (1 : Int32)]), (b21, (.array .int), (((List.replicate 64 (.int (0 : Int32))).set 0 (.int (Int32.ofNat n0))).set 1 (.int (Int32.ofNat n1))))]) (rst := [(b1, (.array .int), [.int (Int32.ofNat n0), .int (Int32.ofNat n1), .int (Int32.ofNat n2), .int (Int32.ofNat n3), .int (Int32.ofNat n4), .int (Int32.ofNat n5)])]) W140 (wd hw 12 rfl) (wd hw 14 rfl) (wd hw 3 rfl) (wd hw 16 rfl) (wd hw 13 rfl) (wd hw 15 rfl) rfl (by decide) (c_add l Z a0 hw b17 b21 (1 : Int32) (2 : Int32) (Int32.ofNat n2) (Int32.ofNat n3) (((List.replicate 64 (.int (0 : Int32))).set 0 (.int (Int32.ofNat n0))).set 1 (.int (Int32.ofNat n1))) 2 (by simp) (by decide) (by decide) (by decide) (by decide) (by decide) (by decide) (by decide)) ⟨[0, 1, 2], by decide, rfl⟩ rfl pd_II__Z rfl rfl rfl (Nat.le_of_ble_eq_true rfl) (by decide) (by decide) (by decide) (by decide) at_109 ?_
    rintro T141 _ _ ⟨rfl, rfl⟩ W142
    have W143 := W142.re (os' := [(b17, O_IntPairs, [.ref b21, .int (2 : Int32)]), (b21, (.array .int), (((((List.replicate 64 (.int (0 : Int32))).set 0 (.int (Int32.ofNat n0))).set 1 (.int (Int32.ofNat n1))).set 2 (.int (Int32.ofNat n2))).set 3 (.int (Int32.ofNat n3)))), (b1, (.array .int), [.int (Int32.ofNat n0), .int (Int32.ofNat n1), .int (Int32.ofNat n2), .int (Int32.ofNat n3), .int (Int32.ofNat n4), .int (Int32.ofNat n5)])]) rfl
    show Go p_ e_ bl_ _ (T141.setTop (mkF m_ 112 _ [.int (1 : Int32)]))
    refine g_pop (pc := 112) W143 at_112 rfl ?_
    refine g_iload (pc := 113) W143 at_113 rfl ?_
    refine g_iconst (pc := 115) (2 : Int32) (by decide) W143 at_115 ?_
    refine g_icmpY 133 (pc := 116) W143 at_116 (by decide) (by decide) (by decide) ?_
    refine g_iconst (pc := 133) (2 : Int32) (by decide) W143 at_133 ?_
    refine g_iload (pc := 134) W143 at_134 rfl ?_
    refine g_imul (pc := 136) W143 at_136 ?_
    show Go p_ e_ bl_ _ (T141.setTop (mkF m_ 137 _ [.int (4 : Int32)]))
    refine g_istore (pc := 137) (ls' := #[.val (.int p0), .val (.int p1), .val (.int p2), .val (.int p3), .val (.int (2 : Int32)), .val (.ref b1), .val (.ref b17), .val (.int (4 : Int32)), .unset, .unset, .unset]) W143 at_137 rfl ?_
    refine g_bipush (pc := 139) (9 : Int32) (by decide) W143 at_139 ?_
    refine g_newarray (pc := 141) (ty := .int) (vs := [.int (0 : Int32), .int (0 : Int32), .int (0 : Int32), .int (0 : Int32), .int (0 : Int32), .int (0 : Int32), .int (0 : Int32), .int (0 : Int32), .int (0 : Int32)]) 9 W143 (wd hw 0 rfl) rfl (by decide) (by decide) (by decide) rfl at_141 (by decide) (by decide) (fun T145 b144 W146 => ?_)
    have W147 := W146.re (os' := [(b17, O_IntPairs, [.ref b21, .int (2 : Int32)]), (b21, (.array .int), (((((List.replicate 64 (.int (0 : Int32))).set 0 (.int (Int32.ofNat n0))).set 1 (.int (Int32.ofNat n1))).set 2 (.int (Int32.ofNat n2))).set 3 (.int (Int32.ofNat n3)))), (b1, (.array .int), [.int (Int32.ofNat n0), .int (Int32.ofNat n1), .int (Int32.ofNat n2), .int (Int32.ofNat n3), .int (Int32.ofNat n4), .int (Int32.ofNat n5)]), (b144, (.array .int), [.int (0 : Int32), .int (0 : Int32), .int (0 : Int32), .int (0 : Int32), .int (0 : Int32), .int (0 : Int32), .int (0 : Int32), .int (0 : Int32), .int (0 : Int32)])]) rfl
    have W148 := W147.re (os' := [(b17, O_IntPairs, [.ref b21, .int (2 : Int32)]), (b21, (.array .int), (((((List.replicate 64 (.int (0 : Int32))).set 0 (.int (Int32.ofNat n0))).set 1 (.int (Int32.ofNat n1))).set 2 (.int (Int32.ofNat n2))).set 3 (.int (Int32.ofNat n3)))), (b1, (.array .int), [.int (Int32.ofNat n0), .int (Int32.ofNat n1), .int (Int32.ofNat n2), .int (Int32.ofNat n3), .int (Int32.ofNat n4), .int (Int32.ofNat n5)]), (b144, (.array .int), (fl 9 zf))]) rfl
    refine g_astore (pc := 143) (ls' := #[.val (.int p0), .val (.int p1), .val (.int p2), .val (.int p3), .val (.int (2 : Int32)), .val (.ref b1), .val (.ref b17), .val (.int (4 : Int32)), .val (.ref b144), .unset, .unset]) W148 at_143 rfl rfl ?_
    refine g_aload (pc := 145) W148 at_145 rfl rfl ?_
    refine g_aload (pc := 147) W148 at_147 rfl rfl ?_
    refine g_virtual (i := 0) (pc := 149) (Wt := 0) (argsL := [.ref b144]) (rest := []) (loc := [(b17, O_IntPairs, [.ref b21, .int (2 : Int32)]), (b21, (.array .int), (((((List.replicate 64 (.int (0 : Int32))).set 0 (.int (Int32.ofNat n0))).set 1 (.int (Int32.ofNat n1))).set 2 (.int (Int32.ofNat n2))).set 3 (.int (Int32.ofNat n3)))), (b144, (.array .int), (fl 9 zf))]) (rst := [(b1, (.array .int), [.int (Int32.ofNat n0), .int (Int32.ofNat n1), .int (Int32.ofNat n2), .int (Int32.ofNat n3), .int (Int32.ofNat n4), .int (Int32.ofNat n5)])]) W148 (wd hw 19 rfl) (wd hw 21 rfl) (wd hw 3 rfl) (wd hw 23 rfl) (wd hw 20 rfl) (wd hw 22 rfl) rfl (by decide) (c_part2 l Z a0 hw b17 b21 b144 (((((List.replicate 64 (.int (0 : Int32))).set 0 (.int (Int32.ofNat n0))).set 1 (.int (Int32.ofNat n1))).set 2 (.int (Int32.ofNat n2))).set 3 (.int (Int32.ofNat n3))) n0 n1 n2 n3 h0 h1 h2 h3 rfl rfl rfl rfl (own_bd4_0 h0 h1 h2 h3).1 (own_bd4_0 h0 h1 h2 h3).2.1 (own_bd4_1 h0 h1 h2 h3).1 (own_bd4_1 h0 h1 h2 h3).2.1 (own_bd4_2 h0 h1 h2 h3).1 (own_bd4_2 h0 h1 h2 h3).2.1 (own_bd4_3 h0 h1 h2 h3).1 (own_bd4_3 h0 h1 h2 h3).2.1) ⟨[0, 1, 3, 2], by decide, rfl⟩ rfl pd_AI__AI rfl rfl rfl (Nat.le_of_ble_eq_true rfl) (by decide) (by decide) (by decide) (by decide) at_149 ?_
    rintro T151 _ _ ⟨b149, b150, rfl, rfl⟩ W152
    have W153 := W152.re (os' := [(b17, O_IntPairs, [.ref b21, .int (2 : Int32)]), (b21, (.array .int), (((((List.replicate 64 (.int (0 : Int32))).set 0 (.int (Int32.ofNat n0))).set 1 (.int (Int32.ofNat n1))).set 2 (.int (Int32.ofNat n2))).set 3 (.int (Int32.ofNat n3)))), (b144, (.array .int), (fl 9 (ac (g1 [n0, n1, n2, n3]) 8))), (b149, (.array .int), (fl 8 (NX [n0, n1, n2, n3] 4))), (b150, (.array .int), (fl 4 (HH [n0, n1, n2, n3] 4))), (b1, (.array .int), [.int (Int32.ofNat n0), .int (Int32.ofNat n1), .int (Int32.ofNat n2), .int (Int32.ofNat n3), .int (Int32.ofNat n4), .int (Int32.ofNat n5)])]) rfl
    show Go p_ e_ bl_ _ (T151.setTop (mkF m_ 152 _ [.ref b150]))
    refine g_astore (pc := 152) (ls' := #[.val (.int p0), .val (.int p1), .val (.int p2), .val (.int p3), .val (.int (2 : Int32)), .val (.ref b1), .val (.ref b17), .val (.int (4 : Int32)), .val (.ref b144), .val (.ref b150), .unset]) W153 at_152 rfl rfl ?_
    refine g_aload (pc := 154) W153 at_154 rfl rfl ?_
    refine g_arraylength (pc := 156) (i := 4) (4 : Int32) W153 rfl (by rw [fl_len]; rfl) at_156 ?_
    refine g_iload (pc := 157) W153 at_157 rfl ?_
    refine g_icmpY 164 (pc := 159) W153 at_159 (by decide) (by decide) (by decide) ?_
    refine g_iconst (pc := 164) (1 : Int32) (by decide) W153 at_164 ?_
    refine g_istore (pc := 165) (ls' := #[.val (.int p0), .val (.int p1), .val (.int p2), .val (.int p3), .val (.int (2 : Int32)), .val (.ref b1), .val (.ref b17), .val (.int (4 : Int32)), .val (.ref b144), .val (.ref b150), .val (.int (1 : Int32))]) W153 at_165 rfl ?_
    refine g_iload (pc := 167) W153 at_167 rfl ?_
    refine g_aload (pc := 169) W153 at_169 rfl rfl ?_
    refine g_iconst (pc := 171) (0 : Int32) (by decide) W153 at_171 ?_
    refine g_iaload (pc := 172) (i := 2) (v := .int (ac (g1 [n0, n1, n2, n3]) 8 0)) W153 rfl (by decide) (fl_get (i := 0) (by decide)) at_172 ?_
    refine g_aload (pc := 173) W153 at_173 rfl rfl ?_
    refine g_iload (pc := 175) W153 at_175 rfl ?_
    refine g_iconst (pc := 177) (0 : Int32) (by decide) W153 at_177 ?_
    refine g_static (pc := 178) (Wt := 2) (argsL := [.ref b1, .int (4 : Int32), .int (0 : Int32)]) (rest := [.int (ac (g1 [n0, n1, n2, n3]) 8 0), .int (1 : Int32)]) (loc := [(b1, (.array .int), [.int (Int32.ofNat n0), .int (Int32.ofNat n1), .int (Int32.ofNat n2), .int (Int32.ofNat n3), .int (Int32.ofNat n4), .int (Int32.ofNat n5)])]) (rst := [(b17, O_IntPairs, [.ref b21, .int (2 : Int32)]), (b21, (.array .int), (((((List.replicate 64 (.int (0 : Int32))).set 0 (.int (Int32.ofNat n0))).set 1 (.int (Int32.ofNat n1))).set 2 (.int (Int32.ofNat n2))).set 3 (.int (Int32.ofNat n3)))), (b144, (.array .int), (fl 9 (ac (g1 [n0, n1, n2, n3]) 8))), (b149, (.array .int), (fl 8 (NX [n0, n1, n2, n3] 4))), (b150, (.array .int), (fl 4 (HH [n0, n1, n2, n3] 4)))]) W153 (wd hw 46 rfl) (wd hw 47 rfl) (wd hw 48 rfl) (wd hw 49 rfl) (by decide) (c_below4 l Z a0 hw b1 (0 : Int32) (Int32.ofNat n0) (Int32.ofNat n1) (Int32.ofNat n2) (Int32.ofNat n3) (Int32.ofNat n4) (Int32.ofNat n5)) ⟨[5, 0, 1, 2, 3, 4], by decide, rfl⟩ rfl pd_AIII__I rfl rfl rfl (Nat.le_of_ble_eq_true rfl) (by decide) (by decide) (by decide) (by decide) at_178 ?_
    rintro T154 _ _ ⟨rfl, rfl⟩ W155
    have W156 := W155.re (os' := [(b1, (.array .int), [.int (Int32.ofNat n0), .int (Int32.ofNat n1), .int (Int32.ofNat n2), .int (Int32.ofNat n3), .int (Int32.ofNat n4), .int (Int32.ofNat n5)]), (b17, O_IntPairs, [.ref b21, .int (2 : Int32)]), (b21, (.array .int), (((((List.replicate 64 (.int (0 : Int32))).set 0 (.int (Int32.ofNat n0))).set 1 (.int (Int32.ofNat n1))).set 2 (.int (Int32.ofNat n2))).set 3 (.int (Int32.ofNat n3)))), (b144, (.array .int), (fl 9 (ac (g1 [n0, n1, n2, n3]) 8))), (b149, (.array .int), (fl 8 (NX [n0, n1, n2, n3] 4))), (b150, (.array .int), (fl 4 (HH [n0, n1, n2, n3] 4)))]) rfl
    show Go p_ e_ bl_ _ (T154.setTop (mkF m_ 181 _ [.int ((((((if (Int32.ofNat n0) < (0 : Int32) then (1 : Int32) else (0 : Int32)) + (if (Int32.ofNat n1) < (0 : Int32) then (1 : Int32) else (0 : Int32))) + (if (Int32.ofNat n2) < (0 : Int32) then (1 : Int32) else (0 : Int32))) + (if (Int32.ofNat n3) < (0 : Int32) then (1 : Int32) else (0 : Int32))) + (0 : Int32)) + (0 : Int32)), .int (ac (g1 [n0, n1, n2, n3]) 8 0), .int (1 : Int32)]))
    refine g_icmpN (pc := 181) W156 at_181 (teq (own_off4_0 h0 h1 h2 h3)).2 ?_
    refine g_iconst (pc := 184) (1 : Int32) (by decide) W156 at_184 ?_
    refine g_goto 189 (pc := 185) W156 at_185 (by decide) (by decide) ?_
    refine g_iand (pc := 189) W156 at_189 ?_
    show Go p_ e_ bl_ _ (T154.setTop (mkF m_ 190 _ [.int (1 : Int32)]))
    refine g_istore (pc := 190) (ls' := #[.val (.int p0), .val (.int p1), .val (.int p2), .val (.int p3), .val (.int (2 : Int32)), .val (.ref b1), .val (.ref b17), .val (.int (4 : Int32)), .val (.ref b144), .val (.ref b150), .val (.int (1 : Int32))]) W156 at_190 rfl ?_
    refine g_iload (pc := 192) W156 at_192 rfl ?_
    refine g_aload (pc := 194) W156 at_194 rfl rfl ?_
    refine g_iconst (pc := 196) (1 : Int32) (by decide) W156 at_196 ?_
    refine g_iaload (pc := 197) (i := 3) (v := .int (ac (g1 [n0, n1, n2, n3]) 8 1)) W156 rfl (by decide) (fl_get (i := 1) (by decide)) at_197 ?_
    refine g_aload (pc := 198) W156 at_198 rfl rfl ?_
    refine g_iload (pc := 200) W156 at_200 rfl ?_
    refine g_iconst (pc := 202) (1 : Int32) (by decide) W156 at_202 ?_
    refine g_static (pc := 203) (Wt := 2) (argsL := [.ref b1, .int (4 : Int32), .int (1 : Int32)]) (rest := [.int (ac (g1 [n0, n1, n2, n3]) 8 1), .int (1 : Int32)]) (loc := [(b1, (.array .int), [.int (Int32.ofNat n0), .int (Int32.ofNat n1), .int (Int32.ofNat n2), .int (Int32.ofNat n3), .int (Int32.ofNat n4), .int (Int32.ofNat n5)])]) (rst := [(b17, O_IntPairs, [.ref b21, .int (2 : Int32)]), (b21, (.array .int), (((((List.replicate 64 (.int (0 : Int32))).set 0 (.int (Int32.ofNat n0))).set 1 (.int (Int32.ofNat n1))).set 2 (.int (Int32.ofNat n2))).set 3 (.int (Int32.ofNat n3)))), (b144, (.array .int), (fl 9 (ac (g1 [n0, n1, n2, n3]) 8))), (b149, (.array .int), (fl 8 (NX [n0, n1, n2, n3] 4))), (b150, (.array .int), (fl 4 (HH [n0, n1, n2, n3] 4)))]) W156 (wd hw 46 rfl) (wd hw 47 rfl) (wd hw 48 rfl) (wd hw 49 rfl) (by decide) (c_below4 l Z a0 hw b1 (1 : Int32) (Int32.ofNat n0) (Int32.ofNat n1) (Int32.ofNat n2) (Int32.ofNat n3) (Int32.ofNat n4) (Int32.ofNat n5)) ⟨[0, 1, 2, 3, 4, 5], by decide, rfl⟩ rfl pd_AIII__I rfl rfl rfl (Nat.le_of_ble_eq_true rfl) (by decide) (by decide) (by decide) (by decide) at_203 ?_
    rintro T157 _ _ ⟨rfl, rfl⟩ W158
    have W159 := W158.re (os' := [(b1, (.array .int), [.int (Int32.ofNat n0), .int (Int32.ofNat n1), .int (Int32.ofNat n2), .int (Int32.ofNat n3), .int (Int32.ofNat n4), .int (Int32.ofNat n5)]), (b17, O_IntPairs, [.ref b21, .int (2 : Int32)]), (b21, (.array .int), (((((List.replicate 64 (.int (0 : Int32))).set 0 (.int (Int32.ofNat n0))).set 1 (.int (Int32.ofNat n1))).set 2 (.int (Int32.ofNat n2))).set 3 (.int (Int32.ofNat n3)))), (b144, (.array .int), (fl 9 (ac (g1 [n0, n1, n2, n3]) 8))), (b149, (.array .int), (fl 8 (NX [n0, n1, n2, n3] 4))), (b150, (.array .int), (fl 4 (HH [n0, n1, n2, n3] 4)))]) rfl
    show Go p_ e_ bl_ _ (T157.setTop (mkF m_ 206 _ [.int ((((((if (Int32.ofNat n0) < (1 : Int32) then (1 : Int32) else (0 : Int32)) + (if (Int32.ofNat n1) < (1 : Int32) then (1 : Int32) else (0 : Int32))) + (if (Int32.ofNat n2) < (1 : Int32) then (1 : Int32) else (0 : Int32))) + (if (Int32.ofNat n3) < (1 : Int32) then (1 : Int32) else (0 : Int32))) + (0 : Int32)) + (0 : Int32)), .int (ac (g1 [n0, n1, n2, n3]) 8 1), .int (1 : Int32)]))
    refine g_icmpN (pc := 206) W159 at_206 (teq (own_off4_1 h0 h1 h2 h3)).2 ?_
    refine g_iconst (pc := 209) (1 : Int32) (by decide) W159 at_209 ?_
    refine g_goto 214 (pc := 210) W159 at_210 (by decide) (by decide) ?_
    refine g_iand (pc := 214) W159 at_214 ?_
    show Go p_ e_ bl_ _ (T157.setTop (mkF m_ 215 _ [.int (1 : Int32)]))
    refine g_istore (pc := 215) (ls' := #[.val (.int p0), .val (.int p1), .val (.int p2), .val (.int p3), .val (.int (2 : Int32)), .val (.ref b1), .val (.ref b17), .val (.int (4 : Int32)), .val (.ref b144), .val (.ref b150), .val (.int (1 : Int32))]) W159 at_215 rfl ?_
    refine g_iload (pc := 217) W159 at_217 rfl ?_
    refine g_aload (pc := 219) W159 at_219 rfl rfl ?_
    refine g_iconst (pc := 221) (2 : Int32) (by decide) W159 at_221 ?_
    refine g_iaload (pc := 222) (i := 3) (v := .int (ac (g1 [n0, n1, n2, n3]) 8 2)) W159 rfl (by decide) (fl_get (i := 2) (by decide)) at_222 ?_
    refine g_aload (pc := 223) W159 at_223 rfl rfl ?_
    refine g_iload (pc := 225) W159 at_225 rfl ?_
    refine g_iconst (pc := 227) (2 : Int32) (by decide) W159 at_227 ?_
    refine g_static (pc := 228) (Wt := 2) (argsL := [.ref b1, .int (4 : Int32), .int (2 : Int32)]) (rest := [.int (ac (g1 [n0, n1, n2, n3]) 8 2), .int (1 : Int32)]) (loc := [(b1, (.array .int), [.int (Int32.ofNat n0), .int (Int32.ofNat n1), .int (Int32.ofNat n2), .int (Int32.ofNat n3), .int (Int32.ofNat n4), .int (Int32.ofNat n5)])]) (rst := [(b17, O_IntPairs, [.ref b21, .int (2 : Int32)]), (b21, (.array .int), (((((List.replicate 64 (.int (0 : Int32))).set 0 (.int (Int32.ofNat n0))).set 1 (.int (Int32.ofNat n1))).set 2 (.int (Int32.ofNat n2))).set 3 (.int (Int32.ofNat n3)))), (b144, (.array .int), (fl 9 (ac (g1 [n0, n1, n2, n3]) 8))), (b149, (.array .int), (fl 8 (NX [n0, n1, n2, n3] 4))), (b150, (.array .int), (fl 4 (HH [n0, n1, n2, n3] 4)))]) W159 (wd hw 46 rfl) (wd hw 47 rfl) (wd hw 48 rfl) (wd hw 49 rfl) (by decide) (c_below4 l Z a0 hw b1 (2 : Int32) (Int32.ofNat n0) (Int32.ofNat n1) (Int32.ofNat n2) (Int32.ofNat n3) (Int32.ofNat n4) (Int32.ofNat n5)) ⟨[0, 1, 2, 3, 4, 5], by decide, rfl⟩ rfl pd_AIII__I rfl rfl rfl (Nat.le_of_ble_eq_true rfl) (by decide) (by decide) (by decide) (by decide) at_228 ?_
    rintro T160 _ _ ⟨rfl, rfl⟩ W161
    have W162 := W161.re (os' := [(b1, (.array .int), [.int (Int32.ofNat n0), .int (Int32.ofNat n1), .int (Int32.ofNat n2), .int (Int32.ofNat n3), .int (Int32.ofNat n4), .int (Int32.ofNat n5)]), (b17, O_IntPairs, [.ref b21, .int (2 : Int32)]), (b21, (.array .int), (((((List.replicate 64 (.int (0 : Int32))).set 0 (.int (Int32.ofNat n0))).set 1 (.int (Int32.ofNat n1))).set 2 (.int (Int32.ofNat n2))).set 3 (.int (Int32.ofNat n3)))), (b144, (.array .int), (fl 9 (ac (g1 [n0, n1, n2, n3]) 8))), (b149, (.array .int), (fl 8 (NX [n0, n1, n2, n3] 4))), (b150, (.array .int), (fl 4 (HH [n0, n1, n2, n3] 4)))]) rfl
    show Go p_ e_ bl_ _ (T160.setTop (mkF m_ 231 _ [.int ((((((if (Int32.ofNat n0) < (2 : Int32) then (1 : Int32) else (0 : Int32)) + (if (Int32.ofNat n1) < (2 : Int32) then (1 : Int32) else (0 : Int32))) + (if (Int32.ofNat n2) < (2 : Int32) then (1 : Int32) else (0 : Int32))) + (if (Int32.ofNat n3) < (2 : Int32) then (1 : Int32) else (0 : Int32))) + (0 : Int32)) + (0 : Int32)), .int (ac (g1 [n0, n1, n2, n3]) 8 2), .int (1 : Int32)]))
    refine g_icmpN (pc := 231) W162 at_231 (teq (own_off4_2 h0 h1 h2 h3)).2 ?_
    refine g_iconst (pc := 234) (1 : Int32) (by decide) W162 at_234 ?_
    refine g_goto 239 (pc := 235) W162 at_235 (by decide) (by decide) ?_
    refine g_iand (pc := 239) W162 at_239 ?_
    show Go p_ e_ bl_ _ (T160.setTop (mkF m_ 240 _ [.int (1 : Int32)]))
    refine g_istore (pc := 240) (ls' := #[.val (.int p0), .val (.int p1), .val (.int p2), .val (.int p3), .val (.int (2 : Int32)), .val (.ref b1), .val (.ref b17), .val (.int (4 : Int32)), .val (.ref b144), .val (.ref b150), .val (.int (1 : Int32))]) W162 at_240 rfl ?_
    refine g_iload (pc := 242) W162 at_242 rfl ?_
    refine g_aload (pc := 244) W162 at_244 rfl rfl ?_
    refine g_iconst (pc := 246) (3 : Int32) (by decide) W162 at_246 ?_
    refine g_iaload (pc := 247) (i := 3) (v := .int (ac (g1 [n0, n1, n2, n3]) 8 3)) W162 rfl (by decide) (fl_get (i := 3) (by decide)) at_247 ?_
    refine g_aload (pc := 248) W162 at_248 rfl rfl ?_
    refine g_iload (pc := 250) W162 at_250 rfl ?_
    refine g_iconst (pc := 252) (3 : Int32) (by decide) W162 at_252 ?_
    refine g_static (pc := 253) (Wt := 2) (argsL := [.ref b1, .int (4 : Int32), .int (3 : Int32)]) (rest := [.int (ac (g1 [n0, n1, n2, n3]) 8 3), .int (1 : Int32)]) (loc := [(b1, (.array .int), [.int (Int32.ofNat n0), .int (Int32.ofNat n1), .int (Int32.ofNat n2), .int (Int32.ofNat n3), .int (Int32.ofNat n4), .int (Int32.ofNat n5)])]) (rst := [(b17, O_IntPairs, [.ref b21, .int (2 : Int32)]), (b21, (.array .int), (((((List.replicate 64 (.int (0 : Int32))).set 0 (.int (Int32.ofNat n0))).set 1 (.int (Int32.ofNat n1))).set 2 (.int (Int32.ofNat n2))).set 3 (.int (Int32.ofNat n3)))), (b144, (.array .int), (fl 9 (ac (g1 [n0, n1, n2, n3]) 8))), (b149, (.array .int), (fl 8 (NX [n0, n1, n2, n3] 4))), (b150, (.array .int), (fl 4 (HH [n0, n1, n2, n3] 4)))]) W162 (wd hw 46 rfl) (wd hw 47 rfl) (wd hw 48 rfl) (wd hw 49 rfl) (by decide) (c_below4 l Z a0 hw b1 (3 : Int32) (Int32.ofNat n0) (Int32.ofNat n1) (Int32.ofNat n2) (Int32.ofNat n3) (Int32.ofNat n4) (Int32.ofNat n5)) ⟨[0, 1, 2, 3, 4, 5], by decide, rfl⟩ rfl pd_AIII__I rfl rfl rfl (Nat.le_of_ble_eq_true rfl) (by decide) (by decide) (by decide) (by decide) at_253 ?_
    rintro T163 _ _ ⟨rfl, rfl⟩ W164
    have W165 := W164.re (os' := [(b1, (.array .int), [.int (Int32.ofNat n0), .int (Int32.ofNat n1), .int (Int32.ofNat n2), .int (Int32.ofNat n3), .int (Int32.ofNat n4), .int (Int32.ofNat n5)]), (b17, O_IntPairs, [.ref b21, .int (2 : Int32)]), (b21, (.array .int), (((((List.replicate 64 (.int (0 : Int32))).set 0 (.int (Int32.ofNat n0))).set 1 (.int (Int32.ofNat n1))).set 2 (.int (Int32.ofNat n2))).set 3 (.int (Int32.ofNat n3)))), (b144, (.array .int), (fl 9 (ac (g1 [n0, n1, n2, n3]) 8))), (b149, (.array .int), (fl 8 (NX [n0, n1, n2, n3] 4))), (b150, (.array .int), (fl 4 (HH [n0, n1, n2, n3] 4)))]) rfl
    show Go p_ e_ bl_ _ (T163.setTop (mkF m_ 256 _ [.int ((((((if (Int32.ofNat n0) < (3 : Int32) then (1 : Int32) else (0 : Int32)) + (if (Int32.ofNat n1) < (3 : Int32) then (1 : Int32) else (0 : Int32))) + (if (Int32.ofNat n2) < (3 : Int32) then (1 : Int32) else (0 : Int32))) + (if (Int32.ofNat n3) < (3 : Int32) then (1 : Int32) else (0 : Int32))) + (0 : Int32)) + (0 : Int32)), .int (ac (g1 [n0, n1, n2, n3]) 8 3), .int (1 : Int32)]))
    refine g_icmpN (pc := 256) W165 at_256 (teq (own_off4_3 h0 h1 h2 h3)).2 ?_
    refine g_iconst (pc := 259) (1 : Int32) (by decide) W165 at_259 ?_
    refine g_goto 264 (pc := 260) W165 at_260 (by decide) (by decide) ?_
    refine g_iand (pc := 264) W165 at_264 ?_
    show Go p_ e_ bl_ _ (T163.setTop (mkF m_ 265 _ [.int (1 : Int32)]))
    refine g_istore (pc := 265) (ls' := #[.val (.int p0), .val (.int p1), .val (.int p2), .val (.int p3), .val (.int (2 : Int32)), .val (.ref b1), .val (.ref b17), .val (.int (4 : Int32)), .val (.ref b144), .val (.ref b150), .val (.int (1 : Int32))]) W165 at_265 rfl ?_
    refine g_iload (pc := 267) W165 at_267 rfl ?_
    refine g_aload (pc := 269) W165 at_269 rfl rfl ?_
    refine g_iconst (pc := 271) (4 : Int32) (by decide) W165 at_271 ?_
    refine g_iaload (pc := 272) (i := 3) (v := .int (ac (g1 [n0, n1, n2, n3]) 8 4)) W165 rfl (by decide) (fl_get (i := 4) (by decide)) at_272 ?_
    refine g_aload (pc := 273) W165 at_273 rfl rfl ?_
    refine g_iload (pc := 275) W165 at_275 rfl ?_
    refine g_iconst (pc := 277) (4 : Int32) (by decide) W165 at_277 ?_
    refine g_static (pc := 278) (Wt := 2) (argsL := [.ref b1, .int (4 : Int32), .int (4 : Int32)]) (rest := [.int (ac (g1 [n0, n1, n2, n3]) 8 4), .int (1 : Int32)]) (loc := [(b1, (.array .int), [.int (Int32.ofNat n0), .int (Int32.ofNat n1), .int (Int32.ofNat n2), .int (Int32.ofNat n3), .int (Int32.ofNat n4), .int (Int32.ofNat n5)])]) (rst := [(b17, O_IntPairs, [.ref b21, .int (2 : Int32)]), (b21, (.array .int), (((((List.replicate 64 (.int (0 : Int32))).set 0 (.int (Int32.ofNat n0))).set 1 (.int (Int32.ofNat n1))).set 2 (.int (Int32.ofNat n2))).set 3 (.int (Int32.ofNat n3)))), (b144, (.array .int), (fl 9 (ac (g1 [n0, n1, n2, n3]) 8))), (b149, (.array .int), (fl 8 (NX [n0, n1, n2, n3] 4))), (b150, (.array .int), (fl 4 (HH [n0, n1, n2, n3] 4)))]) W165 (wd hw 46 rfl) (wd hw 47 rfl) (wd hw 48 rfl) (wd hw 49 rfl) (by decide) (c_below4 l Z a0 hw b1 (4 : Int32) (Int32.ofNat n0) (Int32.ofNat n1) (Int32.ofNat n2) (Int32.ofNat n3) (Int32.ofNat n4) (Int32.ofNat n5)) ⟨[0, 1, 2, 3, 4, 5], by decide, rfl⟩ rfl pd_AIII__I rfl rfl rfl (Nat.le_of_ble_eq_true rfl) (by decide) (by decide) (by decide) (by decide) at_278 ?_
    rintro T166 _ _ ⟨rfl, rfl⟩ W167
    have W168 := W167.re (os' := [(b1, (.array .int), [.int (Int32.ofNat n0), .int (Int32.ofNat n1), .int (Int32.ofNat n2), .int (Int32.ofNat n3), .int (Int32.ofNat n4), .int (Int32.ofNat n5)]), (b17, O_IntPairs, [.ref b21, .int (2 : Int32)]), (b21, (.array .int), (((((List.replicate 64 (.int (0 : Int32))).set 0 (.int (Int32.ofNat n0))).set 1 (.int (Int32.ofNat n1))).set 2 (.int (Int32.ofNat n2))).set 3 (.int (Int32.ofNat n3)))), (b144, (.array .int), (fl 9 (ac (g1 [n0, n1, n2, n3]) 8))), (b149, (.array .int), (fl 8 (NX [n0, n1, n2, n3] 4))), (b150, (.array .int), (fl 4 (HH [n0, n1, n2, n3] 4)))]) rfl
    show Go p_ e_ bl_ _ (T166.setTop (mkF m_ 281 _ [.int ((((((if (Int32.ofNat n0) < (4 : Int32) then (1 : Int32) else (0 : Int32)) + (if (Int32.ofNat n1) < (4 : Int32) then (1 : Int32) else (0 : Int32))) + (if (Int32.ofNat n2) < (4 : Int32) then (1 : Int32) else (0 : Int32))) + (if (Int32.ofNat n3) < (4 : Int32) then (1 : Int32) else (0 : Int32))) + (0 : Int32)) + (0 : Int32)), .int (ac (g1 [n0, n1, n2, n3]) 8 4), .int (1 : Int32)]))
    refine g_icmpN (pc := 281) W168 at_281 (teq (own_off4_4 h0 h1 h2 h3)).2 ?_
    refine g_iconst (pc := 284) (1 : Int32) (by decide) W168 at_284 ?_
    refine g_goto 289 (pc := 285) W168 at_285 (by decide) (by decide) ?_
    refine g_iand (pc := 289) W168 at_289 ?_
    show Go p_ e_ bl_ _ (T166.setTop (mkF m_ 290 _ [.int (1 : Int32)]))
    refine g_istore (pc := 290) (ls' := #[.val (.int p0), .val (.int p1), .val (.int p2), .val (.int p3), .val (.int (2 : Int32)), .val (.ref b1), .val (.ref b17), .val (.int (4 : Int32)), .val (.ref b144), .val (.ref b150), .val (.int (1 : Int32))]) W168 at_290 rfl ?_
    refine g_iload (pc := 292) W168 at_292 rfl ?_
    refine g_aload (pc := 294) W168 at_294 rfl rfl ?_
    refine g_iconst (pc := 296) (5 : Int32) (by decide) W168 at_296 ?_
    refine g_iaload (pc := 297) (i := 3) (v := .int (ac (g1 [n0, n1, n2, n3]) 8 5)) W168 rfl (by decide) (fl_get (i := 5) (by decide)) at_297 ?_
    refine g_aload (pc := 298) W168 at_298 rfl rfl ?_
    refine g_iload (pc := 300) W168 at_300 rfl ?_
    refine g_iconst (pc := 302) (5 : Int32) (by decide) W168 at_302 ?_
    refine g_static (pc := 303) (Wt := 2) (argsL := [.ref b1, .int (4 : Int32), .int (5 : Int32)]) (rest := [.int (ac (g1 [n0, n1, n2, n3]) 8 5), .int (1 : Int32)]) (loc := [(b1, (.array .int), [.int (Int32.ofNat n0), .int (Int32.ofNat n1), .int (Int32.ofNat n2), .int (Int32.ofNat n3), .int (Int32.ofNat n4), .int (Int32.ofNat n5)])]) (rst := [(b17, O_IntPairs, [.ref b21, .int (2 : Int32)]), (b21, (.array .int), (((((List.replicate 64 (.int (0 : Int32))).set 0 (.int (Int32.ofNat n0))).set 1 (.int (Int32.ofNat n1))).set 2 (.int (Int32.ofNat n2))).set 3 (.int (Int32.ofNat n3)))), (b144, (.array .int), (fl 9 (ac (g1 [n0, n1, n2, n3]) 8))), (b149, (.array .int), (fl 8 (NX [n0, n1, n2, n3] 4))), (b150, (.array .int), (fl 4 (HH [n0, n1, n2, n3] 4)))]) W168 (wd hw 46 rfl) (wd hw 47 rfl) (wd hw 48 rfl) (wd hw 49 rfl) (by decide) (c_below4 l Z a0 hw b1 (5 : Int32) (Int32.ofNat n0) (Int32.ofNat n1) (Int32.ofNat n2) (Int32.ofNat n3) (Int32.ofNat n4) (Int32.ofNat n5)) ⟨[0, 1, 2, 3, 4, 5], by decide, rfl⟩ rfl pd_AIII__I rfl rfl rfl (Nat.le_of_ble_eq_true rfl) (by decide) (by decide) (by decide) (by decide) at_303 ?_
    rintro T169 _ _ ⟨rfl, rfl⟩ W170
    have W171 := W170.re (os' := [(b1, (.array .int), [.int (Int32.ofNat n0), .int (Int32.ofNat n1), .int (Int32.ofNat n2), .int (Int32.ofNat n3), .int (Int32.ofNat n4), .int (Int32.ofNat n5)]), (b17, O_IntPairs, [.ref b21, .int (2 : Int32)]), (b21, (.array .int), (((((List.replicate 64 (.int (0 : Int32))).set 0 (.int (Int32.ofNat n0))).set 1 (.int (Int32.ofNat n1))).set 2 (.int (Int32.ofNat n2))).set 3 (.int (Int32.ofNat n3)))), (b144, (.array .int), (fl 9 (ac (g1 [n0, n1, n2, n3]) 8))), (b149, (.array .int), (fl 8 (NX [n0, n1, n2, n3] 4))), (b150, (.array .int), (fl 4 (HH [n0, n1, n2, n3] 4)))]) rfl
    show Go p_ e_ bl_ _ (T169.setTop (mkF m_ 306 _ [.int ((((((if (Int32.ofNat n0) < (5 : Int32) then (1 : Int32) else (0 : Int32)) + (if (Int32.ofNat n1) < (5 : Int32) then (1 : Int32) else (0 : Int32))) + (if (Int32.ofNat n2) < (5 : Int32) then (1 : Int32) else (0 : Int32))) + (if (Int32.ofNat n3) < (5 : Int32) then (1 : Int32) else (0 : Int32))) + (0 : Int32)) + (0 : Int32)), .int (ac (g1 [n0, n1, n2, n3]) 8 5), .int (1 : Int32)]))
    refine g_icmpN (pc := 306) W171 at_306 (teq (own_off4_5 h0 h1 h2 h3)).2 ?_
    refine g_iconst (pc := 309) (1 : Int32) (by decide) W171 at_309 ?_
    refine g_goto 314 (pc := 310) W171 at_310 (by decide) (by decide) ?_
    refine g_iand (pc := 314) W171 at_314 ?_
    show Go p_ e_ bl_ _ (T169.setTop (mkF m_ 315 _ [.int (1 : Int32)]))
    refine g_istore (pc := 315) (ls' := #[.val (.int p0), .val (.int p1), .val (.int p2), .val (.int p3), .val (.int (2 : Int32)), .val (.ref b1), .val (.ref b17), .val (.int (4 : Int32)), .val (.ref b144), .val (.ref b150), .val (.int (1 : Int32))]) W171 at_315 rfl ?_
    refine g_iload (pc := 317) W171 at_317 rfl ?_
    refine g_aload (pc := 319) W171 at_319 rfl rfl ?_
    refine g_bipush (pc := 321) (6 : Int32) (by decide) W171 at_321 ?_
    refine g_iaload (pc := 323) (i := 3) (v := .int (ac (g1 [n0, n1, n2, n3]) 8 6)) W171 rfl (by decide) (fl_get (i := 6) (by decide)) at_323 ?_
    refine g_aload (pc := 324) W171 at_324 rfl rfl ?_
    refine g_iload (pc := 326) W171 at_326 rfl ?_
    refine g_bipush (pc := 328) (6 : Int32) (by decide) W171 at_328 ?_
    refine g_static (pc := 330) (Wt := 2) (argsL := [.ref b1, .int (4 : Int32), .int (6 : Int32)]) (rest := [.int (ac (g1 [n0, n1, n2, n3]) 8 6), .int (1 : Int32)]) (loc := [(b1, (.array .int), [.int (Int32.ofNat n0), .int (Int32.ofNat n1), .int (Int32.ofNat n2), .int (Int32.ofNat n3), .int (Int32.ofNat n4), .int (Int32.ofNat n5)])]) (rst := [(b17, O_IntPairs, [.ref b21, .int (2 : Int32)]), (b21, (.array .int), (((((List.replicate 64 (.int (0 : Int32))).set 0 (.int (Int32.ofNat n0))).set 1 (.int (Int32.ofNat n1))).set 2 (.int (Int32.ofNat n2))).set 3 (.int (Int32.ofNat n3)))), (b144, (.array .int), (fl 9 (ac (g1 [n0, n1, n2, n3]) 8))), (b149, (.array .int), (fl 8 (NX [n0, n1, n2, n3] 4))), (b150, (.array .int), (fl 4 (HH [n0, n1, n2, n3] 4)))]) W171 (wd hw 46 rfl) (wd hw 47 rfl) (wd hw 48 rfl) (wd hw 49 rfl) (by decide) (c_below4 l Z a0 hw b1 (6 : Int32) (Int32.ofNat n0) (Int32.ofNat n1) (Int32.ofNat n2) (Int32.ofNat n3) (Int32.ofNat n4) (Int32.ofNat n5)) ⟨[0, 1, 2, 3, 4, 5], by decide, rfl⟩ rfl pd_AIII__I rfl rfl rfl (Nat.le_of_ble_eq_true rfl) (by decide) (by decide) (by decide) (by decide) at_330 ?_
    rintro T172 _ _ ⟨rfl, rfl⟩ W173
    have W174 := W173.re (os' := [(b1, (.array .int), [.int (Int32.ofNat n0), .int (Int32.ofNat n1), .int (Int32.ofNat n2), .int (Int32.ofNat n3), .int (Int32.ofNat n4), .int (Int32.ofNat n5)]), (b17, O_IntPairs, [.ref b21, .int (2 : Int32)]), (b21, (.array .int), (((((List.replicate 64 (.int (0 : Int32))).set 0 (.int (Int32.ofNat n0))).set 1 (.int (Int32.ofNat n1))).set 2 (.int (Int32.ofNat n2))).set 3 (.int (Int32.ofNat n3)))), (b144, (.array .int), (fl 9 (ac (g1 [n0, n1, n2, n3]) 8))), (b149, (.array .int), (fl 8 (NX [n0, n1, n2, n3] 4))), (b150, (.array .int), (fl 4 (HH [n0, n1, n2, n3] 4)))]) rfl
    show Go p_ e_ bl_ _ (T172.setTop (mkF m_ 333 _ [.int ((((((if (Int32.ofNat n0) < (6 : Int32) then (1 : Int32) else (0 : Int32)) + (if (Int32.ofNat n1) < (6 : Int32) then (1 : Int32) else (0 : Int32))) + (if (Int32.ofNat n2) < (6 : Int32) then (1 : Int32) else (0 : Int32))) + (if (Int32.ofNat n3) < (6 : Int32) then (1 : Int32) else (0 : Int32))) + (0 : Int32)) + (0 : Int32)), .int (ac (g1 [n0, n1, n2, n3]) 8 6), .int (1 : Int32)]))
    refine g_icmpN (pc := 333) W174 at_333 (teq (own_off4_6 h0 h1 h2 h3)).2 ?_
    refine g_iconst (pc := 336) (1 : Int32) (by decide) W174 at_336 ?_
    refine g_goto 341 (pc := 337) W174 at_337 (by decide) (by decide) ?_
    refine g_iand (pc := 341) W174 at_341 ?_
    show Go p_ e_ bl_ _ (T172.setTop (mkF m_ 342 _ [.int (1 : Int32)]))
    refine g_istore (pc := 342) (ls' := #[.val (.int p0), .val (.int p1), .val (.int p2), .val (.int p3), .val (.int (2 : Int32)), .val (.ref b1), .val (.ref b17), .val (.int (4 : Int32)), .val (.ref b144), .val (.ref b150), .val (.int (1 : Int32))]) W174 at_342 rfl ?_
    refine g_iload (pc := 344) W174 at_344 rfl ?_
    refine g_aload (pc := 346) W174 at_346 rfl rfl ?_
    refine g_bipush (pc := 348) (7 : Int32) (by decide) W174 at_348 ?_
    refine g_iaload (pc := 350) (i := 3) (v := .int (ac (g1 [n0, n1, n2, n3]) 8 7)) W174 rfl (by decide) (fl_get (i := 7) (by decide)) at_350 ?_
    refine g_aload (pc := 351) W174 at_351 rfl rfl ?_
    refine g_iload (pc := 353) W174 at_353 rfl ?_
    refine g_bipush (pc := 355) (7 : Int32) (by decide) W174 at_355 ?_
    refine g_static (pc := 357) (Wt := 2) (argsL := [.ref b1, .int (4 : Int32), .int (7 : Int32)]) (rest := [.int (ac (g1 [n0, n1, n2, n3]) 8 7), .int (1 : Int32)]) (loc := [(b1, (.array .int), [.int (Int32.ofNat n0), .int (Int32.ofNat n1), .int (Int32.ofNat n2), .int (Int32.ofNat n3), .int (Int32.ofNat n4), .int (Int32.ofNat n5)])]) (rst := [(b17, O_IntPairs, [.ref b21, .int (2 : Int32)]), (b21, (.array .int), (((((List.replicate 64 (.int (0 : Int32))).set 0 (.int (Int32.ofNat n0))).set 1 (.int (Int32.ofNat n1))).set 2 (.int (Int32.ofNat n2))).set 3 (.int (Int32.ofNat n3)))), (b144, (.array .int), (fl 9 (ac (g1 [n0, n1, n2, n3]) 8))), (b149, (.array .int), (fl 8 (NX [n0, n1, n2, n3] 4))), (b150, (.array .int), (fl 4 (HH [n0, n1, n2, n3] 4)))]) W174 (wd hw 46 rfl) (wd hw 47 rfl) (wd hw 48 rfl) (wd hw 49 rfl) (by decide) (c_below4 l Z a0 hw b1 (7 : Int32) (Int32.ofNat n0) (Int32.ofNat n1) (Int32.ofNat n2) (Int32.ofNat n3) (Int32.ofNat n4) (Int32.ofNat n5)) ⟨[0, 1, 2, 3, 4, 5], by decide, rfl⟩ rfl pd_AIII__I rfl rfl rfl (Nat.le_of_ble_eq_true rfl) (by decide) (by decide) (by decide) (by decide) at_357 ?_
    rintro T175 _ _ ⟨rfl, rfl⟩ W176
    have W177 := W176.re (os' := [(b1, (.array .int), [.int (Int32.ofNat n0), .int (Int32.ofNat n1), .int (Int32.ofNat n2), .int (Int32.ofNat n3), .int (Int32.ofNat n4), .int (Int32.ofNat n5)]), (b17, O_IntPairs, [.ref b21, .int (2 : Int32)]), (b21, (.array .int), (((((List.replicate 64 (.int (0 : Int32))).set 0 (.int (Int32.ofNat n0))).set 1 (.int (Int32.ofNat n1))).set 2 (.int (Int32.ofNat n2))).set 3 (.int (Int32.ofNat n3)))), (b144, (.array .int), (fl 9 (ac (g1 [n0, n1, n2, n3]) 8))), (b149, (.array .int), (fl 8 (NX [n0, n1, n2, n3] 4))), (b150, (.array .int), (fl 4 (HH [n0, n1, n2, n3] 4)))]) rfl
    show Go p_ e_ bl_ _ (T175.setTop (mkF m_ 360 _ [.int ((((((if (Int32.ofNat n0) < (7 : Int32) then (1 : Int32) else (0 : Int32)) + (if (Int32.ofNat n1) < (7 : Int32) then (1 : Int32) else (0 : Int32))) + (if (Int32.ofNat n2) < (7 : Int32) then (1 : Int32) else (0 : Int32))) + (if (Int32.ofNat n3) < (7 : Int32) then (1 : Int32) else (0 : Int32))) + (0 : Int32)) + (0 : Int32)), .int (ac (g1 [n0, n1, n2, n3]) 8 7), .int (1 : Int32)]))
    refine g_icmpN (pc := 360) W177 at_360 (teq (own_off4_7 h0 h1 h2 h3)).2 ?_
    refine g_iconst (pc := 363) (1 : Int32) (by decide) W177 at_363 ?_
    refine g_goto 368 (pc := 364) W177 at_364 (by decide) (by decide) ?_
    refine g_iand (pc := 368) W177 at_368 ?_
    show Go p_ e_ bl_ _ (T175.setTop (mkF m_ 369 _ [.int (1 : Int32)]))
    refine g_istore (pc := 369) (ls' := #[.val (.int p0), .val (.int p1), .val (.int p2), .val (.int p3), .val (.int (2 : Int32)), .val (.ref b1), .val (.ref b17), .val (.int (4 : Int32)), .val (.ref b144), .val (.ref b150), .val (.int (1 : Int32))]) W177 at_369 rfl ?_
    refine g_iload (pc := 371) W177 at_371 rfl ?_
    refine g_aload (pc := 373) W177 at_373 rfl rfl ?_
    refine g_bipush (pc := 375) (8 : Int32) (by decide) W177 at_375 ?_
    refine g_iaload (pc := 377) (i := 3) (v := .int (ac (g1 [n0, n1, n2, n3]) 8 8)) W177 rfl (by decide) (fl_get (i := 8) (by decide)) at_377 ?_
    refine g_aload (pc := 378) W177 at_378 rfl rfl ?_
    refine g_iload (pc := 380) W177 at_380 rfl ?_
    refine g_bipush (pc := 382) (8 : Int32) (by decide) W177 at_382 ?_
    refine g_static (pc := 384) (Wt := 2) (argsL := [.ref b1, .int (4 : Int32), .int (8 : Int32)]) (rest := [.int (ac (g1 [n0, n1, n2, n3]) 8 8), .int (1 : Int32)]) (loc := [(b1, (.array .int), [.int (Int32.ofNat n0), .int (Int32.ofNat n1), .int (Int32.ofNat n2), .int (Int32.ofNat n3), .int (Int32.ofNat n4), .int (Int32.ofNat n5)])]) (rst := [(b17, O_IntPairs, [.ref b21, .int (2 : Int32)]), (b21, (.array .int), (((((List.replicate 64 (.int (0 : Int32))).set 0 (.int (Int32.ofNat n0))).set 1 (.int (Int32.ofNat n1))).set 2 (.int (Int32.ofNat n2))).set 3 (.int (Int32.ofNat n3)))), (b144, (.array .int), (fl 9 (ac (g1 [n0, n1, n2, n3]) 8))), (b149, (.array .int), (fl 8 (NX [n0, n1, n2, n3] 4))), (b150, (.array .int), (fl 4 (HH [n0, n1, n2, n3] 4)))]) W177 (wd hw 46 rfl) (wd hw 47 rfl) (wd hw 48 rfl) (wd hw 49 rfl) (by decide) (c_below4 l Z a0 hw b1 (8 : Int32) (Int32.ofNat n0) (Int32.ofNat n1) (Int32.ofNat n2) (Int32.ofNat n3) (Int32.ofNat n4) (Int32.ofNat n5)) ⟨[0, 1, 2, 3, 4, 5], by decide, rfl⟩ rfl pd_AIII__I rfl rfl rfl (Nat.le_of_ble_eq_true rfl) (by decide) (by decide) (by decide) (by decide) at_384 ?_
    rintro T178 _ _ ⟨rfl, rfl⟩ W179
    have W180 := W179.re (os' := [(b1, (.array .int), [.int (Int32.ofNat n0), .int (Int32.ofNat n1), .int (Int32.ofNat n2), .int (Int32.ofNat n3), .int (Int32.ofNat n4), .int (Int32.ofNat n5)]), (b17, O_IntPairs, [.ref b21, .int (2 : Int32)]), (b21, (.array .int), (((((List.replicate 64 (.int (0 : Int32))).set 0 (.int (Int32.ofNat n0))).set 1 (.int (Int32.ofNat n1))).set 2 (.int (Int32.ofNat n2))).set 3 (.int (Int32.ofNat n3)))), (b144, (.array .int), (fl 9 (ac (g1 [n0, n1, n2, n3]) 8))), (b149, (.array .int), (fl 8 (NX [n0, n1, n2, n3] 4))), (b150, (.array .int), (fl 4 (HH [n0, n1, n2, n3] 4)))]) rfl
    show Go p_ e_ bl_ _ (T178.setTop (mkF m_ 387 _ [.int ((((((if (Int32.ofNat n0) < (8 : Int32) then (1 : Int32) else (0 : Int32)) + (if (Int32.ofNat n1) < (8 : Int32) then (1 : Int32) else (0 : Int32))) + (if (Int32.ofNat n2) < (8 : Int32) then (1 : Int32) else (0 : Int32))) + (if (Int32.ofNat n3) < (8 : Int32) then (1 : Int32) else (0 : Int32))) + (0 : Int32)) + (0 : Int32)), .int (ac (g1 [n0, n1, n2, n3]) 8 8), .int (1 : Int32)]))
    refine g_icmpN (pc := 387) W180 at_387 (teq (own_off4_8 h0 h1 h2 h3)).2 ?_
    refine g_iconst (pc := 390) (1 : Int32) (by decide) W180 at_390 ?_
    refine g_goto 395 (pc := 391) W180 at_391 (by decide) (by decide) ?_
    refine g_iand (pc := 395) W180 at_395 ?_
    show Go p_ e_ bl_ _ (T178.setTop (mkF m_ 396 _ [.int (1 : Int32)]))
    refine g_istore (pc := 396) (ls' := #[.val (.int p0), .val (.int p1), .val (.int p2), .val (.int p3), .val (.int (2 : Int32)), .val (.ref b1), .val (.ref b17), .val (.int (4 : Int32)), .val (.ref b144), .val (.ref b150), .val (.int (1 : Int32))]) W180 at_396 rfl ?_
    refine g_iload (pc := 398) W180 at_398 rfl ?_
    refine g_aload (pc := 400) W180 at_400 rfl rfl ?_
    refine g_iload (pc := 402) W180 at_402 rfl ?_
    refine g_aload (pc := 404) W180 at_404 rfl rfl ?_
    refine g_iconst (pc := 406) (0 : Int32) (by decide) W180 at_406 ?_
    refine g_static (pc := 407) (Wt := 1) (argsL := [.ref b1, .int (4 : Int32), .ref b150, .int (0 : Int32)]) (rest := [.int (1 : Int32)]) (loc := [(b1, (.array .int), [.int (Int32.ofNat n0), .int (Int32.ofNat n1), .int (Int32.ofNat n2), .int (Int32.ofNat n3), .int (Int32.ofNat n4), .int (Int32.ofNat n5)]), (b150, (.array .int), (fl 4 (HH [n0, n1, n2, n3] 4)))]) (rst := [(b17, O_IntPairs, [.ref b21, .int (2 : Int32)]), (b21, (.array .int), (((((List.replicate 64 (.int (0 : Int32))).set 0 (.int (Int32.ofNat n0))).set 1 (.int (Int32.ofNat n1))).set 2 (.int (Int32.ofNat n2))).set 3 (.int (Int32.ofNat n3)))), (b144, (.array .int), (fl 9 (ac (g1 [n0, n1, n2, n3]) 8))), (b149, (.array .int), (fl 8 (NX [n0, n1, n2, n3] 4)))]) W180 (wd hw 53 rfl) (wd hw 54 rfl) (wd hw 48 rfl) (wd hw 55 rfl) (by decide) (c_slot40 l Z a0 hw b1 b150 (Int32.ofNat n0) (Int32.ofNat n1) (Int32.ofNat n2) (Int32.ofNat n3) (Int32.ofNat n4) (Int32.ofNat n5) (fl 4 (HH [n0, n1, n2, n3] 4)) (by rw [fl_len]; rfl) (own_sl4_0 h0 h1 h2 h3).1 (own_sl4_0 h0 h1 h2 h3).2.1 (own_sl4_0 h0 h1 h2 h3).2.2) ⟨[0, 5, 1, 2, 3, 4], by decide, rfl⟩ rfl pd_AIIAII__Z rfl rfl rfl (Nat.le_of_ble_eq_true rfl) (by decide) (by decide) (by decide) (by decide) at_407 ?_
    rintro T181 _ _ ⟨rfl, rfl⟩ W182
    have W183 := W182.re (os' := [(b1, (.array .int), [.int (Int32.ofNat n0), .int (Int32.ofNat n1), .int (Int32.ofNat n2), .int (Int32.ofNat n3), .int (Int32.ofNat n4), .int (Int32.ofNat n5)]), (b150, (.array .int), (fl 4 (HH [n0, n1, n2, n3] 4))), (b17, O_IntPairs, [.ref b21, .int (2 : Int32)]), (b21, (.array .int), (((((List.replicate 64 (.int (0 : Int32))).set 0 (.int (Int32.ofNat n0))).set 1 (.int (Int32.ofNat n1))).set 2 (.int (Int32.ofNat n2))).set 3 (.int (Int32.ofNat n3)))), (b144, (.array .int), (fl 9 (ac (g1 [n0, n1, n2, n3]) 8))), (b149, (.array .int), (fl 8 (NX [n0, n1, n2, n3] 4)))]) rfl
    show Go p_ e_ bl_ _ (T181.setTop (mkF m_ 410 _ [.int (1 : Int32), .int (1 : Int32)]))
    refine g_iand (pc := 410) W183 at_410 ?_
    show Go p_ e_ bl_ _ (T181.setTop (mkF m_ 411 _ [.int (1 : Int32)]))
    refine g_istore (pc := 411) (ls' := #[.val (.int p0), .val (.int p1), .val (.int p2), .val (.int p3), .val (.int (2 : Int32)), .val (.ref b1), .val (.ref b17), .val (.int (4 : Int32)), .val (.ref b144), .val (.ref b150), .val (.int (1 : Int32))]) W183 at_411 rfl ?_
    refine g_iload (pc := 413) W183 at_413 rfl ?_
    refine g_aload (pc := 415) W183 at_415 rfl rfl ?_
    refine g_iload (pc := 417) W183 at_417 rfl ?_
    refine g_aload (pc := 419) W183 at_419 rfl rfl ?_
    refine g_iconst (pc := 421) (1 : Int32) (by decide) W183 at_421 ?_
    refine g_static (pc := 422) (Wt := 1) (argsL := [.ref b1, .int (4 : Int32), .ref b150, .int (1 : Int32)]) (rest := [.int (1 : Int32)]) (loc := [(b1, (.array .int), [.int (Int32.ofNat n0), .int (Int32.ofNat n1), .int (Int32.ofNat n2), .int (Int32.ofNat n3), .int (Int32.ofNat n4), .int (Int32.ofNat n5)]), (b150, (.array .int), (fl 4 (HH [n0, n1, n2, n3] 4)))]) (rst := [(b17, O_IntPairs, [.ref b21, .int (2 : Int32)]), (b21, (.array .int), (((((List.replicate 64 (.int (0 : Int32))).set 0 (.int (Int32.ofNat n0))).set 1 (.int (Int32.ofNat n1))).set 2 (.int (Int32.ofNat n2))).set 3 (.int (Int32.ofNat n3)))), (b144, (.array .int), (fl 9 (ac (g1 [n0, n1, n2, n3]) 8))), (b149, (.array .int), (fl 8 (NX [n0, n1, n2, n3] 4)))]) W183 (wd hw 53 rfl) (wd hw 54 rfl) (wd hw 48 rfl) (wd hw 55 rfl) (by decide) (c_slot41 l Z a0 hw b1 b150 (Int32.ofNat n0) (Int32.ofNat n1) (Int32.ofNat n2) (Int32.ofNat n3) (Int32.ofNat n4) (Int32.ofNat n5) (fl 4 (HH [n0, n1, n2, n3] 4)) (by rw [fl_len]; rfl) (own_sl4_1 h0 h1 h2 h3).1 (own_sl4_1 h0 h1 h2 h3).2.1 (own_sl4_1 h0 h1 h2 h3).2.2) ⟨[0, 1, 2, 3, 4, 5], by decide, rfl⟩ rfl pd_AIIAII__Z rfl rfl rfl (Nat.le_of_ble_eq_true rfl) (by decide) (by decide) (by decide) (by decide) at_422 ?_
    rintro T184 _ _ ⟨rfl, rfl⟩ W185
    have W186 := W185.re (os' := [(b1, (.array .int), [.int (Int32.ofNat n0), .int (Int32.ofNat n1), .int (Int32.ofNat n2), .int (Int32.ofNat n3), .int (Int32.ofNat n4), .int (Int32.ofNat n5)]), (b150, (.array .int), (fl 4 (HH [n0, n1, n2, n3] 4))), (b17, O_IntPairs, [.ref b21, .int (2 : Int32)]), (b21, (.array .int), (((((List.replicate 64 (.int (0 : Int32))).set 0 (.int (Int32.ofNat n0))).set 1 (.int (Int32.ofNat n1))).set 2 (.int (Int32.ofNat n2))).set 3 (.int (Int32.ofNat n3)))), (b144, (.array .int), (fl 9 (ac (g1 [n0, n1, n2, n3]) 8))), (b149, (.array .int), (fl 8 (NX [n0, n1, n2, n3] 4)))]) rfl
    show Go p_ e_ bl_ _ (T184.setTop (mkF m_ 425 _ [.int (1 : Int32), .int (1 : Int32)]))
    refine g_iand (pc := 425) W186 at_425 ?_
    show Go p_ e_ bl_ _ (T184.setTop (mkF m_ 426 _ [.int (1 : Int32)]))
    refine g_istore (pc := 426) (ls' := #[.val (.int p0), .val (.int p1), .val (.int p2), .val (.int p3), .val (.int (2 : Int32)), .val (.ref b1), .val (.ref b17), .val (.int (4 : Int32)), .val (.ref b144), .val (.ref b150), .val (.int (1 : Int32))]) W186 at_426 rfl ?_
    refine g_iload (pc := 428) W186 at_428 rfl ?_
    refine g_aload (pc := 430) W186 at_430 rfl rfl ?_
    refine g_iload (pc := 432) W186 at_432 rfl ?_
    refine g_aload (pc := 434) W186 at_434 rfl rfl ?_
    refine g_iconst (pc := 436) (2 : Int32) (by decide) W186 at_436 ?_
    refine g_static (pc := 437) (Wt := 1) (argsL := [.ref b1, .int (4 : Int32), .ref b150, .int (2 : Int32)]) (rest := [.int (1 : Int32)]) (loc := [(b1, (.array .int), [.int (Int32.ofNat n0), .int (Int32.ofNat n1), .int (Int32.ofNat n2), .int (Int32.ofNat n3), .int (Int32.ofNat n4), .int (Int32.ofNat n5)]), (b150, (.array .int), (fl 4 (HH [n0, n1, n2, n3] 4)))]) (rst := [(b17, O_IntPairs, [.ref b21, .int (2 : Int32)]), (b21, (.array .int), (((((List.replicate 64 (.int (0 : Int32))).set 0 (.int (Int32.ofNat n0))).set 1 (.int (Int32.ofNat n1))).set 2 (.int (Int32.ofNat n2))).set 3 (.int (Int32.ofNat n3)))), (b144, (.array .int), (fl 9 (ac (g1 [n0, n1, n2, n3]) 8))), (b149, (.array .int), (fl 8 (NX [n0, n1, n2, n3] 4)))]) W186 (wd hw 53 rfl) (wd hw 54 rfl) (wd hw 48 rfl) (wd hw 55 rfl) (by decide) (c_slot42 l Z a0 hw b1 b150 (Int32.ofNat n0) (Int32.ofNat n1) (Int32.ofNat n2) (Int32.ofNat n3) (Int32.ofNat n4) (Int32.ofNat n5) (fl 4 (HH [n0, n1, n2, n3] 4)) (by rw [fl_len]; rfl) (own_sl4_2 h0 h1 h2 h3).1 (own_sl4_2 h0 h1 h2 h3).2.1 (own_sl4_2 h0 h1 h2 h3).2.2) ⟨[0, 1, 2, 3, 4, 5], by decide, rfl⟩ rfl pd_AIIAII__Z rfl rfl rfl (Nat.le_of_ble_eq_true rfl) (by decide) (by decide) (by decide) (by decide) at_437 ?_
    rintro T187 _ _ ⟨rfl, rfl⟩ W188
    have W189 := W188.re (os' := [(b1, (.array .int), [.int (Int32.ofNat n0), .int (Int32.ofNat n1), .int (Int32.ofNat n2), .int (Int32.ofNat n3), .int (Int32.ofNat n4), .int (Int32.ofNat n5)]), (b150, (.array .int), (fl 4 (HH [n0, n1, n2, n3] 4))), (b17, O_IntPairs, [.ref b21, .int (2 : Int32)]), (b21, (.array .int), (((((List.replicate 64 (.int (0 : Int32))).set 0 (.int (Int32.ofNat n0))).set 1 (.int (Int32.ofNat n1))).set 2 (.int (Int32.ofNat n2))).set 3 (.int (Int32.ofNat n3)))), (b144, (.array .int), (fl 9 (ac (g1 [n0, n1, n2, n3]) 8))), (b149, (.array .int), (fl 8 (NX [n0, n1, n2, n3] 4)))]) rfl
    show Go p_ e_ bl_ _ (T187.setTop (mkF m_ 440 _ [.int (1 : Int32), .int (1 : Int32)]))
    refine g_iand (pc := 440) W189 at_440 ?_
    show Go p_ e_ bl_ _ (T187.setTop (mkF m_ 441 _ [.int (1 : Int32)]))
    refine g_istore (pc := 441) (ls' := #[.val (.int p0), .val (.int p1), .val (.int p2), .val (.int p3), .val (.int (2 : Int32)), .val (.ref b1), .val (.ref b17), .val (.int (4 : Int32)), .val (.ref b144), .val (.ref b150), .val (.int (1 : Int32))]) W189 at_441 rfl ?_
    refine g_iload (pc := 443) W189 at_443 rfl ?_
    refine g_aload (pc := 445) W189 at_445 rfl rfl ?_
    refine g_iload (pc := 447) W189 at_447 rfl ?_
    refine g_aload (pc := 449) W189 at_449 rfl rfl ?_
    refine g_iconst (pc := 451) (3 : Int32) (by decide) W189 at_451 ?_
    refine g_static (pc := 452) (Wt := 1) (argsL := [.ref b1, .int (4 : Int32), .ref b150, .int (3 : Int32)]) (rest := [.int (1 : Int32)]) (loc := [(b1, (.array .int), [.int (Int32.ofNat n0), .int (Int32.ofNat n1), .int (Int32.ofNat n2), .int (Int32.ofNat n3), .int (Int32.ofNat n4), .int (Int32.ofNat n5)]), (b150, (.array .int), (fl 4 (HH [n0, n1, n2, n3] 4)))]) (rst := [(b17, O_IntPairs, [.ref b21, .int (2 : Int32)]), (b21, (.array .int), (((((List.replicate 64 (.int (0 : Int32))).set 0 (.int (Int32.ofNat n0))).set 1 (.int (Int32.ofNat n1))).set 2 (.int (Int32.ofNat n2))).set 3 (.int (Int32.ofNat n3)))), (b144, (.array .int), (fl 9 (ac (g1 [n0, n1, n2, n3]) 8))), (b149, (.array .int), (fl 8 (NX [n0, n1, n2, n3] 4)))]) W189 (wd hw 53 rfl) (wd hw 54 rfl) (wd hw 48 rfl) (wd hw 55 rfl) (by decide) (c_slot43 l Z a0 hw b1 b150 (Int32.ofNat n0) (Int32.ofNat n1) (Int32.ofNat n2) (Int32.ofNat n3) (Int32.ofNat n4) (Int32.ofNat n5) (fl 4 (HH [n0, n1, n2, n3] 4)) (by rw [fl_len]; rfl) (own_sl4_3 h0 h1 h2 h3).1 (own_sl4_3 h0 h1 h2 h3).2.1 (own_sl4_3 h0 h1 h2 h3).2.2) ⟨[0, 1, 2, 3, 4, 5], by decide, rfl⟩ rfl pd_AIIAII__Z rfl rfl rfl (Nat.le_of_ble_eq_true rfl) (by decide) (by decide) (by decide) (by decide) at_452 ?_
    rintro T190 _ _ ⟨rfl, rfl⟩ W191
    have W192 := W191.re (os' := [(b1, (.array .int), [.int (Int32.ofNat n0), .int (Int32.ofNat n1), .int (Int32.ofNat n2), .int (Int32.ofNat n3), .int (Int32.ofNat n4), .int (Int32.ofNat n5)]), (b150, (.array .int), (fl 4 (HH [n0, n1, n2, n3] 4))), (b17, O_IntPairs, [.ref b21, .int (2 : Int32)]), (b21, (.array .int), (((((List.replicate 64 (.int (0 : Int32))).set 0 (.int (Int32.ofNat n0))).set 1 (.int (Int32.ofNat n1))).set 2 (.int (Int32.ofNat n2))).set 3 (.int (Int32.ofNat n3)))), (b144, (.array .int), (fl 9 (ac (g1 [n0, n1, n2, n3]) 8))), (b149, (.array .int), (fl 8 (NX [n0, n1, n2, n3] 4)))]) rfl
    show Go p_ e_ bl_ _ (T190.setTop (mkF m_ 455 _ [.int (1 : Int32), .int (1 : Int32)]))
    refine g_iand (pc := 455) W192 at_455 ?_
    show Go p_ e_ bl_ _ (T190.setTop (mkF m_ 456 _ [.int (1 : Int32)]))
    refine g_istore (pc := 456) (ls' := #[.val (.int p0), .val (.int p1), .val (.int p2), .val (.int p3), .val (.int (2 : Int32)), .val (.ref b1), .val (.ref b17), .val (.int (4 : Int32)), .val (.ref b144), .val (.ref b150), .val (.int (1 : Int32))]) W192 at_456 rfl ?_
    refine g_iload (pc := 458) W192 at_458 rfl ?_
    refine g_aload (pc := 460) W192 at_460 rfl rfl ?_
    refine g_iload (pc := 462) W192 at_462 rfl ?_
    refine g_aload (pc := 464) W192 at_464 rfl rfl ?_
    refine g_iconst (pc := 466) (4 : Int32) (by decide) W192 at_466 ?_
    refine g_static (pc := 467) (Wt := 1) (argsL := [.ref b1, .int (4 : Int32), .ref b150, .int (4 : Int32)]) (rest := [.int (1 : Int32)]) (loc := [(b1, (.array .int), [.int (Int32.ofNat n0), .int (Int32.ofNat n1), .int (Int32.ofNat n2), .int (Int32.ofNat n3), .int (Int32.ofNat n4), .int (Int32.ofNat n5)]), (b150, (.array .int), (fl 4 (HH [n0, n1, n2, n3] 4)))]) (rst := [(b17, O_IntPairs, [.ref b21, .int (2 : Int32)]), (b21, (.array .int), (((((List.replicate 64 (.int (0 : Int32))).set 0 (.int (Int32.ofNat n0))).set 1 (.int (Int32.ofNat n1))).set 2 (.int (Int32.ofNat n2))).set 3 (.int (Int32.ofNat n3)))), (b144, (.array .int), (fl 9 (ac (g1 [n0, n1, n2, n3]) 8))), (b149, (.array .int), (fl 8 (NX [n0, n1, n2, n3] 4)))]) W192 (wd hw 53 rfl) (wd hw 54 rfl) (wd hw 48 rfl) (wd hw 55 rfl) (by decide) (c_slot44 l Z a0 hw b1 b150 (Int32.ofNat n0) (Int32.ofNat n1) (Int32.ofNat n2) (Int32.ofNat n3) (Int32.ofNat n4) (Int32.ofNat n5) (fl 4 (HH [n0, n1, n2, n3] 4))) ⟨[0, 1, 2, 3, 4, 5], by decide, rfl⟩ rfl pd_AIIAII__Z rfl rfl rfl (Nat.le_of_ble_eq_true rfl) (by decide) (by decide) (by decide) (by decide) at_467 ?_
    rintro T193 _ _ ⟨rfl, rfl⟩ W194
    have W195 := W194.re (os' := [(b1, (.array .int), [.int (Int32.ofNat n0), .int (Int32.ofNat n1), .int (Int32.ofNat n2), .int (Int32.ofNat n3), .int (Int32.ofNat n4), .int (Int32.ofNat n5)]), (b150, (.array .int), (fl 4 (HH [n0, n1, n2, n3] 4))), (b17, O_IntPairs, [.ref b21, .int (2 : Int32)]), (b21, (.array .int), (((((List.replicate 64 (.int (0 : Int32))).set 0 (.int (Int32.ofNat n0))).set 1 (.int (Int32.ofNat n1))).set 2 (.int (Int32.ofNat n2))).set 3 (.int (Int32.ofNat n3)))), (b144, (.array .int), (fl 9 (ac (g1 [n0, n1, n2, n3]) 8))), (b149, (.array .int), (fl 8 (NX [n0, n1, n2, n3] 4)))]) rfl
    show Go p_ e_ bl_ _ (T193.setTop (mkF m_ 470 _ [.int (1 : Int32), .int (1 : Int32)]))
    refine g_iand (pc := 470) W195 at_470 ?_
    show Go p_ e_ bl_ _ (T193.setTop (mkF m_ 471 _ [.int (1 : Int32)]))
    refine g_istore (pc := 471) (ls' := #[.val (.int p0), .val (.int p1), .val (.int p2), .val (.int p3), .val (.int (2 : Int32)), .val (.ref b1), .val (.ref b17), .val (.int (4 : Int32)), .val (.ref b144), .val (.ref b150), .val (.int (1 : Int32))]) W195 at_471 rfl ?_
    refine g_iload (pc := 473) W195 at_473 rfl ?_
    refine g_aload (pc := 475) W195 at_475 rfl rfl ?_
    refine g_iload (pc := 477) W195 at_477 rfl ?_
    refine g_aload (pc := 479) W195 at_479 rfl rfl ?_
    refine g_iconst (pc := 481) (5 : Int32) (by decide) W195 at_481 ?_
    refine g_static (pc := 482) (Wt := 1) (argsL := [.ref b1, .int (4 : Int32), .ref b150, .int (5 : Int32)]) (rest := [.int (1 : Int32)]) (loc := [(b1, (.array .int), [.int (Int32.ofNat n0), .int (Int32.ofNat n1), .int (Int32.ofNat n2), .int (Int32.ofNat n3), .int (Int32.ofNat n4), .int (Int32.ofNat n5)]), (b150, (.array .int), (fl 4 (HH [n0, n1, n2, n3] 4)))]) (rst := [(b17, O_IntPairs, [.ref b21, .int (2 : Int32)]), (b21, (.array .int), (((((List.replicate 64 (.int (0 : Int32))).set 0 (.int (Int32.ofNat n0))).set 1 (.int (Int32.ofNat n1))).set 2 (.int (Int32.ofNat n2))).set 3 (.int (Int32.ofNat n3)))), (b144, (.array .int), (fl 9 (ac (g1 [n0, n1, n2, n3]) 8))), (b149, (.array .int), (fl 8 (NX [n0, n1, n2, n3] 4)))]) W195 (wd hw 53 rfl) (wd hw 54 rfl) (wd hw 48 rfl) (wd hw 55 rfl) (by decide) (c_slot45 l Z a0 hw b1 b150 (Int32.ofNat n0) (Int32.ofNat n1) (Int32.ofNat n2) (Int32.ofNat n3) (Int32.ofNat n4) (Int32.ofNat n5) (fl 4 (HH [n0, n1, n2, n3] 4))) ⟨[0, 1, 2, 3, 4, 5], by decide, rfl⟩ rfl pd_AIIAII__Z rfl rfl rfl (Nat.le_of_ble_eq_true rfl) (by decide) (by decide) (by decide) (by decide) at_482 ?_
    rintro T196 _ _ ⟨rfl, rfl⟩ W197
    have W198 := W197.re (os' := [(b1, (.array .int), [.int (Int32.ofNat n0), .int (Int32.ofNat n1), .int (Int32.ofNat n2), .int (Int32.ofNat n3), .int (Int32.ofNat n4), .int (Int32.ofNat n5)]), (b150, (.array .int), (fl 4 (HH [n0, n1, n2, n3] 4))), (b17, O_IntPairs, [.ref b21, .int (2 : Int32)]), (b21, (.array .int), (((((List.replicate 64 (.int (0 : Int32))).set 0 (.int (Int32.ofNat n0))).set 1 (.int (Int32.ofNat n1))).set 2 (.int (Int32.ofNat n2))).set 3 (.int (Int32.ofNat n3)))), (b144, (.array .int), (fl 9 (ac (g1 [n0, n1, n2, n3]) 8))), (b149, (.array .int), (fl 8 (NX [n0, n1, n2, n3] 4)))]) rfl
    show Go p_ e_ bl_ _ (T196.setTop (mkF m_ 485 _ [.int (1 : Int32), .int (1 : Int32)]))
    refine g_iand (pc := 485) W198 at_485 ?_
    show Go p_ e_ bl_ _ (T196.setTop (mkF m_ 486 _ [.int (1 : Int32)]))
    refine g_istore (pc := 486) (ls' := #[.val (.int p0), .val (.int p1), .val (.int p2), .val (.int p3), .val (.int (2 : Int32)), .val (.ref b1), .val (.ref b17), .val (.int (4 : Int32)), .val (.ref b144), .val (.ref b150), .val (.int (1 : Int32))]) W198 at_486 rfl ?_
    refine g_iload (pc := 488) W198 at_488 rfl ?_
    exact g_zreturn (pc := 490) rfl (by decide) W198 at_490 (by decide) (by decide) rfl
  · rw [hl]
    refine g_iload (pc := 74) W24 at_74 rfl ?_
    refine g_ifN (pc := 76) W24 at_76 (by decide) ?_
    refine g_aload (pc := 79) W24 at_79 rfl rfl ?_
    refine g_aload (pc := 81) W24 at_81 rfl rfl ?_
    refine g_iconst (pc := 83) (0 : Int32) (by decide) W24 at_83 ?_
    refine g_iaload (pc := 84) (i := 2) (v := .int (Int32.ofNat n0)) W24 rfl (by decide) rfl at_84 ?_
    refine g_aload (pc := 85) W24 at_85 rfl rfl ?_
    refine g_iconst (pc := 87) (1 : Int32) (by decide) W24 at_87 ?_
    refine g_iaload (pc := 88) (i := 2) (v := .int (Int32.ofNat n1)) W24 rfl (by decide) rfl at_88 ?_
    refine g_virtual (i := 0) (pc := 89) (Wt := 0) (argsL := [.int (Int32.ofNat n0), .int (Int32.ofNat n1)]) (rest := []) (loc := [(b17, O_IntPairs, [.ref b21, .int (0 : Int32)]), (b21, (.array .int), (List.replicate 64 (.int (0 : Int32))))]) (rst := [(b1, (.array .int), [.int (Int32.ofNat n0), .int (Int32.ofNat n1), .int (Int32.ofNat n2), .int (Int32.ofNat n3), .int (Int32.ofNat n4), .int (Int32.ofNat n5)])]) W24 (wd hw 12 rfl) (wd hw 14 rfl) (wd hw 3 rfl) (wd hw 16 rfl) (wd hw 13 rfl) (wd hw 15 rfl) rfl (by decide) (c_add l Z a0 hw b17 b21 (0 : Int32) (1 : Int32) (Int32.ofNat n0) (Int32.ofNat n1) (List.replicate 64 (.int (0 : Int32))) 0 (by simp) (by decide) (by decide) (by decide) (by decide) (by decide) (by decide) (by decide)) ⟨[0, 1, 2], by decide, rfl⟩ rfl pd_II__Z rfl rfl rfl (Nat.le_of_ble_eq_true rfl) (by decide) (by decide) (by decide) (by decide) at_89 ?_
    rintro T199 _ _ ⟨rfl, rfl⟩ W200
    have W201 := W200.re (os' := [(b17, O_IntPairs, [.ref b21, .int (1 : Int32)]), (b21, (.array .int), (((List.replicate 64 (.int (0 : Int32))).set 0 (.int (Int32.ofNat n0))).set 1 (.int (Int32.ofNat n1)))), (b1, (.array .int), [.int (Int32.ofNat n0), .int (Int32.ofNat n1), .int (Int32.ofNat n2), .int (Int32.ofNat n3), .int (Int32.ofNat n4), .int (Int32.ofNat n5)])]) rfl
    show Go p_ e_ bl_ _ (T199.setTop (mkF m_ 92 _ [.int (1 : Int32)]))
    refine g_pop (pc := 92) W201 at_92 rfl ?_
    refine g_iload (pc := 93) W201 at_93 rfl ?_
    refine g_iconst (pc := 95) (1 : Int32) (by decide) W201 at_95 ?_
    refine g_icmpN (pc := 96) W201 at_96 (by decide) ?_
    refine g_aload (pc := 99) W201 at_99 rfl rfl ?_
    refine g_aload (pc := 101) W201 at_101 rfl rfl ?_
    refine g_iconst (pc := 103) (2 : Int32) (by decide) W201 at_103 ?_
    refine g_iaload (pc := 104) (i := 2) (v := .int (Int32.ofNat n2)) W201 rfl (by decide) rfl at_104 ?_
    refine g_aload (pc := 105) W201 at_105 rfl rfl ?_
    refine g_iconst (pc := 107) (3 : Int32) (by decide) W201 at_107 ?_
    refine g_iaload (pc := 108) (i := 2) (v := .int (Int32.ofNat n3)) W201 rfl (by decide) rfl at_108 ?_
    refine g_virtual (i := 0) (pc := 109) (Wt := 0) (argsL := [.int (Int32.ofNat n2), .int (Int32.ofNat n3)]) (rest := []) (loc := [(b17, O_IntPairs, [.ref b21, .int (1 : Int32)]), (b21, (.array .int), (((List.replicate 64 (.int (0 : Int32))).set 0 (.int (Int32.ofNat n0))).set 1 (.int (Int32.ofNat n1))))]) (rst := [(b1, (.array .int), [.int (Int32.ofNat n0), .int (Int32.ofNat n1), .int (Int32.ofNat n2), .int (Int32.ofNat n3), .int (Int32.ofNat n4), .int (Int32.ofNat n5)])]) W201 (wd hw 12 rfl) (wd hw 14 rfl) (wd hw 3 rfl) (wd hw 16 rfl) (wd hw 13 rfl) (wd hw 15 rfl) rfl (by decide) (c_add l Z a0 hw b17 b21 (1 : Int32) (2 : Int32) (Int32.ofNat n2) (Int32.ofNat n3) (((List.replicate 64 (.int (0 : Int32))).set 0 (.int (Int32.ofNat n0))).set 1 (.int (Int32.ofNat n1))) 2 (by simp) (by decide) (by decide) (by decide) (by decide) (by decide) (by decide) (by decide)) ⟨[0, 1, 2], by decide, rfl⟩ rfl pd_II__Z rfl rfl rfl (Nat.le_of_ble_eq_true rfl) (by decide) (by decide) (by decide) (by decide) at_109 ?_
    rintro T202 _ _ ⟨rfl, rfl⟩ W203
    have W204 := W203.re (os' := [(b17, O_IntPairs, [.ref b21, .int (2 : Int32)]), (b21, (.array .int), (((((List.replicate 64 (.int (0 : Int32))).set 0 (.int (Int32.ofNat n0))).set 1 (.int (Int32.ofNat n1))).set 2 (.int (Int32.ofNat n2))).set 3 (.int (Int32.ofNat n3)))), (b1, (.array .int), [.int (Int32.ofNat n0), .int (Int32.ofNat n1), .int (Int32.ofNat n2), .int (Int32.ofNat n3), .int (Int32.ofNat n4), .int (Int32.ofNat n5)])]) rfl
    show Go p_ e_ bl_ _ (T202.setTop (mkF m_ 112 _ [.int (1 : Int32)]))
    refine g_pop (pc := 112) W204 at_112 rfl ?_
    refine g_iload (pc := 113) W204 at_113 rfl ?_
    refine g_iconst (pc := 115) (2 : Int32) (by decide) W204 at_115 ?_
    refine g_icmpN (pc := 116) W204 at_116 (by decide) ?_
    refine g_aload (pc := 119) W204 at_119 rfl rfl ?_
    refine g_aload (pc := 121) W204 at_121 rfl rfl ?_
    refine g_iconst (pc := 123) (4 : Int32) (by decide) W204 at_123 ?_
    refine g_iaload (pc := 124) (i := 2) (v := .int (Int32.ofNat n4)) W204 rfl (by decide) rfl at_124 ?_
    refine g_aload (pc := 125) W204 at_125 rfl rfl ?_
    refine g_iconst (pc := 127) (5 : Int32) (by decide) W204 at_127 ?_
    refine g_iaload (pc := 128) (i := 2) (v := .int (Int32.ofNat n5)) W204 rfl (by decide) rfl at_128 ?_
    refine g_virtual (i := 0) (pc := 129) (Wt := 0) (argsL := [.int (Int32.ofNat n4), .int (Int32.ofNat n5)]) (rest := []) (loc := [(b17, O_IntPairs, [.ref b21, .int (2 : Int32)]), (b21, (.array .int), (((((List.replicate 64 (.int (0 : Int32))).set 0 (.int (Int32.ofNat n0))).set 1 (.int (Int32.ofNat n1))).set 2 (.int (Int32.ofNat n2))).set 3 (.int (Int32.ofNat n3))))]) (rst := [(b1, (.array .int), [.int (Int32.ofNat n0), .int (Int32.ofNat n1), .int (Int32.ofNat n2), .int (Int32.ofNat n3), .int (Int32.ofNat n4), .int (Int32.ofNat n5)])]) W204 (wd hw 12 rfl) (wd hw 14 rfl) (wd hw 3 rfl) (wd hw 16 rfl) (wd hw 13 rfl) (wd hw 15 rfl) rfl (by decide) (c_add l Z a0 hw b17 b21 (2 : Int32) (3 : Int32) (Int32.ofNat n4) (Int32.ofNat n5) (((((List.replicate 64 (.int (0 : Int32))).set 0 (.int (Int32.ofNat n0))).set 1 (.int (Int32.ofNat n1))).set 2 (.int (Int32.ofNat n2))).set 3 (.int (Int32.ofNat n3))) 4 (by simp) (by decide) (by decide) (by decide) (by decide) (by decide) (by decide) (by decide)) ⟨[0, 1, 2], by decide, rfl⟩ rfl pd_II__Z rfl rfl rfl (Nat.le_of_ble_eq_true rfl) (by decide) (by decide) (by decide) (by decide) at_129 ?_
    rintro T205 _ _ ⟨rfl, rfl⟩ W206
    have W207 := W206.re (os' := [(b17, O_IntPairs, [.ref b21, .int (3 : Int32)]), (b21, (.array .int), (((((((List.replicate 64 (.int (0 : Int32))).set 0 (.int (Int32.ofNat n0))).set 1 (.int (Int32.ofNat n1))).set 2 (.int (Int32.ofNat n2))).set 3 (.int (Int32.ofNat n3))).set 4 (.int (Int32.ofNat n4))).set 5 (.int (Int32.ofNat n5)))), (b1, (.array .int), [.int (Int32.ofNat n0), .int (Int32.ofNat n1), .int (Int32.ofNat n2), .int (Int32.ofNat n3), .int (Int32.ofNat n4), .int (Int32.ofNat n5)])]) rfl
    show Go p_ e_ bl_ _ (T205.setTop (mkF m_ 132 _ [.int (1 : Int32)]))
    refine g_pop (pc := 132) W207 at_132 rfl ?_
    refine g_iconst (pc := 133) (2 : Int32) (by decide) W207 at_133 ?_
    refine g_iload (pc := 134) W207 at_134 rfl ?_
    refine g_imul (pc := 136) W207 at_136 ?_
    show Go p_ e_ bl_ _ (T205.setTop (mkF m_ 137 _ [.int (6 : Int32)]))
    refine g_istore (pc := 137) (ls' := #[.val (.int p0), .val (.int p1), .val (.int p2), .val (.int p3), .val (.int (3 : Int32)), .val (.ref b1), .val (.ref b17), .val (.int (6 : Int32)), .unset, .unset, .unset]) W207 at_137 rfl ?_
    refine g_bipush (pc := 139) (9 : Int32) (by decide) W207 at_139 ?_
    refine g_newarray (pc := 141) (ty := .int) (vs := [.int (0 : Int32), .int (0 : Int32), .int (0 : Int32), .int (0 : Int32), .int (0 : Int32), .int (0 : Int32), .int (0 : Int32), .int (0 : Int32), .int (0 : Int32)]) 9 W207 (wd hw 0 rfl) rfl (by decide) (by decide) (by decide) rfl at_141 (by decide) (by decide) (fun T209 b208 W210 => ?_)
    have W211 := W210.re (os' := [(b17, O_IntPairs, [.ref b21, .int (3 : Int32)]), (b21, (.array .int), (((((((List.replicate 64 (.int (0 : Int32))).set 0 (.int (Int32.ofNat n0))).set 1 (.int (Int32.ofNat n1))).set 2 (.int (Int32.ofNat n2))).set 3 (.int (Int32.ofNat n3))).set 4 (.int (Int32.ofNat n4))).set 5 (.int (Int32.ofNat n5)))), (b1, (.array .int), [.int (Int32.ofNat n0), .int (Int32.ofNat n1), .int (Int32.ofNat n2), .int (Int32.ofNat n3), .int (Int32.ofNat n4), .int (Int32.ofNat n5)]), (b208, (.array .int), [.int (0 : Int32), .int (0 : Int32), .int (0 : Int32), .int (0 : Int32), .int (0 : Int32), .int (0 : Int32), .int (0 : Int32), .int (0 : Int32), .int (0 : Int32)])]) rfl
    have W212 := W211.re (os' := [(b17, O_IntPairs, [.ref b21, .int (3 : Int32)]), (b21, (.array .int), (((((((List.replicate 64 (.int (0 : Int32))).set 0 (.int (Int32.ofNat n0))).set 1 (.int (Int32.ofNat n1))).set 2 (.int (Int32.ofNat n2))).set 3 (.int (Int32.ofNat n3))).set 4 (.int (Int32.ofNat n4))).set 5 (.int (Int32.ofNat n5)))), (b1, (.array .int), [.int (Int32.ofNat n0), .int (Int32.ofNat n1), .int (Int32.ofNat n2), .int (Int32.ofNat n3), .int (Int32.ofNat n4), .int (Int32.ofNat n5)]), (b208, (.array .int), (fl 9 zf))]) rfl
    refine g_astore (pc := 143) (ls' := #[.val (.int p0), .val (.int p1), .val (.int p2), .val (.int p3), .val (.int (3 : Int32)), .val (.ref b1), .val (.ref b17), .val (.int (6 : Int32)), .val (.ref b208), .unset, .unset]) W212 at_143 rfl rfl ?_
    refine g_aload (pc := 145) W212 at_145 rfl rfl ?_
    refine g_aload (pc := 147) W212 at_147 rfl rfl ?_
    refine g_virtual (i := 0) (pc := 149) (Wt := 0) (argsL := [.ref b208]) (rest := []) (loc := [(b17, O_IntPairs, [.ref b21, .int (3 : Int32)]), (b21, (.array .int), (((((((List.replicate 64 (.int (0 : Int32))).set 0 (.int (Int32.ofNat n0))).set 1 (.int (Int32.ofNat n1))).set 2 (.int (Int32.ofNat n2))).set 3 (.int (Int32.ofNat n3))).set 4 (.int (Int32.ofNat n4))).set 5 (.int (Int32.ofNat n5)))), (b208, (.array .int), (fl 9 zf))]) (rst := [(b1, (.array .int), [.int (Int32.ofNat n0), .int (Int32.ofNat n1), .int (Int32.ofNat n2), .int (Int32.ofNat n3), .int (Int32.ofNat n4), .int (Int32.ofNat n5)])]) W212 (wd hw 19 rfl) (wd hw 21 rfl) (wd hw 3 rfl) (wd hw 23 rfl) (wd hw 20 rfl) (wd hw 22 rfl) rfl (by decide) (c_part3 l Z a0 hw b17 b21 b208 (((((((List.replicate 64 (.int (0 : Int32))).set 0 (.int (Int32.ofNat n0))).set 1 (.int (Int32.ofNat n1))).set 2 (.int (Int32.ofNat n2))).set 3 (.int (Int32.ofNat n3))).set 4 (.int (Int32.ofNat n4))).set 5 (.int (Int32.ofNat n5))) n0 n1 n2 n3 n4 n5 h0 h1 h2 h3 h4 h5 rfl rfl rfl rfl rfl rfl (own_bd6_0 h0 h1 h2 h3 h4 h5).1 (own_bd6_0 h0 h1 h2 h3 h4 h5).2.1 (own_bd6_1 h0 h1 h2 h3 h4 h5).1 (own_bd6_1 h0 h1 h2 h3 h4 h5).2.1 (own_bd6_2 h0 h1 h2 h3 h4 h5).1 (own_bd6_2 h0 h1 h2 h3 h4 h5).2.1 (own_bd6_3 h0 h1 h2 h3 h4 h5).1 (own_bd6_3 h0 h1 h2 h3 h4 h5).2.1 (own_bd6_4 h0 h1 h2 h3 h4 h5).1 (own_bd6_4 h0 h1 h2 h3 h4 h5).2.1 (own_bd6_5 h0 h1 h2 h3 h4 h5).1 (own_bd6_5 h0 h1 h2 h3 h4 h5).2.1) ⟨[0, 1, 3, 2], by decide, rfl⟩ rfl pd_AI__AI rfl rfl rfl (Nat.le_of_ble_eq_true rfl) (by decide) (by decide) (by decide) (by decide) at_149 ?_
    rintro T215 _ _ ⟨b213, b214, rfl, rfl⟩ W216
    have W217 := W216.re (os' := [(b17, O_IntPairs, [.ref b21, .int (3 : Int32)]), (b21, (.array .int), (((((((List.replicate 64 (.int (0 : Int32))).set 0 (.int (Int32.ofNat n0))).set 1 (.int (Int32.ofNat n1))).set 2 (.int (Int32.ofNat n2))).set 3 (.int (Int32.ofNat n3))).set 4 (.int (Int32.ofNat n4))).set 5 (.int (Int32.ofNat n5)))), (b208, (.array .int), (fl 9 (ac (g1 [n0, n1, n2, n3, n4, n5]) 8))), (b213, (.array .int), (fl 8 (NX [n0, n1, n2, n3, n4, n5] 6))), (b214, (.array .int), (fl 6 (HH [n0, n1, n2, n3, n4, n5] 6))), (b1, (.array .int), [.int (Int32.ofNat n0), .int (Int32.ofNat n1), .int (Int32.ofNat n2), .int (Int32.ofNat n3), .int (Int32.ofNat n4), .int (Int32.ofNat n5)])]) rfl
    show Go p_ e_ bl_ _ (T215.setTop (mkF m_ 152 _ [.ref b214]))
    refine g_astore (pc := 152) (ls' := #[.val (.int p0), .val (.int p1), .val (.int p2), .val (.int p3), .val (.int (3 : Int32)), .val (.ref b1), .val (.ref b17), .val (.int (6 : Int32)), .val (.ref b208), .val (.ref b214), .unset]) W217 at_152 rfl rfl ?_
    refine g_aload (pc := 154) W217 at_154 rfl rfl ?_
    refine g_arraylength (pc := 156) (i := 4) (6 : Int32) W217 rfl (by rw [fl_len]; rfl) at_156 ?_
    refine g_iload (pc := 157) W217 at_157 rfl ?_
    refine g_icmpY 164 (pc := 159) W217 at_159 (by decide) (by decide) (by decide) ?_
    refine g_iconst (pc := 164) (1 : Int32) (by decide) W217 at_164 ?_
    refine g_istore (pc := 165) (ls' := #[.val (.int p0), .val (.int p1), .val (.int p2), .val (.int p3), .val (.int (3 : Int32)), .val (.ref b1), .val (.ref b17), .val (.int (6 : Int32)), .val (.ref b208), .val (.ref b214), .val (.int (1 : Int32))]) W217 at_165 rfl ?_
    refine g_iload (pc := 167) W217 at_167 rfl ?_
    refine g_aload (pc := 169) W217 at_169 rfl rfl ?_
    refine g_iconst (pc := 171) (0 : Int32) (by decide) W217 at_171 ?_
    refine g_iaload (pc := 172) (i := 2) (v := .int (ac (g1 [n0, n1, n2, n3, n4, n5]) 8 0)) W217 rfl (by decide) (fl_get (i := 0) (by decide)) at_172 ?_
    refine g_aload (pc := 173) W217 at_173 rfl rfl ?_
    refine g_iload (pc := 175) W217 at_175 rfl ?_
    refine g_iconst (pc := 177) (0 : Int32) (by decide) W217 at_177 ?_
    refine g_static (pc := 178) (Wt := 2) (argsL := [.ref b1, .int (6 : Int32), .int (0 : Int32)]) (rest := [.int (ac (g1 [n0, n1, n2, n3, n4, n5]) 8 0), .int (1 : Int32)]) (loc := [(b1, (.array .int), [.int (Int32.ofNat n0), .int (Int32.ofNat n1), .int (Int32.ofNat n2), .int (Int32.ofNat n3), .int (Int32.ofNat n4), .int (Int32.ofNat n5)])]) (rst := [(b17, O_IntPairs, [.ref b21, .int (3 : Int32)]), (b21, (.array .int), (((((((List.replicate 64 (.int (0 : Int32))).set 0 (.int (Int32.ofNat n0))).set 1 (.int (Int32.ofNat n1))).set 2 (.int (Int32.ofNat n2))).set 3 (.int (Int32.ofNat n3))).set 4 (.int (Int32.ofNat n4))).set 5 (.int (Int32.ofNat n5)))), (b208, (.array .int), (fl 9 (ac (g1 [n0, n1, n2, n3, n4, n5]) 8))), (b213, (.array .int), (fl 8 (NX [n0, n1, n2, n3, n4, n5] 6))), (b214, (.array .int), (fl 6 (HH [n0, n1, n2, n3, n4, n5] 6)))]) W217 (wd hw 46 rfl) (wd hw 47 rfl) (wd hw 48 rfl) (wd hw 49 rfl) (by decide) (c_below6 l Z a0 hw b1 (0 : Int32) (Int32.ofNat n0) (Int32.ofNat n1) (Int32.ofNat n2) (Int32.ofNat n3) (Int32.ofNat n4) (Int32.ofNat n5)) ⟨[5, 0, 1, 2, 3, 4], by decide, rfl⟩ rfl pd_AIII__I rfl rfl rfl (Nat.le_of_ble_eq_true rfl) (by decide) (by decide) (by decide) (by decide) at_178 ?_
    rintro T218 _ _ ⟨rfl, rfl⟩ W219
    have W220 := W219.re (os' := [(b1, (.array .int), [.int (Int32.ofNat n0), .int (Int32.ofNat n1), .int (Int32.ofNat n2), .int (Int32.ofNat n3), .int (Int32.ofNat n4), .int (Int32.ofNat n5)]), (b17, O_IntPairs, [.ref b21, .int (3 : Int32)]), (b21, (.array .int), (((((((List.replicate 64 (.int (0 : Int32))).set 0 (.int (Int32.ofNat n0))).set 1 (.int (Int32.ofNat n1))).set 2 (.int (Int32.ofNat n2))).set 3 (.int (Int32.ofNat n3))).set 4 (.int (Int32.ofNat n4))).set 5 (.int (Int32.ofNat n5)))), (b208, (.array .int), (fl 9 (ac (g1 [n0, n1, n2, n3, n4, n5]) 8))), (b213, (.array .int), (fl 8 (NX [n0, n1, n2, n3, n4, n5] 6))), (b214, (.array .int), (fl 6 (HH [n0, n1, n2, n3, n4, n5] 6)))]) rfl
    show Go p_ e_ bl_ _ (T218.setTop (mkF m_ 181 _ [.int ((((((if (Int32.ofNat n0) < (0 : Int32) then (1 : Int32) else (0 : Int32)) + (if (Int32.ofNat n1) < (0 : Int32) then (1 : Int32) else (0 : Int32))) + (if (Int32.ofNat n2) < (0 : Int32) then (1 : Int32) else (0 : Int32))) + (if (Int32.ofNat n3) < (0 : Int32) then (1 : Int32) else (0 : Int32))) + (if (Int32.ofNat n4) < (0 : Int32) then (1 : Int32) else (0 : Int32))) + (if (Int32.ofNat n5) < (0 : Int32) then (1 : Int32) else (0 : Int32))), .int (ac (g1 [n0, n1, n2, n3, n4, n5]) 8 0), .int (1 : Int32)]))
    refine g_icmpN (pc := 181) W220 at_181 (teq (own_off6_0 h0 h1 h2 h3 h4 h5)).2 ?_
    refine g_iconst (pc := 184) (1 : Int32) (by decide) W220 at_184 ?_
    refine g_goto 189 (pc := 185) W220 at_185 (by decide) (by decide) ?_
    refine g_iand (pc := 189) W220 at_189 ?_
    show Go p_ e_ bl_ _ (T218.setTop (mkF m_ 190 _ [.int (1 : Int32)]))
    refine g_istore (pc := 190) (ls' := #[.val (.int p0), .val (.int p1), .val (.int p2), .val (.int p3), .val (.int (3 : Int32)), .val (.ref b1), .val (.ref b17), .val (.int (6 : Int32)), .val (.ref b208), .val (.ref b214), .val (.int (1 : Int32))]) W220 at_190 rfl ?_
    refine g_iload (pc := 192) W220 at_192 rfl ?_
    refine g_aload (pc := 194) W220 at_194 rfl rfl ?_
    refine g_iconst (pc := 196) (1 : Int32) (by decide) W220 at_196 ?_
    refine g_iaload (pc := 197) (i := 3) (v := .int (ac (g1 [n0, n1, n2, n3, n4, n5]) 8 1)) W220 rfl (by decide) (fl_get (i := 1) (by decide)) at_197 ?_
    refine g_aload (pc := 198) W220 at_198 rfl rfl ?_
    refine g_iload (pc := 200) W220 at_200 rfl ?_
    refine g_iconst (pc := 202) (1 : Int32) (by decide) W220 at_202 ?_
    refine g_static (pc := 203) (Wt := 2) (argsL := [.ref b1, .int (6 : Int32), .int (1 : Int32)]) (rest := [.int (ac (g1 [n0, n1, n2, n3, n4, n5]) 8 1), .int (1 : Int32)]) (loc := [(b1, (.array .int), [.int (Int32.ofNat n0), .int (Int32.ofNat n1), .int (Int32.ofNat n2), .int (Int32.ofNat n3), .int (Int32.ofNat n4), .int (Int32.ofNat n5)])]) (rst := [(b17, O_IntPairs, [.ref b21, .int (3 : Int32)]), (b21, (.array .int), (((((((List.replicate 64 (.int (0 : Int32))).set 0 (.int (Int32.ofNat n0))).set 1 (.int (Int32.ofNat n1))).set 2 (.int (Int32.ofNat n2))).set 3 (.int (Int32.ofNat n3))).set 4 (.int (Int32.ofNat n4))).set 5 (.int (Int32.ofNat n5)))), (b208, (.array .int), (fl 9 (ac (g1 [n0, n1, n2, n3, n4, n5]) 8))), (b213, (.array .int), (fl 8 (NX [n0, n1, n2, n3, n4, n5] 6))), (b214, (.array .int), (fl 6 (HH [n0, n1, n2, n3, n4, n5] 6)))]) W220 (wd hw 46 rfl) (wd hw 47 rfl) (wd hw 48 rfl) (wd hw 49 rfl) (by decide) (c_below6 l Z a0 hw b1 (1 : Int32) (Int32.ofNat n0) (Int32.ofNat n1) (Int32.ofNat n2) (Int32.ofNat n3) (Int32.ofNat n4) (Int32.ofNat n5)) ⟨[0, 1, 2, 3, 4, 5], by decide, rfl⟩ rfl pd_AIII__I rfl rfl rfl (Nat.le_of_ble_eq_true rfl) (by decide) (by decide) (by decide) (by decide) at_203 ?_
    rintro T221 _ _ ⟨rfl, rfl⟩ W222
    have W223 := W222.re (os' := [(b1, (.array .int), [.int (Int32.ofNat n0), .int (Int32.ofNat n1), .int (Int32.ofNat n2), .int (Int32.ofNat n3), .int (Int32.ofNat n4), .int (Int32.ofNat n5)]), (b17, O_IntPairs, [.ref b21, .int (3 : Int32)]), (b21, (.array .int), (((((((List.replicate 64 (.int (0 : Int32))).set 0 (.int (Int32.ofNat n0))).set 1 (.int (Int32.ofNat n1))).set 2 (.int (Int32.ofNat n2))).set 3 (.int (Int32.ofNat n3))).set 4 (.int (Int32.ofNat n4))).set 5 (.int (Int32.ofNat n5)))), (b208, (.array .int), (fl 9 (ac (g1 [n0, n1, n2, n3, n4, n5]) 8))), (b213, (.array .int), (fl 8 (NX [n0, n1, n2, n3, n4, n5] 6))), (b214, (.array .int), (fl 6 (HH [n0, n1, n2, n3, n4, n5] 6)))]) rfl
    show Go p_ e_ bl_ _ (T221.setTop (mkF m_ 206 _ [.int ((((((if (Int32.ofNat n0) < (1 : Int32) then (1 : Int32) else (0 : Int32)) + (if (Int32.ofNat n1) < (1 : Int32) then (1 : Int32) else (0 : Int32))) + (if (Int32.ofNat n2) < (1 : Int32) then (1 : Int32) else (0 : Int32))) + (if (Int32.ofNat n3) < (1 : Int32) then (1 : Int32) else (0 : Int32))) + (if (Int32.ofNat n4) < (1 : Int32) then (1 : Int32) else (0 : Int32))) + (if (Int32.ofNat n5) < (1 : Int32) then (1 : Int32) else (0 : Int32))), .int (ac (g1 [n0, n1, n2, n3, n4, n5]) 8 1), .int (1 : Int32)]))
    refine g_icmpN (pc := 206) W223 at_206 (teq (own_off6_1 h0 h1 h2 h3 h4 h5)).2 ?_
    refine g_iconst (pc := 209) (1 : Int32) (by decide) W223 at_209 ?_
    refine g_goto 214 (pc := 210) W223 at_210 (by decide) (by decide) ?_
    refine g_iand (pc := 214) W223 at_214 ?_
    show Go p_ e_ bl_ _ (T221.setTop (mkF m_ 215 _ [.int (1 : Int32)]))
    refine g_istore (pc := 215) (ls' := #[.val (.int p0), .val (.int p1), .val (.int p2), .val (.int p3), .val (.int (3 : Int32)), .val (.ref b1), .val (.ref b17), .val (.int (6 : Int32)), .val (.ref b208), .val (.ref b214), .val (.int (1 : Int32))]) W223 at_215 rfl ?_
    refine g_iload (pc := 217) W223 at_217 rfl ?_
    refine g_aload (pc := 219) W223 at_219 rfl rfl ?_
    refine g_iconst (pc := 221) (2 : Int32) (by decide) W223 at_221 ?_
    refine g_iaload (pc := 222) (i := 3) (v := .int (ac (g1 [n0, n1, n2, n3, n4, n5]) 8 2)) W223 rfl (by decide) (fl_get (i := 2) (by decide)) at_222 ?_
    refine g_aload (pc := 223) W223 at_223 rfl rfl ?_
    refine g_iload (pc := 225) W223 at_225 rfl ?_
    refine g_iconst (pc := 227) (2 : Int32) (by decide) W223 at_227 ?_
    refine g_static (pc := 228) (Wt := 2) (argsL := [.ref b1, .int (6 : Int32), .int (2 : Int32)]) (rest := [.int (ac (g1 [n0, n1, n2, n3, n4, n5]) 8 2), .int (1 : Int32)]) (loc := [(b1, (.array .int), [.int (Int32.ofNat n0), .int (Int32.ofNat n1), .int (Int32.ofNat n2), .int (Int32.ofNat n3), .int (Int32.ofNat n4), .int (Int32.ofNat n5)])]) (rst := [(b17, O_IntPairs, [.ref b21, .int (3 : Int32)]), (b21, (.array .int), (((((((List.replicate 64 (.int (0 : Int32))).set 0 (.int (Int32.ofNat n0))).set 1 (.int (Int32.ofNat n1))).set 2 (.int (Int32.ofNat n2))).set 3 (.int (Int32.ofNat n3))).set 4 (.int (Int32.ofNat n4))).set 5 (.int (Int32.ofNat n5)))), (b208, (.array .int), (fl 9 (ac (g1 [n0, n1, n2, n3, n4, n5]) 8))), (b213, (.array .int), (fl 8 (NX [n0, n1, n2, n3, n4, n5] 6))), (b214, (.array .int), (fl 6 (HH [n0, n1, n2, n3, n4, n5] 6)))]) W223 (wd hw 46 rfl) (wd hw 47 rfl) (wd hw 48 rfl) (wd hw 49 rfl) (by decide) (c_below6 l Z a0 hw b1 (2 : Int32) (Int32.ofNat n0) (Int32.ofNat n1) (Int32.ofNat n2) (Int32.ofNat n3) (Int32.ofNat n4) (Int32.ofNat n5)) ⟨[0, 1, 2, 3, 4, 5], by decide, rfl⟩ rfl pd_AIII__I rfl rfl rfl (Nat.le_of_ble_eq_true rfl) (by decide) (by decide) (by decide) (by decide) at_228 ?_
    rintro T224 _ _ ⟨rfl, rfl⟩ W225
    have W226 := W225.re (os' := [(b1, (.array .int), [.int (Int32.ofNat n0), .int (Int32.ofNat n1), .int (Int32.ofNat n2), .int (Int32.ofNat n3), .int (Int32.ofNat n4), .int (Int32.ofNat n5)]), (b17, O_IntPairs, [.ref b21, .int (3 : Int32)]), (b21, (.array .int), (((((((List.replicate 64 (.int (0 : Int32))).set 0 (.int (Int32.ofNat n0))).set 1 (.int (Int32.ofNat n1))).set 2 (.int (Int32.ofNat n2))).set 3 (.int (Int32.ofNat n3))).set 4 (.int (Int32.ofNat n4))).set 5 (.int (Int32.ofNat n5)))), (b208, (.array .int), (fl 9 (ac (g1 [n0, n1, n2, n3, n4, n5]) 8))), (b213, (.array .int), (fl 8 (NX [n0, n1, n2, n3, n4, n5] 6))), (b214, (.array .int), (fl 6 (HH [n0, n1, n2, n3, n4, n5] 6)))]) rfl
    show Go p_ e_ bl_ _ (T224.setTop (mkF m_ 231 _ [.int ((((((if (Int32.ofNat n0) < (2 : Int32) then (1 : Int32) else (0 : Int32)) + (if (Int32.ofNat n1) < (2 : Int32) then (1 : Int32) else (0 : Int32))) + (if (Int32.ofNat n2) < (2 : Int32) then (1 : Int32) else (0 : Int32))) + (if (Int32.ofNat n3) < (2 : Int32) then (1 : Int32) else (0 : Int32))) + (if (Int32.ofNat n4) < (2 : Int32) then (1 : Int32) else (0 : Int32))) + (if (Int32.ofNat n5) < (2 : Int32) then (1 : Int32) else (0 : Int32))), .int (ac (g1 [n0, n1, n2, n3, n4, n5]) 8 2), .int (1 : Int32)]))
    refine g_icmpN (pc := 231) W226 at_231 (teq (own_off6_2 h0 h1 h2 h3 h4 h5)).2 ?_
    refine g_iconst (pc := 234) (1 : Int32) (by decide) W226 at_234 ?_
    refine g_goto 239 (pc := 235) W226 at_235 (by decide) (by decide) ?_
    refine g_iand (pc := 239) W226 at_239 ?_
    show Go p_ e_ bl_ _ (T224.setTop (mkF m_ 240 _ [.int (1 : Int32)]))
    refine g_istore (pc := 240) (ls' := #[.val (.int p0), .val (.int p1), .val (.int p2), .val (.int p3), .val (.int (3 : Int32)), .val (.ref b1), .val (.ref b17), .val (.int (6 : Int32)), .val (.ref b208), .val (.ref b214), .val (.int (1 : Int32))]) W226 at_240 rfl ?_
    refine g_iload (pc := 242) W226 at_242 rfl ?_
    refine g_aload (pc := 244) W226 at_244 rfl rfl ?_
    refine g_iconst (pc := 246) (3 : Int32) (by decide) W226 at_246 ?_
    refine g_iaload (pc := 247) (i := 3) (v := .int (ac (g1 [n0, n1, n2, n3, n4, n5]) 8 3)) W226 rfl (by decide) (fl_get (i := 3) (by decide)) at_247 ?_
    refine g_aload (pc := 248) W226 at_248 rfl rfl ?_
    refine g_iload (pc := 250) W226 at_250 rfl ?_
    refine g_iconst (pc := 252) (3 : Int32) (by decide) W226 at_252 ?_
    refine g_static (pc := 253) (Wt := 2) (argsL := [.ref b1, .int (6 : Int32), .int (3 : Int32)]) (rest := [.int (ac (g1 [n0, n1, n2, n3, n4, n5]) 8 3), .int (1 : Int32)]) (loc := [(b1, (.array .int), [.int (Int32.ofNat n0), .int (Int32.ofNat n1), .int (Int32.ofNat n2), .int (Int32.ofNat n3), .int (Int32.ofNat n4), .int (Int32.ofNat n5)])]) (rst := [(b17, O_IntPairs, [.ref b21, .int (3 : Int32)]), (b21, (.array .int), (((((((List.replicate 64 (.int (0 : Int32))).set 0 (.int (Int32.ofNat n0))).set 1 (.int (Int32.ofNat n1))).set 2 (.int (Int32.ofNat n2))).set 3 (.int (Int32.ofNat n3))).set 4 (.int (Int32.ofNat n4))).set 5 (.int (Int32.ofNat n5)))), (b208, (.array .int), (fl 9 (ac (g1 [n0, n1, n2, n3, n4, n5]) 8))), (b213, (.array .int), (fl 8 (NX [n0, n1, n2, n3, n4, n5] 6))), (b214, (.array .int), (fl 6 (HH [n0, n1, n2, n3, n4, n5] 6)))]) W226 (wd hw 46 rfl) (wd hw 47 rfl) (wd hw 48 rfl) (wd hw 49 rfl) (by decide) (c_below6 l Z a0 hw b1 (3 : Int32) (Int32.ofNat n0) (Int32.ofNat n1) (Int32.ofNat n2) (Int32.ofNat n3) (Int32.ofNat n4) (Int32.ofNat n5)) ⟨[0, 1, 2, 3, 4, 5], by decide, rfl⟩ rfl pd_AIII__I rfl rfl rfl (Nat.le_of_ble_eq_true rfl) (by decide) (by decide) (by decide) (by decide) at_253 ?_
    rintro T227 _ _ ⟨rfl, rfl⟩ W228
    have W229 := W228.re (os' := [(b1, (.array .int), [.int (Int32.ofNat n0), .int (Int32.ofNat n1), .int (Int32.ofNat n2), .int (Int32.ofNat n3), .int (Int32.ofNat n4), .int (Int32.ofNat n5)]), (b17, O_IntPairs, [.ref b21, .int (3 : Int32)]), (b21, (.array .int), (((((((List.replicate 64 (.int (0 : Int32))).set 0 (.int (Int32.ofNat n0))).set 1 (.int (Int32.ofNat n1))).set 2 (.int (Int32.ofNat n2))).set 3 (.int (Int32.ofNat n3))).set 4 (.int (Int32.ofNat n4))).set 5 (.int (Int32.ofNat n5)))), (b208, (.array .int), (fl 9 (ac (g1 [n0, n1, n2, n3, n4, n5]) 8))), (b213, (.array .int), (fl 8 (NX [n0, n1, n2, n3, n4, n5] 6))), (b214, (.array .int), (fl 6 (HH [n0, n1, n2, n3, n4, n5] 6)))]) rfl
    show Go p_ e_ bl_ _ (T227.setTop (mkF m_ 256 _ [.int ((((((if (Int32.ofNat n0) < (3 : Int32) then (1 : Int32) else (0 : Int32)) + (if (Int32.ofNat n1) < (3 : Int32) then (1 : Int32) else (0 : Int32))) + (if (Int32.ofNat n2) < (3 : Int32) then (1 : Int32) else (0 : Int32))) + (if (Int32.ofNat n3) < (3 : Int32) then (1 : Int32) else (0 : Int32))) + (if (Int32.ofNat n4) < (3 : Int32) then (1 : Int32) else (0 : Int32))) + (if (Int32.ofNat n5) < (3 : Int32) then (1 : Int32) else (0 : Int32))), .int (ac (g1 [n0, n1, n2, n3, n4, n5]) 8 3), .int (1 : Int32)]))
    refine g_icmpN (pc := 256) W229 at_256 (teq (own_off6_3 h0 h1 h2 h3 h4 h5)).2 ?_
    refine g_iconst (pc := 259) (1 : Int32) (by decide) W229 at_259 ?_
    refine g_goto 264 (pc := 260) W229 at_260 (by decide) (by decide) ?_
    refine g_iand (pc := 264) W229 at_264 ?_
    show Go p_ e_ bl_ _ (T227.setTop (mkF m_ 265 _ [.int (1 : Int32)]))
    refine g_istore (pc := 265) (ls' := #[.val (.int p0), .val (.int p1), .val (.int p2), .val (.int p3), .val (.int (3 : Int32)), .val (.ref b1), .val (.ref b17), .val (.int (6 : Int32)), .val (.ref b208), .val (.ref b214), .val (.int (1 : Int32))]) W229 at_265 rfl ?_
    refine g_iload (pc := 267) W229 at_267 rfl ?_
    refine g_aload (pc := 269) W229 at_269 rfl rfl ?_
    refine g_iconst (pc := 271) (4 : Int32) (by decide) W229 at_271 ?_
    refine g_iaload (pc := 272) (i := 3) (v := .int (ac (g1 [n0, n1, n2, n3, n4, n5]) 8 4)) W229 rfl (by decide) (fl_get (i := 4) (by decide)) at_272 ?_
    refine g_aload (pc := 273) W229 at_273 rfl rfl ?_
    refine g_iload (pc := 275) W229 at_275 rfl ?_
    refine g_iconst (pc := 277) (4 : Int32) (by decide) W229 at_277 ?_
    refine g_static (pc := 278) (Wt := 2) (argsL := [.ref b1, .int (6 : Int32), .int (4 : Int32)]) (rest := [.int (ac (g1 [n0, n1, n2, n3, n4, n5]) 8 4), .int (1 : Int32)]) (loc := [(b1, (.array .int), [.int (Int32.ofNat n0), .int (Int32.ofNat n1), .int (Int32.ofNat n2), .int (Int32.ofNat n3), .int (Int32.ofNat n4), .int (Int32.ofNat n5)])]) (rst := [(b17, O_IntPairs, [.ref b21, .int (3 : Int32)]), (b21, (.array .int), (((((((List.replicate 64 (.int (0 : Int32))).set 0 (.int (Int32.ofNat n0))).set 1 (.int (Int32.ofNat n1))).set 2 (.int (Int32.ofNat n2))).set 3 (.int (Int32.ofNat n3))).set 4 (.int (Int32.ofNat n4))).set 5 (.int (Int32.ofNat n5)))), (b208, (.array .int), (fl 9 (ac (g1 [n0, n1, n2, n3, n4, n5]) 8))), (b213, (.array .int), (fl 8 (NX [n0, n1, n2, n3, n4, n5] 6))), (b214, (.array .int), (fl 6 (HH [n0, n1, n2, n3, n4, n5] 6)))]) W229 (wd hw 46 rfl) (wd hw 47 rfl) (wd hw 48 rfl) (wd hw 49 rfl) (by decide) (c_below6 l Z a0 hw b1 (4 : Int32) (Int32.ofNat n0) (Int32.ofNat n1) (Int32.ofNat n2) (Int32.ofNat n3) (Int32.ofNat n4) (Int32.ofNat n5)) ⟨[0, 1, 2, 3, 4, 5], by decide, rfl⟩ rfl pd_AIII__I rfl rfl rfl (Nat.le_of_ble_eq_true rfl) (by decide) (by decide) (by decide) (by decide) at_278 ?_
    rintro T230 _ _ ⟨rfl, rfl⟩ W231
    have W232 := W231.re (os' := [(b1, (.array .int), [.int (Int32.ofNat n0), .int (Int32.ofNat n1), .int (Int32.ofNat n2), .int (Int32.ofNat n3), .int (Int32.ofNat n4), .int (Int32.ofNat n5)]), (b17, O_IntPairs, [.ref b21, .int (3 : Int32)]), (b21, (.array .int), (((((((List.replicate 64 (.int (0 : Int32))).set 0 (.int (Int32.ofNat n0))).set 1 (.int (Int32.ofNat n1))).set 2 (.int (Int32.ofNat n2))).set 3 (.int (Int32.ofNat n3))).set 4 (.int (Int32.ofNat n4))).set 5 (.int (Int32.ofNat n5)))), (b208, (.array .int), (fl 9 (ac (g1 [n0, n1, n2, n3, n4, n5]) 8))), (b213, (.array .int), (fl 8 (NX [n0, n1, n2, n3, n4, n5] 6))), (b214, (.array .int), (fl 6 (HH [n0, n1, n2, n3, n4, n5] 6)))]) rfl
    show Go p_ e_ bl_ _ (T230.setTop (mkF m_ 281 _ [.int ((((((if (Int32.ofNat n0) < (4 : Int32) then (1 : Int32) else (0 : Int32)) + (if (Int32.ofNat n1) < (4 : Int32) then (1 : Int32) else (0 : Int32))) + (if (Int32.ofNat n2) < (4 : Int32) then (1 : Int32) else (0 : Int32))) + (if (Int32.ofNat n3) < (4 : Int32) then (1 : Int32) else (0 : Int32))) + (if (Int32.ofNat n4) < (4 : Int32) then (1 : Int32) else (0 : Int32))) + (if (Int32.ofNat n5) < (4 : Int32) then (1 : Int32) else (0 : Int32))), .int (ac (g1 [n0, n1, n2, n3, n4, n5]) 8 4), .int (1 : Int32)]))
    refine g_icmpN (pc := 281) W232 at_281 (teq (own_off6_4 h0 h1 h2 h3 h4 h5)).2 ?_
    refine g_iconst (pc := 284) (1 : Int32) (by decide) W232 at_284 ?_
    refine g_goto 289 (pc := 285) W232 at_285 (by decide) (by decide) ?_
    refine g_iand (pc := 289) W232 at_289 ?_
    show Go p_ e_ bl_ _ (T230.setTop (mkF m_ 290 _ [.int (1 : Int32)]))
    refine g_istore (pc := 290) (ls' := #[.val (.int p0), .val (.int p1), .val (.int p2), .val (.int p3), .val (.int (3 : Int32)), .val (.ref b1), .val (.ref b17), .val (.int (6 : Int32)), .val (.ref b208), .val (.ref b214), .val (.int (1 : Int32))]) W232 at_290 rfl ?_
    refine g_iload (pc := 292) W232 at_292 rfl ?_
    refine g_aload (pc := 294) W232 at_294 rfl rfl ?_
    refine g_iconst (pc := 296) (5 : Int32) (by decide) W232 at_296 ?_
    refine g_iaload (pc := 297) (i := 3) (v := .int (ac (g1 [n0, n1, n2, n3, n4, n5]) 8 5)) W232 rfl (by decide) (fl_get (i := 5) (by decide)) at_297 ?_
    refine g_aload (pc := 298) W232 at_298 rfl rfl ?_
    refine g_iload (pc := 300) W232 at_300 rfl ?_
    refine g_iconst (pc := 302) (5 : Int32) (by decide) W232 at_302 ?_
    refine g_static (pc := 303) (Wt := 2) (argsL := [.ref b1, .int (6 : Int32), .int (5 : Int32)]) (rest := [.int (ac (g1 [n0, n1, n2, n3, n4, n5]) 8 5), .int (1 : Int32)]) (loc := [(b1, (.array .int), [.int (Int32.ofNat n0), .int (Int32.ofNat n1), .int (Int32.ofNat n2), .int (Int32.ofNat n3), .int (Int32.ofNat n4), .int (Int32.ofNat n5)])]) (rst := [(b17, O_IntPairs, [.ref b21, .int (3 : Int32)]), (b21, (.array .int), (((((((List.replicate 64 (.int (0 : Int32))).set 0 (.int (Int32.ofNat n0))).set 1 (.int (Int32.ofNat n1))).set 2 (.int (Int32.ofNat n2))).set 3 (.int (Int32.ofNat n3))).set 4 (.int (Int32.ofNat n4))).set 5 (.int (Int32.ofNat n5)))), (b208, (.array .int), (fl 9 (ac (g1 [n0, n1, n2, n3, n4, n5]) 8))), (b213, (.array .int), (fl 8 (NX [n0, n1, n2, n3, n4, n5] 6))), (b214, (.array .int), (fl 6 (HH [n0, n1, n2, n3, n4, n5] 6)))]) W232 (wd hw 46 rfl) (wd hw 47 rfl) (wd hw 48 rfl) (wd hw 49 rfl) (by decide) (c_below6 l Z a0 hw b1 (5 : Int32) (Int32.ofNat n0) (Int32.ofNat n1) (Int32.ofNat n2) (Int32.ofNat n3) (Int32.ofNat n4) (Int32.ofNat n5)) ⟨[0, 1, 2, 3, 4, 5], by decide, rfl⟩ rfl pd_AIII__I rfl rfl rfl (Nat.le_of_ble_eq_true rfl) (by decide) (by decide) (by decide) (by decide) at_303 ?_
    rintro T233 _ _ ⟨rfl, rfl⟩ W234
    have W235 := W234.re (os' := [(b1, (.array .int), [.int (Int32.ofNat n0), .int (Int32.ofNat n1), .int (Int32.ofNat n2), .int (Int32.ofNat n3), .int (Int32.ofNat n4), .int (Int32.ofNat n5)]), (b17, O_IntPairs, [.ref b21, .int (3 : Int32)]), (b21, (.array .int), (((((((List.replicate 64 (.int (0 : Int32))).set 0 (.int (Int32.ofNat n0))).set 1 (.int (Int32.ofNat n1))).set 2 (.int (Int32.ofNat n2))).set 3 (.int (Int32.ofNat n3))).set 4 (.int (Int32.ofNat n4))).set 5 (.int (Int32.ofNat n5)))), (b208, (.array .int), (fl 9 (ac (g1 [n0, n1, n2, n3, n4, n5]) 8))), (b213, (.array .int), (fl 8 (NX [n0, n1, n2, n3, n4, n5] 6))), (b214, (.array .int), (fl 6 (HH [n0, n1, n2, n3, n4, n5] 6)))]) rfl
    show Go p_ e_ bl_ _ (T233.setTop (mkF m_ 306 _ [.int ((((((if (Int32.ofNat n0) < (5 : Int32) then (1 : Int32) else (0 : Int32)) + (if (Int32.ofNat n1) < (5 : Int32) then (1 : Int32) else (0 : Int32))) + (if (Int32.ofNat n2) < (5 : Int32) then (1 : Int32) else (0 : Int32))) + (if (Int32.ofNat n3) < (5 : Int32) then (1 : Int32) else (0 : Int32))) + (if (Int32.ofNat n4) < (5 : Int32) then (1 : Int32) else (0 : Int32))) + (if (Int32.ofNat n5) < (5 : Int32) then (1 : Int32) else (0 : Int32))), .int (ac (g1 [n0, n1, n2, n3, n4, n5]) 8 5), .int (1 : Int32)]))
    refine g_icmpN (pc := 306) W235 at_306 (teq (own_off6_5 h0 h1 h2 h3 h4 h5)).2 ?_
    refine g_iconst (pc := 309) (1 : Int32) (by decide) W235 at_309 ?_
    refine g_goto 314 (pc := 310) W235 at_310 (by decide) (by decide) ?_
    refine g_iand (pc := 314) W235 at_314 ?_
    show Go p_ e_ bl_ _ (T233.setTop (mkF m_ 315 _ [.int (1 : Int32)]))
    refine g_istore (pc := 315) (ls' := #[.val (.int p0), .val (.int p1), .val (.int p2), .val (.int p3), .val (.int (3 : Int32)), .val (.ref b1), .val (.ref b17), .val (.int (6 : Int32)), .val (.ref b208), .val (.ref b214), .val (.int (1 : Int32))]) W235 at_315 rfl ?_
    refine g_iload (pc := 317) W235 at_317 rfl ?_
    refine g_aload (pc := 319) W235 at_319 rfl rfl ?_
    refine g_bipush (pc := 321) (6 : Int32) (by decide) W235 at_321 ?_
    refine g_iaload (pc := 323) (i := 3) (v := .int (ac (g1 [n0, n1, n2, n3, n4, n5]) 8 6)) W235 rfl (by decide) (fl_get (i := 6) (by decide)) at_323 ?_
    refine g_aload (pc := 324) W235 at_324 rfl rfl ?_
    refine g_iload (pc := 326) W235 at_326 rfl ?_
    refine g_bipush (pc := 328) (6 : Int32) (by decide) W235 at_328 ?_
    refine g_static (pc := 330) (Wt := 2) (argsL := [.ref b1, .int (6 : Int32), .int (6 : Int32)]) (rest := [.int (ac (g1 [n0, n1, n2, n3, n4, n5]) 8 6), .int (1 : Int32)]) (loc := [(b1, (.array .int), [.int (Int32.ofNat n0), .int (Int32.ofNat n1), .int (Int32.ofNat n2), .int (Int32.ofNat n3), .int (Int32.ofNat n4), .int (Int32.ofNat n5)])]) (rst := [(b17, O_IntPairs, [.ref b21, .int (3 : Int32)]), (b21, (.array .int), (((((((List.replicate 64 (.int (0 : Int32))).set 0 (.int (Int32.ofNat n0))).set 1 (.int (Int32.ofNat n1))).set 2 (.int (Int32.ofNat n2))).set 3 (.int (Int32.ofNat n3))).set 4 (.int (Int32.ofNat n4))).set 5 (.int (Int32.ofNat n5)))), (b208, (.array .int), (fl 9 (ac (g1 [n0, n1, n2, n3, n4, n5]) 8))), (b213, (.array .int), (fl 8 (NX [n0, n1, n2, n3, n4, n5] 6))), (b214, (.array .int), (fl 6 (HH [n0, n1, n2, n3, n4, n5] 6)))]) W235 (wd hw 46 rfl) (wd hw 47 rfl) (wd hw 48 rfl) (wd hw 49 rfl) (by decide) (c_below6 l Z a0 hw b1 (6 : Int32) (Int32.ofNat n0) (Int32.ofNat n1) (Int32.ofNat n2) (Int32.ofNat n3) (Int32.ofNat n4) (Int32.ofNat n5)) ⟨[0, 1, 2, 3, 4, 5], by decide, rfl⟩ rfl pd_AIII__I rfl rfl rfl (Nat.le_of_ble_eq_true rfl) (by decide) (by decide) (by decide) (by decide) at_330 ?_
    rintro T236 _ _ ⟨rfl, rfl⟩ W237
    have W238 := W237.re (os' := [(b1, (.array .int), [.int (Int32.ofNat n0), .int (Int32.ofNat n1), .int (Int32.ofNat n2), .int (Int32.ofNat n3), .int (Int32.ofNat n4), .int (Int32.ofNat n5)]), (b17, O_IntPairs, [.ref b21, .int (3 : Int32)]), (b21, (.array .int), (((((((List.replicate 64 (.int (0 : Int32))).set 0 (.int (Int32.ofNat n0))).set 1 (.int (Int32.ofNat n1))).set 2 (.int (Int32.ofNat n2))).set 3 (.int (Int32.ofNat n3))).set 4 (.int (Int32.ofNat n4))).set 5 (.int (Int32.ofNat n5)))), (b208, (.array .int), (fl 9 (ac (g1 [n0, n1, n2, n3, n4, n5]) 8))), (b213, (.array .int), (fl 8 (NX [n0, n1, n2, n3, n4, n5] 6))), (b214, (.array .int), (fl 6 (HH [n0, n1, n2, n3, n4, n5] 6)))]) rfl
    show Go p_ e_ bl_ _ (T236.setTop (mkF m_ 333 _ [.int ((((((if (Int32.ofNat n0) < (6 : Int32) then (1 : Int32) else (0 : Int32)) + (if (Int32.ofNat n1) < (6 : Int32) then (1 : Int32) else (0 : Int32))) + (if (Int32.ofNat n2) < (6 : Int32) then (1 : Int32) else (0 : Int32))) + (if (Int32.ofNat n3) < (6 : Int32) then (1 : Int32) else (0 : Int32))) + (if (Int32.ofNat n4) < (6 : Int32) then (1 : Int32) else (0 : Int32))) + (if (Int32.ofNat n5) < (6 : Int32) then (1 : Int32) else (0 : Int32))), .int (ac (g1 [n0, n1, n2, n3, n4, n5]) 8 6), .int (1 : Int32)]))
    refine g_icmpN (pc := 333) W238 at_333 (teq (own_off6_6 h0 h1 h2 h3 h4 h5)).2 ?_
    refine g_iconst (pc := 336) (1 : Int32) (by decide) W238 at_336 ?_
    refine g_goto 341 (pc := 337) W238 at_337 (by decide) (by decide) ?_
    refine g_iand (pc := 341) W238 at_341 ?_
    show Go p_ e_ bl_ _ (T236.setTop (mkF m_ 342 _ [.int (1 : Int32)]))
    refine g_istore (pc := 342) (ls' := #[.val (.int p0), .val (.int p1), .val (.int p2), .val (.int p3), .val (.int (3 : Int32)), .val (.ref b1), .val (.ref b17), .val (.int (6 : Int32)), .val (.ref b208), .val (.ref b214), .val (.int (1 : Int32))]) W238 at_342 rfl ?_
    refine g_iload (pc := 344) W238 at_344 rfl ?_
    refine g_aload (pc := 346) W238 at_346 rfl rfl ?_
    refine g_bipush (pc := 348) (7 : Int32) (by decide) W238 at_348 ?_
    refine g_iaload (pc := 350) (i := 3) (v := .int (ac (g1 [n0, n1, n2, n3, n4, n5]) 8 7)) W238 rfl (by decide) (fl_get (i := 7) (by decide)) at_350 ?_
    refine g_aload (pc := 351) W238 at_351 rfl rfl ?_
    refine g_iload (pc := 353) W238 at_353 rfl ?_
    refine g_bipush (pc := 355) (7 : Int32) (by decide) W238 at_355 ?_
    refine g_static (pc := 357) (Wt := 2) (argsL := [.ref b1, .int (6 : Int32), .int (7 : Int32)]) (rest := [.int (ac (g1 [n0, n1, n2, n3, n4, n5]) 8 7), .int (1 : Int32)]) (loc := [(b1, (.array .int), [.int (Int32.ofNat n0), .int (Int32.ofNat n1), .int (Int32.ofNat n2), .int (Int32.ofNat n3), .int (Int32.ofNat n4), .int (Int32.ofNat n5)])]) (rst := [(b17, O_IntPairs, [.ref b21, .int (3 : Int32)]), (b21, (.array .int), (((((((List.replicate 64 (.int (0 : Int32))).set 0 (.int (Int32.ofNat n0))).set 1 (.int (Int32.ofNat n1))).set 2 (.int (Int32.ofNat n2))).set 3 (.int (Int32.ofNat n3))).set 4 (.int (Int32.ofNat n4))).set 5 (.int (Int32.ofNat n5)))), (b208, (.array .int), (fl 9 (ac (g1 [n0, n1, n2, n3, n4, n5]) 8))), (b213, (.array .int), (fl 8 (NX [n0, n1, n2, n3, n4, n5] 6))), (b214, (.array .int), (fl 6 (HH [n0, n1, n2, n3, n4, n5] 6)))]) W238 (wd hw 46 rfl) (wd hw 47 rfl) (wd hw 48 rfl) (wd hw 49 rfl) (by decide) (c_below6 l Z a0 hw b1 (7 : Int32) (Int32.ofNat n0) (Int32.ofNat n1) (Int32.ofNat n2) (Int32.ofNat n3) (Int32.ofNat n4) (Int32.ofNat n5)) ⟨[0, 1, 2, 3, 4, 5], by decide, rfl⟩ rfl pd_AIII__I rfl rfl rfl (Nat.le_of_ble_eq_true rfl) (by decide) (by decide) (by decide) (by decide) at_357 ?_
    rintro T239 _ _ ⟨rfl, rfl⟩ W240
    have W241 := W240.re (os' := [(b1, (.array .int), [.int (Int32.ofNat n0), .int (Int32.ofNat n1), .int (Int32.ofNat n2), .int (Int32.ofNat n3), .int (Int32.ofNat n4), .int (Int32.ofNat n5)]), (b17, O_IntPairs, [.ref b21, .int (3 : Int32)]), (b21, (.array .int), (((((((List.replicate 64 (.int (0 : Int32))).set 0 (.int (Int32.ofNat n0))).set 1 (.int (Int32.ofNat n1))).set 2 (.int (Int32.ofNat n2))).set 3 (.int (Int32.ofNat n3))).set 4 (.int (Int32.ofNat n4))).set 5 (.int (Int32.ofNat n5)))), (b208, (.array .int), (fl 9 (ac (g1 [n0, n1, n2, n3, n4, n5]) 8))), (b213, (.array .int), (fl 8 (NX [n0, n1, n2, n3, n4, n5] 6))), (b214, (.array .int), (fl 6 (HH [n0, n1, n2, n3, n4, n5] 6)))]) rfl
    show Go p_ e_ bl_ _ (T239.setTop (mkF m_ 360 _ [.int ((((((if (Int32.ofNat n0) < (7 : Int32) then (1 : Int32) else (0 : Int32)) + (if (Int32.ofNat n1) < (7 : Int32) then (1 : Int32) else (0 : Int32))) + (if (Int32.ofNat n2) < (7 : Int32) then (1 : Int32) else (0 : Int32))) + (if (Int32.ofNat n3) < (7 : Int32) then (1 : Int32) else (0 : Int32))) + (if (Int32.ofNat n4) < (7 : Int32) then (1 : Int32) else (0 : Int32))) + (if (Int32.ofNat n5) < (7 : Int32) then (1 : Int32) else (0 : Int32))), .int (ac (g1 [n0, n1, n2, n3, n4, n5]) 8 7), .int (1 : Int32)]))
    refine g_icmpN (pc := 360) W241 at_360 (teq (own_off6_7 h0 h1 h2 h3 h4 h5)).2 ?_
    refine g_iconst (pc := 363) (1 : Int32) (by decide) W241 at_363 ?_
    refine g_goto 368 (pc := 364) W241 at_364 (by decide) (by decide) ?_
    refine g_iand (pc := 368) W241 at_368 ?_
    show Go p_ e_ bl_ _ (T239.setTop (mkF m_ 369 _ [.int (1 : Int32)]))
    refine g_istore (pc := 369) (ls' := #[.val (.int p0), .val (.int p1), .val (.int p2), .val (.int p3), .val (.int (3 : Int32)), .val (.ref b1), .val (.ref b17), .val (.int (6 : Int32)), .val (.ref b208), .val (.ref b214), .val (.int (1 : Int32))]) W241 at_369 rfl ?_
    refine g_iload (pc := 371) W241 at_371 rfl ?_
    refine g_aload (pc := 373) W241 at_373 rfl rfl ?_
    refine g_bipush (pc := 375) (8 : Int32) (by decide) W241 at_375 ?_
    refine g_iaload (pc := 377) (i := 3) (v := .int (ac (g1 [n0, n1, n2, n3, n4, n5]) 8 8)) W241 rfl (by decide) (fl_get (i := 8) (by decide)) at_377 ?_
    refine g_aload (pc := 378) W241 at_378 rfl rfl ?_
    refine g_iload (pc := 380) W241 at_380 rfl ?_
    refine g_bipush (pc := 382) (8 : Int32) (by decide) W241 at_382 ?_
    refine g_static (pc := 384) (Wt := 2) (argsL := [.ref b1, .int (6 : Int32), .int (8 : Int32)]) (rest := [.int (ac (g1 [n0, n1, n2, n3, n4, n5]) 8 8), .int (1 : Int32)]) (loc := [(b1, (.array .int), [.int (Int32.ofNat n0), .int (Int32.ofNat n1), .int (Int32.ofNat n2), .int (Int32.ofNat n3), .int (Int32.ofNat n4), .int (Int32.ofNat n5)])]) (rst := [(b17, O_IntPairs, [.ref b21, .int (3 : Int32)]), (b21, (.array .int), (((((((List.replicate 64 (.int (0 : Int32))).set 0 (.int (Int32.ofNat n0))).set 1 (.int (Int32.ofNat n1))).set 2 (.int (Int32.ofNat n2))).set 3 (.int (Int32.ofNat n3))).set 4 (.int (Int32.ofNat n4))).set 5 (.int (Int32.ofNat n5)))), (b208, (.array .int), (fl 9 (ac (g1 [n0, n1, n2, n3, n4, n5]) 8))), (b213, (.array .int), (fl 8 (NX [n0, n1, n2, n3, n4, n5] 6))), (b214, (.array .int), (fl 6 (HH [n0, n1, n2, n3, n4, n5] 6)))]) W241 (wd hw 46 rfl) (wd hw 47 rfl) (wd hw 48 rfl) (wd hw 49 rfl) (by decide) (c_below6 l Z a0 hw b1 (8 : Int32) (Int32.ofNat n0) (Int32.ofNat n1) (Int32.ofNat n2) (Int32.ofNat n3) (Int32.ofNat n4) (Int32.ofNat n5)) ⟨[0, 1, 2, 3, 4, 5], by decide, rfl⟩ rfl pd_AIII__I rfl rfl rfl (Nat.le_of_ble_eq_true rfl) (by decide) (by decide) (by decide) (by decide) at_384 ?_
    rintro T242 _ _ ⟨rfl, rfl⟩ W243
    have W244 := W243.re (os' := [(b1, (.array .int), [.int (Int32.ofNat n0), .int (Int32.ofNat n1), .int (Int32.ofNat n2), .int (Int32.ofNat n3), .int (Int32.ofNat n4), .int (Int32.ofNat n5)]), (b17, O_IntPairs, [.ref b21, .int (3 : Int32)]), (b21, (.array .int), (((((((List.replicate 64 (.int (0 : Int32))).set 0 (.int (Int32.ofNat n0))).set 1 (.int (Int32.ofNat n1))).set 2 (.int (Int32.ofNat n2))).set 3 (.int (Int32.ofNat n3))).set 4 (.int (Int32.ofNat n4))).set 5 (.int (Int32.ofNat n5)))), (b208, (.array .int), (fl 9 (ac (g1 [n0, n1, n2, n3, n4, n5]) 8))), (b213, (.array .int), (fl 8 (NX [n0, n1, n2, n3, n4, n5] 6))), (b214, (.array .int), (fl 6 (HH [n0, n1, n2, n3, n4, n5] 6)))]) rfl
    show Go p_ e_ bl_ _ (T242.setTop (mkF m_ 387 _ [.int ((((((if (Int32.ofNat n0) < (8 : Int32) then (1 : Int32) else (0 : Int32)) + (if (Int32.ofNat n1) < (8 : Int32) then (1 : Int32) else (0 : Int32))) + (if (Int32.ofNat n2) < (8 : Int32) then (1 : Int32) else (0 : Int32))) + (if (Int32.ofNat n3) < (8 : Int32) then (1 : Int32) else (0 : Int32))) + (if (Int32.ofNat n4) < (8 : Int32) then (1 : Int32) else (0 : Int32))) + (if (Int32.ofNat n5) < (8 : Int32) then (1 : Int32) else (0 : Int32))), .int (ac (g1 [n0, n1, n2, n3, n4, n5]) 8 8), .int (1 : Int32)]))
    refine g_icmpN (pc := 387) W244 at_387 (teq (own_off6_8 h0 h1 h2 h3 h4 h5)).2 ?_
    refine g_iconst (pc := 390) (1 : Int32) (by decide) W244 at_390 ?_
    refine g_goto 395 (pc := 391) W244 at_391 (by decide) (by decide) ?_
    refine g_iand (pc := 395) W244 at_395 ?_
    show Go p_ e_ bl_ _ (T242.setTop (mkF m_ 396 _ [.int (1 : Int32)]))
    refine g_istore (pc := 396) (ls' := #[.val (.int p0), .val (.int p1), .val (.int p2), .val (.int p3), .val (.int (3 : Int32)), .val (.ref b1), .val (.ref b17), .val (.int (6 : Int32)), .val (.ref b208), .val (.ref b214), .val (.int (1 : Int32))]) W244 at_396 rfl ?_
    refine g_iload (pc := 398) W244 at_398 rfl ?_
    refine g_aload (pc := 400) W244 at_400 rfl rfl ?_
    refine g_iload (pc := 402) W244 at_402 rfl ?_
    refine g_aload (pc := 404) W244 at_404 rfl rfl ?_
    refine g_iconst (pc := 406) (0 : Int32) (by decide) W244 at_406 ?_
    refine g_static (pc := 407) (Wt := 1) (argsL := [.ref b1, .int (6 : Int32), .ref b214, .int (0 : Int32)]) (rest := [.int (1 : Int32)]) (loc := [(b1, (.array .int), [.int (Int32.ofNat n0), .int (Int32.ofNat n1), .int (Int32.ofNat n2), .int (Int32.ofNat n3), .int (Int32.ofNat n4), .int (Int32.ofNat n5)]), (b214, (.array .int), (fl 6 (HH [n0, n1, n2, n3, n4, n5] 6)))]) (rst := [(b17, O_IntPairs, [.ref b21, .int (3 : Int32)]), (b21, (.array .int), (((((((List.replicate 64 (.int (0 : Int32))).set 0 (.int (Int32.ofNat n0))).set 1 (.int (Int32.ofNat n1))).set 2 (.int (Int32.ofNat n2))).set 3 (.int (Int32.ofNat n3))).set 4 (.int (Int32.ofNat n4))).set 5 (.int (Int32.ofNat n5)))), (b208, (.array .int), (fl 9 (ac (g1 [n0, n1, n2, n3, n4, n5]) 8))), (b213, (.array .int), (fl 8 (NX [n0, n1, n2, n3, n4, n5] 6)))]) W244 (wd hw 53 rfl) (wd hw 54 rfl) (wd hw 48 rfl) (wd hw 55 rfl) (by decide) (c_slot60 l Z a0 hw b1 b214 (Int32.ofNat n0) (Int32.ofNat n1) (Int32.ofNat n2) (Int32.ofNat n3) (Int32.ofNat n4) (Int32.ofNat n5) (fl 6 (HH [n0, n1, n2, n3, n4, n5] 6)) (by rw [fl_len]; rfl) (own_sl6_0 h0 h1 h2 h3 h4 h5).1 (own_sl6_0 h0 h1 h2 h3 h4 h5).2.1 (own_sl6_0 h0 h1 h2 h3 h4 h5).2.2) ⟨[0, 5, 1, 2, 3, 4], by decide, rfl⟩ rfl pd_AIIAII__Z rfl rfl rfl (Nat.le_of_ble_eq_true rfl) (by decide) (by decide) (by decide) (by decide) at_407 ?_
    rintro T245 _ _ ⟨rfl, rfl⟩ W246
    have W247 := W246.re (os' := [(b1, (.array .int), [.int (Int32.ofNat n0), .int (Int32.ofNat n1), .int (Int32.ofNat n2), .int (Int32.ofNat n3), .int (Int32.ofNat n4), .int (Int32.ofNat n5)]), (b214, (.array .int), (fl 6 (HH [n0, n1, n2, n3, n4, n5] 6))), (b17, O_IntPairs, [.ref b21, .int (3 : Int32)]), (b21, (.array .int), (((((((List.replicate 64 (.int (0 : Int32))).set 0 (.int (Int32.ofNat n0))).set 1 (.int (Int32.ofNat n1))).set 2 (.int (Int32.ofNat n2))).set 3 (.int (Int32.ofNat n3))).set 4 (.int (Int32.ofNat n4))).set 5 (.int (Int32.ofNat n5)))), (b208, (.array .int), (fl 9 (ac (g1 [n0, n1, n2, n3, n4, n5]) 8))), (b213, (.array .int), (fl 8 (NX [n0, n1, n2, n3, n4, n5] 6)))]) rfl
    show Go p_ e_ bl_ _ (T245.setTop (mkF m_ 410 _ [.int (1 : Int32), .int (1 : Int32)]))
    refine g_iand (pc := 410) W247 at_410 ?_
    show Go p_ e_ bl_ _ (T245.setTop (mkF m_ 411 _ [.int (1 : Int32)]))
    refine g_istore (pc := 411) (ls' := #[.val (.int p0), .val (.int p1), .val (.int p2), .val (.int p3), .val (.int (3 : Int32)), .val (.ref b1), .val (.ref b17), .val (.int (6 : Int32)), .val (.ref b208), .val (.ref b214), .val (.int (1 : Int32))]) W247 at_411 rfl ?_
    refine g_iload (pc := 413) W247 at_413 rfl ?_
    refine g_aload (pc := 415) W247 at_415 rfl rfl ?_
    refine g_iload (pc := 417) W247 at_417 rfl ?_
    refine g_aload (pc := 419) W247 at_419 rfl rfl ?_
    refine g_iconst (pc := 421) (1 : Int32) (by decide) W247 at_421 ?_
    refine g_static (pc := 422) (Wt := 1) (argsL := [.ref b1, .int (6 : Int32), .ref b214, .int (1 : Int32)]) (rest := [.int (1 : Int32)]) (loc := [(b1, (.array .int), [.int (Int32.ofNat n0), .int (Int32.ofNat n1), .int (Int32.ofNat n2), .int (Int32.ofNat n3), .int (Int32.ofNat n4), .int (Int32.ofNat n5)]), (b214, (.array .int), (fl 6 (HH [n0, n1, n2, n3, n4, n5] 6)))]) (rst := [(b17, O_IntPairs, [.ref b21, .int (3 : Int32)]), (b21, (.array .int), (((((((List.replicate 64 (.int (0 : Int32))).set 0 (.int (Int32.ofNat n0))).set 1 (.int (Int32.ofNat n1))).set 2 (.int (Int32.ofNat n2))).set 3 (.int (Int32.ofNat n3))).set 4 (.int (Int32.ofNat n4))).set 5 (.int (Int32.ofNat n5)))), (b208, (.array .int), (fl 9 (ac (g1 [n0, n1, n2, n3, n4, n5]) 8))), (b213, (.array .int), (fl 8 (NX [n0, n1, n2, n3, n4, n5] 6)))]) W247 (wd hw 53 rfl) (wd hw 54 rfl) (wd hw 48 rfl) (wd hw 55 rfl) (by decide) (c_slot61 l Z a0 hw b1 b214 (Int32.ofNat n0) (Int32.ofNat n1) (Int32.ofNat n2) (Int32.ofNat n3) (Int32.ofNat n4) (Int32.ofNat n5) (fl 6 (HH [n0, n1, n2, n3, n4, n5] 6)) (by rw [fl_len]; rfl) (own_sl6_1 h0 h1 h2 h3 h4 h5).1 (own_sl6_1 h0 h1 h2 h3 h4 h5).2.1 (own_sl6_1 h0 h1 h2 h3 h4 h5).2.2) ⟨[0, 1, 2, 3, 4, 5], by decide, rfl⟩ rfl pd_AIIAII__Z rfl rfl rfl (Nat.le_of_ble_eq_true rfl) (by decide) (by decide) (by decide) (by decide) at_422 ?_
    rintro T248 _ _ ⟨rfl, rfl⟩ W249
    have W250 := W249.re (os' := [(b1, (.array .int), [.int (Int32.ofNat n0), .int (Int32.ofNat n1), .int (Int32.ofNat n2), .int (Int32.ofNat n3), .int (Int32.ofNat n4), .int (Int32.ofNat n5)]), (b214, (.array .int), (fl 6 (HH [n0, n1, n2, n3, n4, n5] 6))), (b17, O_IntPairs, [.ref b21, .int (3 : Int32)]), (b21, (.array .int), (((((((List.replicate 64 (.int (0 : Int32))).set 0 (.int (Int32.ofNat n0))).set 1 (.int (Int32.ofNat n1))).set 2 (.int (Int32.ofNat n2))).set 3 (.int (Int32.ofNat n3))).set 4 (.int (Int32.ofNat n4))).set 5 (.int (Int32.ofNat n5)))), (b208, (.array .int), (fl 9 (ac (g1 [n0, n1, n2, n3, n4, n5]) 8))), (b213, (.array .int), (fl 8 (NX [n0, n1, n2, n3, n4, n5] 6)))]) rfl
    show Go p_ e_ bl_ _ (T248.setTop (mkF m_ 425 _ [.int (1 : Int32), .int (1 : Int32)]))
    refine g_iand (pc := 425) W250 at_425 ?_
    show Go p_ e_ bl_ _ (T248.setTop (mkF m_ 426 _ [.int (1 : Int32)]))
    refine g_istore (pc := 426) (ls' := #[.val (.int p0), .val (.int p1), .val (.int p2), .val (.int p3), .val (.int (3 : Int32)), .val (.ref b1), .val (.ref b17), .val (.int (6 : Int32)), .val (.ref b208), .val (.ref b214), .val (.int (1 : Int32))]) W250 at_426 rfl ?_
    refine g_iload (pc := 428) W250 at_428 rfl ?_
    refine g_aload (pc := 430) W250 at_430 rfl rfl ?_
    refine g_iload (pc := 432) W250 at_432 rfl ?_
    refine g_aload (pc := 434) W250 at_434 rfl rfl ?_
    refine g_iconst (pc := 436) (2 : Int32) (by decide) W250 at_436 ?_
    refine g_static (pc := 437) (Wt := 1) (argsL := [.ref b1, .int (6 : Int32), .ref b214, .int (2 : Int32)]) (rest := [.int (1 : Int32)]) (loc := [(b1, (.array .int), [.int (Int32.ofNat n0), .int (Int32.ofNat n1), .int (Int32.ofNat n2), .int (Int32.ofNat n3), .int (Int32.ofNat n4), .int (Int32.ofNat n5)]), (b214, (.array .int), (fl 6 (HH [n0, n1, n2, n3, n4, n5] 6)))]) (rst := [(b17, O_IntPairs, [.ref b21, .int (3 : Int32)]), (b21, (.array .int), (((((((List.replicate 64 (.int (0 : Int32))).set 0 (.int (Int32.ofNat n0))).set 1 (.int (Int32.ofNat n1))).set 2 (.int (Int32.ofNat n2))).set 3 (.int (Int32.ofNat n3))).set 4 (.int (Int32.ofNat n4))).set 5 (.int (Int32.ofNat n5)))), (b208, (.array .int), (fl 9 (ac (g1 [n0, n1, n2, n3, n4, n5]) 8))), (b213, (.array .int), (fl 8 (NX [n0, n1, n2, n3, n4, n5] 6)))]) W250 (wd hw 53 rfl) (wd hw 54 rfl) (wd hw 48 rfl) (wd hw 55 rfl) (by decide) (c_slot62 l Z a0 hw b1 b214 (Int32.ofNat n0) (Int32.ofNat n1) (Int32.ofNat n2) (Int32.ofNat n3) (Int32.ofNat n4) (Int32.ofNat n5) (fl 6 (HH [n0, n1, n2, n3, n4, n5] 6)) (by rw [fl_len]; rfl) (own_sl6_2 h0 h1 h2 h3 h4 h5).1 (own_sl6_2 h0 h1 h2 h3 h4 h5).2.1 (own_sl6_2 h0 h1 h2 h3 h4 h5).2.2) ⟨[0, 1, 2, 3, 4, 5], by decide, rfl⟩ rfl pd_AIIAII__Z rfl rfl rfl (Nat.le_of_ble_eq_true rfl) (by decide) (by decide) (by decide) (by decide) at_437 ?_
    rintro T251 _ _ ⟨rfl, rfl⟩ W252
    have W253 := W252.re (os' := [(b1, (.array .int), [.int (Int32.ofNat n0), .int (Int32.ofNat n1), .int (Int32.ofNat n2), .int (Int32.ofNat n3), .int (Int32.ofNat n4), .int (Int32.ofNat n5)]), (b214, (.array .int), (fl 6 (HH [n0, n1, n2, n3, n4, n5] 6))), (b17, O_IntPairs, [.ref b21, .int (3 : Int32)]), (b21, (.array .int), (((((((List.replicate 64 (.int (0 : Int32))).set 0 (.int (Int32.ofNat n0))).set 1 (.int (Int32.ofNat n1))).set 2 (.int (Int32.ofNat n2))).set 3 (.int (Int32.ofNat n3))).set 4 (.int (Int32.ofNat n4))).set 5 (.int (Int32.ofNat n5)))), (b208, (.array .int), (fl 9 (ac (g1 [n0, n1, n2, n3, n4, n5]) 8))), (b213, (.array .int), (fl 8 (NX [n0, n1, n2, n3, n4, n5] 6)))]) rfl
    show Go p_ e_ bl_ _ (T251.setTop (mkF m_ 440 _ [.int (1 : Int32), .int (1 : Int32)]))
    refine g_iand (pc := 440) W253 at_440 ?_
    show Go p_ e_ bl_ _ (T251.setTop (mkF m_ 441 _ [.int (1 : Int32)]))
    refine g_istore (pc := 441) (ls' := #[.val (.int p0), .val (.int p1), .val (.int p2), .val (.int p3), .val (.int (3 : Int32)), .val (.ref b1), .val (.ref b17), .val (.int (6 : Int32)), .val (.ref b208), .val (.ref b214), .val (.int (1 : Int32))]) W253 at_441 rfl ?_
    refine g_iload (pc := 443) W253 at_443 rfl ?_
    refine g_aload (pc := 445) W253 at_445 rfl rfl ?_
    refine g_iload (pc := 447) W253 at_447 rfl ?_
    refine g_aload (pc := 449) W253 at_449 rfl rfl ?_
    refine g_iconst (pc := 451) (3 : Int32) (by decide) W253 at_451 ?_
    refine g_static (pc := 452) (Wt := 1) (argsL := [.ref b1, .int (6 : Int32), .ref b214, .int (3 : Int32)]) (rest := [.int (1 : Int32)]) (loc := [(b1, (.array .int), [.int (Int32.ofNat n0), .int (Int32.ofNat n1), .int (Int32.ofNat n2), .int (Int32.ofNat n3), .int (Int32.ofNat n4), .int (Int32.ofNat n5)]), (b214, (.array .int), (fl 6 (HH [n0, n1, n2, n3, n4, n5] 6)))]) (rst := [(b17, O_IntPairs, [.ref b21, .int (3 : Int32)]), (b21, (.array .int), (((((((List.replicate 64 (.int (0 : Int32))).set 0 (.int (Int32.ofNat n0))).set 1 (.int (Int32.ofNat n1))).set 2 (.int (Int32.ofNat n2))).set 3 (.int (Int32.ofNat n3))).set 4 (.int (Int32.ofNat n4))).set 5 (.int (Int32.ofNat n5)))), (b208, (.array .int), (fl 9 (ac (g1 [n0, n1, n2, n3, n4, n5]) 8))), (b213, (.array .int), (fl 8 (NX [n0, n1, n2, n3, n4, n5] 6)))]) W253 (wd hw 53 rfl) (wd hw 54 rfl) (wd hw 48 rfl) (wd hw 55 rfl) (by decide) (c_slot63 l Z a0 hw b1 b214 (Int32.ofNat n0) (Int32.ofNat n1) (Int32.ofNat n2) (Int32.ofNat n3) (Int32.ofNat n4) (Int32.ofNat n5) (fl 6 (HH [n0, n1, n2, n3, n4, n5] 6)) (by rw [fl_len]; rfl) (own_sl6_3 h0 h1 h2 h3 h4 h5).1 (own_sl6_3 h0 h1 h2 h3 h4 h5).2.1 (own_sl6_3 h0 h1 h2 h3 h4 h5).2.2) ⟨[0, 1, 2, 3, 4, 5], by decide, rfl⟩ rfl pd_AIIAII__Z rfl rfl rfl (Nat.le_of_ble_eq_true rfl) (by decide) (by decide) (by decide) (by decide) at_452 ?_
    rintro T254 _ _ ⟨rfl, rfl⟩ W255
    have W256 := W255.re (os' := [(b1, (.array .int), [.int (Int32.ofNat n0), .int (Int32.ofNat n1), .int (Int32.ofNat n2), .int (Int32.ofNat n3), .int (Int32.ofNat n4), .int (Int32.ofNat n5)]), (b214, (.array .int), (fl 6 (HH [n0, n1, n2, n3, n4, n5] 6))), (b17, O_IntPairs, [.ref b21, .int (3 : Int32)]), (b21, (.array .int), (((((((List.replicate 64 (.int (0 : Int32))).set 0 (.int (Int32.ofNat n0))).set 1 (.int (Int32.ofNat n1))).set 2 (.int (Int32.ofNat n2))).set 3 (.int (Int32.ofNat n3))).set 4 (.int (Int32.ofNat n4))).set 5 (.int (Int32.ofNat n5)))), (b208, (.array .int), (fl 9 (ac (g1 [n0, n1, n2, n3, n4, n5]) 8))), (b213, (.array .int), (fl 8 (NX [n0, n1, n2, n3, n4, n5] 6)))]) rfl
    show Go p_ e_ bl_ _ (T254.setTop (mkF m_ 455 _ [.int (1 : Int32), .int (1 : Int32)]))
    refine g_iand (pc := 455) W256 at_455 ?_
    show Go p_ e_ bl_ _ (T254.setTop (mkF m_ 456 _ [.int (1 : Int32)]))
    refine g_istore (pc := 456) (ls' := #[.val (.int p0), .val (.int p1), .val (.int p2), .val (.int p3), .val (.int (3 : Int32)), .val (.ref b1), .val (.ref b17), .val (.int (6 : Int32)), .val (.ref b208), .val (.ref b214), .val (.int (1 : Int32))]) W256 at_456 rfl ?_
    refine g_iload (pc := 458) W256 at_458 rfl ?_
    refine g_aload (pc := 460) W256 at_460 rfl rfl ?_
    refine g_iload (pc := 462) W256 at_462 rfl ?_
    refine g_aload (pc := 464) W256 at_464 rfl rfl ?_
    refine g_iconst (pc := 466) (4 : Int32) (by decide) W256 at_466 ?_
    refine g_static (pc := 467) (Wt := 1) (argsL := [.ref b1, .int (6 : Int32), .ref b214, .int (4 : Int32)]) (rest := [.int (1 : Int32)]) (loc := [(b1, (.array .int), [.int (Int32.ofNat n0), .int (Int32.ofNat n1), .int (Int32.ofNat n2), .int (Int32.ofNat n3), .int (Int32.ofNat n4), .int (Int32.ofNat n5)]), (b214, (.array .int), (fl 6 (HH [n0, n1, n2, n3, n4, n5] 6)))]) (rst := [(b17, O_IntPairs, [.ref b21, .int (3 : Int32)]), (b21, (.array .int), (((((((List.replicate 64 (.int (0 : Int32))).set 0 (.int (Int32.ofNat n0))).set 1 (.int (Int32.ofNat n1))).set 2 (.int (Int32.ofNat n2))).set 3 (.int (Int32.ofNat n3))).set 4 (.int (Int32.ofNat n4))).set 5 (.int (Int32.ofNat n5)))), (b208, (.array .int), (fl 9 (ac (g1 [n0, n1, n2, n3, n4, n5]) 8))), (b213, (.array .int), (fl 8 (NX [n0, n1, n2, n3, n4, n5] 6)))]) W256 (wd hw 53 rfl) (wd hw 54 rfl) (wd hw 48 rfl) (wd hw 55 rfl) (by decide) (c_slot64 l Z a0 hw b1 b214 (Int32.ofNat n0) (Int32.ofNat n1) (Int32.ofNat n2) (Int32.ofNat n3) (Int32.ofNat n4) (Int32.ofNat n5) (fl 6 (HH [n0, n1, n2, n3, n4, n5] 6)) (by rw [fl_len]; rfl) (own_sl6_4 h0 h1 h2 h3 h4 h5).1 (own_sl6_4 h0 h1 h2 h3 h4 h5).2.1 (own_sl6_4 h0 h1 h2 h3 h4 h5).2.2) ⟨[0, 1, 2, 3, 4, 5], by decide, rfl⟩ rfl pd_AIIAII__Z rfl rfl rfl (Nat.le_of_ble_eq_true rfl) (by decide) (by decide) (by decide) (by decide) at_467 ?_
    rintro T257 _ _ ⟨rfl, rfl⟩ W258
    have W259 := W258.re (os' := [(b1, (.array .int), [.int (Int32.ofNat n0), .int (Int32.ofNat n1), .int (Int32.ofNat n2), .int (Int32.ofNat n3), .int (Int32.ofNat n4), .int (Int32.ofNat n5)]), (b214, (.array .int), (fl 6 (HH [n0, n1, n2, n3, n4, n5] 6))), (b17, O_IntPairs, [.ref b21, .int (3 : Int32)]), (b21, (.array .int), (((((((List.replicate 64 (.int (0 : Int32))).set 0 (.int (Int32.ofNat n0))).set 1 (.int (Int32.ofNat n1))).set 2 (.int (Int32.ofNat n2))).set 3 (.int (Int32.ofNat n3))).set 4 (.int (Int32.ofNat n4))).set 5 (.int (Int32.ofNat n5)))), (b208, (.array .int), (fl 9 (ac (g1 [n0, n1, n2, n3, n4, n5]) 8))), (b213, (.array .int), (fl 8 (NX [n0, n1, n2, n3, n4, n5] 6)))]) rfl
    show Go p_ e_ bl_ _ (T257.setTop (mkF m_ 470 _ [.int (1 : Int32), .int (1 : Int32)]))
    refine g_iand (pc := 470) W259 at_470 ?_
    show Go p_ e_ bl_ _ (T257.setTop (mkF m_ 471 _ [.int (1 : Int32)]))
    refine g_istore (pc := 471) (ls' := #[.val (.int p0), .val (.int p1), .val (.int p2), .val (.int p3), .val (.int (3 : Int32)), .val (.ref b1), .val (.ref b17), .val (.int (6 : Int32)), .val (.ref b208), .val (.ref b214), .val (.int (1 : Int32))]) W259 at_471 rfl ?_
    refine g_iload (pc := 473) W259 at_473 rfl ?_
    refine g_aload (pc := 475) W259 at_475 rfl rfl ?_
    refine g_iload (pc := 477) W259 at_477 rfl ?_
    refine g_aload (pc := 479) W259 at_479 rfl rfl ?_
    refine g_iconst (pc := 481) (5 : Int32) (by decide) W259 at_481 ?_
    refine g_static (pc := 482) (Wt := 1) (argsL := [.ref b1, .int (6 : Int32), .ref b214, .int (5 : Int32)]) (rest := [.int (1 : Int32)]) (loc := [(b1, (.array .int), [.int (Int32.ofNat n0), .int (Int32.ofNat n1), .int (Int32.ofNat n2), .int (Int32.ofNat n3), .int (Int32.ofNat n4), .int (Int32.ofNat n5)]), (b214, (.array .int), (fl 6 (HH [n0, n1, n2, n3, n4, n5] 6)))]) (rst := [(b17, O_IntPairs, [.ref b21, .int (3 : Int32)]), (b21, (.array .int), (((((((List.replicate 64 (.int (0 : Int32))).set 0 (.int (Int32.ofNat n0))).set 1 (.int (Int32.ofNat n1))).set 2 (.int (Int32.ofNat n2))).set 3 (.int (Int32.ofNat n3))).set 4 (.int (Int32.ofNat n4))).set 5 (.int (Int32.ofNat n5)))), (b208, (.array .int), (fl 9 (ac (g1 [n0, n1, n2, n3, n4, n5]) 8))), (b213, (.array .int), (fl 8 (NX [n0, n1, n2, n3, n4, n5] 6)))]) W259 (wd hw 53 rfl) (wd hw 54 rfl) (wd hw 48 rfl) (wd hw 55 rfl) (by decide) (c_slot65 l Z a0 hw b1 b214 (Int32.ofNat n0) (Int32.ofNat n1) (Int32.ofNat n2) (Int32.ofNat n3) (Int32.ofNat n4) (Int32.ofNat n5) (fl 6 (HH [n0, n1, n2, n3, n4, n5] 6)) (by rw [fl_len]; rfl) (own_sl6_5 h0 h1 h2 h3 h4 h5).1 (own_sl6_5 h0 h1 h2 h3 h4 h5).2.1 (own_sl6_5 h0 h1 h2 h3 h4 h5).2.2) ⟨[0, 1, 2, 3, 4, 5], by decide, rfl⟩ rfl pd_AIIAII__Z rfl rfl rfl (Nat.le_of_ble_eq_true rfl) (by decide) (by decide) (by decide) (by decide) at_482 ?_
    rintro T260 _ _ ⟨rfl, rfl⟩ W261
    have W262 := W261.re (os' := [(b1, (.array .int), [.int (Int32.ofNat n0), .int (Int32.ofNat n1), .int (Int32.ofNat n2), .int (Int32.ofNat n3), .int (Int32.ofNat n4), .int (Int32.ofNat n5)]), (b214, (.array .int), (fl 6 (HH [n0, n1, n2, n3, n4, n5] 6))), (b17, O_IntPairs, [.ref b21, .int (3 : Int32)]), (b21, (.array .int), (((((((List.replicate 64 (.int (0 : Int32))).set 0 (.int (Int32.ofNat n0))).set 1 (.int (Int32.ofNat n1))).set 2 (.int (Int32.ofNat n2))).set 3 (.int (Int32.ofNat n3))).set 4 (.int (Int32.ofNat n4))).set 5 (.int (Int32.ofNat n5)))), (b208, (.array .int), (fl 9 (ac (g1 [n0, n1, n2, n3, n4, n5]) 8))), (b213, (.array .int), (fl 8 (NX [n0, n1, n2, n3, n4, n5] 6)))]) rfl
    show Go p_ e_ bl_ _ (T260.setTop (mkF m_ 485 _ [.int (1 : Int32), .int (1 : Int32)]))
    refine g_iand (pc := 485) W262 at_485 ?_
    show Go p_ e_ bl_ _ (T260.setTop (mkF m_ 486 _ [.int (1 : Int32)]))
    refine g_istore (pc := 486) (ls' := #[.val (.int p0), .val (.int p1), .val (.int p2), .val (.int p3), .val (.int (3 : Int32)), .val (.ref b1), .val (.ref b17), .val (.int (6 : Int32)), .val (.ref b208), .val (.ref b214), .val (.int (1 : Int32))]) W262 at_486 rfl ?_
    refine g_iload (pc := 488) W262 at_488 rfl ?_
    exact g_zreturn (pc := 490) rfl (by decide) W262 at_490 (by decide) (by decide) rfl
set_option maxRecDepth 65536 in
set_option maxHeartbeats 40000000 in
theorem comes_1 {Post : Tables → Env → Array Value → State → Outcome → State → Prop} (hpost : ∀ tb e args s v u, (limb_1_1.after args s (.returned v) u = true ∧ limb_1_2.after args s (.returned v) u = true ∧ True) → FrameEnd s (.returned v) u (Jvm.fieldLocs frame_1_writes args s ++ Jvm.arrayLocs frame_1_arrays args s ++ Jvm.staticLocs frame_1_statics s) 24 256 → Post tb e args s (.returned v) u) :
    ArmFor flags0 classFile x code maxLocals ret World_1 tables_1 room_1 Calls_1 rest_1 Pre_1 Post := by
  intro l hfl _ _ p e ha hc hk s m args below hf hA hF happ hP
  obtain ⟨hcalls, hrest, hpre⟩ := hP
  obtain ⟨-, -, -, hnamed, -, -, -, hat⟩ := (Spec.applies_iff hf).mp happ
  obtain ⟨hg, hn⟩ := and_e (Cond.before_iff.mp (show (Jvm.Cond.and given_1 narrow_1).before args s = true from hpre))
  obtain ⟨h1, hr0⟩ := and_e hg
  obtain ⟨w0, w1, w2, w3, rfl⟩ : ∃ w0 w1 w2 w3 : Value, args = #[w0, w1, w2, w3] := by
    have hs : args.size = 4 := by simpa [Cond.value, given_1] using h1
    obtain ⟨L⟩ := args
    match L, hs with
    | [w0, w1, w2, w3], _ => exact ⟨w0, w1, w2, w3, rfl⟩
  have hw := fun d (hd : d ∈ tables_1) => atoms_spec (ws := Jvm.Cond.code x code maxLocals ret :: tables_1) hat d (List.mem_cons_of_mem _ hd)
  obtain ⟨ha0, hr1⟩ := and_e hr0
  obtain ⟨i0, e0⟩ := is_v ha0
  obtain rfl : w0 = (.int i0) := Option.some.inj e0
  obtain ⟨ha1, hr2⟩ := and_e hr1
  obtain ⟨i1, e1⟩ := is_v ha1
  obtain rfl : w1 = (.int i1) := Option.some.inj e1
  obtain ⟨ha2, hr3⟩ := and_e hr2
  obtain ⟨i2, e2⟩ := is_v ha2
  obtain rfl : w2 = (.int i2) := Option.some.inj e2
  obtain ⟨i3, e3⟩ := is_v hr3
  obtain rfl : w3 = (.int i3) := Option.some.inj e3
  obtain ⟨n, o, h1, h2, h3, _, L, rfl, hQ, hq⟩ := c_law l s _ hw (B := s.heap.size) i0 i1 i2 i3 s.heap Hp.nil (fun _ q => nomatch q) (Nat.le_refl _) p e ha hc hk s m _ below hf ((Spec.applies_iff_loose hf).mp happ).1 ⟨rfl, State.Warmed39.refl s, rfl⟩ trivial
  have N := Con.frame (y := x) (as := #[]) (rm := room_1) hQ
  obtain ⟨-, os', -, rfl⟩ := hQ
  refine ⟨n, _, h1, h2, h3, hpost _ _ _ _ _ _ ⟨Cond.after_iff.mpr rfl, Cond.after_iff.mpr (eq_i res_at (Term.int_eval (1)) rfl), trivial⟩ ⟨hq.1, hq.2.1, (hq.2.2.sift fun y hy => Or.inr (N y hy)).mono (by decide) (by decide)⟩⟩
theorem main_1_1 : Claimed_1_1 := comes_1 fun _ _ _ _ _ _ h hF => ⟨h.1, hF⟩
theorem main_1_2 : Claimed_1_2 := comes_1 fun _ _ _ _ _ _ h hF => ⟨h.2.1, hF⟩
end Jvm.Pilot.@@N@@
namespace Jvm.Pilot.@@N@@
open Jvm Jvm.ClassFile Sem Op Lib Jvm.Free Jvm.Stand Jvm.Pilot.@@N@@.Jvm.D
/-! MADE BY PROGRAM (witnessworld.py) out of the Statement's table words and the real class files: 12 classes; the members and pool entries that the words name. The judged class is class 1, her method 1. -/
namespace start1
open Jvm.ClassFile
def u (s : String) : CpInfo := .utf8 (stringToUtf16 s)
/-- a pool by its gaps: so many unusable entries, then the entry; so many at the end -/
def gap : Nat → List CpInfo → List CpInfo
  | 0, r => r
  | n + 1, r => .unusable :: gap n r
def poolList (es : List (Nat × CpInfo)) (last : Nat) : List CpInfo := es.foldr (fun e r => gap e.1 (e.2 :: r)) (gap last [])
def pool (es : List (Nat × CpInfo)) (last : Nat) : Array CpInfo := ⟨poolList es last⟩
def fileOf (pool : Array CpInfo) (this : Nat) (attrs : Array Attribute := #[]) (ms : Array MethodInfo := #[]) (fl : Nat := 33) (sup : Nat := 0) (ifs : Array Nat := #[]) (fds : Array FieldInfo := #[]) : ClassFile where
  minorVersion := 0
  majorVersion := 65
  constantPool := pool
  accessFlags := fl
  thisClass := this
  superClass := sup
  interfaces := ifs
  fields := fds
  methods := ms
  attributes := attrs
def plain (name : String) (sup : Option ClassId) : Class where
  name := name
  kind := .ordinary
  loader := none
  accessFlags := 33
  super := sup
  interfaces := #[]
  cf := none
  fields := #[]
  methods := #[]
  instanceTypes := #[]
  staticTypes := #[]
  resolved := #[]
  callSites := []
  init := .initialized
  statics := none
  mirror := none

def pool0 : Array CpInfo := pool [(5, u "<init>"), (0, u "()V"), (1, .class_ 10), (1, u "java/lang/Object")] 113

def k0c0 : Code := { maxStack := 0, maxLocals := 1, code := object_method_1_code, exceptionTable := #[], attributes := #[] }
def k0m0 : Method := { name := "<init>", desc := "()V", sig := { parameters := [], returnType := none }, accessFlags := 1, code := some k0c0 }
/-- java/lang/Object -/
def k0 : Class := { plain "java/lang/Object" none with
  accessFlags := 33
  interfaces := #[]
  cf := some (fileOf pool0 8 #[] #[{ accessFlags := 1, nameIndex := 5, descriptorIndex := 6, attributes := #[] }] 33 0 #[] #[])
  fields := #[]
  methods := #[k0m0]
  instanceTypes := #[]
  staticTypes := #[]
  resolved := Array.replicate 124 none
  statics := none }

def pool1 : Array CpInfo := pool [(2, .class_ 4), (0, .nameAndType 5 6), (0, u "java/lang/Object"), (0, u "<init>"), (0, u "()V"), (0, .class_ 8), (0, u "com/example/metanode/metanode/graph/IntPairs"), (0, .methodref 7 3), (0, .methodref 7 11), (0, .nameAndType 12 13), (0, u "add"), (0, u "(II)Z"), (0, .methodref 7 15), (0, .nameAndType 16 17), (0, u "partners"), (0, u "([I)[I"), (0, .methodref 19 20), (0, .class_ 21), (0, .nameAndType 22 23), (0, u "com/example/metanode/metanode/graph/IntPairsPartnersPinLaw"), (0, u "below"), (0, u "([III)I"), (0, .methodref 19 25), (0, .nameAndType 26 27), (0, u "slot"), (0, u "([II[II)Z"), (0, .methodref 19 29), (0, .nameAndType 30 31), (0, u "lt"), (0, u "([IIII)I"), (0, .methodref 19 33), (0, .nameAndType 34 23), (0, u "eqBefore"), (2, u "law"), (0, u "(IIII)Z")] 5

def k1m0 : Method := { name := "<init>", desc := "()V", sig := { parameters := [], returnType := none }, accessFlags := 1, code := none }
def k1c1 : Code := { maxStack := 5, maxLocals := 11, code := code, exceptionTable := #[], attributes := #[] }
def k1m1 : Method := { name := "law", desc := "(IIII)Z", sig := { parameters := [.int, .int, .int, .int], returnType := some .boolean }, accessFlags := 9, code := some k1c1 }
def k1c2 : Code := { maxStack := 2, maxLocals := 4, code := method_3_code, exceptionTable := #[], attributes := #[] }
def k1m2 : Method := { name := "lt", desc := "([IIII)I", sig := { parameters := [(.array .int), .int, .int, .int], returnType := some .int }, accessFlags := 10, code := some k1c2 }
def k1c3 : Code := { maxStack := 5, maxLocals := 3, code := method_4_code, exceptionTable := #[], attributes := #[] }
def k1m3 : Method := { name := "below", desc := "([III)I", sig := { parameters := [(.array .int), .int, .int], returnType := some .int }, accessFlags := 10, code := some k1c3 }
def k1c4 : Code := { maxStack := 3, maxLocals := 3, code := method_5_code, exceptionTable := #[], attributes := #[] }
def k1m4 : Method := { name := "eqBefore", desc := "([III)I", sig := { parameters := [(.array .int), .int, .int], returnType := some .int }, accessFlags := 10, code := some k1c4 }
def k1c5 : Code := { maxStack := 5, maxLocals := 5, code := method_6_code, exceptionTable := #[], attributes := #[] }
def k1m5 : Method := { name := "slot", desc := "([II[II)Z", sig := { parameters := [(.array .int), .int, (.array .int), .int], returnType := some .boolean }, accessFlags := 10, code := some k1c5 }
/-- com/example/metanode/metanode/graph/IntPairsPartnersPinLaw -/
def k1 : Class := { plain "com/example/metanode/metanode/graph/IntPairsPartnersPinLaw" (some 0) with
  accessFlags := 49
  interfaces := #[]
  cf := some (fileOf pool1 19 #[] #[{ accessFlags := 1, nameIndex := 5, descriptorIndex := 6, attributes := #[] }, { accessFlags := 9, nameIndex := 37, descriptorIndex := 38, attributes := #[] }, { accessFlags := 10, nameIndex := 30, descriptorIndex := 31, attributes := #[] }, { accessFlags := 10, nameIndex := 22, descriptorIndex := 23, attributes := #[] }, { accessFlags := 10, nameIndex := 34, descriptorIndex := 23, attributes := #[] }, { accessFlags := 10, nameIndex := 26, descriptorIndex := 27, attributes := #[] }] 49 2 #[] #[])
  fields := #[]
  methods := #[k1m0, k1m1, k1m2, k1m3, k1m4, k1m5]
  instanceTypes := #[]
  staticTypes := #[]
  resolved := Array.replicate 44 none
  statics := none }

def pool2 : Array CpInfo := pool [(3, .methodref 4 5), (0, .class_ 6), (0, .nameAndType 7 8), (0, u "java/lang/Object"), (0, u "<init>"), (0, u "()V"), (0, .fieldref 10 11), (0, .class_ 12), (0, .nameAndType 13 14), (0, u "com/example/metanode/metanode/graph/IntPairs"), (0, u "ends"), (0, u "[I"), (0, .fieldref 10 16), (0, .nameAndType 17 18), (0, u "count"), (0, u "I"), (0, .integer 1073741819), (0, .long 2147483638), (1, .long 2), (7, .methodref 31 32), (0, .class_ 33), (0, .nameAndType 34 35), (0, u "java/util/Arrays"), (0, u "copyOf"), (0, u "([II)[I"), (0, .methodref 10 37), (0, .nameAndType 38 39), (0, u "first"), (0, u "(I)I"), (0, .methodref 10 41), (0, .nameAndType 42 39), (0, u "second"), (17, u "MAX_COUNT"), (4, u "add"), (0, u "(II)Z"), (1, u "partners"), (0, u "([I)[I")] 6

def k2c0 : Code := { maxStack := 2, maxLocals := 1, code := prog_22_method_1_code, exceptionTable := #[], attributes := #[] }
def k2m0 : Method := { name := "<init>", desc := "()V", sig := { parameters := [], returnType := none }, accessFlags := 0, code := some k2c0 }
def k2c1 : Code := { maxStack := 8, maxLocals := 3, code := prog_22_method_3_code, exceptionTable := #[], attributes := #[] }
def k2m1 : Method := { name := "add", desc := "(II)Z", sig := { parameters := [.int, .int], returnType := some .boolean }, accessFlags := 0, code := some k2c1 }
def k2c2 : Code := { maxStack := 6, maxLocals := 8, code := prog_22_method_4_code, exceptionTable := #[], attributes := #[] }
def k2m2 : Method := { name := "partners", desc := "([I)[I", sig := { parameters := [(.array .int)], returnType := some (.array .int) }, accessFlags := 0, code := some k2c2 }
def k2c3 : Code := { maxStack := 3, maxLocals := 2, code := prog_22_method_9_code, exceptionTable := #[], attributes := #[] }
def k2m3 : Method := { name := "first", desc := "(I)I", sig := { parameters := [.int], returnType := some .int }, accessFlags := 0, code := some k2c3 }
def k2c4 : Code := { maxStack := 3, maxLocals := 2, code := prog_22_method_10_code, exceptionTable := #[], attributes := #[] }
def k2m4 : Method := { name := "second", desc := "(I)I", sig := { parameters := [.int], returnType := some .int }, accessFlags := 0, code := some k2c4 }
/-- com/example/metanode/metanode/graph/IntPairs -/
def k2 : Class := { plain "com/example/metanode/metanode/graph/IntPairs" (some 0) with
  accessFlags := 48
  interfaces := #[]
  cf := some (fileOf pool2 10 #[] #[{ accessFlags := 0, nameIndex := 7, descriptorIndex := 8, attributes := #[] }, { accessFlags := 0, nameIndex := 65, descriptorIndex := 66, attributes := #[] }, { accessFlags := 0, nameIndex := 68, descriptorIndex := 69, attributes := #[] }, { accessFlags := 0, nameIndex := 38, descriptorIndex := 39, attributes := #[] }, { accessFlags := 0, nameIndex := 42, descriptorIndex := 39, attributes := #[] }] 48 4 #[] #[{ accessFlags := 26, nameIndex := 60, descriptorIndex := 18, attributes := #[] }, { accessFlags := 2, nameIndex := 13, descriptorIndex := 14, attributes := #[] }, { accessFlags := 2, nameIndex := 17, descriptorIndex := 18, attributes := #[] }])
  fields := #[{ name := "MAX_COUNT", type := .int, accessFlags := 26, slot := 0, constantValue := 0 }, { name := "ends", type := (.array .int), accessFlags := 2, slot := 0, constantValue := 0 }, { name := "count", type := .int, accessFlags := 2, slot := 1, constantValue := 0 }]
  methods := #[k2m0, k2m1, k2m2, k2m3, k2m4]
  instanceTypes := #[(.array .int), .int]
  staticTypes := #[.int]
  resolved := Array.replicate 76 none
  statics := none }

def pool3 : Array CpInfo := pool [(2, .class_ 4), (1, u "java/lang/Object"), (0, u "<init>"), (0, u "()V"), (7, .class_ 16), (1, u "java/util/Arrays"), (57, .class_ 76), (1, u "java/util/Arrays$NaturalOrder"), (36, .class_ 115), (1, u "java/util/Arrays$LegacyMergeSort"), (1, u "Z"), (32, .methodref 151 152), (0, .class_ 153), (0, .nameAndType 154 155), (0, u "java/lang/System"), (0, u "arraycopy"), (0, u "(Ljava/lang/Object;ILjava/lang/Object;II)V"), (146, u "copyOf"), (1, .methodref 305 306), (0, .class_ 307), (0, .nameAndType 308 309), (0, u "java/lang/Math"), (0, u "min"), (0, u "(II)I"), (65, .class_ 376), (0, u "java/util/Arrays$ArrayList"), (68, u "$assertionsDisabled"), (269, u "MIN_ARRAY_SORT_GRAN"), (0, u "I"), (2, u "INSERTIONSORT_THRESHOLD"), (151, u "([II)[I"), (103, .class_ 976), (0, u "java/util/Arrays$ArrayItr")] 52

def k3m0 : Method := { name := "<init>", desc := "()V", sig := { parameters := [], returnType := none }, accessFlags := 2, code := none }
def k3c1 : Code := { maxStack := 6, maxLocals := 3, code := jdk_65_method_123_code, exceptionTable := #[], attributes := #[] }
def k3m1 : Method := { name := "copyOf", desc := "([II)[I", sig := { parameters := [(.array .int), .int], returnType := some (.array .int) }, accessFlags := 9, code := some k3c1 }
/-- java/util/Arrays -/
def k3 : Class := { plain "java/util/Arrays" (some 0) with
  accessFlags := 49
  interfaces := #[]
  cf := some (fileOf pool3 14 #[.nestMembers #[975, 375, 113, 74]] #[{ accessFlags := 2, nameIndex := 5, descriptorIndex := 6, attributes := #[] }, { accessFlags := 9, nameIndex := 302, descriptorIndex := 871, attributes := #[] }] 49 2 #[] #[{ accessFlags := 26, nameIndex := 715, descriptorIndex := 716, attributes := #[] }, { accessFlags := 26, nameIndex := 719, descriptorIndex := 716, attributes := #[] }, { accessFlags := 4120, nameIndex := 445, descriptorIndex := 117, attributes := #[] }])
  fields := #[{ name := "MIN_ARRAY_SORT_GRAN", type := .int, accessFlags := 26, slot := 0, constantValue := 0 }, { name := "INSERTIONSORT_THRESHOLD", type := .int, accessFlags := 26, slot := 1, constantValue := 0 }, { name := "$assertionsDisabled", type := .boolean, accessFlags := 4120, slot := 2, constantValue := 0 }]
  methods := #[k3m0, k3m1]
  instanceTypes := #[]
  staticTypes := #[.int, .int, .boolean]
  resolved := Array.replicate 1029 none
  statics := none }

def pool4 : Array CpInfo := pool [(1, .class_ 2), (0, u "java/lang/Math"), (1, .class_ 6), (1, u "java/lang/Object"), (0, u "<init>"), (0, u "()V"), (89, .class_ 100), (1, u "java/lang/Math$RandomNumberGeneratorHolder"), (71, u "negativeZeroFloatBits"), (0, u "J"), (2, u "negativeZeroDoubleBits"), (24, u "min"), (43, u "$assertionsDisabled"), (0, u "Z"), (88, u "(II)I"), (2, u "twoToTheDoubleScaleDown"), (0, u "D"), (4, u "twoToTheDoubleScaleUp"), (9, u "E"), (3, u "PI"), (2, u "TAU"), (2, u "DEGREES_TO_RADIANS"), (0, u "RADIANS_TO_DEGREES")] 94

def k4m0 : Method := { name := "<init>", desc := "()V", sig := { parameters := [], returnType := none }, accessFlags := 2, code := none }
def k4c1 : Code := { maxStack := 2, maxLocals := 2, code := jdk_29_method_69_code, exceptionTable := #[], attributes := #[] }
def k4m1 : Method := { name := "min", desc := "(II)I", sig := { parameters := [.int, .int], returnType := some .int }, accessFlags := 9, code := some k4c1 }
/-- java/lang/Math -/
def k4 : Class := { plain "java/lang/Math" (some 0) with
  accessFlags := 49
  interfaces := #[]
  cf := some (fileOf pool4 1 #[.nestMembers #[98]] #[{ accessFlags := 2, nameIndex := 7, descriptorIndex := 8, attributes := #[] }, { accessFlags := 9, nameIndex := 201, descriptorIndex := 335, attributes := #[] }] 49 4 #[] #[{ accessFlags := 25, nameIndex := 354, descriptorIndex := 339, attributes := #[] }, { accessFlags := 25, nameIndex := 358, descriptorIndex := 339, attributes := #[] }, { accessFlags := 25, nameIndex := 361, descriptorIndex := 339, attributes := #[] }, { accessFlags := 26, nameIndex := 364, descriptorIndex := 339, attributes := #[] }, { accessFlags := 26, nameIndex := 365, descriptorIndex := 339, attributes := #[] }, { accessFlags := 26, nameIndex := 172, descriptorIndex := 173, attributes := #[] }, { accessFlags := 26, nameIndex := 176, descriptorIndex := 173, attributes := #[] }, { accessFlags := 8, nameIndex := 344, descriptorIndex := 339, attributes := #[] }, { accessFlags := 8, nameIndex := 338, descriptorIndex := 339, attributes := #[] }, { accessFlags := 4120, nameIndex := 245, descriptorIndex := 246, attributes := #[] }])
  fields := #[{ name := "E", type := .double, accessFlags := 25, slot := 0, constantValue := 0 }, { name := "PI", type := .double, accessFlags := 25, slot := 1, constantValue := 0 }, { name := "TAU", type := .double, accessFlags := 25, slot := 2, constantValue := 0 }, { name := "DEGREES_TO_RADIANS", type := .double, accessFlags := 26, slot := 3, constantValue := 0 }, { name := "RADIANS_TO_DEGREES", type := .double, accessFlags := 26, slot := 4, constantValue := 0 }, { name := "negativeZeroFloatBits", type := .long, accessFlags := 26, slot := 5, constantValue := 0 }, { name := "negativeZeroDoubleBits", type := .long, accessFlags := 26, slot := 6, constantValue := 0 }, { name := "twoToTheDoubleScaleUp", type := .double, accessFlags := 8, slot := 7, constantValue := 0 }, { name := "twoToTheDoubleScaleDown", type := .double, accessFlags := 8, slot := 8, constantValue := 0 }, { name := "$assertionsDisabled", type := .boolean, accessFlags := 4120, slot := 9, constantValue := 0 }]
  methods := #[k4m0, k4m1]
  instanceTypes := #[]
  staticTypes := #[.double, .double, .double, .double, .double, .long, .long, .double, .double, .boolean]
  resolved := Array.replicate 460 none
  statics := none }

def pool5 : Array CpInfo := pool [(2, .class_ 4), (1, u "java/lang/Object"), (0, u "<init>"), (0, u "()V"), (1, .class_ 10), (1, u "java/lang/System"), (0, u "allowSecurityManager"), (0, u "I"), (16, u "cons"), (0, u "Ljava/io/Console;"), (77, .class_ 110), (1, u "java/lang/System$CallersHolder"), (43, u "initialErrStream"), (0, u "Ljava/io/PrintStream;"), (19, u "security"), (0, u "Ljava/lang/SecurityManager;"), (31, .class_ 209), (0, u "java/lang/System$1"), (7, u "props"), (0, u "Ljava/util/Properties;"), (2, u "lineSeparator"), (0, u "Ljava/lang/String;"), (96, .class_ 321), (1, u "java/lang/System$LoggerFinder"), (5, .class_ 328), (0, u "java/lang/System$Logger"), (67, u "err"), (2, u "out"), (91, u "notSupportedJnuEncoding"), (15, u "in"), (17, u "initialIn"), (0, u "Ljava/io/InputStream;"), (35, u "bootLayer"), (0, u "Ljava/lang/ModuleLayer;"), (99, .class_ 664), (0, u "java/lang/System$2"), (9, u "NEVER"), (2, u "MAYBE"), (49, u "arraycopy"), (0, u "(Ljava/lang/Object;ILjava/lang/Object;II)V"), (72, .class_ 802), (0, u "java/lang/System$Logger$Level")] 31

def k5m0 : Method := { name := "<init>", desc := "()V", sig := { parameters := [], returnType := none }, accessFlags := 2, code := none }
def k5m1 : Method := { name := "arraycopy", desc := "(Ljava/lang/Object;ILjava/lang/Object;II)V", sig := { parameters := [(.object "java/lang/Object"), .int, (.object "java/lang/Object"), .int, .int], returnType := none }, accessFlags := 265, code := none }
/-- java/lang/System -/
def k5 : Class := { plain "java/lang/System" (some 0) with
  accessFlags := 49
  interfaces := #[]
  cf := some (fileOf pool5 8 #[.nestMembers #[319, 327, 801, 108, 663, 208]] #[{ accessFlags := 2, nameIndex := 5, descriptorIndex := 6, attributes := #[] }, { accessFlags := 265, nameIndex := 727, descriptorIndex := 728, attributes := #[] }] 49 2 #[] #[{ accessFlags := 25, nameIndex := 507, descriptorIndex := 526, attributes := #[] }, { accessFlags := 25, nameIndex := 399, descriptorIndex := 155, attributes := #[] }, { accessFlags := 25, nameIndex := 396, descriptorIndex := 155, attributes := #[] }, { accessFlags := 10, nameIndex := 525, descriptorIndex := 526, attributes := #[] }, { accessFlags := 26, nameIndex := 674, descriptorIndex := 12, attributes := #[] }, { accessFlags := 26, nameIndex := 677, descriptorIndex := 12, attributes := #[] }, { accessFlags := 10, nameIndex := 11, descriptorIndex := 12, attributes := #[] }, { accessFlags := 74, nameIndex := 175, descriptorIndex := 176, attributes := #[] }, { accessFlags := 10, nameIndex := 491, descriptorIndex := 222, attributes := #[] }, { accessFlags := 74, nameIndex := 29, descriptorIndex := 30, attributes := #[] }, { accessFlags := 74, nameIndex := 154, descriptorIndex := 155, attributes := #[] }, { accessFlags := 10, nameIndex := 217, descriptorIndex := 218, attributes := #[] }, { accessFlags := 10, nameIndex := 221, descriptorIndex := 222, attributes := #[] }, { accessFlags := 8, nameIndex := 562, descriptorIndex := 563, attributes := #[] }])
  fields := #[{ name := "in", type := (.object "java/io/InputStream"), accessFlags := 25, slot := 0, constantValue := 0 }, { name := "out", type := (.object "java/io/PrintStream"), accessFlags := 25, slot := 1, constantValue := 0 }, { name := "err", type := (.object "java/io/PrintStream"), accessFlags := 25, slot := 2, constantValue := 0 }, { name := "initialIn", type := (.object "java/io/InputStream"), accessFlags := 10, slot := 3, constantValue := 0 }, { name := "NEVER", type := .int, accessFlags := 26, slot := 4, constantValue := 0 }, { name := "MAYBE", type := .int, accessFlags := 26, slot := 5, constantValue := 0 }, { name := "allowSecurityManager", type := .int, accessFlags := 10, slot := 6, constantValue := 0 }, { name := "security", type := (.object "java/lang/SecurityManager"), accessFlags := 74, slot := 7, constantValue := 0 }, { name := "notSupportedJnuEncoding", type := (.object "java/lang/String"), accessFlags := 10, slot := 8, constantValue := 0 }, { name := "cons", type := (.object "java/io/Console"), accessFlags := 74, slot := 9, constantValue := 0 }, { name := "initialErrStream", type := (.object "java/io/PrintStream"), accessFlags := 74, slot := 10, constantValue := 0 }, { name := "props", type := (.object "java/util/Properties"), accessFlags := 10, slot := 11, constantValue := 0 }, { name := "lineSeparator", type := (.object "java/lang/String"), accessFlags := 10, slot := 12, constantValue := 0 }, { name := "bootLayer", type := (.object "java/lang/ModuleLayer"), accessFlags := 8, slot := 13, constantValue := 0 }]
  methods := #[k5m0, k5m1]
  instanceTypes := #[]
  staticTypes := #[(.object "java/io/InputStream"), (.object "java/io/PrintStream"), (.object "java/io/PrintStream"), (.object "java/io/InputStream"), .int, .int, .int, (.object "java/lang/SecurityManager"), (.object "java/lang/String"), (.object "java/io/Console"), (.object "java/io/PrintStream"), (.object "java/util/Properties"), (.object "java/lang/String"), (.object "java/lang/ModuleLayer")]
  resolved := Array.replicate 834 none
  statics := none }

def pool6 : Array CpInfo := pool [(1, u "java/lang/Cloneable"), (0, .class_ 1), (0, u "java/lang/Object"), (0, .class_ 3)] 3

/-- java/lang/Cloneable -/
def k6 : Class := { plain "java/lang/Cloneable" (some 0) with
  accessFlags := 1537
  interfaces := #[]
  cf := some (fileOf pool6 2 #[] #[] 1537 4 #[] #[])
  fields := #[]
  methods := #[]
  instanceTypes := #[]
  staticTypes := #[]
  resolved := Array.replicate 8 none
  statics := none }

def pool7 : Array CpInfo := pool [(1, u "java/io/Serializable"), (0, .class_ 1), (0, u "java/lang/Object"), (0, .class_ 3)] 3

/-- java/io/Serializable -/
def k7 : Class := { plain "java/io/Serializable" (some 0) with
  accessFlags := 1537
  interfaces := #[]
  cf := some (fileOf pool7 2 #[] #[] 1537 4 #[] #[])
  fields := #[]
  methods := #[]
  instanceTypes := #[]
  staticTypes := #[]
  resolved := Array.replicate 8 none
  statics := none }

/-- the primitive byte -/
def k8 : Class := { plain "byte" none with kind := .primitive 'B', accessFlags := 0x411 }
/-- [B -/
def k9 : Class := { plain "[B" (some 0) with kind := .array 8 .byte, interfaces := #[6, 7], accessFlags := 1041 }

/-- the primitive int -/
def k10 : Class := { plain "int" none with kind := .primitive 'I', accessFlags := 0x411 }
/-- [I -/
def k11 : Class := { plain "[I" (some 0) with kind := .array 10 .int, interfaces := #[6, 7], accessFlags := 1041 }

def heap : Heap := #[]
def classes : Array Class := #[k0, k1, k2, k3, k4, k5, k6, k7, k8, k9, k10, k11]
def interned : List (Array UInt16 × Addr) := []
def slotsUsed : Nat := 0
def theMethod : MethodId := ⟨1, 1⟩
def args0 : Array Value := #[.int 5, .int 7, .int 1, .int 2]
def aboutOver (below : List Frame) : State where
  vm := { classes := classes, interned := interned.toArray }
  heap := heap
  slotsUsed := slotsUsed
  threads := #[{ frames := .invoking theMethod args0 :: below }]
def below0 : List Frame := [.native { method := ⟨0, 0⟩, args := #[] }]
def about1 : State := aboutOver below0
def p0 : Program := .bare "" "" ""
def e0 : Env := launch0.env 0 0 0
theorem w_frames : about1.frames = Frame.invoking theMethod args0 :: below0 := rfl
set_option maxRecDepth 65536 in
theorem w_args : argsFit about1.vm theMethod args0 = true := by decide +kernel
set_option maxRecDepth 65536 in
theorem w_heap : heapFits about1 = true := by decide +kernel
set_option maxRecDepth 65536 in
theorem w_runnable : about1.curStatus? = some .runnable := by decide +kernel
set_option maxRecDepth 65536 in
theorem w_alone : about1.alone = true := by decide +kernel
set_option maxRecDepth 65536 in
theorem w_named : about1.methodNamed? x = some theMethod := by decide +kernel
set_option maxRecDepth 65536 in
theorem w_hears : about1.hears theMethod below0 = true := by decide +kernel
set_option maxRecDepth 65536 in
theorem w_ripe : about1.ripe theMethod args0 below0 = true := by decide +kernel
theorem w_running : about1.status = .running := rfl
set_option maxRecDepth 65536 in
theorem w_room : about1.hasRoom e0.platform room_1 = true :=
  launch0.hasRoom_least _ room_1 (by decide +kernel) (by decide +kernel) (by decide +kernel) (by decide +kernel) (by decide +kernel) (by decide +kernel)
theorem allAtoms_all (ts : List Jvm.Cond) (a : Array Jvm.Value) (st : Jvm.State) : (allAtoms ts).before a st = ts.all (fun c => c.before a st) := by
  induction ts with
  | nil => rfl
  | cons c t ih =>
    show (Jvm.Cond.and c (allAtoms t)).before a st = _
    rw [Jvm.Cond.before_and, ih, List.all_cons]
def words1 : List Jvm.Cond := Jvm.Cond.code x code maxLocals ret :: tables_1
/-- a 'code' word, met by the world's own term for the bytes: nothing is compared byte by byte -/
theorem code_word {y : MethodName} {bytes : ByteArray} {mx : Nat} {rt : Option FieldType} {a : Array Value} {s : State} {m : MethodId} {meth : Method} {c : Code} (h1 : s.methodNamed? y = some m) (h2 : s.vm.method? m = some meth) (h3 : meth.code = some c) (h4 : c.code = bytes)
    (h5 : (c.maxLocals == mx && c.exceptionTable.isEmpty && decide (c.maxStack ≤ mostOperands) && decide (meth.sig.returnType = rt) && !meth.locks && decide (parseMethodDescriptor y.desc = some meth.sig)) = true) : (Jvm.Cond.code y bytes mx rt).before a s = true := by
  simp only [Bool.and_eq_true, beq_iff_eq, Bool.not_eq_true', decide_eq_true_eq] at h5
  obtain ⟨⟨⟨⟨⟨g1, g2⟩, g3⟩, g4⟩, g5⟩, g6⟩ := h5
  simp [Cond.before, Cond.holds, Cond.value, h1, h2, h3, h4, g1, g2, g3, g4, g5, g6]
def isCode : Jvm.Cond → Bool
  | .code _ _ _ _ => true
  | _ => false
theorem all_split {L : List Jvm.Cond} {P : Jvm.Cond → Bool} (h1 : L.all (fun c => isCode c || P c) = true) (h2 : ∀ c ∈ L.filter isCode, P c = true) : L.all P = true := by
  refine List.all_eq_true.mpr fun c hc => ?_
  have h := List.all_eq_true.mp h1 c hc
  rcases Bool.eq_false_or_eq_true (isCode c) with hi | hi
  · exact h2 c (List.mem_filter.mpr ⟨hc, hi⟩)
  · simpa [hi] using h
set_option maxRecDepth 65536 in
theorem w_c0 : (Jvm.Cond.code x code maxLocals ret).before args0 about1 = true := code_word (m := ⟨1, 1⟩) (meth := k1m1) (c := k1c1) (by decide +kernel) rfl rfl rfl (by decide +kernel)
set_option maxRecDepth 65536 in
theorem w_c1 : (Jvm.Cond.code ({ cls := "com/example/metanode/metanode/graph/IntPairs", name := "<init>", desc := "()V" } : Jvm.MethodName) prog_22_method_1_code (1 : Nat) (Option.none : Option Jvm.ClassFile.FieldType)).before args0 about1 = true := code_word (m := ⟨2, 0⟩) (meth := k2m0) (c := k2c0) (by decide +kernel) rfl rfl rfl (by decide +kernel)
set_option maxRecDepth 65536 in
theorem w_c2 : (Jvm.Cond.code ({ cls := "java/lang/Object", name := "<init>", desc := "()V" } : Jvm.MethodName) object_method_1_code (1 : Nat) (Option.none : Option Jvm.ClassFile.FieldType)).before args0 about1 = true := code_word (m := ⟨0, 0⟩) (meth := k0m0) (c := k0c0) (by decide +kernel) rfl rfl rfl (by decide +kernel)
set_option maxRecDepth 65536 in
theorem w_c3 : (Jvm.Cond.code ({ cls := "com/example/metanode/metanode/graph/IntPairs", name := "add", desc := "(II)Z" } : Jvm.MethodName) prog_22_method_3_code (3 : Nat) (Option.some Jvm.ClassFile.FieldType.boolean)).before args0 about1 = true := code_word (m := ⟨2, 1⟩) (meth := k2m1) (c := k2c1) (by decide +kernel) rfl rfl rfl (by decide +kernel)
set_option maxRecDepth 65536 in
theorem w_c4 : (Jvm.Cond.code ({ cls := "com/example/metanode/metanode/graph/IntPairs", name := "partners", desc := "([I)[I" } : Jvm.MethodName) prog_22_method_4_code (8 : Nat) (Option.some (Jvm.ClassFile.FieldType.array Jvm.ClassFile.FieldType.int))).before args0 about1 = true := code_word (m := ⟨2, 2⟩) (meth := k2m2) (c := k2c2) (by decide +kernel) rfl rfl rfl (by decide +kernel)
set_option maxRecDepth 65536 in
theorem w_c5 : (Jvm.Cond.code ({ cls := "com/example/metanode/metanode/graph/IntPairs", name := "first", desc := "(I)I" } : Jvm.MethodName) prog_22_method_9_code (2 : Nat) (Option.some Jvm.ClassFile.FieldType.int)).before args0 about1 = true := code_word (m := ⟨2, 3⟩) (meth := k2m3) (c := k2c3) (by decide +kernel) rfl rfl rfl (by decide +kernel)
set_option maxRecDepth 65536 in
theorem w_c6 : (Jvm.Cond.code ({ cls := "com/example/metanode/metanode/graph/IntPairs", name := "second", desc := "(I)I" } : Jvm.MethodName) prog_22_method_10_code (2 : Nat) (Option.some Jvm.ClassFile.FieldType.int)).before args0 about1 = true := code_word (m := ⟨2, 4⟩) (meth := k2m4) (c := k2c4) (by decide +kernel) rfl rfl rfl (by decide +kernel)
set_option maxRecDepth 65536 in
theorem w_c7 : (Jvm.Cond.code ({ cls := "java/util/Arrays", name := "copyOf", desc := "([II)[I" } : Jvm.MethodName) jdk_65_method_123_code (3 : Nat) (Option.some (Jvm.ClassFile.FieldType.array Jvm.ClassFile.FieldType.int))).before args0 about1 = true := code_word (m := ⟨3, 1⟩) (meth := k3m1) (c := k3c1) (by decide +kernel) rfl rfl rfl (by decide +kernel)
set_option maxRecDepth 65536 in
theorem w_c8 : (Jvm.Cond.code ({ cls := "java/lang/Math", name := "min", desc := "(II)I" } : Jvm.MethodName) jdk_29_method_69_code (2 : Nat) (Option.some Jvm.ClassFile.FieldType.int)).before args0 about1 = true := code_word (m := ⟨4, 1⟩) (meth := k4m1) (c := k4c1) (by decide +kernel) rfl rfl rfl (by decide +kernel)
set_option maxRecDepth 65536 in
theorem w_c9 : (Jvm.Cond.code ({ cls := "com/example/metanode/metanode/graph/IntPairsPartnersPinLaw", name := "below", desc := "([III)I" } : Jvm.MethodName) method_4_code (3 : Nat) (Option.some Jvm.ClassFile.FieldType.int)).before args0 about1 = true := code_word (m := ⟨1, 3⟩) (meth := k1m3) (c := k1c3) (by decide +kernel) rfl rfl rfl (by decide +kernel)
set_option maxRecDepth 65536 in
theorem w_c10 : (Jvm.Cond.code ({ cls := "com/example/metanode/metanode/graph/IntPairsPartnersPinLaw", name := "lt", desc := "([IIII)I" } : Jvm.MethodName) method_3_code (4 : Nat) (Option.some Jvm.ClassFile.FieldType.int)).before args0 about1 = true := code_word (m := ⟨1, 2⟩) (meth := k1m2) (c := k1c2) (by decide +kernel) rfl rfl rfl (by decide +kernel)
set_option maxRecDepth 65536 in
theorem w_c11 : (Jvm.Cond.code ({ cls := "com/example/metanode/metanode/graph/IntPairsPartnersPinLaw", name := "slot", desc := "([II[II)Z" } : Jvm.MethodName) method_6_code (5 : Nat) (Option.some Jvm.ClassFile.FieldType.boolean)).before args0 about1 = true := code_word (m := ⟨1, 5⟩) (meth := k1m5) (c := k1c5) (by decide +kernel) rfl rfl rfl (by decide +kernel)
set_option maxRecDepth 65536 in
theorem w_c12 : (Jvm.Cond.code ({ cls := "com/example/metanode/metanode/graph/IntPairsPartnersPinLaw", name := "eqBefore", desc := "([III)I" } : Jvm.MethodName) method_5_code (3 : Nat) (Option.some Jvm.ClassFile.FieldType.int)).before args0 about1 = true := code_word (m := ⟨1, 4⟩) (meth := k1m4) (c := k1c4) (by decide +kernel) rfl rfl rfl (by decide +kernel)
def codes1 : List Jvm.Cond := [Jvm.Cond.code x code maxLocals ret, Jvm.Cond.code ({ cls := "com/example/metanode/metanode/graph/IntPairs", name := "<init>", desc := "()V" } : Jvm.MethodName) prog_22_method_1_code (1 : Nat) (Option.none : Option Jvm.ClassFile.FieldType), Jvm.Cond.code ({ cls := "java/lang/Object", name := "<init>", desc := "()V" } : Jvm.MethodName) object_method_1_code (1 : Nat) (Option.none : Option Jvm.ClassFile.FieldType), Jvm.Cond.code ({ cls := "com/example/metanode/metanode/graph/IntPairs", name := "add", desc := "(II)Z" } : Jvm.MethodName) prog_22_method_3_code (3 : Nat) (Option.some Jvm.ClassFile.FieldType.boolean), Jvm.Cond.code ({ cls := "com/example/metanode/metanode/graph/IntPairs", name := "partners", desc := "([I)[I" } : Jvm.MethodName) prog_22_method_4_code (8 : Nat) (Option.some (Jvm.ClassFile.FieldType.array Jvm.ClassFile.FieldType.int)), Jvm.Cond.code ({ cls := "com/example/metanode/metanode/graph/IntPairs", name := "first", desc := "(I)I" } : Jvm.MethodName) prog_22_method_9_code (2 : Nat) (Option.some Jvm.ClassFile.FieldType.int), Jvm.Cond.code ({ cls := "com/example/metanode/metanode/graph/IntPairs", name := "second", desc := "(I)I" } : Jvm.MethodName) prog_22_method_10_code (2 : Nat) (Option.some Jvm.ClassFile.FieldType.int), Jvm.Cond.code ({ cls := "java/util/Arrays", name := "copyOf", desc := "([II)[I" } : Jvm.MethodName) jdk_65_method_123_code (3 : Nat) (Option.some (Jvm.ClassFile.FieldType.array Jvm.ClassFile.FieldType.int)), Jvm.Cond.code ({ cls := "java/lang/Math", name := "min", desc := "(II)I" } : Jvm.MethodName) jdk_29_method_69_code (2 : Nat) (Option.some Jvm.ClassFile.FieldType.int), Jvm.Cond.code ({ cls := "com/example/metanode/metanode/graph/IntPairsPartnersPinLaw", name := "below", desc := "([III)I" } : Jvm.MethodName) method_4_code (3 : Nat) (Option.some Jvm.ClassFile.FieldType.int), Jvm.Cond.code ({ cls := "com/example/metanode/metanode/graph/IntPairsPartnersPinLaw", name := "lt", desc := "([IIII)I" } : Jvm.MethodName) method_3_code (4 : Nat) (Option.some Jvm.ClassFile.FieldType.int), Jvm.Cond.code ({ cls := "com/example/metanode/metanode/graph/IntPairsPartnersPinLaw", name := "slot", desc := "([II[II)Z" } : Jvm.MethodName) method_6_code (5 : Nat) (Option.some Jvm.ClassFile.FieldType.boolean), Jvm.Cond.code ({ cls := "com/example/metanode/metanode/graph/IntPairsPartnersPinLaw", name := "eqBefore", desc := "([III)I" } : Jvm.MethodName) method_5_code (3 : Nat) (Option.some Jvm.ClassFile.FieldType.int)]
set_option maxRecDepth 65536 in
theorem codes_eq : words1.filter isCode = codes1 := rfl
theorem w_codes : ∀ c ∈ words1.filter isCode, c.before args0 about1 = true := by
  rw [codes_eq]
  intro c hc
  simp only [codes1, List.mem_cons, List.not_mem_nil, or_false] at hc
  rcases hc with rfl | rfl | rfl | rfl | rfl | rfl | rfl | rfl | rfl | rfl | rfl | rfl | rfl
  · exact w_c0
  · exact w_c1
  · exact w_c2
  · exact w_c3
  · exact w_c4
  · exact w_c5
  · exact w_c6
  · exact w_c7
  · exact w_c8
  · exact w_c9
  · exact w_c10
  · exact w_c11
  · exact w_c12
set_option maxRecDepth 65536 in
theorem w_t1 : (words1.take 24).all (fun c => isCode c || c.before args0 about1) = true := by decide +kernel
set_option maxRecDepth 65536 in
theorem w_t2 : ((words1.drop 24).take 24).all (fun c => isCode c || c.before args0 about1) = true := by decide +kernel
set_option maxRecDepth 65536 in
theorem w_t3 : ((words1.drop 24).drop 24).all (fun c => isCode c || c.before args0 about1) = true := by decide +kernel
theorem w_tables : (allAtoms (Jvm.Cond.code x code maxLocals ret :: tables_1)).before args0 about1 = true := by
  rw [allAtoms_all]
  show words1.all (fun c => c.before args0 about1) = true
  refine all_split ?_ w_codes
  rw [← List.take_append_drop 24 words1, List.all_append, w_t1, ← List.take_append_drop 24 (words1.drop 24), List.all_append, w_t2, w_t3]
  rfl
set_option maxRecDepth 65536 in
theorem w_case : (Jvm.Cond.and given_1 narrow_1).before args0 about1 = true := by decide +kernel
theorem w_applies : (headSpec (Jvm.Cond.code x code maxLocals ret :: tables_1) room_1).applies x e0.platform about1 = true :=
  (Spec.applies_iff w_frames).mpr ⟨w_running, w_runnable, w_alone, w_named, w_hears, w_ripe, w_room, w_tables⟩
theorem atStart : AtStart classFile x code maxLocals ret World_1 tables_1 room_1 Calls_1 rest_1 Pre_1 launch0 p0 e0 about1 theMethod args0 below0 :=
  ⟨lists_1, trivial, launch0.admits_env _ _ _, launch0.least_env, fairChoices_fair.cas, fairChoices_fair.clock, w_frames, w_args, w_heap, w_applies, trivial, trivial, w_case⟩
end start1
theorem witness_1 : WitnessClaimed_1 := ⟨start1.p0, start1.e0, start1.about1, start1.theMethod, start1.args0, start1.below0, start1.atStart⟩
end Jvm.Pilot.@@N@@
