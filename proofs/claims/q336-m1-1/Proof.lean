import JvmDerived
import JvmDerived.Pilot.@@N@@Statement
import JvmDerived.Pilot.@@N@@Code
set_option linter.unusedVariables false
set_option linter.unusedSimpArgs false
@@BLOCK:NumsL.lean.txt@@
namespace Jvm.Pilot.@@N@@
open Jvm Jvm.ClassFile Sem Op Lib Jvm.Free Jvm.Stand Jvm.LawKit Jvm.RoadKit Bundle Jvm.Pilot.@@N@@.Jvm.D
/-! ## own base: a heap as a list of objects; a body by its contract; one lemma an instruction -/
section Own
abbrev Ob : Type := Addr × FieldType × List Value
abbrev Fm : Type := String → List (String × String)
/-- what the cell at a holds -/
def Oat (F : Fm) (Z : State) (h : Heap) (a : Addr) (t : FieldType) (vs : List Value) : Prop :=
  match t with
  | .array ty => Exa Z h a ("[" ++ ty.toString) ∧ (∀ v ∈ vs, fits ty v = true) ∧ ∃ c : Cell, Arr Z h a c ty ∧ c.slots = vs.toArray
  | .object C => Exa Z h a C ∧ vs.length = (F C).length ∧ ∀ (i : Nat) (n d : String) (v : Value), (F C)[i]? = some (n, d) → vs[i]? = some v → Fld Z h a C n d v
  | _ => False
def Hp (F : Fm) (Z : State) (h : Heap) (os : List Ob) : Prop := (os.map (·.1)).Nodup ∧ ∀ o ∈ os, Oat F Z h o.1 o.2.1 o.2.2
/-- an address that the body may write: one of A, or a new one -/
def Okk (A : List Addr) (N : Nat) (a : Addr) : Prop := a ∈ A ∨ N ≤ a
def Hin (F : Fm) (Z : State) (h0 : Heap) (A : List Addr) (h : Heap) (os : List Ob) : Prop := Keep h0 h A ∧ Hp F Z h os ∧ ∀ o ∈ os, Okk A h0.size o.1
def Qc (F : Fm) (Z : State) (B : Nat) (loc : List Ob) (h0 : Heap) (P : Option Value → List Ob → Prop) (v : Option Value) (h : Heap) (L : List Loc) : Prop :=
  (∀ y ∈ L, B ≤ y.base) ∧ ∃ os', Hin F Z h0 (loc.map (·.1)) h os' ∧ P v os'
/-- a body's contract: over the objects loc, with the arguments as, it returns v and leaves os', and P v os' -/
def Con (l : Launch) (Z : State) (F : Fm) (B : Nat) (y : MethodName) (bytes : ByteArray) (mL : Nat) (ret : Option FieldType) (rm : Room) (ws : List Jvm.Cond) (as : Array Value) (loc : List Ob) (P : Option Value → List Ob → Prop) : Prop :=
  ∀ h0, Hp F Z h0 loc → (∀ a ∈ loc.map (·.1), B ≤ a) → B ≤ h0.size → MetFree l y (head1 (Jvm.Cond.code y bytes mL ret :: ws) rm) (fun a U => a = as ∧ Z.Warmed39 U.vm ∧ U.heap = h0) (fun _ _ _ _ _ => True) (fun _ U o U' => ∃ v L, o = .returned v ∧ Qc F Z B loc h0 P v U'.heap L ∧ FrameEnd U o U' L rm.cells rm.slots)
/-- the run stands in the body of y; the objects are os -/
def Here (p : Program) (l : Launch) (e : Env) (R : Room) (s : State) (m : MethodId) (args : Array Value) (below : List Frame) (meth : Method) (c : Code) (Z : State) (F : Fm) (B : Nat) (h0 : Heap) (A : List Addr) (y : MethodName) (bytes : ByteArray) (mL : Nat) (ret : Option FieldType) (T : State) (k n : Nat) (os : List Ob) : Prop :=
  (p.tables.exec = Jvm.exec ∧ Z.Warmed39 s.vm ∧ c.code = bytes ∧ c.maxLocals = mL ∧ s.vm.findClass y.cls = some m.cls ∧ meth.sig.returnType = ret ∧ meth.locks = false ∧ meth.name = y.name) ∧
  ∃ locs, Stand p l e R s m args below meth c T locs k n ∧ ((∀ y ∈ locs, B ≤ y.base) ∧ (∀ a ∈ A, B ≤ a) ∧ B ≤ h0.size) ∧ Hin F Z h0 A T.heap os
def Fin1 (below : List Frame) (s : State) (Z : State) (F : Fm) (B : Nat) (h0 : Heap) (A : List Addr) (kc ks : Nat) (P : Option Value → List Ob → Prop) (t : State) : Prop :=
  t.status = .running ∧ ∃ v L, Ended t below (.returned v) ∧ ((∀ y ∈ L, B ≤ y.base) ∧ ∃ os', Hin F Z h0 A t.heap os' ∧ P v os') ∧ FrameEnd s (.returned v) t L kc ks
def Go (p : Program) (e : Env) (below : List Frame) (G : State → Prop) (S : State) : Prop := ∃ t, Steps p.tables e below S t ∧ G t

variable {p : Program} {l : Launch} {e : Env} {R : Room} {s : State} {m : MethodId} {args : Array Value} {below : List Frame} {meth : Method} {c : Code} {Z : State} {F : Fm} {B : Nat} {h0 : Heap} {A : List Addr} {y : MethodName} {bytes : ByteArray} {mL : Nat} {ret : Option FieldType} {T : State} {k n : Nat} {os : List Ob} {G : State → Prop} {pc : Nat} {ls : Array Slot} {st : List Value} {a0 : Array Value}
theorem Go.by {S S' : State} (k : ∀ t, Steps p.tables e below S' t → Steps p.tables e below S t) (g : Go p e below G S') : Go p e below G S := by
  obtain ⟨t, h, g⟩ := g; exact ⟨t, k t h, g⟩
theorem Go.join {α : Type} {T : State} {fr : α → JFrame} (tree : α) {S : State} (K : ∀ z, z = tree → Go p e below G (T.setTop (fr z))) (M : (∀ z, z = tree → Go p e below G (T.setTop (fr z))) → Go p e below G S) : Go p e below G S := M K
theorem Go.cut {α : Type} {T : State} {fr : α → JFrame} (Q : α → Prop) {S : State} (K : ∀ z, Q z → Go p e below G (T.setTop (fr z))) (M : (∀ z, Q z → Go p e below G (T.setTop (fr z))) → Go p e below G S) : Go p e below G S := M K
theorem Go.cast {S S' : State} (q : S' = S) (g : Go p e below G S') : Go p e below G S := q ▸ g
theorem Oat.keep {h h' : Heap} {ws : List Addr} {a : Addr} {t : FieldType} {vs : List Value} (O : Oat F Z h a t vs) (K : Keep h h' ws) (q : a ∉ ws) : Oat F Z h' a t vs := by
  unfold Oat at O ⊢
  split at O
  · obtain ⟨E, f, cl, Ar, S⟩ := O; exact ⟨E.keep K, f, cl, ⟨K.2.1 a cl Ar.1 q, Ar.2⟩, S⟩
  · obtain ⟨E, hl, f⟩ := O; exact ⟨E.keep K, hl, fun i n d v h1 h2 => (f i n d v h1 h2).keep K q⟩
  · exact O
theorem Oat.lt {h : Heap} {a : Addr} {t : FieldType} {vs : List Value} (O : Oat F Z h a t vs) : a < h.size := by
  unfold Oat at O
  split at O
  · exact O.1.lt
  · exact O.1.lt
  · exact O.elim
theorem Okk.ge {A : List Addr} {N B : Nat} {a : Addr} (h : Okk A N a) (h1 : ∀ a ∈ A, B ≤ a) (h2 : B ≤ N) : B ≤ a := h.elim (h1 a) fun q => Nat.le_trans h2 q
theorem Keep.self (h : Heap) : Keep h h [] := Keep.refl h []
theorem Hp.nil {h : Heap} : Hp F Z h [] := ⟨List.nodup_nil, fun o q => nomatch q⟩
theorem Hp.get {h : Heap} {i : Nat} {o : Ob} (H : Hp F Z h os) (hi : os[i]? = some o) : Oat F Z h o.1 o.2.1 o.2.2 := H.2 o (List.mem_of_getElem? hi)
theorem nodup_at {L : List Addr} (hn : L.Nodup) {i j : Nat} {a : Addr} (hi : L[i]? = some a) (hj : L[j]? = some a) : i = j := by
  obtain ⟨h1, e1⟩ := List.getElem?_eq_some_iff.mp hi
  obtain ⟨h2, e2⟩ := List.getElem?_eq_some_iff.mp hj
  exact (List.getElem_inj hn).mp (e1.trans e2.symm)
theorem Hp.ext {h h' : Heap} (H : Hp F Z h os) (E : Ext h h') : Hp F Z h' os :=
  ⟨H.1, fun o ho => (H.2 o ho).keep ((Keep.refl h []).ext E) (fun q => nomatch q)⟩
theorem Hp.push {h h' : Heap} {t : FieldType} {vs : List Value} (H : Hp F Z h os) (E : Ext h h') (O : Oat F Z h' h.size t vs) : Hp F Z h' (os ++ [(h.size, t, vs)]) := by
  refine ⟨?_, fun o ho => ?_⟩
  · rw [List.map_append, List.nodup_append]
    refine ⟨H.1, by simp, fun a ha b hb => ?_⟩
    obtain ⟨o, ho, rfl⟩ := List.mem_map.mp ha
    have := (H.2 o ho).lt
    simp only [List.map_cons, List.map_nil, List.mem_singleton] at hb
    subst hb
    exact Nat.ne_of_lt this
  · rcases List.mem_append.mp ho with q | q
    · exact (H.ext E).2 o q
    · cases List.mem_singleton.mp q; exact O
/-- one object is written -/
theorem Hp.set {h h' : Heap} {i : Nat} {a : Addr} {t : FieldType} {vs vs' : List Value} (H : Hp F Z h os) (hi : os[i]? = some (a, t, vs)) (K : Keep h h' [a]) (O : Oat F Z h' a t vs') : Hp F Z h' (os.set i (a, t, vs')) := by
  obtain ⟨hlt, he⟩ := List.getElem?_eq_some_iff.mp hi
  have em : (os.set i (a, t, vs')).map (·.1) = os.map (·.1) := by
    rw [List.map_set]
    refine List.ext_getElem? fun j => ?_
    rw [List.getElem?_set]
    split
    · rename_i e; subst e; simp [he, hlt]
    · rfl
  refine ⟨em ▸ H.1, fun o ho => ?_⟩
  obtain ⟨j, hj⟩ := List.mem_iff_getElem?.mp ho
  rw [List.getElem?_set] at hj
  split at hj
  · simp [hlt] at hj; subst hj; exact O
  · rename_i ne
    refine (H.get hj).keep K (fun q => ne ?_)
    have q' : o.1 = a := List.mem_singleton.mp q
    exact (nodup_at H.1 (i := j) (j := i) (a := a) (by rw [List.getElem?_map, hj, ← q']; rfl) (by rw [List.getElem?_map, hi]; rfl)).symm
theorem Hin.mem {h : Heap} {i : Nat} {o : Ob} (H : Hin F Z h0 A h os) (hi : os[i]? = some o) : Okk A h0.size o.1 := H.2.2 o (List.mem_of_getElem? hi)
theorem Hin.push {h h' : Heap} {t : FieldType} {vs : List Value} (H : Hin F Z h0 A h os) (E : Ext h h') (O : Oat F Z h' h.size t vs) : Hin F Z h0 A h' (os ++ [(h.size, t, vs)]) :=
  ⟨H.1.ext E, H.2.1.push E O, fun o ho => (List.mem_append.mp ho).elim (H.2.2 o) fun q => by cases List.mem_singleton.mp q; exact Or.inr H.1.1⟩
theorem Hin.set {h h' : Heap} {i : Nat} {a : Addr} {t : FieldType} {vs vs' : List Value} (H : Hin F Z h0 A h os) (hi : os[i]? = some (a, t, vs)) (K : Keep h h' [a]) (O : Oat F Z h' a t vs') : Hin F Z h0 A h' (os.set i (a, t, vs')) := by
  refine ⟨H.1.trans K fun x hx => by cases List.mem_singleton.mp hx; exact H.mem hi, H.2.1.set hi K O, fun o ho => ?_⟩
  rcases List.mem_or_eq_of_mem_set ho with q | q
  · exact H.2.2 o q
  · subst q; have z := H.mem hi; exact z

/-- the body, entered -/
theorem Con.of {as : Array Value} {loc : List Ob} {P : Option Value → List Ob → Prop} {rm : Room} {ws : List Jvm.Cond} {ls : Array Slot} (hpl : plainFor y = true) (hef : ∀ m, entryFrame m as mL = mkF m 0 ls [])
    (body : ∀ p e h0 s m below meth c T, Here p l e rm s m as below meth c Z F B h0 (loc.map (·.1)) y bytes mL ret T 0 0 loc → Go p e below (Fin1 below s Z F B h0 (loc.map (·.1)) rm.cells rm.slots P) (T.setTop (mkF m 0 ls []))) :
    Con l Z F B y bytes mL ret rm ws as loc P := by
  intro h0 H hA hB
  refine MetFree.of_bodySF hpl hisR ?_
  intro p e s m args below meth c s₁ Bd hml0 hP hK
  obtain ⟨rfl, hZ, hh⟩ := hP
  have X0 : Stand p l e rm s m args below meth c s₁ [] 0 0 := Stand.of_body Bd
  have e0 : s₁.heap = h0 := by rw [← hh, Bd.state]; rfl
  obtain ⟨t, st, hr, v, L, hE, ⟨hL, os', hI, hp⟩, hF⟩ := body p e h0 s m below meth c s₁ ⟨⟨Bd.exec, hZ, Bd.bytes, hml0, findClass_of_methodNamed Bd.named, Bd.returns, Bd.notSynchronized, (name_of_methodNamed Bd.named Bd.method).1⟩, [], X0, ⟨fun y q => (nomatch q), hA, hB⟩, by rw [e0]; exact ⟨Keep.refl _ _, H, fun o ho => Or.inl (List.mem_map.mpr ⟨o, ho, rfl⟩)⟩⟩
  exact ⟨t, _, castTop (hef m) st, hr, hE, v, L, rfl, ⟨hL, os', hI, hp⟩, hF⟩

theorem g_iload_n {j : Fin 4} {v : Int32} (W : Here p l e R s m args below meth c Z F B h0 A y bytes mL ret T k n os) (hd : decode bytes pc = .ok (.iload_n j, 1)) (hl : ls[j.val]? = some (.val (.int v))) (K : Go p e below G (T.setTop (mkF m (pc + 1) ls (.int v :: st)))) : Go p e below G (T.setTop (mkF m pc ls (st))) := by
  obtain ⟨⟨hx, hZ, hby, -⟩, locs, X, -⟩ := W
  exact K.by fun t q => XS.iloadN X.here hx rfl (hb hby hd) hl q
theorem g_iload {j : Nat} {v : Int32} (W : Here p l e R s m args below meth c Z F B h0 A y bytes mL ret T k n os) (hd : decode bytes pc = .ok (.iload j, 2)) (hl : ls[j]? = some (.val (.int v))) (K : Go p e below G (T.setTop (mkF m (pc + 2) ls (.int v :: st)))) : Go p e below G (T.setTop (mkF m pc ls (st))) := by
  obtain ⟨⟨hx, hZ, hby, -⟩, locs, X, -⟩ := W
  exact K.by fun t q => XS.iload X.here hx rfl (hb hby hd) hl q
theorem g_lload_n {j : Fin 4} {v : Int64} (W : Here p l e R s m args below meth c Z F B h0 A y bytes mL ret T k n os) (hd : decode bytes pc = .ok (.lload_n j, 1)) (hl : ls[j.val]? = some (.val (.long v))) (K : Go p e below G (T.setTop (mkF m (pc + 1) ls (.long v :: st)))) : Go p e below G (T.setTop (mkF m pc ls (st))) := by
  obtain ⟨⟨hx, hZ, hby, -⟩, locs, X, -⟩ := W
  exact K.by fun t q => XT.lloadN X.here hx rfl (hb hby hd) hl q
theorem g_lload {j : Nat} {v : Int64} (W : Here p l e R s m args below meth c Z F B h0 A y bytes mL ret T k n os) (hd : decode bytes pc = .ok (.lload j, 2)) (hl : ls[j]? = some (.val (.long v))) (K : Go p e below G (T.setTop (mkF m (pc + 2) ls (.long v :: st)))) : Go p e below G (T.setTop (mkF m pc ls (st))) := by
  obtain ⟨⟨hx, hZ, hby, -⟩, locs, X, -⟩ := W
  exact K.by fun t q => XT.lload X.here hx rfl (hb hby hd) hl q
theorem g_aload_n {j : Fin 4} {v : Value} (W : Here p l e R s m args below meth c Z F B h0 A y bytes mL ret T k n os) (hd : decode bytes pc = .ok (.aload_n j, 1)) (hl : ls[j.val]? = some (.val v)) (hv : v.isRef = true) (K : Go p e below G (T.setTop (mkF m (pc + 1) ls (v :: st)))) : Go p e below G (T.setTop (mkF m pc ls (st))) := by
  obtain ⟨⟨hx, hZ, hby, -⟩, locs, X, -⟩ := W
  exact K.by fun t q => XS.aloadN X.here hx rfl (hb hby hd) hl hv q
theorem g_aload {j : Nat} {v : Value} (W : Here p l e R s m args below meth c Z F B h0 A y bytes mL ret T k n os) (hd : decode bytes pc = .ok (.aload j, 2)) (hl : ls[j]? = some (.val v)) (hv : v.isRef = true) (K : Go p e below G (T.setTop (mkF m (pc + 2) ls (v :: st)))) : Go p e below G (T.setTop (mkF m pc ls (st))) := by
  obtain ⟨⟨hx, hZ, hby, -⟩, locs, X, -⟩ := W
  exact K.by fun t q => XS.aload X.here hx rfl (hb hby hd) hl hv q
theorem g_istore_n {j : Fin 4} {v : Int32} {ls' : Array Slot} (W : Here p l e R s m args below meth c Z F B h0 A y bytes mL ret T k n os) (hd : decode bytes pc = .ok (.istore_n j, 1)) (hl : storeLocals ls j.val (.int v) = some ls') (K : Go p e below G (T.setTop (mkF m (pc + 1) ls' (st)))) : Go p e below G (T.setTop (mkF m pc ls (.int v :: st))) := by
  obtain ⟨⟨hx, hZ, hby, -⟩, locs, X, -⟩ := W
  exact K.by fun t q => XS.istoreN X.here hx rfl (hb hby hd) rfl hl q
theorem g_istore {j : Nat} {v : Int32} {ls' : Array Slot} (W : Here p l e R s m args below meth c Z F B h0 A y bytes mL ret T k n os) (hd : decode bytes pc = .ok (.istore j, 2)) (hl : storeLocals ls j (.int v) = some ls') (K : Go p e below G (T.setTop (mkF m (pc + 2) ls' (st)))) : Go p e below G (T.setTop (mkF m pc ls (.int v :: st))) := by
  obtain ⟨⟨hx, hZ, hby, -⟩, locs, X, -⟩ := W
  exact K.by fun t q => XS.istore X.here hx rfl (hb hby hd) rfl hl q
theorem g_lstore_n {j : Fin 4} {v : Int64} {ls' : Array Slot} (W : Here p l e R s m args below meth c Z F B h0 A y bytes mL ret T k n os) (hd : decode bytes pc = .ok (.lstore_n j, 1)) (hl : storeLocals ls j.val (.long v) = some ls') (K : Go p e below G (T.setTop (mkF m (pc + 1) ls' (st)))) : Go p e below G (T.setTop (mkF m pc ls (.long v :: st))) := by
  obtain ⟨⟨hx, hZ, hby, -⟩, locs, X, -⟩ := W
  exact K.by fun t q => XT.lstoreN X.here hx rfl (hb hby hd) rfl hl q
theorem g_lstore {j : Nat} {v : Int64} {ls' : Array Slot} (W : Here p l e R s m args below meth c Z F B h0 A y bytes mL ret T k n os) (hd : decode bytes pc = .ok (.lstore j, 2)) (hl : storeLocals ls j (.long v) = some ls') (K : Go p e below G (T.setTop (mkF m (pc + 2) ls' (st)))) : Go p e below G (T.setTop (mkF m pc ls (.long v :: st))) := by
  obtain ⟨⟨hx, hZ, hby, -⟩, locs, X, -⟩ := W
  exact K.by fun t q => XT.lstore X.here hx rfl (hb hby hd) rfl hl q
theorem g_astore_n {j : Fin 4} {v : Value} {ls' : Array Slot} (W : Here p l e R s m args below meth c Z F B h0 A y bytes mL ret T k n os) (hd : decode bytes pc = .ok (.astore_n j, 1)) (hv : v.isRef = true) (hl : storeLocals ls j.val v = some ls') (K : Go p e below G (T.setTop (mkF m (pc + 1) ls' (st)))) : Go p e below G (T.setTop (mkF m pc ls (v :: st))) := by
  obtain ⟨⟨hx, hZ, hby, -⟩, locs, X, -⟩ := W
  exact K.by fun t q => XS.astoreN X.here hx rfl (hb hby hd) rfl hv hl q
theorem g_astore {j : Nat} {v : Value} {ls' : Array Slot} (W : Here p l e R s m args below meth c Z F B h0 A y bytes mL ret T k n os) (hd : decode bytes pc = .ok (.astore j, 2)) (hv : v.isRef = true) (hl : storeLocals ls j v = some ls') (K : Go p e below G (T.setTop (mkF m (pc + 2) ls' (st)))) : Go p e below G (T.setTop (mkF m pc ls (v :: st))) := by
  obtain ⟨⟨hx, hZ, hby, -⟩, locs, X, -⟩ := W
  exact K.by fun t q => XS.astore X.here hx rfl (hb hby hd) rfl hv hl q
theorem g_iconst {i : Int} (v : Int32) (hv : Int32.ofInt i = v) (W : Here p l e R s m args below meth c Z F B h0 A y bytes mL ret T k n os) (hd : decode bytes pc = .ok (.iconst i, 1)) (K : Go p e below G (T.setTop (mkF m (pc + 1) ls (.int v :: st)))) : Go p e below G (T.setTop (mkF m pc ls st)) := by
  obtain ⟨⟨hx, hZ, hby, -⟩, locs, X, -⟩ := W
  subst hv
  exact K.by fun t q => XS.iconst X.here hx rfl (hb hby hd) q
theorem g_bipush {i : Int} (v : Int32) (hv : (Int8.ofInt i).toInt32 = v) (W : Here p l e R s m args below meth c Z F B h0 A y bytes mL ret T k n os) (hd : decode bytes pc = .ok (.bipush i, 2)) (K : Go p e below G (T.setTop (mkF m (pc + 2) ls (.int v :: st)))) : Go p e below G (T.setTop (mkF m pc ls st)) := by
  obtain ⟨⟨hx, hZ, hby, -⟩, locs, X, -⟩ := W
  subst hv
  exact K.by fun t q => XS.bipush X.here hx rfl (hb hby hd) q
theorem g_sipush {i : Int} (v : Int32) (hv : (Int16.ofInt i).toInt32 = v) (W : Here p l e R s m args below meth c Z F B h0 A y bytes mL ret T k n os) (hd : decode bytes pc = .ok (.sipush i, 3)) (K : Go p e below G (T.setTop (mkF m (pc + 3) ls (.int v :: st)))) : Go p e below G (T.setTop (mkF m pc ls st)) := by
  obtain ⟨⟨hx, hZ, hby, -⟩, locs, X, -⟩ := W
  subst hv
  exact K.by fun t q => XS.sipush X.here hx rfl (hb hby hd) q
theorem g_lconst {i : Fin 2} (v : Int64) (hv : Int64.ofNat i = v) (W : Here p l e R s m args below meth c Z F B h0 A y bytes mL ret T k n os) (hd : decode bytes pc = .ok (.lconst i, 1)) (K : Go p e below G (T.setTop (mkF m (pc + 1) ls (.long v :: st)))) : Go p e below G (T.setTop (mkF m pc ls st)) := by
  obtain ⟨⟨hx, hZ, hby, -⟩, locs, X, -⟩ := W
  subst hv
  exact K.by fun t q => XT.lconst X.here hx rfl (hb hby hd) q
theorem g_aconst_null  (W : Here p l e R s m args below meth c Z F B h0 A y bytes mL ret T k n os) (hd : decode bytes pc = .ok (.aconst_null, 1)) (K : Go p e below G (T.setTop (mkF m (pc + 1) ls (.null :: st)))) : Go p e below G (T.setTop (mkF m pc ls (st))) := by
  obtain ⟨⟨hx, hZ, hby, -⟩, locs, X, -⟩ := W
  exact K.by fun t q => XS.aconstNull X.here hx rfl (hb hby hd)  q
theorem g_iadd {x z : Int32} (W : Here p l e R s m args below meth c Z F B h0 A y bytes mL ret T k n os) (hd : decode bytes pc = .ok (.iadd, 1)) (K : Go p e below G (T.setTop (mkF m (pc + 1) ls (.int (x + z) :: st)))) : Go p e below G (T.setTop (mkF m pc ls (.int z :: .int x :: st))) := by
  obtain ⟨⟨hx, hZ, hby, -⟩, locs, X, -⟩ := W
  exact K.by fun t q => XS.iadd X.here hx rfl (hb hby hd) rfl q
theorem g_isub {x z : Int32} (W : Here p l e R s m args below meth c Z F B h0 A y bytes mL ret T k n os) (hd : decode bytes pc = .ok (.isub, 1)) (K : Go p e below G (T.setTop (mkF m (pc + 1) ls (.int (x - z) :: st)))) : Go p e below G (T.setTop (mkF m pc ls (.int z :: .int x :: st))) := by
  obtain ⟨⟨hx, hZ, hby, -⟩, locs, X, -⟩ := W
  exact K.by fun t q => XS.isub X.here hx rfl (hb hby hd) rfl q
theorem g_iand {x z : Int32} (W : Here p l e R s m args below meth c Z F B h0 A y bytes mL ret T k n os) (hd : decode bytes pc = .ok (.iand, 1)) (K : Go p e below G (T.setTop (mkF m (pc + 1) ls (.int (x &&& z) :: st)))) : Go p e below G (T.setTop (mkF m pc ls (.int z :: .int x :: st))) := by
  obtain ⟨⟨hx, hZ, hby, -⟩, locs, X, -⟩ := W
  exact K.by fun t q => XS.iand X.here hx rfl (hb hby hd) rfl q
theorem g_imul {x z : Int32} (W : Here p l e R s m args below meth c Z F B h0 A y bytes mL ret T k n os) (hd : decode bytes pc = .ok (.imul, 1)) (K : Go p e below G (T.setTop (mkF m (pc + 1) ls (.int (x * z) :: st)))) : Go p e below G (T.setTop (mkF m pc ls (.int z :: .int x :: st))) := by
  obtain ⟨⟨hx, hZ, hby, -⟩, locs, X, -⟩ := W
  exact K.by fun t q => XS.imul X.here hx rfl (hb hby hd) rfl q
theorem g_ior {x z : Int32} (W : Here p l e R s m args below meth c Z F B h0 A y bytes mL ret T k n os) (hd : decode bytes pc = .ok (.ior, 1)) (K : Go p e below G (T.setTop (mkF m (pc + 1) ls (.int (x ||| z) :: st)))) : Go p e below G (T.setTop (mkF m pc ls (.int z :: .int x :: st))) := by
  obtain ⟨⟨hx, hZ, hby, -⟩, locs, X, -⟩ := W
  exact K.by fun t q => XT.ior X.here hx rfl (hb hby hd) rfl q
theorem g_ixor {x z : Int32} (W : Here p l e R s m args below meth c Z F B h0 A y bytes mL ret T k n os) (hd : decode bytes pc = .ok (.ixor, 1)) (K : Go p e below G (T.setTop (mkF m (pc + 1) ls (.int (x ^^^ z) :: st)))) : Go p e below G (T.setTop (mkF m pc ls (.int z :: .int x :: st))) := by
  obtain ⟨⟨hx, hZ, hby, -⟩, locs, X, -⟩ := W
  exact K.by fun t q => XT.ixor X.here hx rfl (hb hby hd) rfl q
theorem g_ishl {x z : Int32} (W : Here p l e R s m args below meth c Z F B h0 A y bytes mL ret T k n os) (hd : decode bytes pc = .ok (.ishl, 1)) (K : Go p e below G (T.setTop (mkF m (pc + 1) ls (.int (x <<< (z &&& 31)) :: st)))) : Go p e below G (T.setTop (mkF m pc ls (.int z :: .int x :: st))) := by
  obtain ⟨⟨hx, hZ, hby, -⟩, locs, X, -⟩ := W
  exact K.by fun t q => XT.ishl X.here hx rfl (hb hby hd) rfl q
theorem g_ishr {x z : Int32} (W : Here p l e R s m args below meth c Z F B h0 A y bytes mL ret T k n os) (hd : decode bytes pc = .ok (.ishr, 1)) (K : Go p e below G (T.setTop (mkF m (pc + 1) ls (.int (x >>> (z &&& 31)) :: st)))) : Go p e below G (T.setTop (mkF m pc ls (.int z :: .int x :: st))) := by
  obtain ⟨⟨hx, hZ, hby, -⟩, locs, X, -⟩ := W
  exact K.by fun t q => XT.ishr X.here hx rfl (hb hby hd) rfl q
theorem g_iushr {x z : Int32} (W : Here p l e R s m args below meth c Z F B h0 A y bytes mL ret T k n os) (hd : decode bytes pc = .ok (.iushr, 1)) (K : Go p e below G (T.setTop (mkF m (pc + 1) ls (.int (XT.ushr x z) :: st)))) : Go p e below G (T.setTop (mkF m pc ls (.int z :: .int x :: st))) := by
  obtain ⟨⟨hx, hZ, hby, -⟩, locs, X, -⟩ := W
  exact K.by fun t q => XT.iushr X.here hx rfl (hb hby hd) rfl q
theorem g_ladd {x z : Int64} (W : Here p l e R s m args below meth c Z F B h0 A y bytes mL ret T k n os) (hd : decode bytes pc = .ok (.ladd, 1)) (K : Go p e below G (T.setTop (mkF m (pc + 1) ls (.long (x + z) :: st)))) : Go p e below G (T.setTop (mkF m pc ls (.long z :: .long x :: st))) := by
  obtain ⟨⟨hx, hZ, hby, -⟩, locs, X, -⟩ := W
  exact K.by fun t q => XT.ladd X.here hx rfl (hb hby hd) rfl q
theorem g_lsub {x z : Int64} (W : Here p l e R s m args below meth c Z F B h0 A y bytes mL ret T k n os) (hd : decode bytes pc = .ok (.lsub, 1)) (K : Go p e below G (T.setTop (mkF m (pc + 1) ls (.long (x - z) :: st)))) : Go p e below G (T.setTop (mkF m pc ls (.long z :: .long x :: st))) := by
  obtain ⟨⟨hx, hZ, hby, -⟩, locs, X, -⟩ := W
  exact K.by fun t q => XT.lsub X.here hx rfl (hb hby hd) rfl q
theorem g_lmul {x z : Int64} (W : Here p l e R s m args below meth c Z F B h0 A y bytes mL ret T k n os) (hd : decode bytes pc = .ok (.lmul, 1)) (K : Go p e below G (T.setTop (mkF m (pc + 1) ls (.long (x * z) :: st)))) : Go p e below G (T.setTop (mkF m pc ls (.long z :: .long x :: st))) := by
  obtain ⟨⟨hx, hZ, hby, -⟩, locs, X, -⟩ := W
  exact K.by fun t q => XT.lmul X.here hx rfl (hb hby hd) rfl q
theorem g_land {x z : Int64} (W : Here p l e R s m args below meth c Z F B h0 A y bytes mL ret T k n os) (hd : decode bytes pc = .ok (.land, 1)) (K : Go p e below G (T.setTop (mkF m (pc + 1) ls (.long (x &&& z) :: st)))) : Go p e below G (T.setTop (mkF m pc ls (.long z :: .long x :: st))) := by
  obtain ⟨⟨hx, hZ, hby, -⟩, locs, X, -⟩ := W
  exact K.by fun t q => XT.land X.here hx rfl (hb hby hd) rfl q
theorem g_lor {x z : Int64} (W : Here p l e R s m args below meth c Z F B h0 A y bytes mL ret T k n os) (hd : decode bytes pc = .ok (.lor, 1)) (K : Go p e below G (T.setTop (mkF m (pc + 1) ls (.long (x ||| z) :: st)))) : Go p e below G (T.setTop (mkF m pc ls (.long z :: .long x :: st))) := by
  obtain ⟨⟨hx, hZ, hby, -⟩, locs, X, -⟩ := W
  exact K.by fun t q => XT.lor X.here hx rfl (hb hby hd) rfl q
theorem g_lxor {x z : Int64} (W : Here p l e R s m args below meth c Z F B h0 A y bytes mL ret T k n os) (hd : decode bytes pc = .ok (.lxor, 1)) (K : Go p e below G (T.setTop (mkF m (pc + 1) ls (.long (x ^^^ z) :: st)))) : Go p e below G (T.setTop (mkF m pc ls (.long z :: .long x :: st))) := by
  obtain ⟨⟨hx, hZ, hby, -⟩, locs, X, -⟩ := W
  exact K.by fun t q => XT.lxor X.here hx rfl (hb hby hd) rfl q
theorem g_idiv {x z : Int32} (W : Here p l e R s m args below meth c Z F B h0 A y bytes mL ret T k n os) (hd : decode bytes pc = .ok (.idiv, 1)) (hz : z ≠ 0) (K : Go p e below G (T.setTop (mkF m (pc + 1) ls (.int (x / z) :: st)))) : Go p e below G (T.setTop (mkF m pc ls (.int z :: .int x :: st))) := by
  obtain ⟨⟨hx, hZ, hby, -⟩, locs, X, -⟩ := W
  exact K.by fun t q => XS.idiv X.here hx rfl (hb hby hd) rfl hz q
theorem g_irem {x z : Int32} (W : Here p l e R s m args below meth c Z F B h0 A y bytes mL ret T k n os) (hd : decode bytes pc = .ok (.irem, 1)) (hz : z ≠ 0) (K : Go p e below G (T.setTop (mkF m (pc + 1) ls (.int (x % z) :: st)))) : Go p e below G (T.setTop (mkF m pc ls (.int z :: .int x :: st))) := by
  obtain ⟨⟨hx, hZ, hby, -⟩, locs, X, -⟩ := W
  exact K.by fun t q => iremM X hx rfl (hb hby hd) rfl hz q
theorem g_ineg {x : Int32} (W : Here p l e R s m args below meth c Z F B h0 A y bytes mL ret T k n os) (hd : decode bytes pc = .ok (.ineg, 1)) (K : Go p e below G (T.setTop (mkF m (pc + 1) ls (.int (-x) :: st)))) : Go p e below G (T.setTop (mkF m pc ls (.int x :: st))) := by
  obtain ⟨⟨hx, hZ, hby, -⟩, locs, X, -⟩ := W
  exact K.by fun t q => XS.ineg X.here hx rfl (hb hby hd) rfl q
theorem g_lneg {x : Int64} (W : Here p l e R s m args below meth c Z F B h0 A y bytes mL ret T k n os) (hd : decode bytes pc = .ok (.lneg, 1)) (K : Go p e below G (T.setTop (mkF m (pc + 1) ls (.long (-x) :: st)))) : Go p e below G (T.setTop (mkF m pc ls (.long x :: st))) := by
  obtain ⟨⟨hx, hZ, hby, -⟩, locs, X, -⟩ := W
  exact K.by fun t q => XT.lneg X.here hx rfl (hb hby hd) rfl q
theorem g_i2l {x : Int32} (W : Here p l e R s m args below meth c Z F B h0 A y bytes mL ret T k n os) (hd : decode bytes pc = .ok (.i2l, 1)) (K : Go p e below G (T.setTop (mkF m (pc + 1) ls (.long x.toInt64 :: st)))) : Go p e below G (T.setTop (mkF m pc ls (.int x :: st))) := by
  obtain ⟨⟨hx, hZ, hby, -⟩, locs, X, -⟩ := W
  exact K.by fun t q => XT.i2l X.here hx rfl (hb hby hd) rfl q
theorem g_l2i {x : Int64} (W : Here p l e R s m args below meth c Z F B h0 A y bytes mL ret T k n os) (hd : decode bytes pc = .ok (.l2i, 1)) (K : Go p e below G (T.setTop (mkF m (pc + 1) ls (.int x.toInt32 :: st)))) : Go p e below G (T.setTop (mkF m pc ls (.long x :: st))) := by
  obtain ⟨⟨hx, hZ, hby, -⟩, locs, X, -⟩ := W
  exact K.by fun t q => XT.l2i X.here hx rfl (hb hby hd) rfl q
theorem g_i2b {x : Int32} (W : Here p l e R s m args below meth c Z F B h0 A y bytes mL ret T k n os) (hd : decode bytes pc = .ok (.i2b, 1)) (K : Go p e below G (T.setTop (mkF m (pc + 1) ls (.int x.toInt8.toInt32 :: st)))) : Go p e below G (T.setTop (mkF m pc ls (.int x :: st))) := by
  obtain ⟨⟨hx, hZ, hby, -⟩, locs, X, -⟩ := W
  exact K.by fun t q => XT.i2b X.here hx rfl (hb hby hd) rfl q
theorem g_i2c {x : Int32} (W : Here p l e R s m args below meth c Z F B h0 A y bytes mL ret T k n os) (hd : decode bytes pc = .ok (.i2c, 1)) (K : Go p e below G (T.setTop (mkF m (pc + 1) ls (.int x.toUInt32.toUInt16.toUInt32.toInt32 :: st)))) : Go p e below G (T.setTop (mkF m pc ls (.int x :: st))) := by
  obtain ⟨⟨hx, hZ, hby, -⟩, locs, X, -⟩ := W
  exact K.by fun t q => XT.i2c X.here hx rfl (hb hby hd) rfl q
theorem g_i2s {x : Int32} (W : Here p l e R s m args below meth c Z F B h0 A y bytes mL ret T k n os) (hd : decode bytes pc = .ok (.i2s, 1)) (K : Go p e below G (T.setTop (mkF m (pc + 1) ls (.int x.toInt16.toInt32 :: st)))) : Go p e below G (T.setTop (mkF m pc ls (.int x :: st))) := by
  obtain ⟨⟨hx, hZ, hby, -⟩, locs, X, -⟩ := W
  exact K.by fun t q => XT.i2s X.here hx rfl (hb hby hd) rfl q
theorem g_lcmp {x z : Int64} (W : Here p l e R s m args below meth c Z F B h0 A y bytes mL ret T k n os) (hd : decode bytes pc = .ok (.lcmp, 1)) (K : Go p e below G (T.setTop (mkF m (pc + 1) ls (.int (XT.cmpL x z) :: st)))) : Go p e below G (T.setTop (mkF m pc ls (.long z :: .long x :: st))) := by
  obtain ⟨⟨hx, hZ, hby, -⟩, locs, X, -⟩ := W
  exact K.by fun t q => XT.lcmp X.here hx rfl (hb hby hd) rfl q
theorem g_dup {v : Value} (W : Here p l e R s m args below meth c Z F B h0 A y bytes mL ret T k n os) (hd : decode bytes pc = .ok (.dup, 1)) (hv : v.category = 1) (K : Go p e below G (T.setTop (mkF m (pc + 1) ls (v :: v :: st)))) : Go p e below G (T.setTop (mkF m pc ls (v :: st))) := by
  obtain ⟨⟨hx, hZ, hby, -⟩, locs, X, -⟩ := W
  exact K.by fun t q => XS.dup X.here hx rfl (hb hby hd) rfl hv q
theorem g_pop {v : Value} (W : Here p l e R s m args below meth c Z F B h0 A y bytes mL ret T k n os) (hd : decode bytes pc = .ok (.pop, 1)) (hv : v.category = 1) (K : Go p e below G (T.setTop (mkF m (pc + 1) ls (st)))) : Go p e below G (T.setTop (mkF m pc ls (v :: st))) := by
  obtain ⟨⟨hx, hZ, hby, -⟩, locs, X, -⟩ := W
  exact K.by fun t q => XT.pop X.here hx rfl (hb hby hd) rfl hv q
theorem g_dup_x1 {v w : Value} (W : Here p l e R s m args below meth c Z F B h0 A y bytes mL ret T k n os) (hd : decode bytes pc = .ok (.dup_x1, 1)) (hv : v.category = 1) (hw : w.category = 1) (K : Go p e below G (T.setTop (mkF m (pc + 1) ls (v :: w :: v :: st)))) : Go p e below G (T.setTop (mkF m pc ls (v :: w :: st))) := by
  obtain ⟨⟨hx, hZ, hby, -⟩, locs, X, -⟩ := W
  exact K.by fun t q => XT.dupX1 X.here hx rfl (hb hby hd) rfl hv hw q
theorem g_dup2 {v w : Value} (W : Here p l e R s m args below meth c Z F B h0 A y bytes mL ret T k n os) (hd : decode bytes pc = .ok (.dup2, 1)) (hv : v.category = 1) (hw : w.category = 1) (K : Go p e below G (T.setTop (mkF m (pc + 1) ls (v :: w :: v :: w :: st)))) : Go p e below G (T.setTop (mkF m pc ls (v :: w :: st))) := by
  obtain ⟨⟨hx, hZ, hby, -⟩, locs, X, -⟩ := W
  exact K.by fun t q => XT.dup2 X.here hx rfl (hb hby hd) rfl hv hw q
theorem g_iinc {j : Nat} {i : Int} {x : Int32} (v : Int32) (hv : Int32.ofInt i = v) {ls' : Array Slot} (W : Here p l e R s m args below meth c Z F B h0 A y bytes mL ret T k n os) (hd : decode bytes pc = .ok (.iinc j i, 3)) (hl : ls[j]? = some (.val (.int x))) (hl' : storeLocals ls j (.int (x + v)) = some ls') (K : Go p e below G (T.setTop (mkF m (pc + 3) ls' st))) : Go p e below G (T.setTop (mkF m pc ls st)) := by
  obtain ⟨⟨hx, hZ, hby, -⟩, locs, X, -⟩ := W
  subst hv
  exact K.by fun t q => XS.iinc X.here hx rfl (hb hby hd) hl hl' q
theorem g_goto {o : Int} (pc' : Nat) (W : Here p l e R s m args below meth c Z F B h0 A y bytes mL ret T k n os) (hd : decode bytes pc = .ok (.goto o, 3)) (ho : 0 ≤ (pc : Int) + o) (hp : ((pc : Int) + o).toNat = pc') (K : Go p e below G (T.setTop (mkF m pc' ls st))) : Go p e below G (T.setTop (mkF m pc ls st)) := by
  obtain ⟨⟨hx, hZ, hby, -⟩, locs, X, -⟩ := W
  exact K.by fun t q => XS.goto X.here hx rfl rfl (hb hby hd) ho hp q
theorem g_icmpY {cd : ClassFile.Cond} {o : Int} {x z : Int32} (pc' : Nat) (W : Here p l e R s m args below meth c Z F B h0 A y bytes mL ret T k n os) (hd : decode bytes pc = .ok (.if_icmp cd o, 3)) (ho : 0 ≤ (pc : Int) + o) (hp : ((pc : Int) + o).toNat = pc') (hc : if_icmp.holds cd x z = true) (K : Go p e below G (T.setTop (mkF m pc' ls st))) : Go p e below G (T.setTop (mkF m pc ls (.int z :: .int x :: st))) := by
  obtain ⟨⟨hx, hZ, hby, -⟩, locs, X, -⟩ := W
  exact K.by fun t q => XS.icmpYes X.here hx rfl rfl (hb hby hd) rfl hc ho hp q
theorem g_icmpN {cd : ClassFile.Cond} {o : Int} {x z : Int32} (W : Here p l e R s m args below meth c Z F B h0 A y bytes mL ret T k n os) (hd : decode bytes pc = .ok (.if_icmp cd o, 3)) (hc : if_icmp.holds cd x z = false) (K : Go p e below G (T.setTop (mkF m (pc + 3) ls st))) : Go p e below G (T.setTop (mkF m pc ls (.int z :: .int x :: st))) := by
  obtain ⟨⟨hx, hZ, hby, -⟩, locs, X, -⟩ := W
  exact K.by fun t q => XS.icmpNo X.here hx rfl (hb hby hd) rfl hc q
theorem g_ifY {cd : ClassFile.Cond} {o : Int} {x : Int32} (pc' : Nat) (W : Here p l e R s m args below meth c Z F B h0 A y bytes mL ret T k n os) (hd : decode bytes pc = .ok (.ifCond cd o, 3)) (ho : 0 ≤ (pc : Int) + o) (hp : ((pc : Int) + o).toNat = pc') (hc : if_icmp.holds cd x 0 = true) (K : Go p e below G (T.setTop (mkF m pc' ls st))) : Go p e below G (T.setTop (mkF m pc ls (.int x :: st))) := by
  obtain ⟨⟨hx, hZ, hby, -⟩, locs, X, -⟩ := W
  exact K.by fun t q => XS.ifYes X.here hx rfl rfl (hb hby hd) rfl ((if0 _ _).trans hc) ho hp q
theorem g_ifN {cd : ClassFile.Cond} {o : Int} {x : Int32} (W : Here p l e R s m args below meth c Z F B h0 A y bytes mL ret T k n os) (hd : decode bytes pc = .ok (.ifCond cd o, 3)) (hc : if_icmp.holds cd x 0 = false) (K : Go p e below G (T.setTop (mkF m (pc + 3) ls st))) : Go p e below G (T.setTop (mkF m pc ls (.int x :: st))) := by
  obtain ⟨⟨hx, hZ, hby, -⟩, locs, X, -⟩ := W
  exact K.by fun t q => XS.ifNo X.here hx rfl (hb hby hd) rfl ((if0 _ _).trans hc) q
theorem g_icmp_lt {o : Int} {x z : Int32} (pc' : Nat) (W : Here p l e R s m args below meth c Z F B h0 A y bytes mL ret T k n os) (hd : decode bytes pc = .ok (.if_icmp .lt o, 3)) (ho : 0 ≤ (pc : Int) + o) (hp : ((pc : Int) + o).toNat = pc') (Y : x < z → Go p e below G (T.setTop (mkF m pc' ls st))) (N : ¬ (x < z) → Go p e below G (T.setTop (mkF m (pc + 3) ls st))) : Go p e below G (T.setTop (mkF m pc ls (.int z :: .int x :: st))) := by
  by_cases q : x < z
  · exact g_icmpY pc' W hd ho hp (tlt q).1 (Y q)
  · exact g_icmpN W hd (flt q).1 (N q)
theorem g_if_lt {o : Int} {x : Int32} (pc' : Nat) (W : Here p l e R s m args below meth c Z F B h0 A y bytes mL ret T k n os) (hd : decode bytes pc = .ok (.ifCond .lt o, 3)) (ho : 0 ≤ (pc : Int) + o) (hp : ((pc : Int) + o).toNat = pc') (Y : x < 0 → Go p e below G (T.setTop (mkF m pc' ls st))) (N : ¬ (x < 0) → Go p e below G (T.setTop (mkF m (pc + 3) ls st))) : Go p e below G (T.setTop (mkF m pc ls (.int x :: st))) := by
  by_cases q : x < 0
  · exact g_ifY pc' W hd ho hp (tlt q).1 (Y q)
  · exact g_ifN W hd (flt q).1 (N q)
theorem g_icmp_ge {o : Int} {x z : Int32} (pc' : Nat) (W : Here p l e R s m args below meth c Z F B h0 A y bytes mL ret T k n os) (hd : decode bytes pc = .ok (.if_icmp .ge o, 3)) (ho : 0 ≤ (pc : Int) + o) (hp : ((pc : Int) + o).toNat = pc') (Y : ¬ (x < z) → Go p e below G (T.setTop (mkF m pc' ls st))) (N : x < z → Go p e below G (T.setTop (mkF m (pc + 3) ls st))) : Go p e below G (T.setTop (mkF m pc ls (.int z :: .int x :: st))) := by
  by_cases q : x < z
  · exact g_icmpN W hd (tlt q).2.1 (N q)
  · exact g_icmpY pc' W hd ho hp (flt q).2.1 (Y q)
theorem g_if_ge {o : Int} {x : Int32} (pc' : Nat) (W : Here p l e R s m args below meth c Z F B h0 A y bytes mL ret T k n os) (hd : decode bytes pc = .ok (.ifCond .ge o, 3)) (ho : 0 ≤ (pc : Int) + o) (hp : ((pc : Int) + o).toNat = pc') (Y : ¬ (x < 0) → Go p e below G (T.setTop (mkF m pc' ls st))) (N : x < 0 → Go p e below G (T.setTop (mkF m (pc + 3) ls st))) : Go p e below G (T.setTop (mkF m pc ls (.int x :: st))) := by
  by_cases q : x < 0
  · exact g_ifN W hd (tlt q).2.1 (N q)
  · exact g_ifY pc' W hd ho hp (flt q).2.1 (Y q)
theorem g_icmp_gt {o : Int} {x z : Int32} (pc' : Nat) (W : Here p l e R s m args below meth c Z F B h0 A y bytes mL ret T k n os) (hd : decode bytes pc = .ok (.if_icmp .gt o, 3)) (ho : 0 ≤ (pc : Int) + o) (hp : ((pc : Int) + o).toNat = pc') (Y : z < x → Go p e below G (T.setTop (mkF m pc' ls st))) (N : ¬ (z < x) → Go p e below G (T.setTop (mkF m (pc + 3) ls st))) : Go p e below G (T.setTop (mkF m pc ls (.int z :: .int x :: st))) := by
  by_cases q : z < x
  · exact g_icmpY pc' W hd ho hp (tlt q).2.2.1 (Y q)
  · exact g_icmpN W hd (flt q).2.2.1 (N q)
theorem g_if_gt {o : Int} {x : Int32} (pc' : Nat) (W : Here p l e R s m args below meth c Z F B h0 A y bytes mL ret T k n os) (hd : decode bytes pc = .ok (.ifCond .gt o, 3)) (ho : 0 ≤ (pc : Int) + o) (hp : ((pc : Int) + o).toNat = pc') (Y : 0 < x → Go p e below G (T.setTop (mkF m pc' ls st))) (N : ¬ (0 < x) → Go p e below G (T.setTop (mkF m (pc + 3) ls st))) : Go p e below G (T.setTop (mkF m pc ls (.int x :: st))) := by
  by_cases q : 0 < x
  · exact g_ifY pc' W hd ho hp (tlt q).2.2.1 (Y q)
  · exact g_ifN W hd (flt q).2.2.1 (N q)
theorem g_icmp_le {o : Int} {x z : Int32} (pc' : Nat) (W : Here p l e R s m args below meth c Z F B h0 A y bytes mL ret T k n os) (hd : decode bytes pc = .ok (.if_icmp .le o, 3)) (ho : 0 ≤ (pc : Int) + o) (hp : ((pc : Int) + o).toNat = pc') (Y : ¬ (z < x) → Go p e below G (T.setTop (mkF m pc' ls st))) (N : z < x → Go p e below G (T.setTop (mkF m (pc + 3) ls st))) : Go p e below G (T.setTop (mkF m pc ls (.int z :: .int x :: st))) := by
  by_cases q : z < x
  · exact g_icmpN W hd (tlt q).2.2.2 (N q)
  · exact g_icmpY pc' W hd ho hp (flt q).2.2.2 (Y q)
theorem g_if_le {o : Int} {x : Int32} (pc' : Nat) (W : Here p l e R s m args below meth c Z F B h0 A y bytes mL ret T k n os) (hd : decode bytes pc = .ok (.ifCond .le o, 3)) (ho : 0 ≤ (pc : Int) + o) (hp : ((pc : Int) + o).toNat = pc') (Y : ¬ (0 < x) → Go p e below G (T.setTop (mkF m pc' ls st))) (N : 0 < x → Go p e below G (T.setTop (mkF m (pc + 3) ls st))) : Go p e below G (T.setTop (mkF m pc ls (.int x :: st))) := by
  by_cases q : 0 < x
  · exact g_ifN W hd (tlt q).2.2.2 (N q)
  · exact g_ifY pc' W hd ho hp (flt q).2.2.2 (Y q)
theorem g_icmp_eq {o : Int} {x z : Int32} (pc' : Nat) (W : Here p l e R s m args below meth c Z F B h0 A y bytes mL ret T k n os) (hd : decode bytes pc = .ok (.if_icmp .eq o, 3)) (ho : 0 ≤ (pc : Int) + o) (hp : ((pc : Int) + o).toNat = pc') (Y : x = z → Go p e below G (T.setTop (mkF m pc' ls st))) (N : ¬ (x = z) → Go p e below G (T.setTop (mkF m (pc + 3) ls st))) : Go p e below G (T.setTop (mkF m pc ls (.int z :: .int x :: st))) := by
  by_cases q : x = z
  · exact g_icmpY pc' W hd ho hp (teq q).1 (Y q)
  · exact g_icmpN W hd (feq q).1 (N q)
theorem g_if_eq {o : Int} {x : Int32} (pc' : Nat) (W : Here p l e R s m args below meth c Z F B h0 A y bytes mL ret T k n os) (hd : decode bytes pc = .ok (.ifCond .eq o, 3)) (ho : 0 ≤ (pc : Int) + o) (hp : ((pc : Int) + o).toNat = pc') (Y : x = 0 → Go p e below G (T.setTop (mkF m pc' ls st))) (N : ¬ (x = 0) → Go p e below G (T.setTop (mkF m (pc + 3) ls st))) : Go p e below G (T.setTop (mkF m pc ls (.int x :: st))) := by
  by_cases q : x = 0
  · exact g_ifY pc' W hd ho hp (teq q).1 (Y q)
  · exact g_ifN W hd (feq q).1 (N q)
theorem g_icmp_ne {o : Int} {x z : Int32} (pc' : Nat) (W : Here p l e R s m args below meth c Z F B h0 A y bytes mL ret T k n os) (hd : decode bytes pc = .ok (.if_icmp .ne o, 3)) (ho : 0 ≤ (pc : Int) + o) (hp : ((pc : Int) + o).toNat = pc') (Y : ¬ (x = z) → Go p e below G (T.setTop (mkF m pc' ls st))) (N : x = z → Go p e below G (T.setTop (mkF m (pc + 3) ls st))) : Go p e below G (T.setTop (mkF m pc ls (.int z :: .int x :: st))) := by
  by_cases q : x = z
  · exact g_icmpN W hd (teq q).2 (N q)
  · exact g_icmpY pc' W hd ho hp (feq q).2 (Y q)
theorem g_if_ne {o : Int} {x : Int32} (pc' : Nat) (W : Here p l e R s m args below meth c Z F B h0 A y bytes mL ret T k n os) (hd : decode bytes pc = .ok (.ifCond .ne o, 3)) (ho : 0 ≤ (pc : Int) + o) (hp : ((pc : Int) + o).toNat = pc') (Y : ¬ (x = 0) → Go p e below G (T.setTop (mkF m pc' ls st))) (N : x = 0 → Go p e below G (T.setTop (mkF m (pc + 3) ls st))) : Go p e below G (T.setTop (mkF m pc ls (.int x :: st))) := by
  by_cases q : x = 0
  · exact g_ifN W hd (teq q).2 (N q)
  · exact g_ifY pc' W hd ho hp (feq q).2 (Y q)
theorem g_lookup {dfl : Int} {pairs : Array (Int × Int)} {len : Nat} {x : Int32} (W : Here p l e R s m args below meth c Z F B h0 A y bytes mL ret T k n os) (hd : decode bytes pc = .ok (.lookupswitch dfl pairs, len)) (hs : (pairs.toList.zip (pairs.toList.drop 1)).all (fun (a, next) => a.1 < next.1) = true) (ho : ∀ q ∈ pairs.toList, 0 ≤ (pc : Int) + q.2) (ho' : 0 ≤ (pc : Int) + dfl)
    (Y : ∀ a off, (a, off) ∈ pairs.toList → x.toInt = a → Go p e below G (T.setTop (mkF m ((pc : Int) + off).toNat ls st))) (N : (∀ q ∈ pairs.toList, q.1 ≠ x.toInt) → Go p e below G (T.setTop (mkF m ((pc : Int) + dfl).toNat ls st))) : Go p e below G (T.setTop (mkF m pc ls (.int x :: st))) := by
  obtain ⟨⟨hx, hZ, hby, -⟩, locs, X, -⟩ := W
  cases hf : pairs.find? (·.1 == x.toInt) with
  | none =>
    have K := N fun q hq e => by
      rw [Array.find?_eq_none] at hf
      exact hf q (Array.mem_toList_iff.mp hq) (by simp [e])
    exact K.by fun t q => X.lookupswitchMiss hx (g := mkF m pc ls (.int x :: st)) rfl rfl (hb hby hd) hs hf ho' t q
  | some q =>
    obtain ⟨a, off⟩ := q
    have h1 := Array.find?_some hf
    have h2 := Array.mem_toList_iff.mpr (Array.mem_of_find?_eq_some hf)
    have K := Y a off h2 (by simpa using (beq_iff_eq.mp h1).symm)
    exact K.by fun t q => X.lookupswitchHit hx (g := mkF m pc ls (.int x :: st)) rfl rfl (hb hby hd) hs hf (ho _ h2) t q
theorem g_ldc_int {i : Nat} {v : Int32} (W : Here p l e R s m args below meth c Z F B h0 A y bytes mL ret T k n os) (w : (Jvm.Cond.constant y.cls i v).before a0 Z = true) (hd : decode bytes pc = .ok (.ldc i, 2)) (K : Go p e below G (T.setTop (mkF m (pc + 2) ls (.int v :: st)))) : Go p e below G (T.setTop (mkF m pc ls st)) := by
  obtain ⟨⟨hx, hZ, hby, -, hown, -⟩, locs, X, -⟩ := W
  exact K.by fun t q => X.ldcInt hx hown (mvT hZ w) (g := mkF m pc ls st) rfl (hb hby hd) t q
theorem g_ldc2_long {i : Nat} {v : Int64} (W : Here p l e R s m args below meth c Z F B h0 A y bytes mL ret T k n os) (w : (Jvm.Cond.constantLong y.cls i v).before a0 Z = true) (hd : decode bytes pc = .ok (.ldc2_w i, 3)) (K : Go p e below G (T.setTop (mkF m (pc + 3) ls (.long v :: st)))) : Go p e below G (T.setTop (mkF m pc ls st)) := by
  obtain ⟨⟨hx, hZ, hby, -, hown, -⟩, locs, X, -⟩ := W
  exact K.by fun t q => X.ldc2Long hx hown (mvT hZ w) (g := mkF m pc ls st) rfl (hb hby hd) t q
theorem g_ireturn {z : Int32} (hT : ret = some .int) {kc ks : Nat} {P : Option Value → List Ob → Prop} (W : Here p l e R s m args below meth c Z F B h0 A y bytes mL ret T k n os) (hd : decode bytes pc = .ok (.ireturn, 1)) (hk : k ≤ kc) (hn : n ≤ ks) (hp : P (some (.int z)) os) : Go p e below (Fin1 below s Z F B h0 A kc ks P) (T.setTop (mkF m pc ls (.int z :: st))) := by
  obtain ⟨⟨hx, hZ, hby, -, hown, hret, hlk, -⟩, locs, X, hL, hI⟩ := W
  obtain ⟨fs, hr, hrun, hended, hW, hsame⟩ := X.leave (v := some (.int z)) (fun h => by rw [hret, hT] at h; cases h) hlk
  exact ⟨_, retOut X hx (hret.trans hT) rfl (Or.inl ⟨rfl, Or.inl rfl, z, rfl⟩) (hb hby hd) hr, hrun, _, locs, hended, ⟨hL.1, os, hI, hp⟩, ⟨_, rfl⟩, hW, hsame.mono hk hn⟩
theorem g_zreturn {z : Int32} (hT : ret = some .boolean) (hz : z &&& 1 = z) {kc ks : Nat} {P : Option Value → List Ob → Prop} (W : Here p l e R s m args below meth c Z F B h0 A y bytes mL ret T k n os) (hd : decode bytes pc = .ok (.ireturn, 1)) (hk : k ≤ kc) (hn : n ≤ ks) (hp : P (some (.int z)) os) : Go p e below (Fin1 below s Z F B h0 A kc ks P) (T.setTop (mkF m pc ls (.int z :: st))) := by
  obtain ⟨⟨hx, hZ, hby, -, hown, hret, hlk, -⟩, locs, X, hL, hI⟩ := W
  obtain ⟨fs, hr, hrun, hended, hW, hsame⟩ := X.leave (v := some (.int z)) (fun h => by rw [hret, hT] at h; cases h) hlk
  exact ⟨_, retOut (t := .boolean) (w := .int z) X hx (hret.trans hT) (show Value.int (z &&& 1) = .int z by rw [hz]) (Or.inl ⟨rfl, Or.inr (Or.inl rfl), z, rfl⟩) (hb hby hd) hr, hrun, _, locs, hended, ⟨hL.1, os, hI, hp⟩, ⟨_, rfl⟩, hW, hsame.mono hk hn⟩
theorem g_lreturn {z : Int64} (hT : ret = some .long) {kc ks : Nat} {P : Option Value → List Ob → Prop} (W : Here p l e R s m args below meth c Z F B h0 A y bytes mL ret T k n os) (hd : decode bytes pc = .ok (.lreturn, 1)) (hk : k ≤ kc) (hn : n ≤ ks) (hp : P (some (.long z)) os) : Go p e below (Fin1 below s Z F B h0 A kc ks P) (T.setTop (mkF m pc ls (.long z :: st))) := by
  obtain ⟨⟨hx, hZ, hby, -, hown, hret, hlk, -⟩, locs, X, hL, hI⟩ := W
  obtain ⟨fs, hr, hrun, hended, hW, hsame⟩ := X.leave (v := some (.long z)) (fun h => by rw [hret, hT] at h; cases h) hlk
  exact ⟨_, retOut X hx (hret.trans hT) rfl (Or.inr (Or.inl ⟨rfl, rfl, z, rfl⟩)) (hb hby hd) hr, hrun, _, locs, hended, ⟨hL.1, os, hI, hp⟩, ⟨_, rfl⟩, hW, hsame.mono hk hn⟩
theorem g_areturn {z : Addr} {t : FieldType} (hT : ret = some t) (ht : t.isReference = true) {kc ks : Nat} {P : Option Value → List Ob → Prop} (W : Here p l e R s m args below meth c Z F B h0 A y bytes mL ret T k n os) (hd : decode bytes pc = .ok (.areturn, 1)) (hk : k ≤ kc) (hn : n ≤ ks) (hp : P (some (.ref z)) os) : Go p e below (Fin1 below s Z F B h0 A kc ks P) (T.setTop (mkF m pc ls (.ref z :: st))) := by
  obtain ⟨⟨hx, hZ, hby, -, hown, hret, hlk, -⟩, locs, X, hL, hI⟩ := W
  obtain ⟨fs, hr, hrun, hended, hW, hsame⟩ := X.leave (v := some (.ref z)) (fun h => by rw [hret, hT] at h; cases h) hlk
  exact ⟨_, retOut X hx (hret.trans hT) (by cases t <;> first | rfl | simp [FieldType.isReference] at ht) (Or.inr (Or.inr (Or.inr (Or.inr ⟨rfl, ht, rfl⟩)))) (hb hby hd) hr, hrun, _, locs, hended, ⟨hL.1, os, hI, hp⟩, ⟨_, rfl⟩, hW, hsame.mono hk hn⟩
theorem g_return (hT : ret = none) {kc ks : Nat} {P : Option Value → List Ob → Prop} (W : Here p l e R s m args below meth c Z F B h0 A y bytes mL ret T k n os) (hd : decode bytes pc = .ok (.return_, 1)) (hk : k ≤ kc) (hn : n ≤ ks) (hp : P (none) os) : Go p e below (Fin1 below s Z F B h0 A kc ks P) (T.setTop (mkF m pc ls ([]))) := by
  obtain ⟨⟨hx, hZ, hby, -, hown, hret, hlk, -⟩, locs, X, hL, hI⟩ := W
  obtain ⟨fs, hr, hrun, hended, hW, hsame⟩ := X.leave (v := none) (fun _ => rfl) hlk
  exact ⟨_, X.returnOut hx (hret.trans hT) (hb hby hd) hr, hrun, _, locs, hended, ⟨hL.1, os, hI, hp⟩, ⟨_, rfl⟩, hW, hsame.mono hk hn⟩
theorem own_bb (v : Int32) : v.toInt8.toInt32.toInt8.toInt32 = v.toInt8.toInt32 := by rw [Int8.toInt8_toInt32]
theorem g_acmp {cd : ACond} {o : Int} {v w : Value} (pc' : Nat) (same : Bool) (W : Here p l e R s m args below meth c Z F B h0 A y bytes mL ret T k n os) (hd : decode bytes pc = .ok (.if_acmp cd o, 3)) (h1 : v.isRef = true) (h2 : w.isRef = true) (hq : decide (v = w) = same) (ho : 0 ≤ (pc : Int) + o) (hp : pc' = if acV cd same = true then ((pc : Int) + o).toNat else pc + 3) (K : Go p e below G (T.setTop (mkF m pc' ls st))) : Go p e below G (T.setTop (mkF m pc ls (w :: v :: st))) := by
  obtain ⟨⟨hx, hZ, hby, -⟩, locs, X, -⟩ := W
  exact K.by fun t q => Jvm.RoadKit.acmp (g := mkF m pc ls (w :: v :: st)) X hx rfl h1 h2 rfl (hb hby hd) rfl hq ho hp q
theorem Here.re {os' : List Ob} (W : Here p l e R s m args below meth c Z F B h0 A y bytes mL ret T k n os) (h : os = os') : Here p l e R s m args below meth c Z F B h0 A y bytes mL ret T k n os' := h ▸ W
theorem Here.kn {k' n' : Nat} (W : Here p l e R s m args below meth c Z F B h0 A y bytes mL ret T k n os) (h : k = k') (h' : n = n') : Here p l e R s m args below meth c Z F B h0 A y bytes mL ret T k' n' os := by subst h h'; exact W
/-- what the sheet says of a class: its fields are laid, under names of their own -/
def Cls (Z : State) (a0 : Array Value) (F : Fm) (C : String) : Prop := (∀ x ∈ F C, Laid Z a0 C C x.1 x.2 ∧ ∃ t, parseFieldDescriptor x.2 = some t) ∧ ((F C).map (·.1)).Nodup
theorem Cls.ne {C : String} (H : Cls Z a0 F C) {i j : Nat} {x x' : String × String} (hi : (F C)[i]? = some x) (hj : (F C)[j]? = some x') (ne : i ≠ j) : Jvm.RoadKit.slotOf Z C x.1 x.2 ≠ Jvm.RoadKit.slotOf Z C x'.1 x'.2 := by
  obtain ⟨L, t, ht⟩ := H.1 x (List.mem_of_getElem? hi)
  obtain ⟨L', t', ht'⟩ := H.1 x' (List.mem_of_getElem? hj)
  refine slot_ne L L' (fun e => ne ?_) ht ht'
  obtain ⟨h1, e1⟩ := List.getElem?_eq_some_iff.mp hi
  obtain ⟨h2, e2⟩ := List.getElem?_eq_some_iff.mp hj
  refine (List.getElem_inj (xs := (F C).map (·.1)) (h₀ := by simpa using h1) (h₁ := by simpa using h2) H.2).mp ?_
  simp [e1, e2, e]
def dflt (d : String) : Value := ((parseFieldDescriptor d).map defaultValue).getD .null
theorem g_getfield {i index j : Nat} {a : Addr} {C nm d host : String} {vs : List Value} {v : Value} (W : Here p l e R s m args below meth c Z F B h0 A y bytes mL ret T k n os) (w : (Jvm.Cond.fieldLink y.cls index C nm d).before a0 Z = true ∨ (Jvm.Cond.fieldLinkNest y.cls index C nm d host).before a0 Z = true)
    (hi : os[i]? = some (a, .object C, vs)) (hf : (F C)[j]? = some (nm, d)) (hv : vs[j]? = some v) (hd : decode bytes pc = .ok (.getfield index, 3)) (K : ∀ T', Here p l e R s m args below meth c Z F B h0 A y bytes mL ret T' k n os → Go p e below G (T'.setTop (mkF m (pc + 3) ls (v :: st)))) : Go p e below G (T.setTop (mkF m pc ls (.ref a :: st))) := by
  obtain ⟨H0, locs, X, hL, hI⟩ := W
  have O : Oat F Z T.heap a (.object C) vs := hI.2.1.get hi
  obtain ⟨T', X', e', stp⟩ := getF X H0.1 H0.2.1 H0.2.2.2.2.1 w Via.refl rfl (O.2.2 j nm d v hf hv) (g := mkF m pc ls (.ref a :: st)) rfl rfl (hb H0.2.2.1 hd)
  exact (K T' ⟨H0, locs, X', hL, by rw [e']; exact hI⟩).by stp
theorem g_putfield {i index j kk : Nat} {a : Addr} {C nm d host : String} {vs : List Value} {v old : Value} {ty : FieldType} {os' : List Ob} (W : Here p l e R s m args below meth c Z F B h0 A y bytes mL ret T k n os) (w : (Jvm.Cond.fieldLink y.cls index C nm d).before a0 Z = true ∨ (Jvm.Cond.fieldLinkNest y.cls index C nm d host).before a0 Z = true)
    (hC : Cls Z a0 F C) (L : (Jvm.Cond.lays C C nm d).before a0 Z = true ∨ ((Jvm.Cond.laysFinal C C nm d).before a0 Z = true ∧ y.cls = C ∧ y.name = "<init>")) (wi : (Jvm.Cond.instantiable C kk).before a0 Z = true)
    (hi : os[i]? = some (a, .object C, vs)) (hf : (F C)[j]? = some (nm, d)) (hv : vs[j]? = some old) (hty : parseFieldDescriptor d = some ty) (hn : narrow ty v = v) (hfit : fits ty v = true) (ho : os.set i (a, .object C, vs.set j v) = os')
    (hd : decode bytes pc = .ok (.putfield index, 3)) (K : ∀ T', Here p l e R s m args below meth c Z F B h0 A y bytes mL ret T' k n os' → Go p e below G (T'.setTop (mkF m (pc + 3) ls (st)))) : Go p e below G (T.setTop (mkF m pc ls (v :: .ref a :: st))) := by
  obtain ⟨H0, locs, X, hL, hI⟩ := W
  have O : Oat F Z T.heap a (.object C) vs := hI.2.1.get hi
  obtain ⟨E, hlen, hF⟩ := O
  obtain ⟨T', h', X', e', Wr', stp⟩ := putF X H0.1 H0.2.1 H0.2.2.2.2.1 w Via.refl rfl (hF j nm d old hf hv) E (L.imp id fun q => ⟨q.1, q.2.1, H0.2.2.2.2.2.2.2.trans q.2.2⟩) wi hty hn hfit (g := mkF m pc ls (v :: .ref a :: st)) rfl rfl (hb H0.2.2.1 hd)
  refine (K T' ⟨H0, _, X', ⟨fun z hz => ?_, hL.2⟩, ?_⟩).by stp
  · rcases List.mem_append.mp hz with q | q
    · exact hL.1 z q
    · cases List.mem_singleton.mp q; exact (hI.mem hi).ge hL.2.1 hL.2.2
  · rw [e', ← ho]
    refine hI.set hi (Keep.of_wr Wr') ⟨E.wr Wr', by simpa using hlen, fun i' n' d' v' h1 h2 => ?_⟩
    rw [List.getElem?_set] at h2
    split at h2
    · rename_i e1; subst e1
      have : v' = v := by split at h2 <;> simp_all
      cases hf.symm.trans h1
      subst this
      exact (hF j nm d old hf hv).same Wr'
    · rename_i ne
      have q : Jvm.RoadKit.slotOf Z C n' d' ≠ Jvm.RoadKit.slotOf Z C nm d := hC.ne (x := (n', d')) (x' := (nm, d)) h1 hf (Ne.symm ne)
      exact (hF i' n' d' v' h1 h2).other Wr' (Or.inr q)
theorem g_new {index nsl : Nat} {C : String} {vs : List Value} (W : Here p l e R s m args below meth c Z F B h0 A y bytes mL ret T k n os) (w : (Jvm.Cond.classLink y.cls index C).before a0 Z = true) (wi : (Jvm.Cond.instantiable C nsl).before a0 Z = true) (wz : (Jvm.Cond.initialized C).before a0 Z = true) (hC : Cls Z a0 F C) (hvs : (F C).map (fun x => dflt x.2) = vs)
    (hd : decode bytes pc = .ok (.new index, 3)) (hc : k + 1 ≤ R.cells) (hs : n + nsl ≤ R.slots)
    (K : ∀ T' a, Here p l e R s m args below meth c Z F B h0 A y bytes mL ret T' (k + 1) (n + nsl) (os ++ [(a, .object C, vs)]) → Go p e below G (T'.setTop (mkF m (pc + 3) ls (.ref a :: st)))) : Go p e below G (T.setTop (mkF m pc ls st)) := by
  obtain ⟨H0, locs, X, hL, hI⟩ := W
  obtain ⟨T', h', X', e', E', A', D', -, stp⟩ := newO X H0.1 H0.2.1 H0.2.2.2.2.1 w wi wz rfl (g := mkF m pc ls st) rfl (hb H0.2.2.1 hd) hc hs
  refine (K T' T.heap.size ⟨H0, locs, X', hL, ?_⟩).by stp
  rw [e']
  refine hI.push E' ⟨A', by rw [← hvs]; simp, fun i nm d v h1 h2 => ?_⟩
  obtain ⟨La, t, ht⟩ := hC.1 _ (List.mem_of_getElem? h1)
  have q := D' La ht
  rw [← hvs, List.getElem?_map, h1] at h2
  simp only [Option.map_some, dflt, ht, Option.getD_some, Option.some.injEq] at h2
  rw [← h2]; exact q
theorem fits_dflt (aty : ArrayType) : fits (newarray.typeOf aty) (defaultValue (newarray.typeOf aty)) = true := by cases aty <;> rfl
theorem g_newarray {aty : ArrayType} {z : Int32} {ty : FieldType} {vs : List Value} (cap : Nat) (W : Here p l e R s m args below meth c Z F B h0 A y bytes mL ret T k n os) (w : (Jvm.Cond.arrayClass ty).before a0 Z = true) (hty : newarray.typeOf aty = ty) (hz : ¬ z < 0) (hcap : z.toNatClampNeg ≤ cap) (hb8 : cap * 8 ≤ 536870912) (hvs : List.replicate z.toNatClampNeg (defaultValue ty) = vs)
    (hd : decode bytes pc = .ok (.newarray aty, 2)) (hc : k + 1 ≤ R.cells) (hs : n + cap ≤ R.slots)
    (K : ∀ T' a, Here p l e R s m args below meth c Z F B h0 A y bytes mL ret T' (k + 1) (n + cap) (os ++ [(a, .array ty, vs)]) → Go p e below G (T'.setTop (mkF m (pc + 2) ls (.ref a :: st)))) : Go p e below G (T.setTop (mkF m pc ls (.int z :: st))) := by
  obtain ⟨H0, locs, X, hL, hI⟩ := W
  subst hty hvs
  obtain ⟨T', h', cA, X', e', E', A', Ex, stp⟩ := newPE X H0.1 H0.2.1 w rfl (g := mkF m pc ls (.int z :: st)) rfl (hb H0.2.2.1 hd) rfl hz hcap hb8 hc hs rfl
  refine (K T' T.heap.size ⟨H0, locs, X', hL, ?_⟩).by stp
  rw [e']
  refine hI.push E' ⟨Ex, fun v hv => ?_, _, A', by simp [newA]⟩
  rw [(List.mem_replicate.mp hv).2]; exact fits_dflt aty
theorem g_anewarray {index : Nat} {z : Int32} {C : String} {vs : List Value} (cap : Nat) (W : Here p l e R s m args below meth c Z F B h0 A y bytes mL ret T k n os) (w : (Jvm.Cond.classLink y.cls index C).before a0 Z = true) (w2 : (Jvm.Cond.arrayOver (.object C)).before a0 Z = true) (hz : ¬ z < 0) (hcap : z.toNatClampNeg ≤ cap) (hb8 : cap * 8 ≤ 536870912) (hvs : List.replicate z.toNatClampNeg .null = vs)
    (hd : decode bytes pc = .ok (.anewarray index, 3)) (hc : k + 1 ≤ R.cells) (hs : n + cap ≤ R.slots)
    (K : ∀ T' a, Here p l e R s m args below meth c Z F B h0 A y bytes mL ret T' (k + 1) (n + cap) (os ++ [(a, .array (.object C), vs)]) → Go p e below G (T'.setTop (mkF m (pc + 3) ls (.ref a :: st)))) : Go p e below G (T.setTop (mkF m pc ls (.int z :: st))) := by
  obtain ⟨H0, locs, X, hL, hI⟩ := W
  subst hvs
  obtain ⟨T', h', cA, X', e', E', A', Ex, -, stp⟩ := newRE X H0.1 H0.2.1 H0.2.2.2.2.1 w w2 rfl (g := mkF m pc ls (.int z :: st)) rfl (hb H0.2.2.1 hd) rfl hz hcap hb8 hc hs rfl
  refine (K T' T.heap.size ⟨H0, locs, X', hL, ?_⟩).by stp
  rw [e']
  refine hI.push E' ⟨Ex, fun v hv => ?_, _, A', by simp [newA, defaultValue]⟩
  rw [(List.mem_replicate.mp hv).2]; rfl
theorem inb_list {cl : Cell} {vs : List Value} {z : Int32} {v : Value} (S : cl.slots = vs.toArray) (hz : ¬ z < 0) (hv : vs[z.toNatClampNeg]? = some v) : ¬ (z < 0 ∨ cl.slots.size ≤ z.toNatClampNeg) ∧ cl.slots[z.toNatClampNeg]? = some v := by
  have h1 := (List.getElem?_eq_some_iff.mp hv).1
  refine ⟨fun q => q.elim hz fun q => ?_, by rw [S]; simpa using hv⟩
  rw [S] at q; simp at q; omega
theorem g_iaload {i : Nat} {a : Addr} {z : Int32} {vs : List Value} {v : Value} (W : Here p l e R s m args below meth c Z F B h0 A y bytes mL ret T k n os) (hi : os[i]? = some (a, .array .int, vs)) (hz : ¬ z < 0) (hv : vs[z.toNatClampNeg]? = some v) (hd : decode bytes pc = .ok (.iaload, 1)) (K : Go p e below G (T.setTop (mkF m (pc + 1) ls (v :: st)))) : Go p e below G (T.setTop (mkF m pc ls (.int z :: .ref a :: st))) := by
  obtain ⟨H0, locs, X, hL, hI⟩ := W
  have O : Oat F Z T.heap a (.array .int) vs := hI.2.1.get hi
  obtain ⟨E, -, cl, Ar, S⟩ := O
  obtain ⟨h1, h2⟩ := inb_list S hz hv
  exact K.by fun t q => X.iaload H0.1 (j := z) (v := v) Ar.1 (State.isArrayOf_alike H0.2.1.alike Ar.2.1) Ar.2.2 h1 h2 (g := mkF m pc ls (.int z :: .ref a :: st)) rfl rfl (hb H0.2.2.1 hd) t q
theorem g_laload {i : Nat} {a : Addr} {z : Int32} {vs : List Value} {v : Value} (W : Here p l e R s m args below meth c Z F B h0 A y bytes mL ret T k n os) (hi : os[i]? = some (a, .array .long, vs)) (hz : ¬ z < 0) (hv : vs[z.toNatClampNeg]? = some v) (hd : decode bytes pc = .ok (.laload, 1)) (K : Go p e below G (T.setTop (mkF m (pc + 1) ls (v :: st)))) : Go p e below G (T.setTop (mkF m pc ls (.int z :: .ref a :: st))) := by
  obtain ⟨H0, locs, X, hL, hI⟩ := W
  have O : Oat F Z T.heap a (.array .long) vs := hI.2.1.get hi
  obtain ⟨E, -, cl, Ar, S⟩ := O
  obtain ⟨h1, h2⟩ := inb_list S hz hv
  exact K.by fun t q => X.laload H0.1 (j := z) (v := v) Ar.1 (State.isArrayOf_alike H0.2.1.alike Ar.2.1) Ar.2.2 h1 h2 (g := mkF m pc ls (.int z :: .ref a :: st)) rfl rfl (hb H0.2.2.1 hd) t q
theorem g_baload {i : Nat} {a : Addr} {z : Int32} {vs : List Value} {v : Value} (W : Here p l e R s m args below meth c Z F B h0 A y bytes mL ret T k n os) (hi : os[i]? = some (a, .array .byte, vs)) (hz : ¬ z < 0) (hv : vs[z.toNatClampNeg]? = some v) (hd : decode bytes pc = .ok (.baload, 1)) (K : Go p e below G (T.setTop (mkF m (pc + 1) ls (v :: st)))) : Go p e below G (T.setTop (mkF m pc ls (.int z :: .ref a :: st))) := by
  obtain ⟨H0, locs, X, hL, hI⟩ := W
  have O : Oat F Z T.heap a (.array .byte) vs := hI.2.1.get hi
  obtain ⟨E, -, cl, Ar, S⟩ := O
  obtain ⟨h1, h2⟩ := inb_list S hz hv
  exact K.by fun t q => X.baloadBytes H0.1 (j := z) (v := v) Ar.1 (State.isArrayOf_alike H0.2.1.alike Ar.2.1) Ar.2.2 h1 h2 (g := mkF m pc ls (.int z :: .ref a :: st)) rfl rfl (hb H0.2.2.1 hd) t q
theorem g_arraylength {i : Nat} {a : Addr} {ty : FieldType} {vs : List Value} (N : Int32) (W : Here p l e R s m args below meth c Z F B h0 A y bytes mL ret T k n os) (hi : os[i]? = some (a, .array ty, vs)) (hN : vs.length.toInt32 = N) (hd : decode bytes pc = .ok (.arraylength, 1)) (K : Go p e below G (T.setTop (mkF m (pc + 1) ls (.int N :: st)))) : Go p e below G (T.setTop (mkF m pc ls (.ref a :: st))) := by
  obtain ⟨H0, locs, X, hL, hI⟩ := W
  have O : Oat F Z T.heap a (.array ty) vs := hI.2.1.get hi
  obtain ⟨E, -, cl, Ar, S⟩ := O
  have q2 : cl.slots.size.toInt32 = N := by rw [S, ← hN]; simp
  subst q2
  exact K.by fun t q => X.arraylength H0.1 Ar.1 (State.isArrayOf_alike H0.2.1.alike Ar.2.1) (g := mkF m pc ls (.ref a :: st)) rfl rfl (hb H0.2.2.1 hd) t q
theorem Oat.put {h h' : Heap} {a : Addr} {ty : FieldType} {vs : List Value} {cl : Cell} {v : Value} {j : Nat} (O : Oat F Z h a (.array ty) vs) (Ar : Arr Z h a cl ty) (S : cl.slots = vs.toArray) (hf : fits ty v = true) (Wr' : Wr h h' a j v) : Oat F Z h' a (.array ty) (vs.set j v) := by
  obtain ⟨E, f, -⟩ := O
  refine ⟨E.wr Wr', fun u hu => ?_, cl.setSlot j v, Ar.same Wr', by simp [Cell.setSlot, S]⟩
  rcases List.mem_or_eq_of_mem_set hu with q | q
  · exact f u q
  · rw [q]; exact hf
theorem g_iastore {i : Nat} {a : Addr} {z : Int32} {x : Int32} {vs : List Value} {os' : List Ob} (j : Nat) (W : Here p l e R s m args below meth c Z F B h0 A y bytes mL ret T k n os) (hi : os[i]? = some (a, .array .int, vs)) (hz : ¬ z < 0) (hj : z.toNatClampNeg = j) (hlt : j < vs.length) (ho : os.set i (a, .array .int, vs.set j (.int x)) = os')
    (hd : decode bytes pc = .ok (.iastore, 1)) (K : ∀ T', Here p l e R s m args below meth c Z F B h0 A y bytes mL ret T' k n os' → Go p e below G (T'.setTop (mkF m (pc + 1) ls (st)))) : Go p e below G (T.setTop (mkF m pc ls (.int x :: .int z :: .ref a :: st))) := by
  obtain ⟨H0, locs, X, hL, hI⟩ := W
  have O : Oat F Z T.heap a (.array .int) vs := hI.2.1.get hi
  obtain ⟨E, -, cl, Ar, S⟩ := id O
  have hin : ¬ (z < 0 ∨ cl.slots.size ≤ z.toNatClampNeg) := fun q => q.elim hz fun q => by rw [S] at q; simp at q; omega
  obtain ⟨T', h', X', e', Wr', stp⟩ := stI X H0.1 H0.2.1 rfl Ar (j := z) hin (g := mkF m pc ls (.int x :: .int z :: .ref a :: st)) rfl rfl (hb H0.2.2.1 hd)
  subst hj
  refine (K T' ⟨H0, _, X', ⟨fun z hz => ?_, hL.2⟩, ?_⟩).by stp
  · rcases List.mem_append.mp hz with q | q
    · exact hL.1 z q
    · cases List.mem_singleton.mp q; exact (hI.mem hi).ge hL.2.1 hL.2.2
  · rw [e', ← ho]
    exact hI.set hi (Keep.of_wr Wr') (O.put Ar S rfl Wr')
theorem g_lastore {i : Nat} {a : Addr} {z : Int32} {x : Int64} {vs : List Value} {os' : List Ob} (j : Nat) (W : Here p l e R s m args below meth c Z F B h0 A y bytes mL ret T k n os) (hi : os[i]? = some (a, .array .long, vs)) (hz : ¬ z < 0) (hj : z.toNatClampNeg = j) (hlt : j < vs.length) (ho : os.set i (a, .array .long, vs.set j (.long x)) = os')
    (hd : decode bytes pc = .ok (.lastore, 1)) (K : ∀ T', Here p l e R s m args below meth c Z F B h0 A y bytes mL ret T' k n os' → Go p e below G (T'.setTop (mkF m (pc + 1) ls (st)))) : Go p e below G (T.setTop (mkF m pc ls (.long x :: .int z :: .ref a :: st))) := by
  obtain ⟨H0, locs, X, hL, hI⟩ := W
  have O : Oat F Z T.heap a (.array .long) vs := hI.2.1.get hi
  obtain ⟨E, -, cl, Ar, S⟩ := id O
  have hin : ¬ (z < 0 ∨ cl.slots.size ≤ z.toNatClampNeg) := fun q => q.elim hz fun q => by rw [S] at q; simp at q; omega
  obtain ⟨T', h', X', e', Wr', stp⟩ := stJ X H0.1 H0.2.1 rfl Ar (j := z) hin (g := mkF m pc ls (.long x :: .int z :: .ref a :: st)) rfl rfl (hb H0.2.2.1 hd)
  subst hj
  refine (K T' ⟨H0, _, X', ⟨fun z hz => ?_, hL.2⟩, ?_⟩).by stp
  · rcases List.mem_append.mp hz with q | q
    · exact hL.1 z q
    · cases List.mem_singleton.mp q; exact (hI.mem hi).ge hL.2.1 hL.2.2
  · rw [e', ← ho]
    exact hI.set hi (Keep.of_wr Wr') (O.put Ar S rfl Wr')
theorem g_bastore {i : Nat} {a : Addr} {z : Int32} {x : Int32} {x' : Int32} (hx' : x.toInt8.toInt32 = x') {vs : List Value} {os' : List Ob} (j : Nat) (W : Here p l e R s m args below meth c Z F B h0 A y bytes mL ret T k n os) (hi : os[i]? = some (a, .array .byte, vs)) (hz : ¬ z < 0) (hj : z.toNatClampNeg = j) (hlt : j < vs.length) (ho : os.set i (a, .array .byte, vs.set j (.int x')) = os')
    (hd : decode bytes pc = .ok (.bastore, 1)) (K : ∀ T', Here p l e R s m args below meth c Z F B h0 A y bytes mL ret T' k n os' → Go p e below G (T'.setTop (mkF m (pc + 1) ls (st)))) : Go p e below G (T.setTop (mkF m pc ls (.int x :: .int z :: .ref a :: st))) := by
  obtain ⟨H0, locs, X, hL, hI⟩ := W
  have O : Oat F Z T.heap a (.array .byte) vs := hI.2.1.get hi
  obtain ⟨E, -, cl, Ar, S⟩ := id O
  have hin : ¬ (z < 0 ∨ cl.slots.size ≤ z.toNatClampNeg) := fun q => q.elim hz fun q => by rw [S] at q; simp at q; omega
  obtain ⟨T', h', X', e', Wr', stp⟩ := stB X H0.1 H0.2.1 rfl Ar (j := z) hin (g := mkF m pc ls (.int x :: .int z :: .ref a :: st)) rfl rfl (hb H0.2.2.1 hd)
  subst hj
  subst hx'
  refine (K T' ⟨H0, _, X', ⟨fun z hz => ?_, hL.2⟩, ?_⟩).by stp
  · rcases List.mem_append.mp hz with q | q
    · exact hL.1 z q
    · cases List.mem_singleton.mp q; exact (hI.mem hi).ge hL.2.1 hL.2.2
  · rw [e', ← ho]
    exact hI.set hi (Keep.of_wr Wr') (O.put Ar S (fits_nar_byte x) Wr')
theorem g_zastore {i : Nat} {a : Addr} {z : Int32} {x : Int32} {x' : Int32} (hx' : x &&& 1 = x') {vs : List Value} {os' : List Ob} (j : Nat) (W : Here p l e R s m args below meth c Z F B h0 A y bytes mL ret T k n os) (hi : os[i]? = some (a, .array .boolean, vs)) (hz : ¬ z < 0) (hj : z.toNatClampNeg = j) (hlt : j < vs.length) (ho : os.set i (a, .array .boolean, vs.set j (.int x')) = os')
    (hd : decode bytes pc = .ok (.bastore, 1)) (K : ∀ T', Here p l e R s m args below meth c Z F B h0 A y bytes mL ret T' k n os' → Go p e below G (T'.setTop (mkF m (pc + 1) ls (st)))) : Go p e below G (T.setTop (mkF m pc ls (.int x :: .int z :: .ref a :: st))) := by
  obtain ⟨H0, locs, X, hL, hI⟩ := W
  have O : Oat F Z T.heap a (.array .boolean) vs := hI.2.1.get hi
  obtain ⟨E, -, cl, Ar, S⟩ := id O
  have hin : ¬ (z < 0 ∨ cl.slots.size ≤ z.toNatClampNeg) := fun q => q.elim hz fun q => by rw [S] at q; simp at q; omega
  obtain ⟨T', h', X', e', Wr', stp⟩ := stZ X H0.1 H0.2.1 rfl Ar (j := z) hin (g := mkF m pc ls (.int x :: .int z :: .ref a :: st)) rfl rfl (hb H0.2.2.1 hd)
  subst hj
  subst hx'
  refine (K T' ⟨H0, _, X', ⟨fun z hz => ?_, hL.2⟩, ?_⟩).by stp
  · rcases List.mem_append.mp hz with q | q
    · exact hL.1 z q
    · cases List.mem_singleton.mp q; exact (hI.mem hi).ge hL.2.1 hL.2.2
  · rw [e', ← ho]
    exact hI.set hi (Keep.of_wr Wr') (O.put Ar S (fits_nar_bool x) Wr')
/-- os is loc and rst, in another order -/
def Spl (os loc rst : List Ob) : Prop := ∃ pm : List Nat, pm.Nodup ∧ (loc ++ rst).map some = pm.map (fun i => os[i]?)
theorem Spl.none : Spl os [] os := ⟨List.range os.length, List.nodup_range, by
  refine List.ext_getElem? fun i => ?_
  simp only [List.nil_append, List.getElem?_map]
  by_cases h : i < os.length
  · simp [h]
  · simp [h]⟩
theorem Spl.all : Spl os os [] := by obtain ⟨pm, h1, h2⟩ := Spl.none (os := os); exact ⟨pm, h1, by simpa using h2⟩
theorem Spl.mem {loc rst : List Ob} (S : Spl os loc rst) {o : Ob} (ho : o ∈ loc ++ rst) : o ∈ os := by
  obtain ⟨pm, -, h2⟩ := S
  have q : some o ∈ pm.map (fun i => os[i]?) := h2 ▸ List.mem_map.mpr ⟨o, ho, rfl⟩
  obtain ⟨i, -, hi⟩ := List.mem_map.mp q
  exact List.mem_of_getElem? hi
theorem Spl.nodup {loc rst : List Ob} (S : Spl os loc rst) (hn : (os.map (·.1)).Nodup) : ((loc ++ rst).map (·.1)).Nodup := by
  obtain ⟨pm, h1, h2⟩ := S
  generalize loc ++ rst = L at h2
  have key : ∀ i, (L[i]?).map some = (pm[i]?).map (fun j => os[j]?) := fun i => by rw [← List.getElem?_map, h2, List.getElem?_map]
  have key2 : ∀ i o, L[i]? = some o → ∃ j, pm[i]? = some j ∧ os[j]? = some o := fun i o ho => by
    have q := key i
    rw [ho] at q
    cases hp : pm[i]? with
    | none => simp [hp] at q
    | some j => simp [hp] at q; exact ⟨j, hp, q.symm⟩
  rw [List.nodup_iff_pairwise_ne, List.pairwise_iff_getElem]
  intro i j hi hj hij e
  simp only [List.length_map] at hi hj
  obtain ⟨oj, hoj⟩ : ∃ o, L[j]? = some o := ⟨L[j], List.getElem?_eq_getElem hj⟩
  obtain ⟨oi, hoi⟩ : ∃ o, L[i]? = some o := ⟨L[i], List.getElem?_eq_getElem hi⟩
  have e : oi.1 = oj.1 := by
    simp only [List.getElem_map] at e
    rw [List.getElem?_eq_getElem hi] at hoi
    rw [List.getElem?_eq_getElem hj] at hoj
    rw [← Option.some.inj hoi, ← Option.some.inj hoj]; exact e
  obtain ⟨i', p1, q1⟩ := key2 i oi hoi
  obtain ⟨j', p2, q2⟩ := key2 j oj hoj
  have e2 := nodup_at hn (i := i') (j := j') (a := oi.1) (by rw [List.getElem?_map, q1]; rfl) (by rw [List.getElem?_map, q2, e]; rfl)
  subst e2
  obtain ⟨u1, u2⟩ := List.getElem?_eq_some_iff.mp p1
  obtain ⟨u3, u4⟩ := List.getElem?_eq_some_iff.mp p2
  exact absurd ((List.getElem_inj h1).mp (u2.trans u4.symm)) (Nat.ne_of_lt hij)
theorem Spl.loc {loc rst : List Ob} {h : Heap} (S : Spl os loc rst) (H : Hp F Z h os) : Hp F Z h loc :=
  ⟨by have q := S.nodup H.1; rw [List.map_append] at q; exact (List.nodup_append.mp q).1, fun o ho => H.2 o (S.mem (List.mem_append_left _ ho))⟩
theorem Spl.after {loc rst os' : List Ob} {h h' : Heap} (S : Spl os loc rst) (I : Hin F Z h0 A h os) (I' : Hin F Z h (loc.map (·.1)) h' os') : Hin F Z h0 A h' (os' ++ rst) := by
  have nd := S.nodup I.2.1.1
  rw [List.map_append] at nd
  obtain ⟨n1, n2, n3⟩ := List.nodup_append.mp nd
  have hloc : ∀ x ∈ loc.map (·.1), Okk A h0.size x := fun x hx => by
    obtain ⟨o, ho, rfl⟩ := List.mem_map.mp hx
    exact I.2.2 o (S.mem (List.mem_append_left _ ho))
  refine ⟨I.1.trans I'.1 hloc, ⟨?_, fun o ho => ?_⟩, fun o ho => ?_⟩
  · rw [List.map_append, List.nodup_append]
    refine ⟨I'.2.1.1, n2, fun a ha b hb e => ?_⟩
    subst e
    obtain ⟨o, ho, rfl⟩ := List.mem_map.mp ha
    rcases I'.2.2 o ho with q | q
    · exact n3 _ q _ hb rfl
    · obtain ⟨o2, ho2, e2⟩ := List.mem_map.mp hb
      have := (I.2.1.2 o2 (S.mem (List.mem_append_right _ ho2))).lt
      rw [e2] at this
      exact absurd this (Nat.not_lt.mpr q)
  · rcases List.mem_append.mp ho with q | q
    · exact I'.2.1.2 o q
    · exact (I.2.1.2 o (S.mem (List.mem_append_right _ q))).keep I'.1 (fun z => n3 _ z _ (List.mem_map.mpr ⟨o, q, rfl⟩) rfl)
  · rcases List.mem_append.mp ho with q | q
    · rcases I'.2.2 o q with z | z
      · exact hloc _ z
      · exact Or.inr (Nat.le_trans I.1.1 z)
    · exact I.2.2 o (S.mem (List.mem_append_right _ q))
theorem Spl.locs {locs L : List Loc} (hL : (∀ y ∈ locs, B ≤ y.base) ∧ (∀ a ∈ A, B ≤ a) ∧ B ≤ h0.size) (hL' : ∀ y ∈ L, B ≤ y.base) : (∀ y ∈ locs ++ L, B ≤ y.base) ∧ (∀ a ∈ A, B ≤ a) ∧ B ≤ h0.size :=
  ⟨fun y hy => (List.mem_append.mp hy).elim (hL.1 y) (hL' y), hL.2⟩
theorem Spl.ge {loc rst : List Ob} {h : Heap} {locs : List Loc} (S : Spl os loc rst) (I : Hin F Z h0 A h os) (hL : (∀ y ∈ locs, B ≤ y.base) ∧ (∀ a ∈ A, B ≤ a) ∧ B ≤ h0.size) : ∀ a ∈ loc.map (·.1), B ≤ a := fun a ha => by
  obtain ⟨o, ho, e⟩ := List.mem_map.mp ha
  rw [← e]; exact (I.2.2 o (S.mem (List.mem_append_left _ ho))).ge hL.2.1 hL.2.2
theorem g_static {index Wt : Nat} {y' : MethodName} {bytes' : ByteArray} {mL' : Nat} {ret' : Option FieldType} {rm : Room} {as : Array Value} {loc rst : List Ob} {P : Option Value → List Ob → Prop} {argsL rest : List Value} {ps : List FieldType} {r : Option FieldType} (W : Here p l e R s m args below meth c Z F B h0 A y bytes mL ret T k n os) (w1 : (Jvm.Cond.methodLink y.cls index y').before a0 Z = true) (w2 : (Jvm.Cond.static y').before a0 Z = true) (w3 : (Jvm.Cond.initialized y'.cls).before a0 Z = true) (w4 : (Jvm.Cond.code y' bytes' mL' ret').before a0 Z = true)
    (hy : y'.cls ≠ "java/lang/invoke/MethodHandle" ∧ y'.cls ≠ "java/lang/invoke/VarHandle") (C : Con l Z F B y' bytes' mL' ret' rm [] as loc P) (S : Spl os loc rst) (has : as = argsL.toArray) (hpd : parseMethodDescriptor y'.desc = some ⟨ps, r⟩) (hpl : argsL.length = ps.length)
    (hst : st = argsL.reverse ++ rest) (hsz : ls.size = mL) (hW : (rest.map fun v => v.category).sum ≤ Wt) (hfr : rm.frames + 1 ≤ R.frames) (hlo : Wt + (mL' + 11) + rm.locals ≤ R.locals) (hc : k + rm.cells ≤ R.cells) (hs : n + rm.slots ≤ R.slots) (hd : decode bytes pc = .ok (.invokestatic index, 3)) (K : ∀ T' v os', P v os' → Here p l e R s m args below meth c Z F B h0 A y bytes mL ret T' (k + rm.cells) (n + rm.slots) (os' ++ rst) → Go p e below G (T'.setTop (mkF m (pc + 3) ls (v.toList ++ rest)))) : Go p e below G (T.setTop (mkF m pc ls st)) := by
  obtain ⟨H0, locs, X, hL, hI⟩ := W
  subst has hst
  obtain ⟨v, _, ⟨T', L', k', n'⟩, -, X', ⟨Lc, hQ, l1, y1, z1⟩, stp⟩ := Jvm.LawKit.callS X H0.1 (y := y') H0.2.2.2.2.1 (mvT H0.2.1 w1) (mvT H0.2.1 w2) (mvT H0.2.1 w3) (mvT H0.2.1 w4) hy (backOf (W := Wt) (C T.heap (S.loc hI.2.1) (S.ge hI hL) (Nat.le_trans hL.2.2 hI.1.1)) H0.2.1 w4 w3 hfr hlo) (g := mkF m pc ls (argsL.reverse ++ rest)) rfl (hsz.trans H0.2.2.2.1.symm) (argsL := argsL) (rest := rest) (lenOf hpd hpl) rfl (by show 2 * 0 + _ ≤ _; omega) (hb H0.2.2.1 hd) (fun _ _ => ⟨rfl, rfl, hc, hs⟩)
  dsimp only [Pt.U, Pt.locs, Pt.cells, Pt.slots] at X' l1 y1 z1 stp hQ
  subst l1 y1 z1
  obtain ⟨hLc, os', hI', hp⟩ := hQ
  exact (K T' v os' hp ⟨H0, _, X', Spl.locs hL hLc, S.after hI hI'⟩).by stp
theorem Go.to {S S' : State} (h : Steps p.tables e below S S') (g : Go p e below G S') : Go p e below G S := by
  obtain ⟨t, h', g⟩ := g; exact ⟨t, h.trans h', g⟩
theorem g_init {index Wt : Nat} {y' : MethodName} {bytes' : ByteArray} {mL' : Nat} {rm : Room} {as : Array Value} {loc rst : List Ob} {P : Option Value → List Ob → Prop} {argsL rest : List Value} {ps : List FieldType} {r : Option FieldType} {a : Addr} (W : Here p l e R s m args below meth c Z F B h0 A y bytes mL ret T k n os) (hy1 : y'.name = "<init>") (w1 : (Jvm.Cond.methodLink y.cls index y').before a0 Z = true) (w2 : (Jvm.Cond.instanceMethod y').before a0 Z = true) (w3 : (Jvm.Cond.initialized y'.cls).before a0 Z = true) (w4 : (Jvm.Cond.code y' bytes' mL' none).before a0 Z = true)
    (hy : y'.cls ≠ "java/lang/invoke/MethodHandle" ∧ y'.cls ≠ "java/lang/invoke/VarHandle") (C : Con l Z F B y' bytes' mL' none rm [] as loc P) (S : Spl os loc rst) (has : as = (.ref a :: argsL).toArray) (hpd : parseMethodDescriptor y'.desc = some ⟨ps, r⟩) (hpl : argsL.length = ps.length)
    (hst : st = argsL.reverse ++ .ref a :: rest) (hsz : ls.size = mL) (hW : (rest.map fun v => v.category).sum ≤ Wt) (hfr : rm.frames + 1 ≤ R.frames) (hlo : Wt + (mL' + 11) + rm.locals ≤ R.locals) (hc : k + rm.cells ≤ R.cells) (hs : n + rm.slots ≤ R.slots) (hd : decode bytes pc = .ok (.invokespecial index, 3)) (K : ∀ T' v os', P v os' → Here p l e R s m args below meth c Z F B h0 A y bytes mL ret T' (k + rm.cells) (n + rm.slots) (os' ++ rst) → Go p e below G (T'.setTop (mkF m (pc + 3) ls (v.toList ++ rest)))) : Go p e below G (T.setTop (mkF m pc ls st)) := by
  obtain ⟨H0, locs, X, hL, hI⟩ := W
  subst has hst
  obtain ⟨v, _, ⟨T', L', k', n'⟩, -, X', ⟨Lc, hQ, l1, y1, z1⟩, stp⟩ := X.specialBack H0.1 (y := y') hy1 H0.2.2.2.2.1 (mvT H0.2.1 w1) (mvT H0.2.1 w2) (mvT H0.2.1 w4) hy (backOf (W := Wt) (C T.heap (S.loc hI.2.1) (S.ge hI hL) (Nat.le_trans hL.2.2 hI.1.1)) H0.2.1 w4 w3 hfr hlo) (g := mkF m pc ls (argsL.reverse ++ .ref a :: rest)) rfl (hsz.trans H0.2.2.2.1.symm) (Steps.refl _) (a := a) (argsL := argsL) (rest := rest) (lenOf hpd hpl) rfl (by show 2 * 0 + _ ≤ _; omega) (hb H0.2.2.1 hd) (fun _ _ => ⟨rfl, rfl, hc, hs⟩)
  dsimp only [Pt.U, Pt.locs, Pt.cells, Pt.slots] at X' l1 y1 z1 stp hQ
  subst l1 y1 z1
  obtain ⟨hLc, os', hI', hp⟩ := hQ
  exact (K T' v os' hp ⟨H0, _, X', Spl.locs hL hLc, S.after hI hI'⟩).to stp
theorem g_virtual {index Wt : Nat} {y' : MethodName} {bytes' : ByteArray} {mL' : Nat} {ret' : Option FieldType} {rm : Room} {as : Array Value} {loc rst : List Ob} {P : Option Value → List Ob → Prop} {argsL rest : List Value} {ps : List FieldType} {r : Option FieldType} {a : Addr} {i : Nat} {vs : List Value} (W : Here p l e R s m args below meth c Z F B h0 A y bytes mL ret T k n os) (w1 : (Jvm.Cond.methodLink y.cls index y').before a0 Z = true) (w2 : (Jvm.Cond.instanceMethod y').before a0 Z = true) (w3 : (Jvm.Cond.initialized y'.cls).before a0 Z = true) (w4 : (Jvm.Cond.code y' bytes' mL' ret').before a0 Z = true)
    (w5 : (Jvm.Cond.declares y').before a0 Z = true) (w6 : (Jvm.Cond.selects y'.cls y' y').before a0 Z = true) (hi : os[i]? = some (a, .object y'.cls, vs))
    (hy : y'.cls ≠ "java/lang/invoke/MethodHandle" ∧ y'.cls ≠ "java/lang/invoke/VarHandle") (C : Con l Z F B y' bytes' mL' ret' rm [] as loc P) (S : Spl os loc rst) (has : as = (.ref a :: argsL).toArray) (hpd : parseMethodDescriptor y'.desc = some ⟨ps, r⟩) (hpl : argsL.length = ps.length)
    (hst : st = argsL.reverse ++ .ref a :: rest) (hsz : ls.size = mL) (hW : (rest.map fun v => v.category).sum ≤ Wt) (hfr : rm.frames + 1 ≤ R.frames) (hlo : Wt + (mL' + 11) + rm.locals ≤ R.locals) (hc : k + rm.cells ≤ R.cells) (hs : n + rm.slots ≤ R.slots) (hd : decode bytes pc = .ok (.invokevirtual index, 3)) (K : ∀ T' v os', P v os' → Here p l e R s m args below meth c Z F B h0 A y bytes mL ret T' (k + rm.cells) (n + rm.slots) (os' ++ rst) → Go p e below G (T'.setTop (mkF m (pc + 3) ls (v.toList ++ rest)))) : Go p e below G (T.setTop (mkF m pc ls st)) := by
  obtain ⟨H0, locs, X, hL, hI⟩ := W
  subst has hst
  have O : Oat F Z T.heap a (.object y'.cls) vs := hI.2.1.get hi
  obtain ⟨cq, kq, qa, qb, qc⟩ := isOf H0.2.1 rfl O.1
  obtain ⟨v, _, ⟨T', L', k', n'⟩, -, X', ⟨Lc, hQ, l1, y1, z1⟩, stp⟩ := X.virtualBack H0.1 (y := y') (z := y') H0.2.2.2.2.1 (mvT H0.2.1 w1) (mvT H0.2.1 w5) (notFace_of_selects (args := #[]) (mvT H0.2.1 w6)) (mvT H0.2.1 w6) (mvT H0.2.1 w2) hy (backOf (W := Wt) (C T.heap (S.loc hI.2.1) (S.ge hI hL) (Nat.le_trans hL.2.2 hI.1.1)) H0.2.1 w4 w3 hfr hlo) qa qc (g := mkF m pc ls (argsL.reverse ++ .ref a :: rest)) rfl (hsz.trans H0.2.2.2.1.symm) (Steps.refl _) (argsL := argsL) (rest := rest) (lenOf hpd hpl) rfl (by show 2 * 0 + _ ≤ _; omega) (hb H0.2.2.1 hd) (fun _ _ => ⟨rfl, rfl, hc, hs⟩)
  dsimp only [Pt.U, Pt.locs, Pt.cells, Pt.slots] at X' l1 y1 z1 stp hQ
  subst l1 y1 z1
  obtain ⟨hLc, os', hI', hp⟩ := hQ
  exact (K T' v os' hp ⟨H0, _, X', Spl.locs hL hLc, S.after hI hI'⟩).to stp
theorem g_object {index : Nat} {a : Addr} (Wt : Nat) (W : Here p l e R s m args below meth c Z F B h0 A y bytes mL ret T k n os) (w1 : (Jvm.Cond.methodLink y.cls index Lib.objectInit).before a0 Z = true) (w2 : (Jvm.Cond.instanceMethod Lib.objectInit).before a0 Z = true) (w3 : (Jvm.Cond.code Lib.objectInit ⟨#[0xb1]⟩ 1 none).before a0 Z = true)
    (hsz : ls.size = mL) (hW : (st.map fun v => v.category).sum ≤ Wt) (hfr : 1 ≤ R.frames) (hlo : Wt + 12 ≤ R.locals) (hd : decode bytes pc = .ok (.invokespecial index, 3)) (K : ∀ T', Here p l e R s m args below meth c Z F B h0 A y bytes mL ret T' k n os → Go p e below G (T'.setTop (mkF m (pc + 3) ls (st)))) : Go p e below G (T.setTop (mkF m pc ls (.ref a :: st))) := by
  obtain ⟨H0, locs, X, hL, hI⟩ := W
  obtain ⟨T', X', e', stp⟩ := initO X H0.1 H0.2.1 H0.2.2.2.2.1 w1 w2 w3 rfl (g := mkF m pc ls (.ref a :: st)) rfl (hsz.trans H0.2.2.2.1.symm) rfl (hb H0.2.2.1 hd) hfr (W := Wt) (by show 2 * 0 + _ ≤ _; omega) hlo
  exact (K T' ⟨H0, locs, X', hL, by rw [e']; exact hI⟩).by stp
theorem g_clone {index i Wt : Nat} {a : Addr} {ty : FieldType} {vs : List Value} {ad : String} (cap : Nat) (W : Here p l e R s m args below meth c Z F B h0 A y bytes mL ret T k n os) (w1 : (Jvm.Cond.methodLink y.cls index ⟨ad, "clone", "()Ljava/lang/Object;"⟩).before a0 Z = true) (w2 : (Jvm.Cond.sameMethod ad "java/lang/Object" "clone" "()Ljava/lang/Object;").before a0 Z = true) (w3 : (Jvm.Cond.native ⟨"java/lang/Object", "clone", "()Ljava/lang/Object;"⟩).before a0 Z = true)
    (w4 : (Jvm.Cond.instanceMethod ⟨"java/lang/Object", "clone", "()Ljava/lang/Object;"⟩).before a0 Z = true) (w5 : (Jvm.Cond.selects ad ⟨ad, "clone", "()Ljava/lang/Object;"⟩ ⟨"java/lang/Object", "clone", "()Ljava/lang/Object;"⟩).before a0 Z = true) (w6 : (Jvm.Cond.castable ad "java/lang/Cloneable").before a0 Z = true)
    (had : "[" ++ ty.toString = ad) (hi : os[i]? = some (a, .array ty, vs)) (hsz : ls.size = mL) (hW : (st.map fun v => v.category).sum ≤ Wt) (hfr : 1 ≤ R.frames) (hlo : Wt + 14 ≤ R.locals) (hcap : vs.length ≤ cap) (hc : k + 1 ≤ R.cells) (hs : n + cap ≤ R.slots) (hd : decode bytes pc = .ok (.invokevirtual index, 3))
    (K : ∀ T' b, Here p l e R s m args below meth c Z F B h0 A y bytes mL ret T' (k + 1) (n + cap) (os ++ [(b, .array ty, vs)]) → Go p e below G (T'.setTop (mkF m (pc + 3) ls (.ref b :: st)))) : Go p e below G (T.setTop (mkF m pc ls (.ref a :: st))) := by
  obtain ⟨H0, locs, X, hL, hI⟩ := W
  subst had
  have O : Oat F Z T.heap a (.array ty) vs := hI.2.1.get hi
  obtain ⟨E, f, cl, Ar, S⟩ := O
  have FC : FitC Z cl := fitC_of Ar fun i hi v hv => f v (by rw [S] at hv; exact List.mem_of_getElem? (by simpa using hv))
  obtain ⟨T', h', X', e', E', A', Ex, stp⟩ := cloneA X H0.1 H0.2.1 H0.2.2.2.2.1 w1 w2 w3 w4 w5 w6 rfl Ar E FC (g := mkF m pc ls (.ref a :: st)) rfl (hsz.trans H0.2.2.2.1.symm) rfl (hb H0.2.2.1 hd) hfr (W := Wt) (cap := cap) (by show 2 * 0 + _ ≤ _; omega) hlo (by rw [S]; simpa using hcap) hc hs
  refine (K T' T.heap.size ⟨H0, locs, X', hL, ?_⟩).by stp
  rw [e']
  exact hI.push E' ⟨Ex, f, _, A', S⟩
theorem g_castarr {index i : Nat} {a : Addr} {ty : FieldType} {vs : List Value} {ad : String} (W : Here p l e R s m args below meth c Z F B h0 A y bytes mL ret T k n os) (w : (Jvm.Cond.classLink y.cls index ad).before a0 Z = true) (had : "[" ++ ty.toString = ad) (hi : os[i]? = some (a, .array ty, vs)) (hd : decode bytes pc = .ok (.checkcast index, 3)) (K : ∀ T', Here p l e R s m args below meth c Z F B h0 A y bytes mL ret T' k n os → Go p e below G (T'.setTop (mkF m (pc + 3) ls (.ref a :: st)))) : Go p e below G (T.setTop (mkF m pc ls (.ref a :: st))) := by
  obtain ⟨H0, locs, X, hL, hI⟩ := W
  subst had
  have O : Oat F Z T.heap a (.array ty) vs := hI.2.1.get hi
  obtain ⟨T', X', e', stp⟩ := castY X H0.1 H0.2.1 H0.2.2.2.2.1 w rfl (Ins.self O.1) (g := mkF m pc ls (.ref a :: st)) rfl rfl (hb H0.2.2.1 hd)
  exact (K T' ⟨H0, locs, X', hL, by rw [e']; exact hI⟩).by stp
theorem Oat.arv {h : Heap} {a : Addr} {ty : FieldType} {vs : List Value} (O : Oat F Z h a (.array ty) vs) (hl : vs.length < 2 ^ 31) (d : Value) : ∃ kk, Arv Z h a kk ty vs.length.toInt32 vs d := by
  obtain ⟨E, f, cl, Ar, S⟩ := O
  have e1 : vs.length.toInt32.toInt = vs.length := len_toInt hl
  have e2 : vs.length.toInt32.toNatClampNeg = vs.length := by simp only [Int32.toNatClampNeg, e1]; omega
  have sz : cl.slots.size = vs.length := by rw [S]; simp
  have gd : ∀ i, i < vs.length → vs.getD i d = vs.getD i d ∧ vs[i]? = some (vs.getD i d) := fun i hi => ⟨rfl, by simp [List.getD_eq_getElem?_getD, List.getElem?_eq_getElem hi]⟩
  refine ⟨cl.cls, cl, Ar, rfl, by rw [e2, sz], by rw [Int32.lt_iff_toInt_lt, e1]; simp only [Int32.reduceToInt]; omega, fun i hi => ?_, fun i hi => ?_⟩
  · rw [S]; simpa using (gd i (sz ▸ hi)).2
  · exact f _ (List.mem_of_getElem? (gd i (sz ▸ hi)).2)
theorem Oat.of_arv {h h' : Heap} {a : Addr} {ty : FieldType} {vs vs' : List Value} {kk : ClassId} {z : Int32} {d : Value} (O : Oat F Z h a (.array ty) vs) {ws : List Addr} (K : Keep h h' ws) (V : Arv Z h' a kk ty z vs' d) (hz : z.toNatClampNeg = vs'.length) : Oat F Z h' a (.array ty) vs' := by
  obtain ⟨E, f, -⟩ := O
  obtain ⟨cl, Ar, -, S, -, H, G⟩ := V
  have key : ∀ i, i < vs'.length → vs'[i]? = some (vs'.getD i d) := fun i hi => by simp [List.getD_eq_getElem?_getD, List.getElem?_eq_getElem hi]
  refine ⟨E.keep K, fun v hv => ?_, cl, Ar, ?_⟩
  · obtain ⟨i, hi⟩ := List.mem_iff_getElem?.mp hv
    have hlt := (List.getElem?_eq_some_iff.mp hi).1
    have q := G i (by rw [S, hz]; exact hlt)
    rw [key i hlt] at hi
    rw [← Option.some.inj hi]; exact q
  · refine Array.ext_getElem? fun i => ?_
    by_cases hi : i < vs'.length
    · rw [H i (by rw [S, hz]; exact hi)]; simpa using (key i hi).symm
    · rw [Array.getElem?_eq_none (by rw [S, hz]; omega), Array.getElem?_eq_none (by simpa using hi)]
theorem g_arraycopy {index i j Wt : Nat} {a b : Addr} {ty : FieldType} {vs vd vd' : List Value} {sp dp nn : Int32} {os' : List Ob} (W : Here p l e R s m args below meth c Z F B h0 A y bytes mL ret T k n os) (w1 : (Jvm.Cond.methodLink y.cls index Jvm.Stand.acN).before a0 Z = true) (w2 : (Jvm.Cond.native Jvm.Stand.acN).before a0 Z = true) (w3 : (Jvm.Cond.static Jvm.Stand.acN).before a0 Z = true) (w4 : (Jvm.Cond.initialized "java/lang/System").before a0 Z = true)
    (hi : os[i]? = some (a, .array ty, vs)) (hj : os[j]? = some (b, .array ty, vd)) (hr : refKind ty = false) (h1 : ¬ sp < 0) (h2 : ¬ dp < 0) (h3 : ¬ nn < 0) (l1 : vs.length < 2 ^ 31) (l2 : vd.length < 2 ^ 31) (h4 : sp.toNatClampNeg + nn.toNatClampNeg ≤ vs.length) (h5 : dp.toNatClampNeg + nn.toNatClampNeg ≤ vd.length)
    (hv : vd.take dp.toNatClampNeg ++ ((List.range nn.toNatClampNeg).map fun i => vs.getD (sp.toNatClampNeg + i) .null) ++ vd.drop (dp.toNatClampNeg + nn.toNatClampNeg) = vd') (ho : os.set j (b, .array ty, vd') = os')
    (hsz : ls.size = mL) (hW : (st.map fun v => v.category).sum ≤ Wt) (hfr : 1 ≤ R.frames) (hlo : Wt + (nativeFrameWords "java/lang/System" "arraycopy" 5 + 11) ≤ R.locals) (hd : decode bytes pc = .ok (.invokestatic index, 3)) (K : ∀ T', Here p l e R s m args below meth c Z F B h0 A y bytes mL ret T' k n os' → Go p e below G (T'.setTop (mkF m (pc + 3) ls (st)))) : Go p e below G (T.setTop (mkF m pc ls (.int nn :: .int dp :: .ref b :: .int sp :: .ref a :: st))) := by
  obtain ⟨H0, locs, X, hL, hI⟩ := W
  have Oa : Oat F Z T.heap a (.array ty) vs := hI.2.1.get hi
  have Ob' : Oat F Z T.heap b (.array ty) vd := hI.2.1.get hj
  obtain ⟨ka, Va⟩ := Oa.arv l1 .null
  obtain ⟨kb, Vb⟩ := Ob'.arv l2 .null
  have ez : ∀ (L : List Value), L.length < 2 ^ 31 → L.length.toInt32.toNatClampNeg = L.length := fun L hl => by
    have e1 : L.length.toInt32.toInt = L.length := len_toInt hl
    simp only [Int32.toNatClampNeg, e1]; omega
  obtain ⟨T', h', L', X', e', N', Kp, V', stp⟩ := cpA X H0.1 H0.2.1 H0.2.2.2.2.1 w1 w2 w3 w4 rfl Va Vb (Or.inl ⟨rfl, hr⟩) h1 h2 h3 (by rw [ez _ l1]; exact h4) (by rw [ez _ l2]; exact h5) rfl h5 (n0 := B) hL.1 ((hI.mem hj).ge hL.2.1 hL.2.2) (g := mkF m pc ls (.int nn :: .int dp :: .ref b :: .int sp :: .ref a :: st)) rfl (hsz.trans H0.2.2.2.1.symm) rfl (hb H0.2.2.1 hd) hfr (W := Wt) (by show 2 * 0 + _ ≤ _; omega) hlo
  refine (K T' ⟨H0, L', X', ⟨N', hL.2⟩, ?_⟩).by stp
  rw [e', ← ho]
  rw [hv] at V'
  refine hI.set hj Kp (Ob'.of_arv Kp V' ?_)
  rw [ez _ l2, ← hv]
  simp only [List.length_append, List.length_take, List.length_map, List.length_range, List.length_drop]
  omega
/-- the end: what a law's own contract gives -/
theorem Con.frame {y : MethodName} {as : Array Value} {P : Option Value → List Ob → Prop} {rm : Room} {h : Heap} {v : Option Value} {hh : Heap} {L : List Loc} (Q : Qc F Z B [] h P v hh L) : ∀ y ∈ L, B ≤ y.base := Q.1
end Own
def FM : Fm := fun c => if c = "com/example/attestry/attestry/home/ByteCursor" then [("bytes", "[B"), ("at", "I")] else []
theorem cls_ByteCursor {Z : State} {a0 : Array Value} (hw : ∀ d ∈ tables_1, d.before a0 Z = true) : Cls Z a0 FM "com/example/attestry/attestry/home/ByteCursor" := by
  have e : FM "com/example/attestry/attestry/home/ByteCursor" = [("bytes", "[B"), ("at", "I")] := by decide
  refine ⟨fun x hx => ?_, by rw [e]; decide⟩
  rw [e] at hx
  simp only [List.mem_cons, List.not_mem_nil, or_false] at hx
  rcases hx with rfl | rfl
  · exact ⟨Or.inr (hw _ (List.mem_of_getElem? (i := 11) rfl)), (.array .byte), by decide⟩
  · exact ⟨Or.inl (hw _ (List.mem_of_getElem? (i := 13) rfl)), .int, by decide⟩
theorem pd___I : parseMethodDescriptor "()I" = some ⟨[], some .int⟩ := by decide +kernel
theorem pd___V : parseMethodDescriptor "()V" = some ⟨[], none⟩ := by decide +kernel
theorem pd_IIIIII__Z : parseMethodDescriptor "(IIIIII)Z" = some ⟨[.int, .int, .int, .int, .int, .int], some .boolean⟩ := by decide +kernel
theorem pd_ABI__V : parseMethodDescriptor "([BI)V" = some ⟨[(.array .byte), .int], none⟩ := by decide +kernel
theorem d_init_0 : decode prog_1_method_1_code 0 = .ok (.aload_n 0, 1) := by decide +kernel
theorem d_init_1 : decode prog_1_method_1_code 1 = .ok (.invokespecial 1, 3) := by decide +kernel
theorem d_init_4 : decode prog_1_method_1_code 4 = .ok (.aload_n 0, 1) := by decide +kernel
theorem d_init_5 : decode prog_1_method_1_code 5 = .ok (.aload_n 1, 1) := by decide +kernel
theorem d_init_6 : decode prog_1_method_1_code 6 = .ok (.putfield 7, 3) := by decide +kernel
theorem d_init_9 : decode prog_1_method_1_code 9 = .ok (.aload_n 0, 1) := by decide +kernel
theorem d_init_10 : decode prog_1_method_1_code 10 = .ok (.iload_n 2, 1) := by decide +kernel
theorem d_init_11 : decode prog_1_method_1_code 11 = .ok (.putfield 13, 3) := by decide +kernel
theorem d_init_14 : decode prog_1_method_1_code 14 = .ok (.return_, 1) := by decide +kernel
set_option maxRecDepth 65536 in
set_option maxHeartbeats 40000000 in
theorem c_init (l : Launch) (Z : State) (a0 : Array Value) (hw : ∀ d ∈ tables_1, d.before a0 Z = true) {B : Nat} (a b : Addr) (k : Int32) :
    Con l Z FM B (⟨"com/example/attestry/attestry/home/ByteCursor", "<init>", "([BI)V"⟩ : MethodName) prog_1_method_1_code 3 none ({ frames := 1, cells := 0, slots := 0, locals := 12 } : Room) [] #[.ref a, .ref b, .int k] [(a, (.object "com/example/attestry/attestry/home/ByteCursor"), [.null, .int (0 : Int32)])] (fun v os => v = none ∧ os = [(a, (.object "com/example/attestry/attestry/home/ByteCursor"), [.ref b, .int k])]) := by
  refine Con.of (plainFor_of_name (by first | (simp [plainName, overriddenIn]; done) | decide +kernel)) (ls := #[.val (.ref a), .val (.ref b), .val (.int k)]) (fun m => by first | (simp [entryFrame, mkF, argsToLocals, Value.category]; done) | rfl) ?_
  intro p_ e_ h_ s_ m_ bl_ me_ c_ T0 W0
  refine g_aload_n (pc := 0) W0 d_init_0 rfl rfl ?_
  refine g_object (pc := 1) 0 W0 (hw _ (List.mem_of_getElem? (i := 7) rfl)) (hw _ (List.mem_of_getElem? (i := 8) rfl)) (hw _ (List.mem_of_getElem? (i := 9) rfl)) rfl (Nat.le_of_ble_eq_true rfl) (by decide) (by decide) d_init_1 (fun T1 W2 => ?_)
  refine g_aload_n (pc := 4) W2 d_init_4 rfl rfl ?_
  refine g_aload_n (pc := 5) W2 d_init_5 rfl rfl ?_
  refine g_putfield (pc := 6) (i := 0) (j := 0) (ty := (.array .byte)) (os' := [(a, (.object "com/example/attestry/attestry/home/ByteCursor"), [.ref b, .int (0 : Int32)])]) (host := "") W2 (Or.inl (hw _ (List.mem_of_getElem? (i := 10) rfl))) (cls_ByteCursor hw) (Or.inr ⟨(hw _ (List.mem_of_getElem? (i := 11) rfl)), rfl, rfl⟩) (hw _ (List.mem_of_getElem? (i := 2) rfl)) rfl rfl rfl (by decide) rfl rfl rfl d_init_6 (fun T3 W4 => ?_)
  refine g_aload_n (pc := 9) W4 d_init_9 rfl rfl ?_
  refine g_iload_n (pc := 10) W4 d_init_10 rfl ?_
  refine g_putfield (pc := 11) (i := 0) (j := 1) (ty := .int) (os' := [(a, (.object "com/example/attestry/attestry/home/ByteCursor"), [.ref b, .int k])]) (host := "") W4 (Or.inl (hw _ (List.mem_of_getElem? (i := 12) rfl))) (cls_ByteCursor hw) (Or.inl (hw _ (List.mem_of_getElem? (i := 13) rfl))) (hw _ (List.mem_of_getElem? (i := 2) rfl)) rfl rfl rfl (by decide) rfl rfl rfl d_init_11 (fun T5 W6 => ?_)
  exact g_return (pc := 14) rfl W6 d_init_14 (by decide) (by decide) ⟨rfl, rfl⟩
theorem d_at_0 : decode prog_1_method_3_code 0 = .ok (.aload_n 0, 1) := by decide +kernel
theorem d_at_1 : decode prog_1_method_3_code 1 = .ok (.getfield 13, 3) := by decide +kernel
theorem d_at_4 : decode prog_1_method_3_code 4 = .ok (.ireturn, 1) := by decide +kernel
set_option maxRecDepth 65536 in
set_option maxHeartbeats 40000000 in
theorem c_at (l : Launch) (Z : State) (a0 : Array Value) (hw : ∀ d ∈ tables_1, d.before a0 Z = true) {B : Nat} (a b : Addr) (k : Int32) :
    Con l Z FM B (⟨"com/example/attestry/attestry/home/ByteCursor", "at", "()I"⟩ : MethodName) prog_1_method_3_code 1 (some .int) ({ frames := 0, cells := 0, slots := 0, locals := 0 } : Room) [] #[.ref a] [(a, (.object "com/example/attestry/attestry/home/ByteCursor"), [.ref b, .int k])] (fun v os => v = some (.int k) ∧ os = [(a, (.object "com/example/attestry/attestry/home/ByteCursor"), [.ref b, .int k])]) := by
  refine Con.of (plainFor_of_name (by first | (simp [plainName, overriddenIn]; done) | decide +kernel)) (ls := #[.val (.ref a)]) (fun m => by first | (simp [entryFrame, mkF, argsToLocals, Value.category]; done) | rfl) ?_
  intro p_ e_ h_ s_ m_ bl_ me_ c_ T0 W0
  refine g_aload_n (pc := 0) W0 d_at_0 rfl rfl ?_
  refine g_getfield (pc := 1) (i := 0) (j := 1) (host := "") W0 (Or.inl (hw _ (List.mem_of_getElem? (i := 12) rfl))) rfl rfl rfl d_at_1 (fun T1 W2 => ?_)
  exact g_ireturn (pc := 4) rfl W2 d_at_4 (by decide) (by decide) ⟨rfl, rfl⟩
theorem d_c_wh01_0 : decode prog_1_method_6_code 0 = .ok (.iconst 0, 1) := by decide +kernel
theorem d_c_wh01_1 : decode prog_1_method_6_code 1 = .ok (.istore_n 1, 1) := by decide +kernel
theorem d_c_wh01_2 : decode prog_1_method_6_code 2 = .ok (.iconst 0, 1) := by decide +kernel
theorem d_c_wh01_3 : decode prog_1_method_6_code 3 = .ok (.istore_n 2, 1) := by decide +kernel
theorem d_c_wh01_4 : decode prog_1_method_6_code 4 = .ok (.aload_n 0, 1) := by decide +kernel
theorem d_c_wh01_5 : decode prog_1_method_6_code 5 = .ok (.getfield 7, 3) := by decide +kernel
theorem d_c_wh01_8 : decode prog_1_method_6_code 8 = .ok (.aload_n 0, 1) := by decide +kernel
theorem d_c_wh01_9 : decode prog_1_method_6_code 9 = .ok (.dup, 1) := by decide +kernel
theorem d_c_wh01_10 : decode prog_1_method_6_code 10 = .ok (.getfield 13, 3) := by decide +kernel
theorem d_c_wh01_13 : decode prog_1_method_6_code 13 = .ok (.dup_x1, 1) := by decide +kernel
theorem d_c_wh01_14 : decode prog_1_method_6_code 14 = .ok (.iconst 1, 1) := by decide +kernel
theorem d_c_wh01_15 : decode prog_1_method_6_code 15 = .ok (.iadd, 1) := by decide +kernel
theorem d_c_wh01_16 : decode prog_1_method_6_code 16 = .ok (.putfield 13, 3) := by decide +kernel
theorem d_c_wh01_19 : decode prog_1_method_6_code 19 = .ok (.baload, 1) := by decide +kernel
theorem d_c_wh01_20 : decode prog_1_method_6_code 20 = .ok (.istore_n 3, 1) := by decide +kernel
theorem d_c_wh01_21 : decode prog_1_method_6_code 21 = .ok (.iload_n 1, 1) := by decide +kernel
theorem d_c_wh01_22 : decode prog_1_method_6_code 22 = .ok (.iload_n 3, 1) := by decide +kernel
theorem d_c_wh01_23 : decode prog_1_method_6_code 23 = .ok (.bipush 127, 2) := by decide +kernel
theorem d_c_wh01_25 : decode prog_1_method_6_code 25 = .ok (.iand, 1) := by decide +kernel
theorem d_c_wh01_26 : decode prog_1_method_6_code 26 = .ok (.iload_n 2, 1) := by decide +kernel
theorem d_c_wh01_27 : decode prog_1_method_6_code 27 = .ok (.ishl, 1) := by decide +kernel
theorem d_c_wh01_28 : decode prog_1_method_6_code 28 = .ok (.ior, 1) := by decide +kernel
theorem d_c_wh01_29 : decode prog_1_method_6_code 29 = .ok (.istore_n 1, 1) := by decide +kernel
theorem d_c_wh01_30 : decode prog_1_method_6_code 30 = .ok (.iload_n 3, 1) := by decide +kernel
theorem d_c_wh01_31 : decode prog_1_method_6_code 31 = .ok (.ifCond .lt 5, 3) := by decide +kernel
theorem d_c_wh01_34 : decode prog_1_method_6_code 34 = .ok (.iload_n 1, 1) := by decide +kernel
theorem d_c_wh01_35 : decode prog_1_method_6_code 35 = .ok (.ireturn, 1) := by decide +kernel
set_option maxRecDepth 65536 in
set_option maxHeartbeats 40000000 in
theorem c_wh01 (l : Launch) (Z : State) (a0 : Array Value) (hw : ∀ d ∈ tables_1, d.before a0 Z = true) {B : Nat} (a b : Addr) (x0 x1 x2 x3 x4 x5 : Int32) (h0 : ¬ x0 < 0) :
    Con l Z FM B (⟨"com/example/attestry/attestry/home/ByteCursor", "whole", "()I"⟩ : MethodName) prog_1_method_6_code 4 (some .int) ({ frames := 0, cells := 0, slots := 0, locals := 0 } : Room) [] #[.ref a] [(a, (.object "com/example/attestry/attestry/home/ByteCursor"), [.ref b, .int (0 : Int32)]), (b, (.array .byte), [.int x0, .int x1, .int x2, .int x3, .int x4, .int x5])] (fun v os => v = some (.int ((0 : Int32) ||| ((x0 &&& (127 : Int32)) <<< ((0 : Int32) &&& 31)))) ∧ os = [(a, (.object "com/example/attestry/attestry/home/ByteCursor"), [.ref b, .int (1 : Int32)]), (b, (.array .byte), [.int x0, .int x1, .int x2, .int x3, .int x4, .int x5])]) := by
  refine Con.of (plainFor_of_name (by first | (simp [plainName, overriddenIn]; done) | decide +kernel)) (ls := #[.val (.ref a), .unset, .unset, .unset]) (fun m => by first | (simp [entryFrame, mkF, argsToLocals, Value.category]; done) | rfl) ?_
  intro p_ e_ h_ s_ m_ bl_ me_ c_ T0 W0
  refine g_iconst (pc := 0) (0 : Int32) (by decide) W0 d_c_wh01_0 ?_
  refine g_istore_n (pc := 1) (ls' := #[.val (.ref a), .val (.int (0 : Int32)), .unset, .unset]) W0 d_c_wh01_1 rfl ?_
  refine g_iconst (pc := 2) (0 : Int32) (by decide) W0 d_c_wh01_2 ?_
  refine g_istore_n (pc := 3) (ls' := #[.val (.ref a), .val (.int (0 : Int32)), .val (.int (0 : Int32)), .unset]) W0 d_c_wh01_3 rfl ?_
  refine g_aload_n (pc := 4) W0 d_c_wh01_4 rfl rfl ?_
  refine g_getfield (pc := 5) (i := 0) (j := 0) (host := "") W0 (Or.inl (hw _ (List.mem_of_getElem? (i := 10) rfl))) rfl rfl rfl d_c_wh01_5 (fun T1 W2 => ?_)
  refine g_aload_n (pc := 8) W2 d_c_wh01_8 rfl rfl ?_
  refine g_dup (pc := 9) W2 d_c_wh01_9 rfl ?_
  refine g_getfield (pc := 10) (i := 0) (j := 1) (host := "") W2 (Or.inl (hw _ (List.mem_of_getElem? (i := 12) rfl))) rfl rfl rfl d_c_wh01_10 (fun T3 W4 => ?_)
  refine g_dup_x1 (pc := 13) W4 d_c_wh01_13 rfl rfl ?_
  refine g_iconst (pc := 14) (1 : Int32) (by decide) W4 d_c_wh01_14 ?_
  refine g_iadd (pc := 15) W4 d_c_wh01_15 ?_
  show Go p_ e_ bl_ _ (T3.setTop (mkF m_ 16 #[.val (.ref a), .val (.int (0 : Int32)), .val (.int (0 : Int32)), .unset] [.int (1 : Int32), .ref a, .int (0 : Int32), .ref b]))
  refine g_putfield (pc := 16) (i := 0) (j := 1) (ty := .int) (os' := [(a, (.object "com/example/attestry/attestry/home/ByteCursor"), [.ref b, .int (1 : Int32)]), (b, (.array .byte), [.int x0, .int x1, .int x2, .int x3, .int x4, .int x5])]) (host := "") W4 (Or.inl (hw _ (List.mem_of_getElem? (i := 12) rfl))) (cls_ByteCursor hw) (Or.inl (hw _ (List.mem_of_getElem? (i := 13) rfl))) (hw _ (List.mem_of_getElem? (i := 2) rfl)) rfl rfl rfl (by decide) rfl rfl rfl d_c_wh01_16 (fun T5 W6 => ?_)
  refine g_baload (pc := 19) (i := 1) (v := .int x0) W6 rfl (by decide) rfl d_c_wh01_19 ?_
  refine g_istore_n (pc := 20) (ls' := #[.val (.ref a), .val (.int (0 : Int32)), .val (.int (0 : Int32)), .val (.int x0)]) W6 d_c_wh01_20 rfl ?_
  refine g_iload_n (pc := 21) W6 d_c_wh01_21 rfl ?_
  refine g_iload_n (pc := 22) W6 d_c_wh01_22 rfl ?_
  refine g_bipush (pc := 23) (127 : Int32) (by decide) W6 d_c_wh01_23 ?_
  refine g_iand (pc := 25) W6 d_c_wh01_25 ?_
  refine g_iload_n (pc := 26) W6 d_c_wh01_26 rfl ?_
  refine g_ishl (pc := 27) W6 d_c_wh01_27 ?_
  refine g_ior (pc := 28) W6 d_c_wh01_28 ?_
  refine g_istore_n (pc := 29) (ls' := #[.val (.ref a), .val (.int ((0 : Int32) ||| ((x0 &&& (127 : Int32)) <<< ((0 : Int32) &&& 31)))), .val (.int (0 : Int32)), .val (.int x0)]) W6 d_c_wh01_29 rfl ?_
  refine g_iload_n (pc := 30) W6 d_c_wh01_30 rfl ?_
  refine g_ifN (pc := 31) W6 d_c_wh01_31 (flt h0).1 ?_
  refine g_iload_n (pc := 34) W6 d_c_wh01_34 rfl ?_
  exact g_ireturn (pc := 35) rfl W6 d_c_wh01_35 (by decide) (by decide) ⟨rfl, rfl⟩
theorem d_c_wh02_0 : decode prog_1_method_6_code 0 = .ok (.iconst 0, 1) := by decide +kernel
theorem d_c_wh02_1 : decode prog_1_method_6_code 1 = .ok (.istore_n 1, 1) := by decide +kernel
theorem d_c_wh02_2 : decode prog_1_method_6_code 2 = .ok (.iconst 0, 1) := by decide +kernel
theorem d_c_wh02_3 : decode prog_1_method_6_code 3 = .ok (.istore_n 2, 1) := by decide +kernel
theorem d_c_wh02_4 : decode prog_1_method_6_code 4 = .ok (.aload_n 0, 1) := by decide +kernel
theorem d_c_wh02_5 : decode prog_1_method_6_code 5 = .ok (.getfield 7, 3) := by decide +kernel
theorem d_c_wh02_8 : decode prog_1_method_6_code 8 = .ok (.aload_n 0, 1) := by decide +kernel
theorem d_c_wh02_9 : decode prog_1_method_6_code 9 = .ok (.dup, 1) := by decide +kernel
theorem d_c_wh02_10 : decode prog_1_method_6_code 10 = .ok (.getfield 13, 3) := by decide +kernel
theorem d_c_wh02_13 : decode prog_1_method_6_code 13 = .ok (.dup_x1, 1) := by decide +kernel
theorem d_c_wh02_14 : decode prog_1_method_6_code 14 = .ok (.iconst 1, 1) := by decide +kernel
theorem d_c_wh02_15 : decode prog_1_method_6_code 15 = .ok (.iadd, 1) := by decide +kernel
theorem d_c_wh02_16 : decode prog_1_method_6_code 16 = .ok (.putfield 13, 3) := by decide +kernel
theorem d_c_wh02_19 : decode prog_1_method_6_code 19 = .ok (.baload, 1) := by decide +kernel
theorem d_c_wh02_20 : decode prog_1_method_6_code 20 = .ok (.istore_n 3, 1) := by decide +kernel
theorem d_c_wh02_21 : decode prog_1_method_6_code 21 = .ok (.iload_n 1, 1) := by decide +kernel
theorem d_c_wh02_22 : decode prog_1_method_6_code 22 = .ok (.iload_n 3, 1) := by decide +kernel
theorem d_c_wh02_23 : decode prog_1_method_6_code 23 = .ok (.bipush 127, 2) := by decide +kernel
theorem d_c_wh02_25 : decode prog_1_method_6_code 25 = .ok (.iand, 1) := by decide +kernel
theorem d_c_wh02_26 : decode prog_1_method_6_code 26 = .ok (.iload_n 2, 1) := by decide +kernel
theorem d_c_wh02_27 : decode prog_1_method_6_code 27 = .ok (.ishl, 1) := by decide +kernel
theorem d_c_wh02_28 : decode prog_1_method_6_code 28 = .ok (.ior, 1) := by decide +kernel
theorem d_c_wh02_29 : decode prog_1_method_6_code 29 = .ok (.istore_n 1, 1) := by decide +kernel
theorem d_c_wh02_30 : decode prog_1_method_6_code 30 = .ok (.iload_n 3, 1) := by decide +kernel
theorem d_c_wh02_31 : decode prog_1_method_6_code 31 = .ok (.ifCond .lt 5, 3) := by decide +kernel
theorem d_c_wh02_34 : decode prog_1_method_6_code 34 = .ok (.iload_n 1, 1) := by decide +kernel
theorem d_c_wh02_35 : decode prog_1_method_6_code 35 = .ok (.ireturn, 1) := by decide +kernel
theorem d_c_wh02_36 : decode prog_1_method_6_code 36 = .ok (.iinc 2 7, 3) := by decide +kernel
theorem d_c_wh02_39 : decode prog_1_method_6_code 39 = .ok (.goto (-35), 3) := by decide +kernel
set_option maxRecDepth 65536 in
set_option maxHeartbeats 40000000 in
theorem c_wh02 (l : Launch) (Z : State) (a0 : Array Value) (hw : ∀ d ∈ tables_1, d.before a0 Z = true) {B : Nat} (a b : Addr) (x0 x1 x2 x3 x4 x5 : Int32) (h0 : x0 < 0) (h1 : ¬ x1 < 0) :
    Con l Z FM B (⟨"com/example/attestry/attestry/home/ByteCursor", "whole", "()I"⟩ : MethodName) prog_1_method_6_code 4 (some .int) ({ frames := 0, cells := 0, slots := 0, locals := 0 } : Room) [] #[.ref a] [(a, (.object "com/example/attestry/attestry/home/ByteCursor"), [.ref b, .int (0 : Int32)]), (b, (.array .byte), [.int x0, .int x1, .int x2, .int x3, .int x4, .int x5])] (fun v os => v = some (.int (((0 : Int32) ||| ((x0 &&& (127 : Int32)) <<< ((0 : Int32) &&& 31))) ||| ((x1 &&& (127 : Int32)) <<< ((7 : Int32) &&& 31)))) ∧ os = [(a, (.object "com/example/attestry/attestry/home/ByteCursor"), [.ref b, .int (2 : Int32)]), (b, (.array .byte), [.int x0, .int x1, .int x2, .int x3, .int x4, .int x5])]) := by
  refine Con.of (plainFor_of_name (by first | (simp [plainName, overriddenIn]; done) | decide +kernel)) (ls := #[.val (.ref a), .unset, .unset, .unset]) (fun m => by first | (simp [entryFrame, mkF, argsToLocals, Value.category]; done) | rfl) ?_
  intro p_ e_ h_ s_ m_ bl_ me_ c_ T0 W0
  refine g_iconst (pc := 0) (0 : Int32) (by decide) W0 d_c_wh02_0 ?_
  refine g_istore_n (pc := 1) (ls' := #[.val (.ref a), .val (.int (0 : Int32)), .unset, .unset]) W0 d_c_wh02_1 rfl ?_
  refine g_iconst (pc := 2) (0 : Int32) (by decide) W0 d_c_wh02_2 ?_
  refine g_istore_n (pc := 3) (ls' := #[.val (.ref a), .val (.int (0 : Int32)), .val (.int (0 : Int32)), .unset]) W0 d_c_wh02_3 rfl ?_
  refine g_aload_n (pc := 4) W0 d_c_wh02_4 rfl rfl ?_
  refine g_getfield (pc := 5) (i := 0) (j := 0) (host := "") W0 (Or.inl (hw _ (List.mem_of_getElem? (i := 10) rfl))) rfl rfl rfl d_c_wh02_5 (fun T1 W2 => ?_)
  refine g_aload_n (pc := 8) W2 d_c_wh02_8 rfl rfl ?_
  refine g_dup (pc := 9) W2 d_c_wh02_9 rfl ?_
  refine g_getfield (pc := 10) (i := 0) (j := 1) (host := "") W2 (Or.inl (hw _ (List.mem_of_getElem? (i := 12) rfl))) rfl rfl rfl d_c_wh02_10 (fun T3 W4 => ?_)
  refine g_dup_x1 (pc := 13) W4 d_c_wh02_13 rfl rfl ?_
  refine g_iconst (pc := 14) (1 : Int32) (by decide) W4 d_c_wh02_14 ?_
  refine g_iadd (pc := 15) W4 d_c_wh02_15 ?_
  show Go p_ e_ bl_ _ (T3.setTop (mkF m_ 16 #[.val (.ref a), .val (.int (0 : Int32)), .val (.int (0 : Int32)), .unset] [.int (1 : Int32), .ref a, .int (0 : Int32), .ref b]))
  refine g_putfield (pc := 16) (i := 0) (j := 1) (ty := .int) (os' := [(a, (.object "com/example/attestry/attestry/home/ByteCursor"), [.ref b, .int (1 : Int32)]), (b, (.array .byte), [.int x0, .int x1, .int x2, .int x3, .int x4, .int x5])]) (host := "") W4 (Or.inl (hw _ (List.mem_of_getElem? (i := 12) rfl))) (cls_ByteCursor hw) (Or.inl (hw _ (List.mem_of_getElem? (i := 13) rfl))) (hw _ (List.mem_of_getElem? (i := 2) rfl)) rfl rfl rfl (by decide) rfl rfl rfl d_c_wh02_16 (fun T5 W6 => ?_)
  refine g_baload (pc := 19) (i := 1) (v := .int x0) W6 rfl (by decide) rfl d_c_wh02_19 ?_
  refine g_istore_n (pc := 20) (ls' := #[.val (.ref a), .val (.int (0 : Int32)), .val (.int (0 : Int32)), .val (.int x0)]) W6 d_c_wh02_20 rfl ?_
  refine g_iload_n (pc := 21) W6 d_c_wh02_21 rfl ?_
  refine g_iload_n (pc := 22) W6 d_c_wh02_22 rfl ?_
  refine g_bipush (pc := 23) (127 : Int32) (by decide) W6 d_c_wh02_23 ?_
  refine g_iand (pc := 25) W6 d_c_wh02_25 ?_
  refine g_iload_n (pc := 26) W6 d_c_wh02_26 rfl ?_
  refine g_ishl (pc := 27) W6 d_c_wh02_27 ?_
  refine g_ior (pc := 28) W6 d_c_wh02_28 ?_
  refine g_istore_n (pc := 29) (ls' := #[.val (.ref a), .val (.int ((0 : Int32) ||| ((x0 &&& (127 : Int32)) <<< ((0 : Int32) &&& 31)))), .val (.int (0 : Int32)), .val (.int x0)]) W6 d_c_wh02_29 rfl ?_
  refine g_iload_n (pc := 30) W6 d_c_wh02_30 rfl ?_
  refine g_ifY 36 (pc := 31) W6 d_c_wh02_31 (by decide) (by decide) (tlt h0).1 ?_
  refine g_iinc (pc := 36) (ls' := #[.val (.ref a), .val (.int ((0 : Int32) ||| ((x0 &&& (127 : Int32)) <<< ((0 : Int32) &&& 31)))), .val (.int (7 : Int32)), .val (.int x0)]) (7 : Int32) (by decide) W6 d_c_wh02_36 rfl rfl ?_
  refine g_goto 4 (pc := 39) W6 d_c_wh02_39 (by decide) (by decide) ?_
  refine g_aload_n (pc := 4) W6 d_c_wh02_4 rfl rfl ?_
  refine g_getfield (pc := 5) (i := 0) (j := 0) (host := "") W6 (Or.inl (hw _ (List.mem_of_getElem? (i := 10) rfl))) rfl rfl rfl d_c_wh02_5 (fun T7 W8 => ?_)
  refine g_aload_n (pc := 8) W8 d_c_wh02_8 rfl rfl ?_
  refine g_dup (pc := 9) W8 d_c_wh02_9 rfl ?_
  refine g_getfield (pc := 10) (i := 0) (j := 1) (host := "") W8 (Or.inl (hw _ (List.mem_of_getElem? (i := 12) rfl))) rfl rfl rfl d_c_wh02_10 (fun T9 W10 => ?_)
  refine g_dup_x1 (pc := 13) W10 d_c_wh02_13 rfl rfl ?_
  refine g_iconst (pc := 14) (1 : Int32) (by decide) W10 d_c_wh02_14 ?_
  refine g_iadd (pc := 15) W10 d_c_wh02_15 ?_
  show Go p_ e_ bl_ _ (T9.setTop (mkF m_ 16 #[.val (.ref a), .val (.int ((0 : Int32) ||| ((x0 &&& (127 : Int32)) <<< ((0 : Int32) &&& 31)))), .val (.int (7 : Int32)), .val (.int x0)] [.int (2 : Int32), .ref a, .int (1 : Int32), .ref b]))
  refine g_putfield (pc := 16) (i := 0) (j := 1) (ty := .int) (os' := [(a, (.object "com/example/attestry/attestry/home/ByteCursor"), [.ref b, .int (2 : Int32)]), (b, (.array .byte), [.int x0, .int x1, .int x2, .int x3, .int x4, .int x5])]) (host := "") W10 (Or.inl (hw _ (List.mem_of_getElem? (i := 12) rfl))) (cls_ByteCursor hw) (Or.inl (hw _ (List.mem_of_getElem? (i := 13) rfl))) (hw _ (List.mem_of_getElem? (i := 2) rfl)) rfl rfl rfl (by decide) rfl rfl rfl d_c_wh02_16 (fun T11 W12 => ?_)
  refine g_baload (pc := 19) (i := 1) (v := .int x1) W12 rfl (by decide) rfl d_c_wh02_19 ?_
  refine g_istore_n (pc := 20) (ls' := #[.val (.ref a), .val (.int ((0 : Int32) ||| ((x0 &&& (127 : Int32)) <<< ((0 : Int32) &&& 31)))), .val (.int (7 : Int32)), .val (.int x1)]) W12 d_c_wh02_20 rfl ?_
  refine g_iload_n (pc := 21) W12 d_c_wh02_21 rfl ?_
  refine g_iload_n (pc := 22) W12 d_c_wh02_22 rfl ?_
  refine g_bipush (pc := 23) (127 : Int32) (by decide) W12 d_c_wh02_23 ?_
  refine g_iand (pc := 25) W12 d_c_wh02_25 ?_
  refine g_iload_n (pc := 26) W12 d_c_wh02_26 rfl ?_
  refine g_ishl (pc := 27) W12 d_c_wh02_27 ?_
  refine g_ior (pc := 28) W12 d_c_wh02_28 ?_
  refine g_istore_n (pc := 29) (ls' := #[.val (.ref a), .val (.int (((0 : Int32) ||| ((x0 &&& (127 : Int32)) <<< ((0 : Int32) &&& 31))) ||| ((x1 &&& (127 : Int32)) <<< ((7 : Int32) &&& 31)))), .val (.int (7 : Int32)), .val (.int x1)]) W12 d_c_wh02_29 rfl ?_
  refine g_iload_n (pc := 30) W12 d_c_wh02_30 rfl ?_
  refine g_ifN (pc := 31) W12 d_c_wh02_31 (flt h1).1 ?_
  refine g_iload_n (pc := 34) W12 d_c_wh02_34 rfl ?_
  exact g_ireturn (pc := 35) rfl W12 d_c_wh02_35 (by decide) (by decide) ⟨rfl, rfl⟩
theorem d_c_wh03_0 : decode prog_1_method_6_code 0 = .ok (.iconst 0, 1) := by decide +kernel
theorem d_c_wh03_1 : decode prog_1_method_6_code 1 = .ok (.istore_n 1, 1) := by decide +kernel
theorem d_c_wh03_2 : decode prog_1_method_6_code 2 = .ok (.iconst 0, 1) := by decide +kernel
theorem d_c_wh03_3 : decode prog_1_method_6_code 3 = .ok (.istore_n 2, 1) := by decide +kernel
theorem d_c_wh03_4 : decode prog_1_method_6_code 4 = .ok (.aload_n 0, 1) := by decide +kernel
theorem d_c_wh03_5 : decode prog_1_method_6_code 5 = .ok (.getfield 7, 3) := by decide +kernel
theorem d_c_wh03_8 : decode prog_1_method_6_code 8 = .ok (.aload_n 0, 1) := by decide +kernel
theorem d_c_wh03_9 : decode prog_1_method_6_code 9 = .ok (.dup, 1) := by decide +kernel
theorem d_c_wh03_10 : decode prog_1_method_6_code 10 = .ok (.getfield 13, 3) := by decide +kernel
theorem d_c_wh03_13 : decode prog_1_method_6_code 13 = .ok (.dup_x1, 1) := by decide +kernel
theorem d_c_wh03_14 : decode prog_1_method_6_code 14 = .ok (.iconst 1, 1) := by decide +kernel
theorem d_c_wh03_15 : decode prog_1_method_6_code 15 = .ok (.iadd, 1) := by decide +kernel
theorem d_c_wh03_16 : decode prog_1_method_6_code 16 = .ok (.putfield 13, 3) := by decide +kernel
theorem d_c_wh03_19 : decode prog_1_method_6_code 19 = .ok (.baload, 1) := by decide +kernel
theorem d_c_wh03_20 : decode prog_1_method_6_code 20 = .ok (.istore_n 3, 1) := by decide +kernel
theorem d_c_wh03_21 : decode prog_1_method_6_code 21 = .ok (.iload_n 1, 1) := by decide +kernel
theorem d_c_wh03_22 : decode prog_1_method_6_code 22 = .ok (.iload_n 3, 1) := by decide +kernel
theorem d_c_wh03_23 : decode prog_1_method_6_code 23 = .ok (.bipush 127, 2) := by decide +kernel
theorem d_c_wh03_25 : decode prog_1_method_6_code 25 = .ok (.iand, 1) := by decide +kernel
theorem d_c_wh03_26 : decode prog_1_method_6_code 26 = .ok (.iload_n 2, 1) := by decide +kernel
theorem d_c_wh03_27 : decode prog_1_method_6_code 27 = .ok (.ishl, 1) := by decide +kernel
theorem d_c_wh03_28 : decode prog_1_method_6_code 28 = .ok (.ior, 1) := by decide +kernel
theorem d_c_wh03_29 : decode prog_1_method_6_code 29 = .ok (.istore_n 1, 1) := by decide +kernel
theorem d_c_wh03_30 : decode prog_1_method_6_code 30 = .ok (.iload_n 3, 1) := by decide +kernel
theorem d_c_wh03_31 : decode prog_1_method_6_code 31 = .ok (.ifCond .lt 5, 3) := by decide +kernel
theorem d_c_wh03_34 : decode prog_1_method_6_code 34 = .ok (.iload_n 1, 1) := by decide +kernel
theorem d_c_wh03_35 : decode prog_1_method_6_code 35 = .ok (.ireturn, 1) := by decide +kernel
theorem d_c_wh03_36 : decode prog_1_method_6_code 36 = .ok (.iinc 2 7, 3) := by decide +kernel
theorem d_c_wh03_39 : decode prog_1_method_6_code 39 = .ok (.goto (-35), 3) := by decide +kernel
set_option maxRecDepth 65536 in
set_option maxHeartbeats 40000000 in
theorem c_wh03 (l : Launch) (Z : State) (a0 : Array Value) (hw : ∀ d ∈ tables_1, d.before a0 Z = true) {B : Nat} (a b : Addr) (x0 x1 x2 x3 x4 x5 : Int32) (h0 : x0 < 0) (h1 : x1 < 0) (h2 : ¬ x2 < 0) :
    Con l Z FM B (⟨"com/example/attestry/attestry/home/ByteCursor", "whole", "()I"⟩ : MethodName) prog_1_method_6_code 4 (some .int) ({ frames := 0, cells := 0, slots := 0, locals := 0 } : Room) [] #[.ref a] [(a, (.object "com/example/attestry/attestry/home/ByteCursor"), [.ref b, .int (0 : Int32)]), (b, (.array .byte), [.int x0, .int x1, .int x2, .int x3, .int x4, .int x5])] (fun v os => v = some (.int ((((0 : Int32) ||| ((x0 &&& (127 : Int32)) <<< ((0 : Int32) &&& 31))) ||| ((x1 &&& (127 : Int32)) <<< ((7 : Int32) &&& 31))) ||| ((x2 &&& (127 : Int32)) <<< ((14 : Int32) &&& 31)))) ∧ os = [(a, (.object "com/example/attestry/attestry/home/ByteCursor"), [.ref b, .int (3 : Int32)]), (b, (.array .byte), [.int x0, .int x1, .int x2, .int x3, .int x4, .int x5])]) := by
  refine Con.of (plainFor_of_name (by first | (simp [plainName, overriddenIn]; done) | decide +kernel)) (ls := #[.val (.ref a), .unset, .unset, .unset]) (fun m => by first | (simp [entryFrame, mkF, argsToLocals, Value.category]; done) | rfl) ?_
  intro p_ e_ h_ s_ m_ bl_ me_ c_ T0 W0
  refine g_iconst (pc := 0) (0 : Int32) (by decide) W0 d_c_wh03_0 ?_
  refine g_istore_n (pc := 1) (ls' := #[.val (.ref a), .val (.int (0 : Int32)), .unset, .unset]) W0 d_c_wh03_1 rfl ?_
  refine g_iconst (pc := 2) (0 : Int32) (by decide) W0 d_c_wh03_2 ?_
  refine g_istore_n (pc := 3) (ls' := #[.val (.ref a), .val (.int (0 : Int32)), .val (.int (0 : Int32)), .unset]) W0 d_c_wh03_3 rfl ?_
  refine g_aload_n (pc := 4) W0 d_c_wh03_4 rfl rfl ?_
  refine g_getfield (pc := 5) (i := 0) (j := 0) (host := "") W0 (Or.inl (hw _ (List.mem_of_getElem? (i := 10) rfl))) rfl rfl rfl d_c_wh03_5 (fun T1 W2 => ?_)
  refine g_aload_n (pc := 8) W2 d_c_wh03_8 rfl rfl ?_
  refine g_dup (pc := 9) W2 d_c_wh03_9 rfl ?_
  refine g_getfield (pc := 10) (i := 0) (j := 1) (host := "") W2 (Or.inl (hw _ (List.mem_of_getElem? (i := 12) rfl))) rfl rfl rfl d_c_wh03_10 (fun T3 W4 => ?_)
  refine g_dup_x1 (pc := 13) W4 d_c_wh03_13 rfl rfl ?_
  refine g_iconst (pc := 14) (1 : Int32) (by decide) W4 d_c_wh03_14 ?_
  refine g_iadd (pc := 15) W4 d_c_wh03_15 ?_
  show Go p_ e_ bl_ _ (T3.setTop (mkF m_ 16 #[.val (.ref a), .val (.int (0 : Int32)), .val (.int (0 : Int32)), .unset] [.int (1 : Int32), .ref a, .int (0 : Int32), .ref b]))
  refine g_putfield (pc := 16) (i := 0) (j := 1) (ty := .int) (os' := [(a, (.object "com/example/attestry/attestry/home/ByteCursor"), [.ref b, .int (1 : Int32)]), (b, (.array .byte), [.int x0, .int x1, .int x2, .int x3, .int x4, .int x5])]) (host := "") W4 (Or.inl (hw _ (List.mem_of_getElem? (i := 12) rfl))) (cls_ByteCursor hw) (Or.inl (hw _ (List.mem_of_getElem? (i := 13) rfl))) (hw _ (List.mem_of_getElem? (i := 2) rfl)) rfl rfl rfl (by decide) rfl rfl rfl d_c_wh03_16 (fun T5 W6 => ?_)
  refine g_baload (pc := 19) (i := 1) (v := .int x0) W6 rfl (by decide) rfl d_c_wh03_19 ?_
  refine g_istore_n (pc := 20) (ls' := #[.val (.ref a), .val (.int (0 : Int32)), .val (.int (0 : Int32)), .val (.int x0)]) W6 d_c_wh03_20 rfl ?_
  refine g_iload_n (pc := 21) W6 d_c_wh03_21 rfl ?_
  refine g_iload_n (pc := 22) W6 d_c_wh03_22 rfl ?_
  refine g_bipush (pc := 23) (127 : Int32) (by decide) W6 d_c_wh03_23 ?_
  refine g_iand (pc := 25) W6 d_c_wh03_25 ?_
  refine g_iload_n (pc := 26) W6 d_c_wh03_26 rfl ?_
  refine g_ishl (pc := 27) W6 d_c_wh03_27 ?_
  refine g_ior (pc := 28) W6 d_c_wh03_28 ?_
  refine g_istore_n (pc := 29) (ls' := #[.val (.ref a), .val (.int ((0 : Int32) ||| ((x0 &&& (127 : Int32)) <<< ((0 : Int32) &&& 31)))), .val (.int (0 : Int32)), .val (.int x0)]) W6 d_c_wh03_29 rfl ?_
  refine g_iload_n (pc := 30) W6 d_c_wh03_30 rfl ?_
  refine g_ifY 36 (pc := 31) W6 d_c_wh03_31 (by decide) (by decide) (tlt h0).1 ?_
  refine g_iinc (pc := 36) (ls' := #[.val (.ref a), .val (.int ((0 : Int32) ||| ((x0 &&& (127 : Int32)) <<< ((0 : Int32) &&& 31)))), .val (.int (7 : Int32)), .val (.int x0)]) (7 : Int32) (by decide) W6 d_c_wh03_36 rfl rfl ?_
  refine g_goto 4 (pc := 39) W6 d_c_wh03_39 (by decide) (by decide) ?_
  refine g_aload_n (pc := 4) W6 d_c_wh03_4 rfl rfl ?_
  refine g_getfield (pc := 5) (i := 0) (j := 0) (host := "") W6 (Or.inl (hw _ (List.mem_of_getElem? (i := 10) rfl))) rfl rfl rfl d_c_wh03_5 (fun T7 W8 => ?_)
  refine g_aload_n (pc := 8) W8 d_c_wh03_8 rfl rfl ?_
  refine g_dup (pc := 9) W8 d_c_wh03_9 rfl ?_
  refine g_getfield (pc := 10) (i := 0) (j := 1) (host := "") W8 (Or.inl (hw _ (List.mem_of_getElem? (i := 12) rfl))) rfl rfl rfl d_c_wh03_10 (fun T9 W10 => ?_)
  refine g_dup_x1 (pc := 13) W10 d_c_wh03_13 rfl rfl ?_
  refine g_iconst (pc := 14) (1 : Int32) (by decide) W10 d_c_wh03_14 ?_
  refine g_iadd (pc := 15) W10 d_c_wh03_15 ?_
  show Go p_ e_ bl_ _ (T9.setTop (mkF m_ 16 #[.val (.ref a), .val (.int ((0 : Int32) ||| ((x0 &&& (127 : Int32)) <<< ((0 : Int32) &&& 31)))), .val (.int (7 : Int32)), .val (.int x0)] [.int (2 : Int32), .ref a, .int (1 : Int32), .ref b]))
  refine g_putfield (pc := 16) (i := 0) (j := 1) (ty := .int) (os' := [(a, (.object "com/example/attestry/attestry/home/ByteCursor"), [.ref b, .int (2 : Int32)]), (b, (.array .byte), [.int x0, .int x1, .int x2, .int x3, .int x4, .int x5])]) (host := "") W10 (Or.inl (hw _ (List.mem_of_getElem? (i := 12) rfl))) (cls_ByteCursor hw) (Or.inl (hw _ (List.mem_of_getElem? (i := 13) rfl))) (hw _ (List.mem_of_getElem? (i := 2) rfl)) rfl rfl rfl (by decide) rfl rfl rfl d_c_wh03_16 (fun T11 W12 => ?_)
  refine g_baload (pc := 19) (i := 1) (v := .int x1) W12 rfl (by decide) rfl d_c_wh03_19 ?_
  refine g_istore_n (pc := 20) (ls' := #[.val (.ref a), .val (.int ((0 : Int32) ||| ((x0 &&& (127 : Int32)) <<< ((0 : Int32) &&& 31)))), .val (.int (7 : Int32)), .val (.int x1)]) W12 d_c_wh03_20 rfl ?_
  refine g_iload_n (pc := 21) W12 d_c_wh03_21 rfl ?_
  refine g_iload_n (pc := 22) W12 d_c_wh03_22 rfl ?_
  refine g_bipush (pc := 23) (127 : Int32) (by decide) W12 d_c_wh03_23 ?_
  refine g_iand (pc := 25) W12 d_c_wh03_25 ?_
  refine g_iload_n (pc := 26) W12 d_c_wh03_26 rfl ?_
  refine g_ishl (pc := 27) W12 d_c_wh03_27 ?_
  refine g_ior (pc := 28) W12 d_c_wh03_28 ?_
  refine g_istore_n (pc := 29) (ls' := #[.val (.ref a), .val (.int (((0 : Int32) ||| ((x0 &&& (127 : Int32)) <<< ((0 : Int32) &&& 31))) ||| ((x1 &&& (127 : Int32)) <<< ((7 : Int32) &&& 31)))), .val (.int (7 : Int32)), .val (.int x1)]) W12 d_c_wh03_29 rfl ?_
  refine g_iload_n (pc := 30) W12 d_c_wh03_30 rfl ?_
  refine g_ifY 36 (pc := 31) W12 d_c_wh03_31 (by decide) (by decide) (tlt h1).1 ?_
  refine g_iinc (pc := 36) (ls' := #[.val (.ref a), .val (.int (((0 : Int32) ||| ((x0 &&& (127 : Int32)) <<< ((0 : Int32) &&& 31))) ||| ((x1 &&& (127 : Int32)) <<< ((7 : Int32) &&& 31)))), .val (.int (14 : Int32)), .val (.int x1)]) (7 : Int32) (by decide) W12 d_c_wh03_36 rfl rfl ?_
  refine g_goto 4 (pc := 39) W12 d_c_wh03_39 (by decide) (by decide) ?_
  refine g_aload_n (pc := 4) W12 d_c_wh03_4 rfl rfl ?_
  refine g_getfield (pc := 5) (i := 0) (j := 0) (host := "") W12 (Or.inl (hw _ (List.mem_of_getElem? (i := 10) rfl))) rfl rfl rfl d_c_wh03_5 (fun T13 W14 => ?_)
  refine g_aload_n (pc := 8) W14 d_c_wh03_8 rfl rfl ?_
  refine g_dup (pc := 9) W14 d_c_wh03_9 rfl ?_
  refine g_getfield (pc := 10) (i := 0) (j := 1) (host := "") W14 (Or.inl (hw _ (List.mem_of_getElem? (i := 12) rfl))) rfl rfl rfl d_c_wh03_10 (fun T15 W16 => ?_)
  refine g_dup_x1 (pc := 13) W16 d_c_wh03_13 rfl rfl ?_
  refine g_iconst (pc := 14) (1 : Int32) (by decide) W16 d_c_wh03_14 ?_
  refine g_iadd (pc := 15) W16 d_c_wh03_15 ?_
  show Go p_ e_ bl_ _ (T15.setTop (mkF m_ 16 #[.val (.ref a), .val (.int (((0 : Int32) ||| ((x0 &&& (127 : Int32)) <<< ((0 : Int32) &&& 31))) ||| ((x1 &&& (127 : Int32)) <<< ((7 : Int32) &&& 31)))), .val (.int (14 : Int32)), .val (.int x1)] [.int (3 : Int32), .ref a, .int (2 : Int32), .ref b]))
  refine g_putfield (pc := 16) (i := 0) (j := 1) (ty := .int) (os' := [(a, (.object "com/example/attestry/attestry/home/ByteCursor"), [.ref b, .int (3 : Int32)]), (b, (.array .byte), [.int x0, .int x1, .int x2, .int x3, .int x4, .int x5])]) (host := "") W16 (Or.inl (hw _ (List.mem_of_getElem? (i := 12) rfl))) (cls_ByteCursor hw) (Or.inl (hw _ (List.mem_of_getElem? (i := 13) rfl))) (hw _ (List.mem_of_getElem? (i := 2) rfl)) rfl rfl rfl (by decide) rfl rfl rfl d_c_wh03_16 (fun T17 W18 => ?_)
  refine g_baload (pc := 19) (i := 1) (v := .int x2) W18 rfl (by decide) rfl d_c_wh03_19 ?_
  refine g_istore_n (pc := 20) (ls' := #[.val (.ref a), .val (.int (((0 : Int32) ||| ((x0 &&& (127 : Int32)) <<< ((0 : Int32) &&& 31))) ||| ((x1 &&& (127 : Int32)) <<< ((7 : Int32) &&& 31)))), .val (.int (14 : Int32)), .val (.int x2)]) W18 d_c_wh03_20 rfl ?_
  refine g_iload_n (pc := 21) W18 d_c_wh03_21 rfl ?_
  refine g_iload_n (pc := 22) W18 d_c_wh03_22 rfl ?_
  refine g_bipush (pc := 23) (127 : Int32) (by decide) W18 d_c_wh03_23 ?_
  refine g_iand (pc := 25) W18 d_c_wh03_25 ?_
  refine g_iload_n (pc := 26) W18 d_c_wh03_26 rfl ?_
  refine g_ishl (pc := 27) W18 d_c_wh03_27 ?_
  refine g_ior (pc := 28) W18 d_c_wh03_28 ?_
  refine g_istore_n (pc := 29) (ls' := #[.val (.ref a), .val (.int ((((0 : Int32) ||| ((x0 &&& (127 : Int32)) <<< ((0 : Int32) &&& 31))) ||| ((x1 &&& (127 : Int32)) <<< ((7 : Int32) &&& 31))) ||| ((x2 &&& (127 : Int32)) <<< ((14 : Int32) &&& 31)))), .val (.int (14 : Int32)), .val (.int x2)]) W18 d_c_wh03_29 rfl ?_
  refine g_iload_n (pc := 30) W18 d_c_wh03_30 rfl ?_
  refine g_ifN (pc := 31) W18 d_c_wh03_31 (flt h2).1 ?_
  refine g_iload_n (pc := 34) W18 d_c_wh03_34 rfl ?_
  exact g_ireturn (pc := 35) rfl W18 d_c_wh03_35 (by decide) (by decide) ⟨rfl, rfl⟩
theorem d_c_wh04_0 : decode prog_1_method_6_code 0 = .ok (.iconst 0, 1) := by decide +kernel
theorem d_c_wh04_1 : decode prog_1_method_6_code 1 = .ok (.istore_n 1, 1) := by decide +kernel
theorem d_c_wh04_2 : decode prog_1_method_6_code 2 = .ok (.iconst 0, 1) := by decide +kernel
theorem d_c_wh04_3 : decode prog_1_method_6_code 3 = .ok (.istore_n 2, 1) := by decide +kernel
theorem d_c_wh04_4 : decode prog_1_method_6_code 4 = .ok (.aload_n 0, 1) := by decide +kernel
theorem d_c_wh04_5 : decode prog_1_method_6_code 5 = .ok (.getfield 7, 3) := by decide +kernel
theorem d_c_wh04_8 : decode prog_1_method_6_code 8 = .ok (.aload_n 0, 1) := by decide +kernel
theorem d_c_wh04_9 : decode prog_1_method_6_code 9 = .ok (.dup, 1) := by decide +kernel
theorem d_c_wh04_10 : decode prog_1_method_6_code 10 = .ok (.getfield 13, 3) := by decide +kernel
theorem d_c_wh04_13 : decode prog_1_method_6_code 13 = .ok (.dup_x1, 1) := by decide +kernel
theorem d_c_wh04_14 : decode prog_1_method_6_code 14 = .ok (.iconst 1, 1) := by decide +kernel
theorem d_c_wh04_15 : decode prog_1_method_6_code 15 = .ok (.iadd, 1) := by decide +kernel
theorem d_c_wh04_16 : decode prog_1_method_6_code 16 = .ok (.putfield 13, 3) := by decide +kernel
theorem d_c_wh04_19 : decode prog_1_method_6_code 19 = .ok (.baload, 1) := by decide +kernel
theorem d_c_wh04_20 : decode prog_1_method_6_code 20 = .ok (.istore_n 3, 1) := by decide +kernel
theorem d_c_wh04_21 : decode prog_1_method_6_code 21 = .ok (.iload_n 1, 1) := by decide +kernel
theorem d_c_wh04_22 : decode prog_1_method_6_code 22 = .ok (.iload_n 3, 1) := by decide +kernel
theorem d_c_wh04_23 : decode prog_1_method_6_code 23 = .ok (.bipush 127, 2) := by decide +kernel
theorem d_c_wh04_25 : decode prog_1_method_6_code 25 = .ok (.iand, 1) := by decide +kernel
theorem d_c_wh04_26 : decode prog_1_method_6_code 26 = .ok (.iload_n 2, 1) := by decide +kernel
theorem d_c_wh04_27 : decode prog_1_method_6_code 27 = .ok (.ishl, 1) := by decide +kernel
theorem d_c_wh04_28 : decode prog_1_method_6_code 28 = .ok (.ior, 1) := by decide +kernel
theorem d_c_wh04_29 : decode prog_1_method_6_code 29 = .ok (.istore_n 1, 1) := by decide +kernel
theorem d_c_wh04_30 : decode prog_1_method_6_code 30 = .ok (.iload_n 3, 1) := by decide +kernel
theorem d_c_wh04_31 : decode prog_1_method_6_code 31 = .ok (.ifCond .lt 5, 3) := by decide +kernel
theorem d_c_wh04_34 : decode prog_1_method_6_code 34 = .ok (.iload_n 1, 1) := by decide +kernel
theorem d_c_wh04_35 : decode prog_1_method_6_code 35 = .ok (.ireturn, 1) := by decide +kernel
theorem d_c_wh04_36 : decode prog_1_method_6_code 36 = .ok (.iinc 2 7, 3) := by decide +kernel
theorem d_c_wh04_39 : decode prog_1_method_6_code 39 = .ok (.goto (-35), 3) := by decide +kernel
set_option maxRecDepth 65536 in
set_option maxHeartbeats 40000000 in
theorem c_wh04 (l : Launch) (Z : State) (a0 : Array Value) (hw : ∀ d ∈ tables_1, d.before a0 Z = true) {B : Nat} (a b : Addr) (x0 x1 x2 x3 x4 x5 : Int32) (h0 : x0 < 0) (h1 : x1 < 0) (h2 : x2 < 0) (h3 : ¬ x3 < 0) :
    Con l Z FM B (⟨"com/example/attestry/attestry/home/ByteCursor", "whole", "()I"⟩ : MethodName) prog_1_method_6_code 4 (some .int) ({ frames := 0, cells := 0, slots := 0, locals := 0 } : Room) [] #[.ref a] [(a, (.object "com/example/attestry/attestry/home/ByteCursor"), [.ref b, .int (0 : Int32)]), (b, (.array .byte), [.int x0, .int x1, .int x2, .int x3, .int x4, .int x5])] (fun v os => v = some (.int (((((0 : Int32) ||| ((x0 &&& (127 : Int32)) <<< ((0 : Int32) &&& 31))) ||| ((x1 &&& (127 : Int32)) <<< ((7 : Int32) &&& 31))) ||| ((x2 &&& (127 : Int32)) <<< ((14 : Int32) &&& 31))) ||| ((x3 &&& (127 : Int32)) <<< ((21 : Int32) &&& 31)))) ∧ os = [(a, (.object "com/example/attestry/attestry/home/ByteCursor"), [.ref b, .int (4 : Int32)]), (b, (.array .byte), [.int x0, .int x1, .int x2, .int x3, .int x4, .int x5])]) := by
  refine Con.of (plainFor_of_name (by first | (simp [plainName, overriddenIn]; done) | decide +kernel)) (ls := #[.val (.ref a), .unset, .unset, .unset]) (fun m => by first | (simp [entryFrame, mkF, argsToLocals, Value.category]; done) | rfl) ?_
  intro p_ e_ h_ s_ m_ bl_ me_ c_ T0 W0
  refine g_iconst (pc := 0) (0 : Int32) (by decide) W0 d_c_wh04_0 ?_
  refine g_istore_n (pc := 1) (ls' := #[.val (.ref a), .val (.int (0 : Int32)), .unset, .unset]) W0 d_c_wh04_1 rfl ?_
  refine g_iconst (pc := 2) (0 : Int32) (by decide) W0 d_c_wh04_2 ?_
  refine g_istore_n (pc := 3) (ls' := #[.val (.ref a), .val (.int (0 : Int32)), .val (.int (0 : Int32)), .unset]) W0 d_c_wh04_3 rfl ?_
  refine g_aload_n (pc := 4) W0 d_c_wh04_4 rfl rfl ?_
  refine g_getfield (pc := 5) (i := 0) (j := 0) (host := "") W0 (Or.inl (hw _ (List.mem_of_getElem? (i := 10) rfl))) rfl rfl rfl d_c_wh04_5 (fun T1 W2 => ?_)
  refine g_aload_n (pc := 8) W2 d_c_wh04_8 rfl rfl ?_
  refine g_dup (pc := 9) W2 d_c_wh04_9 rfl ?_
  refine g_getfield (pc := 10) (i := 0) (j := 1) (host := "") W2 (Or.inl (hw _ (List.mem_of_getElem? (i := 12) rfl))) rfl rfl rfl d_c_wh04_10 (fun T3 W4 => ?_)
  refine g_dup_x1 (pc := 13) W4 d_c_wh04_13 rfl rfl ?_
  refine g_iconst (pc := 14) (1 : Int32) (by decide) W4 d_c_wh04_14 ?_
  refine g_iadd (pc := 15) W4 d_c_wh04_15 ?_
  show Go p_ e_ bl_ _ (T3.setTop (mkF m_ 16 #[.val (.ref a), .val (.int (0 : Int32)), .val (.int (0 : Int32)), .unset] [.int (1 : Int32), .ref a, .int (0 : Int32), .ref b]))
  refine g_putfield (pc := 16) (i := 0) (j := 1) (ty := .int) (os' := [(a, (.object "com/example/attestry/attestry/home/ByteCursor"), [.ref b, .int (1 : Int32)]), (b, (.array .byte), [.int x0, .int x1, .int x2, .int x3, .int x4, .int x5])]) (host := "") W4 (Or.inl (hw _ (List.mem_of_getElem? (i := 12) rfl))) (cls_ByteCursor hw) (Or.inl (hw _ (List.mem_of_getElem? (i := 13) rfl))) (hw _ (List.mem_of_getElem? (i := 2) rfl)) rfl rfl rfl (by decide) rfl rfl rfl d_c_wh04_16 (fun T5 W6 => ?_)
  refine g_baload (pc := 19) (i := 1) (v := .int x0) W6 rfl (by decide) rfl d_c_wh04_19 ?_
  refine g_istore_n (pc := 20) (ls' := #[.val (.ref a), .val (.int (0 : Int32)), .val (.int (0 : Int32)), .val (.int x0)]) W6 d_c_wh04_20 rfl ?_
  refine g_iload_n (pc := 21) W6 d_c_wh04_21 rfl ?_
  refine g_iload_n (pc := 22) W6 d_c_wh04_22 rfl ?_
  refine g_bipush (pc := 23) (127 : Int32) (by decide) W6 d_c_wh04_23 ?_
  refine g_iand (pc := 25) W6 d_c_wh04_25 ?_
  refine g_iload_n (pc := 26) W6 d_c_wh04_26 rfl ?_
  refine g_ishl (pc := 27) W6 d_c_wh04_27 ?_
  refine g_ior (pc := 28) W6 d_c_wh04_28 ?_
  refine g_istore_n (pc := 29) (ls' := #[.val (.ref a), .val (.int ((0 : Int32) ||| ((x0 &&& (127 : Int32)) <<< ((0 : Int32) &&& 31)))), .val (.int (0 : Int32)), .val (.int x0)]) W6 d_c_wh04_29 rfl ?_
  refine g_iload_n (pc := 30) W6 d_c_wh04_30 rfl ?_
  refine g_ifY 36 (pc := 31) W6 d_c_wh04_31 (by decide) (by decide) (tlt h0).1 ?_
  refine g_iinc (pc := 36) (ls' := #[.val (.ref a), .val (.int ((0 : Int32) ||| ((x0 &&& (127 : Int32)) <<< ((0 : Int32) &&& 31)))), .val (.int (7 : Int32)), .val (.int x0)]) (7 : Int32) (by decide) W6 d_c_wh04_36 rfl rfl ?_
  refine g_goto 4 (pc := 39) W6 d_c_wh04_39 (by decide) (by decide) ?_
  refine g_aload_n (pc := 4) W6 d_c_wh04_4 rfl rfl ?_
  refine g_getfield (pc := 5) (i := 0) (j := 0) (host := "") W6 (Or.inl (hw _ (List.mem_of_getElem? (i := 10) rfl))) rfl rfl rfl d_c_wh04_5 (fun T7 W8 => ?_)
  refine g_aload_n (pc := 8) W8 d_c_wh04_8 rfl rfl ?_
  refine g_dup (pc := 9) W8 d_c_wh04_9 rfl ?_
  refine g_getfield (pc := 10) (i := 0) (j := 1) (host := "") W8 (Or.inl (hw _ (List.mem_of_getElem? (i := 12) rfl))) rfl rfl rfl d_c_wh04_10 (fun T9 W10 => ?_)
  refine g_dup_x1 (pc := 13) W10 d_c_wh04_13 rfl rfl ?_
  refine g_iconst (pc := 14) (1 : Int32) (by decide) W10 d_c_wh04_14 ?_
  refine g_iadd (pc := 15) W10 d_c_wh04_15 ?_
  show Go p_ e_ bl_ _ (T9.setTop (mkF m_ 16 #[.val (.ref a), .val (.int ((0 : Int32) ||| ((x0 &&& (127 : Int32)) <<< ((0 : Int32) &&& 31)))), .val (.int (7 : Int32)), .val (.int x0)] [.int (2 : Int32), .ref a, .int (1 : Int32), .ref b]))
  refine g_putfield (pc := 16) (i := 0) (j := 1) (ty := .int) (os' := [(a, (.object "com/example/attestry/attestry/home/ByteCursor"), [.ref b, .int (2 : Int32)]), (b, (.array .byte), [.int x0, .int x1, .int x2, .int x3, .int x4, .int x5])]) (host := "") W10 (Or.inl (hw _ (List.mem_of_getElem? (i := 12) rfl))) (cls_ByteCursor hw) (Or.inl (hw _ (List.mem_of_getElem? (i := 13) rfl))) (hw _ (List.mem_of_getElem? (i := 2) rfl)) rfl rfl rfl (by decide) rfl rfl rfl d_c_wh04_16 (fun T11 W12 => ?_)
  refine g_baload (pc := 19) (i := 1) (v := .int x1) W12 rfl (by decide) rfl d_c_wh04_19 ?_
  refine g_istore_n (pc := 20) (ls' := #[.val (.ref a), .val (.int ((0 : Int32) ||| ((x0 &&& (127 : Int32)) <<< ((0 : Int32) &&& 31)))), .val (.int (7 : Int32)), .val (.int x1)]) W12 d_c_wh04_20 rfl ?_
  refine g_iload_n (pc := 21) W12 d_c_wh04_21 rfl ?_
  refine g_iload_n (pc := 22) W12 d_c_wh04_22 rfl ?_
  refine g_bipush (pc := 23) (127 : Int32) (by decide) W12 d_c_wh04_23 ?_
  refine g_iand (pc := 25) W12 d_c_wh04_25 ?_
  refine g_iload_n (pc := 26) W12 d_c_wh04_26 rfl ?_
  refine g_ishl (pc := 27) W12 d_c_wh04_27 ?_
  refine g_ior (pc := 28) W12 d_c_wh04_28 ?_
  refine g_istore_n (pc := 29) (ls' := #[.val (.ref a), .val (.int (((0 : Int32) ||| ((x0 &&& (127 : Int32)) <<< ((0 : Int32) &&& 31))) ||| ((x1 &&& (127 : Int32)) <<< ((7 : Int32) &&& 31)))), .val (.int (7 : Int32)), .val (.int x1)]) W12 d_c_wh04_29 rfl ?_
  refine g_iload_n (pc := 30) W12 d_c_wh04_30 rfl ?_
  refine g_ifY 36 (pc := 31) W12 d_c_wh04_31 (by decide) (by decide) (tlt h1).1 ?_
  refine g_iinc (pc := 36) (ls' := #[.val (.ref a), .val (.int (((0 : Int32) ||| ((x0 &&& (127 : Int32)) <<< ((0 : Int32) &&& 31))) ||| ((x1 &&& (127 : Int32)) <<< ((7 : Int32) &&& 31)))), .val (.int (14 : Int32)), .val (.int x1)]) (7 : Int32) (by decide) W12 d_c_wh04_36 rfl rfl ?_
  refine g_goto 4 (pc := 39) W12 d_c_wh04_39 (by decide) (by decide) ?_
  refine g_aload_n (pc := 4) W12 d_c_wh04_4 rfl rfl ?_
  refine g_getfield (pc := 5) (i := 0) (j := 0) (host := "") W12 (Or.inl (hw _ (List.mem_of_getElem? (i := 10) rfl))) rfl rfl rfl d_c_wh04_5 (fun T13 W14 => ?_)
  refine g_aload_n (pc := 8) W14 d_c_wh04_8 rfl rfl ?_
  refine g_dup (pc := 9) W14 d_c_wh04_9 rfl ?_
  refine g_getfield (pc := 10) (i := 0) (j := 1) (host := "") W14 (Or.inl (hw _ (List.mem_of_getElem? (i := 12) rfl))) rfl rfl rfl d_c_wh04_10 (fun T15 W16 => ?_)
  refine g_dup_x1 (pc := 13) W16 d_c_wh04_13 rfl rfl ?_
  refine g_iconst (pc := 14) (1 : Int32) (by decide) W16 d_c_wh04_14 ?_
  refine g_iadd (pc := 15) W16 d_c_wh04_15 ?_
  show Go p_ e_ bl_ _ (T15.setTop (mkF m_ 16 #[.val (.ref a), .val (.int (((0 : Int32) ||| ((x0 &&& (127 : Int32)) <<< ((0 : Int32) &&& 31))) ||| ((x1 &&& (127 : Int32)) <<< ((7 : Int32) &&& 31)))), .val (.int (14 : Int32)), .val (.int x1)] [.int (3 : Int32), .ref a, .int (2 : Int32), .ref b]))
  refine g_putfield (pc := 16) (i := 0) (j := 1) (ty := .int) (os' := [(a, (.object "com/example/attestry/attestry/home/ByteCursor"), [.ref b, .int (3 : Int32)]), (b, (.array .byte), [.int x0, .int x1, .int x2, .int x3, .int x4, .int x5])]) (host := "") W16 (Or.inl (hw _ (List.mem_of_getElem? (i := 12) rfl))) (cls_ByteCursor hw) (Or.inl (hw _ (List.mem_of_getElem? (i := 13) rfl))) (hw _ (List.mem_of_getElem? (i := 2) rfl)) rfl rfl rfl (by decide) rfl rfl rfl d_c_wh04_16 (fun T17 W18 => ?_)
  refine g_baload (pc := 19) (i := 1) (v := .int x2) W18 rfl (by decide) rfl d_c_wh04_19 ?_
  refine g_istore_n (pc := 20) (ls' := #[.val (.ref a), .val (.int (((0 : Int32) ||| ((x0 &&& (127 : Int32)) <<< ((0 : Int32) &&& 31))) ||| ((x1 &&& (127 : Int32)) <<< ((7 : Int32) &&& 31)))), .val (.int (14 : Int32)), .val (.int x2)]) W18 d_c_wh04_20 rfl ?_
  refine g_iload_n (pc := 21) W18 d_c_wh04_21 rfl ?_
  refine g_iload_n (pc := 22) W18 d_c_wh04_22 rfl ?_
  refine g_bipush (pc := 23) (127 : Int32) (by decide) W18 d_c_wh04_23 ?_
  refine g_iand (pc := 25) W18 d_c_wh04_25 ?_
  refine g_iload_n (pc := 26) W18 d_c_wh04_26 rfl ?_
  refine g_ishl (pc := 27) W18 d_c_wh04_27 ?_
  refine g_ior (pc := 28) W18 d_c_wh04_28 ?_
  refine g_istore_n (pc := 29) (ls' := #[.val (.ref a), .val (.int ((((0 : Int32) ||| ((x0 &&& (127 : Int32)) <<< ((0 : Int32) &&& 31))) ||| ((x1 &&& (127 : Int32)) <<< ((7 : Int32) &&& 31))) ||| ((x2 &&& (127 : Int32)) <<< ((14 : Int32) &&& 31)))), .val (.int (14 : Int32)), .val (.int x2)]) W18 d_c_wh04_29 rfl ?_
  refine g_iload_n (pc := 30) W18 d_c_wh04_30 rfl ?_
  refine g_ifY 36 (pc := 31) W18 d_c_wh04_31 (by decide) (by decide) (tlt h2).1 ?_
  refine g_iinc (pc := 36) (ls' := #[.val (.ref a), .val (.int ((((0 : Int32) ||| ((x0 &&& (127 : Int32)) <<< ((0 : Int32) &&& 31))) ||| ((x1 &&& (127 : Int32)) <<< ((7 : Int32) &&& 31))) ||| ((x2 &&& (127 : Int32)) <<< ((14 : Int32) &&& 31)))), .val (.int (21 : Int32)), .val (.int x2)]) (7 : Int32) (by decide) W18 d_c_wh04_36 rfl rfl ?_
  refine g_goto 4 (pc := 39) W18 d_c_wh04_39 (by decide) (by decide) ?_
  refine g_aload_n (pc := 4) W18 d_c_wh04_4 rfl rfl ?_
  refine g_getfield (pc := 5) (i := 0) (j := 0) (host := "") W18 (Or.inl (hw _ (List.mem_of_getElem? (i := 10) rfl))) rfl rfl rfl d_c_wh04_5 (fun T19 W20 => ?_)
  refine g_aload_n (pc := 8) W20 d_c_wh04_8 rfl rfl ?_
  refine g_dup (pc := 9) W20 d_c_wh04_9 rfl ?_
  refine g_getfield (pc := 10) (i := 0) (j := 1) (host := "") W20 (Or.inl (hw _ (List.mem_of_getElem? (i := 12) rfl))) rfl rfl rfl d_c_wh04_10 (fun T21 W22 => ?_)
  refine g_dup_x1 (pc := 13) W22 d_c_wh04_13 rfl rfl ?_
  refine g_iconst (pc := 14) (1 : Int32) (by decide) W22 d_c_wh04_14 ?_
  refine g_iadd (pc := 15) W22 d_c_wh04_15 ?_
  show Go p_ e_ bl_ _ (T21.setTop (mkF m_ 16 #[.val (.ref a), .val (.int ((((0 : Int32) ||| ((x0 &&& (127 : Int32)) <<< ((0 : Int32) &&& 31))) ||| ((x1 &&& (127 : Int32)) <<< ((7 : Int32) &&& 31))) ||| ((x2 &&& (127 : Int32)) <<< ((14 : Int32) &&& 31)))), .val (.int (21 : Int32)), .val (.int x2)] [.int (4 : Int32), .ref a, .int (3 : Int32), .ref b]))
  refine g_putfield (pc := 16) (i := 0) (j := 1) (ty := .int) (os' := [(a, (.object "com/example/attestry/attestry/home/ByteCursor"), [.ref b, .int (4 : Int32)]), (b, (.array .byte), [.int x0, .int x1, .int x2, .int x3, .int x4, .int x5])]) (host := "") W22 (Or.inl (hw _ (List.mem_of_getElem? (i := 12) rfl))) (cls_ByteCursor hw) (Or.inl (hw _ (List.mem_of_getElem? (i := 13) rfl))) (hw _ (List.mem_of_getElem? (i := 2) rfl)) rfl rfl rfl (by decide) rfl rfl rfl d_c_wh04_16 (fun T23 W24 => ?_)
  refine g_baload (pc := 19) (i := 1) (v := .int x3) W24 rfl (by decide) rfl d_c_wh04_19 ?_
  refine g_istore_n (pc := 20) (ls' := #[.val (.ref a), .val (.int ((((0 : Int32) ||| ((x0 &&& (127 : Int32)) <<< ((0 : Int32) &&& 31))) ||| ((x1 &&& (127 : Int32)) <<< ((7 : Int32) &&& 31))) ||| ((x2 &&& (127 : Int32)) <<< ((14 : Int32) &&& 31)))), .val (.int (21 : Int32)), .val (.int x3)]) W24 d_c_wh04_20 rfl ?_
  refine g_iload_n (pc := 21) W24 d_c_wh04_21 rfl ?_
  refine g_iload_n (pc := 22) W24 d_c_wh04_22 rfl ?_
  refine g_bipush (pc := 23) (127 : Int32) (by decide) W24 d_c_wh04_23 ?_
  refine g_iand (pc := 25) W24 d_c_wh04_25 ?_
  refine g_iload_n (pc := 26) W24 d_c_wh04_26 rfl ?_
  refine g_ishl (pc := 27) W24 d_c_wh04_27 ?_
  refine g_ior (pc := 28) W24 d_c_wh04_28 ?_
  refine g_istore_n (pc := 29) (ls' := #[.val (.ref a), .val (.int (((((0 : Int32) ||| ((x0 &&& (127 : Int32)) <<< ((0 : Int32) &&& 31))) ||| ((x1 &&& (127 : Int32)) <<< ((7 : Int32) &&& 31))) ||| ((x2 &&& (127 : Int32)) <<< ((14 : Int32) &&& 31))) ||| ((x3 &&& (127 : Int32)) <<< ((21 : Int32) &&& 31)))), .val (.int (21 : Int32)), .val (.int x3)]) W24 d_c_wh04_29 rfl ?_
  refine g_iload_n (pc := 30) W24 d_c_wh04_30 rfl ?_
  refine g_ifN (pc := 31) W24 d_c_wh04_31 (flt h3).1 ?_
  refine g_iload_n (pc := 34) W24 d_c_wh04_34 rfl ?_
  exact g_ireturn (pc := 35) rfl W24 d_c_wh04_35 (by decide) (by decide) ⟨rfl, rfl⟩
theorem d_c_wh05_0 : decode prog_1_method_6_code 0 = .ok (.iconst 0, 1) := by decide +kernel
theorem d_c_wh05_1 : decode prog_1_method_6_code 1 = .ok (.istore_n 1, 1) := by decide +kernel
theorem d_c_wh05_2 : decode prog_1_method_6_code 2 = .ok (.iconst 0, 1) := by decide +kernel
theorem d_c_wh05_3 : decode prog_1_method_6_code 3 = .ok (.istore_n 2, 1) := by decide +kernel
theorem d_c_wh05_4 : decode prog_1_method_6_code 4 = .ok (.aload_n 0, 1) := by decide +kernel
theorem d_c_wh05_5 : decode prog_1_method_6_code 5 = .ok (.getfield 7, 3) := by decide +kernel
theorem d_c_wh05_8 : decode prog_1_method_6_code 8 = .ok (.aload_n 0, 1) := by decide +kernel
theorem d_c_wh05_9 : decode prog_1_method_6_code 9 = .ok (.dup, 1) := by decide +kernel
theorem d_c_wh05_10 : decode prog_1_method_6_code 10 = .ok (.getfield 13, 3) := by decide +kernel
theorem d_c_wh05_13 : decode prog_1_method_6_code 13 = .ok (.dup_x1, 1) := by decide +kernel
theorem d_c_wh05_14 : decode prog_1_method_6_code 14 = .ok (.iconst 1, 1) := by decide +kernel
theorem d_c_wh05_15 : decode prog_1_method_6_code 15 = .ok (.iadd, 1) := by decide +kernel
theorem d_c_wh05_16 : decode prog_1_method_6_code 16 = .ok (.putfield 13, 3) := by decide +kernel
theorem d_c_wh05_19 : decode prog_1_method_6_code 19 = .ok (.baload, 1) := by decide +kernel
theorem d_c_wh05_20 : decode prog_1_method_6_code 20 = .ok (.istore_n 3, 1) := by decide +kernel
theorem d_c_wh05_21 : decode prog_1_method_6_code 21 = .ok (.iload_n 1, 1) := by decide +kernel
theorem d_c_wh05_22 : decode prog_1_method_6_code 22 = .ok (.iload_n 3, 1) := by decide +kernel
theorem d_c_wh05_23 : decode prog_1_method_6_code 23 = .ok (.bipush 127, 2) := by decide +kernel
theorem d_c_wh05_25 : decode prog_1_method_6_code 25 = .ok (.iand, 1) := by decide +kernel
theorem d_c_wh05_26 : decode prog_1_method_6_code 26 = .ok (.iload_n 2, 1) := by decide +kernel
theorem d_c_wh05_27 : decode prog_1_method_6_code 27 = .ok (.ishl, 1) := by decide +kernel
theorem d_c_wh05_28 : decode prog_1_method_6_code 28 = .ok (.ior, 1) := by decide +kernel
theorem d_c_wh05_29 : decode prog_1_method_6_code 29 = .ok (.istore_n 1, 1) := by decide +kernel
theorem d_c_wh05_30 : decode prog_1_method_6_code 30 = .ok (.iload_n 3, 1) := by decide +kernel
theorem d_c_wh05_31 : decode prog_1_method_6_code 31 = .ok (.ifCond .lt 5, 3) := by decide +kernel
theorem d_c_wh05_34 : decode prog_1_method_6_code 34 = .ok (.iload_n 1, 1) := by decide +kernel
theorem d_c_wh05_35 : decode prog_1_method_6_code 35 = .ok (.ireturn, 1) := by decide +kernel
theorem d_c_wh05_36 : decode prog_1_method_6_code 36 = .ok (.iinc 2 7, 3) := by decide +kernel
theorem d_c_wh05_39 : decode prog_1_method_6_code 39 = .ok (.goto (-35), 3) := by decide +kernel
set_option maxRecDepth 65536 in
set_option maxHeartbeats 40000000 in
theorem c_wh05 (l : Launch) (Z : State) (a0 : Array Value) (hw : ∀ d ∈ tables_1, d.before a0 Z = true) {B : Nat} (a b : Addr) (x0 x1 x2 x3 x4 x5 : Int32) (h0 : x0 < 0) (h1 : x1 < 0) (h2 : x2 < 0) (h3 : x3 < 0) (h4 : ¬ x4 < 0) :
    Con l Z FM B (⟨"com/example/attestry/attestry/home/ByteCursor", "whole", "()I"⟩ : MethodName) prog_1_method_6_code 4 (some .int) ({ frames := 0, cells := 0, slots := 0, locals := 0 } : Room) [] #[.ref a] [(a, (.object "com/example/attestry/attestry/home/ByteCursor"), [.ref b, .int (0 : Int32)]), (b, (.array .byte), [.int x0, .int x1, .int x2, .int x3, .int x4, .int x5])] (fun v os => v = some (.int ((((((0 : Int32) ||| ((x0 &&& (127 : Int32)) <<< ((0 : Int32) &&& 31))) ||| ((x1 &&& (127 : Int32)) <<< ((7 : Int32) &&& 31))) ||| ((x2 &&& (127 : Int32)) <<< ((14 : Int32) &&& 31))) ||| ((x3 &&& (127 : Int32)) <<< ((21 : Int32) &&& 31))) ||| ((x4 &&& (127 : Int32)) <<< ((28 : Int32) &&& 31)))) ∧ os = [(a, (.object "com/example/attestry/attestry/home/ByteCursor"), [.ref b, .int (5 : Int32)]), (b, (.array .byte), [.int x0, .int x1, .int x2, .int x3, .int x4, .int x5])]) := by
  refine Con.of (plainFor_of_name (by first | (simp [plainName, overriddenIn]; done) | decide +kernel)) (ls := #[.val (.ref a), .unset, .unset, .unset]) (fun m => by first | (simp [entryFrame, mkF, argsToLocals, Value.category]; done) | rfl) ?_
  intro p_ e_ h_ s_ m_ bl_ me_ c_ T0 W0
  refine g_iconst (pc := 0) (0 : Int32) (by decide) W0 d_c_wh05_0 ?_
  refine g_istore_n (pc := 1) (ls' := #[.val (.ref a), .val (.int (0 : Int32)), .unset, .unset]) W0 d_c_wh05_1 rfl ?_
  refine g_iconst (pc := 2) (0 : Int32) (by decide) W0 d_c_wh05_2 ?_
  refine g_istore_n (pc := 3) (ls' := #[.val (.ref a), .val (.int (0 : Int32)), .val (.int (0 : Int32)), .unset]) W0 d_c_wh05_3 rfl ?_
  refine g_aload_n (pc := 4) W0 d_c_wh05_4 rfl rfl ?_
  refine g_getfield (pc := 5) (i := 0) (j := 0) (host := "") W0 (Or.inl (hw _ (List.mem_of_getElem? (i := 10) rfl))) rfl rfl rfl d_c_wh05_5 (fun T1 W2 => ?_)
  refine g_aload_n (pc := 8) W2 d_c_wh05_8 rfl rfl ?_
  refine g_dup (pc := 9) W2 d_c_wh05_9 rfl ?_
  refine g_getfield (pc := 10) (i := 0) (j := 1) (host := "") W2 (Or.inl (hw _ (List.mem_of_getElem? (i := 12) rfl))) rfl rfl rfl d_c_wh05_10 (fun T3 W4 => ?_)
  refine g_dup_x1 (pc := 13) W4 d_c_wh05_13 rfl rfl ?_
  refine g_iconst (pc := 14) (1 : Int32) (by decide) W4 d_c_wh05_14 ?_
  refine g_iadd (pc := 15) W4 d_c_wh05_15 ?_
  show Go p_ e_ bl_ _ (T3.setTop (mkF m_ 16 #[.val (.ref a), .val (.int (0 : Int32)), .val (.int (0 : Int32)), .unset] [.int (1 : Int32), .ref a, .int (0 : Int32), .ref b]))
  refine g_putfield (pc := 16) (i := 0) (j := 1) (ty := .int) (os' := [(a, (.object "com/example/attestry/attestry/home/ByteCursor"), [.ref b, .int (1 : Int32)]), (b, (.array .byte), [.int x0, .int x1, .int x2, .int x3, .int x4, .int x5])]) (host := "") W4 (Or.inl (hw _ (List.mem_of_getElem? (i := 12) rfl))) (cls_ByteCursor hw) (Or.inl (hw _ (List.mem_of_getElem? (i := 13) rfl))) (hw _ (List.mem_of_getElem? (i := 2) rfl)) rfl rfl rfl (by decide) rfl rfl rfl d_c_wh05_16 (fun T5 W6 => ?_)
  refine g_baload (pc := 19) (i := 1) (v := .int x0) W6 rfl (by decide) rfl d_c_wh05_19 ?_
  refine g_istore_n (pc := 20) (ls' := #[.val (.ref a), .val (.int (0 : Int32)), .val (.int (0 : Int32)), .val (.int x0)]) W6 d_c_wh05_20 rfl ?_
  refine g_iload_n (pc := 21) W6 d_c_wh05_21 rfl ?_
  refine g_iload_n (pc := 22) W6 d_c_wh05_22 rfl ?_
  refine g_bipush (pc := 23) (127 : Int32) (by decide) W6 d_c_wh05_23 ?_
  refine g_iand (pc := 25) W6 d_c_wh05_25 ?_
  refine g_iload_n (pc := 26) W6 d_c_wh05_26 rfl ?_
  refine g_ishl (pc := 27) W6 d_c_wh05_27 ?_
  refine g_ior (pc := 28) W6 d_c_wh05_28 ?_
  refine g_istore_n (pc := 29) (ls' := #[.val (.ref a), .val (.int ((0 : Int32) ||| ((x0 &&& (127 : Int32)) <<< ((0 : Int32) &&& 31)))), .val (.int (0 : Int32)), .val (.int x0)]) W6 d_c_wh05_29 rfl ?_
  refine g_iload_n (pc := 30) W6 d_c_wh05_30 rfl ?_
  refine g_ifY 36 (pc := 31) W6 d_c_wh05_31 (by decide) (by decide) (tlt h0).1 ?_
  refine g_iinc (pc := 36) (ls' := #[.val (.ref a), .val (.int ((0 : Int32) ||| ((x0 &&& (127 : Int32)) <<< ((0 : Int32) &&& 31)))), .val (.int (7 : Int32)), .val (.int x0)]) (7 : Int32) (by decide) W6 d_c_wh05_36 rfl rfl ?_
  refine g_goto 4 (pc := 39) W6 d_c_wh05_39 (by decide) (by decide) ?_
  refine g_aload_n (pc := 4) W6 d_c_wh05_4 rfl rfl ?_
  refine g_getfield (pc := 5) (i := 0) (j := 0) (host := "") W6 (Or.inl (hw _ (List.mem_of_getElem? (i := 10) rfl))) rfl rfl rfl d_c_wh05_5 (fun T7 W8 => ?_)
  refine g_aload_n (pc := 8) W8 d_c_wh05_8 rfl rfl ?_
  refine g_dup (pc := 9) W8 d_c_wh05_9 rfl ?_
  refine g_getfield (pc := 10) (i := 0) (j := 1) (host := "") W8 (Or.inl (hw _ (List.mem_of_getElem? (i := 12) rfl))) rfl rfl rfl d_c_wh05_10 (fun T9 W10 => ?_)
  refine g_dup_x1 (pc := 13) W10 d_c_wh05_13 rfl rfl ?_
  refine g_iconst (pc := 14) (1 : Int32) (by decide) W10 d_c_wh05_14 ?_
  refine g_iadd (pc := 15) W10 d_c_wh05_15 ?_
  show Go p_ e_ bl_ _ (T9.setTop (mkF m_ 16 #[.val (.ref a), .val (.int ((0 : Int32) ||| ((x0 &&& (127 : Int32)) <<< ((0 : Int32) &&& 31)))), .val (.int (7 : Int32)), .val (.int x0)] [.int (2 : Int32), .ref a, .int (1 : Int32), .ref b]))
  refine g_putfield (pc := 16) (i := 0) (j := 1) (ty := .int) (os' := [(a, (.object "com/example/attestry/attestry/home/ByteCursor"), [.ref b, .int (2 : Int32)]), (b, (.array .byte), [.int x0, .int x1, .int x2, .int x3, .int x4, .int x5])]) (host := "") W10 (Or.inl (hw _ (List.mem_of_getElem? (i := 12) rfl))) (cls_ByteCursor hw) (Or.inl (hw _ (List.mem_of_getElem? (i := 13) rfl))) (hw _ (List.mem_of_getElem? (i := 2) rfl)) rfl rfl rfl (by decide) rfl rfl rfl d_c_wh05_16 (fun T11 W12 => ?_)
  refine g_baload (pc := 19) (i := 1) (v := .int x1) W12 rfl (by decide) rfl d_c_wh05_19 ?_
  refine g_istore_n (pc := 20) (ls' := #[.val (.ref a), .val (.int ((0 : Int32) ||| ((x0 &&& (127 : Int32)) <<< ((0 : Int32) &&& 31)))), .val (.int (7 : Int32)), .val (.int x1)]) W12 d_c_wh05_20 rfl ?_
  refine g_iload_n (pc := 21) W12 d_c_wh05_21 rfl ?_
  refine g_iload_n (pc := 22) W12 d_c_wh05_22 rfl ?_
  refine g_bipush (pc := 23) (127 : Int32) (by decide) W12 d_c_wh05_23 ?_
  refine g_iand (pc := 25) W12 d_c_wh05_25 ?_
  refine g_iload_n (pc := 26) W12 d_c_wh05_26 rfl ?_
  refine g_ishl (pc := 27) W12 d_c_wh05_27 ?_
  refine g_ior (pc := 28) W12 d_c_wh05_28 ?_
  refine g_istore_n (pc := 29) (ls' := #[.val (.ref a), .val (.int (((0 : Int32) ||| ((x0 &&& (127 : Int32)) <<< ((0 : Int32) &&& 31))) ||| ((x1 &&& (127 : Int32)) <<< ((7 : Int32) &&& 31)))), .val (.int (7 : Int32)), .val (.int x1)]) W12 d_c_wh05_29 rfl ?_
  refine g_iload_n (pc := 30) W12 d_c_wh05_30 rfl ?_
  refine g_ifY 36 (pc := 31) W12 d_c_wh05_31 (by decide) (by decide) (tlt h1).1 ?_
  refine g_iinc (pc := 36) (ls' := #[.val (.ref a), .val (.int (((0 : Int32) ||| ((x0 &&& (127 : Int32)) <<< ((0 : Int32) &&& 31))) ||| ((x1 &&& (127 : Int32)) <<< ((7 : Int32) &&& 31)))), .val (.int (14 : Int32)), .val (.int x1)]) (7 : Int32) (by decide) W12 d_c_wh05_36 rfl rfl ?_
  refine g_goto 4 (pc := 39) W12 d_c_wh05_39 (by decide) (by decide) ?_
  refine g_aload_n (pc := 4) W12 d_c_wh05_4 rfl rfl ?_
  refine g_getfield (pc := 5) (i := 0) (j := 0) (host := "") W12 (Or.inl (hw _ (List.mem_of_getElem? (i := 10) rfl))) rfl rfl rfl d_c_wh05_5 (fun T13 W14 => ?_)
  refine g_aload_n (pc := 8) W14 d_c_wh05_8 rfl rfl ?_
  refine g_dup (pc := 9) W14 d_c_wh05_9 rfl ?_
  refine g_getfield (pc := 10) (i := 0) (j := 1) (host := "") W14 (Or.inl (hw _ (List.mem_of_getElem? (i := 12) rfl))) rfl rfl rfl d_c_wh05_10 (fun T15 W16 => ?_)
  refine g_dup_x1 (pc := 13) W16 d_c_wh05_13 rfl rfl ?_
  refine g_iconst (pc := 14) (1 : Int32) (by decide) W16 d_c_wh05_14 ?_
  refine g_iadd (pc := 15) W16 d_c_wh05_15 ?_
  show Go p_ e_ bl_ _ (T15.setTop (mkF m_ 16 #[.val (.ref a), .val (.int (((0 : Int32) ||| ((x0 &&& (127 : Int32)) <<< ((0 : Int32) &&& 31))) ||| ((x1 &&& (127 : Int32)) <<< ((7 : Int32) &&& 31)))), .val (.int (14 : Int32)), .val (.int x1)] [.int (3 : Int32), .ref a, .int (2 : Int32), .ref b]))
  refine g_putfield (pc := 16) (i := 0) (j := 1) (ty := .int) (os' := [(a, (.object "com/example/attestry/attestry/home/ByteCursor"), [.ref b, .int (3 : Int32)]), (b, (.array .byte), [.int x0, .int x1, .int x2, .int x3, .int x4, .int x5])]) (host := "") W16 (Or.inl (hw _ (List.mem_of_getElem? (i := 12) rfl))) (cls_ByteCursor hw) (Or.inl (hw _ (List.mem_of_getElem? (i := 13) rfl))) (hw _ (List.mem_of_getElem? (i := 2) rfl)) rfl rfl rfl (by decide) rfl rfl rfl d_c_wh05_16 (fun T17 W18 => ?_)
  refine g_baload (pc := 19) (i := 1) (v := .int x2) W18 rfl (by decide) rfl d_c_wh05_19 ?_
  refine g_istore_n (pc := 20) (ls' := #[.val (.ref a), .val (.int (((0 : Int32) ||| ((x0 &&& (127 : Int32)) <<< ((0 : Int32) &&& 31))) ||| ((x1 &&& (127 : Int32)) <<< ((7 : Int32) &&& 31)))), .val (.int (14 : Int32)), .val (.int x2)]) W18 d_c_wh05_20 rfl ?_
  refine g_iload_n (pc := 21) W18 d_c_wh05_21 rfl ?_
  refine g_iload_n (pc := 22) W18 d_c_wh05_22 rfl ?_
  refine g_bipush (pc := 23) (127 : Int32) (by decide) W18 d_c_wh05_23 ?_
  refine g_iand (pc := 25) W18 d_c_wh05_25 ?_
  refine g_iload_n (pc := 26) W18 d_c_wh05_26 rfl ?_
  refine g_ishl (pc := 27) W18 d_c_wh05_27 ?_
  refine g_ior (pc := 28) W18 d_c_wh05_28 ?_
  refine g_istore_n (pc := 29) (ls' := #[.val (.ref a), .val (.int ((((0 : Int32) ||| ((x0 &&& (127 : Int32)) <<< ((0 : Int32) &&& 31))) ||| ((x1 &&& (127 : Int32)) <<< ((7 : Int32) &&& 31))) ||| ((x2 &&& (127 : Int32)) <<< ((14 : Int32) &&& 31)))), .val (.int (14 : Int32)), .val (.int x2)]) W18 d_c_wh05_29 rfl ?_
  refine g_iload_n (pc := 30) W18 d_c_wh05_30 rfl ?_
  refine g_ifY 36 (pc := 31) W18 d_c_wh05_31 (by decide) (by decide) (tlt h2).1 ?_
  refine g_iinc (pc := 36) (ls' := #[.val (.ref a), .val (.int ((((0 : Int32) ||| ((x0 &&& (127 : Int32)) <<< ((0 : Int32) &&& 31))) ||| ((x1 &&& (127 : Int32)) <<< ((7 : Int32) &&& 31))) ||| ((x2 &&& (127 : Int32)) <<< ((14 : Int32) &&& 31)))), .val (.int (21 : Int32)), .val (.int x2)]) (7 : Int32) (by decide) W18 d_c_wh05_36 rfl rfl ?_
  refine g_goto 4 (pc := 39) W18 d_c_wh05_39 (by decide) (by decide) ?_
  refine g_aload_n (pc := 4) W18 d_c_wh05_4 rfl rfl ?_
  refine g_getfield (pc := 5) (i := 0) (j := 0) (host := "") W18 (Or.inl (hw _ (List.mem_of_getElem? (i := 10) rfl))) rfl rfl rfl d_c_wh05_5 (fun T19 W20 => ?_)
  refine g_aload_n (pc := 8) W20 d_c_wh05_8 rfl rfl ?_
  refine g_dup (pc := 9) W20 d_c_wh05_9 rfl ?_
  refine g_getfield (pc := 10) (i := 0) (j := 1) (host := "") W20 (Or.inl (hw _ (List.mem_of_getElem? (i := 12) rfl))) rfl rfl rfl d_c_wh05_10 (fun T21 W22 => ?_)
  refine g_dup_x1 (pc := 13) W22 d_c_wh05_13 rfl rfl ?_
  refine g_iconst (pc := 14) (1 : Int32) (by decide) W22 d_c_wh05_14 ?_
  refine g_iadd (pc := 15) W22 d_c_wh05_15 ?_
  show Go p_ e_ bl_ _ (T21.setTop (mkF m_ 16 #[.val (.ref a), .val (.int ((((0 : Int32) ||| ((x0 &&& (127 : Int32)) <<< ((0 : Int32) &&& 31))) ||| ((x1 &&& (127 : Int32)) <<< ((7 : Int32) &&& 31))) ||| ((x2 &&& (127 : Int32)) <<< ((14 : Int32) &&& 31)))), .val (.int (21 : Int32)), .val (.int x2)] [.int (4 : Int32), .ref a, .int (3 : Int32), .ref b]))
  refine g_putfield (pc := 16) (i := 0) (j := 1) (ty := .int) (os' := [(a, (.object "com/example/attestry/attestry/home/ByteCursor"), [.ref b, .int (4 : Int32)]), (b, (.array .byte), [.int x0, .int x1, .int x2, .int x3, .int x4, .int x5])]) (host := "") W22 (Or.inl (hw _ (List.mem_of_getElem? (i := 12) rfl))) (cls_ByteCursor hw) (Or.inl (hw _ (List.mem_of_getElem? (i := 13) rfl))) (hw _ (List.mem_of_getElem? (i := 2) rfl)) rfl rfl rfl (by decide) rfl rfl rfl d_c_wh05_16 (fun T23 W24 => ?_)
  refine g_baload (pc := 19) (i := 1) (v := .int x3) W24 rfl (by decide) rfl d_c_wh05_19 ?_
  refine g_istore_n (pc := 20) (ls' := #[.val (.ref a), .val (.int ((((0 : Int32) ||| ((x0 &&& (127 : Int32)) <<< ((0 : Int32) &&& 31))) ||| ((x1 &&& (127 : Int32)) <<< ((7 : Int32) &&& 31))) ||| ((x2 &&& (127 : Int32)) <<< ((14 : Int32) &&& 31)))), .val (.int (21 : Int32)), .val (.int x3)]) W24 d_c_wh05_20 rfl ?_
  refine g_iload_n (pc := 21) W24 d_c_wh05_21 rfl ?_
  refine g_iload_n (pc := 22) W24 d_c_wh05_22 rfl ?_
  refine g_bipush (pc := 23) (127 : Int32) (by decide) W24 d_c_wh05_23 ?_
  refine g_iand (pc := 25) W24 d_c_wh05_25 ?_
  refine g_iload_n (pc := 26) W24 d_c_wh05_26 rfl ?_
  refine g_ishl (pc := 27) W24 d_c_wh05_27 ?_
  refine g_ior (pc := 28) W24 d_c_wh05_28 ?_
  refine g_istore_n (pc := 29) (ls' := #[.val (.ref a), .val (.int (((((0 : Int32) ||| ((x0 &&& (127 : Int32)) <<< ((0 : Int32) &&& 31))) ||| ((x1 &&& (127 : Int32)) <<< ((7 : Int32) &&& 31))) ||| ((x2 &&& (127 : Int32)) <<< ((14 : Int32) &&& 31))) ||| ((x3 &&& (127 : Int32)) <<< ((21 : Int32) &&& 31)))), .val (.int (21 : Int32)), .val (.int x3)]) W24 d_c_wh05_29 rfl ?_
  refine g_iload_n (pc := 30) W24 d_c_wh05_30 rfl ?_
  refine g_ifY 36 (pc := 31) W24 d_c_wh05_31 (by decide) (by decide) (tlt h3).1 ?_
  refine g_iinc (pc := 36) (ls' := #[.val (.ref a), .val (.int (((((0 : Int32) ||| ((x0 &&& (127 : Int32)) <<< ((0 : Int32) &&& 31))) ||| ((x1 &&& (127 : Int32)) <<< ((7 : Int32) &&& 31))) ||| ((x2 &&& (127 : Int32)) <<< ((14 : Int32) &&& 31))) ||| ((x3 &&& (127 : Int32)) <<< ((21 : Int32) &&& 31)))), .val (.int (28 : Int32)), .val (.int x3)]) (7 : Int32) (by decide) W24 d_c_wh05_36 rfl rfl ?_
  refine g_goto 4 (pc := 39) W24 d_c_wh05_39 (by decide) (by decide) ?_
  refine g_aload_n (pc := 4) W24 d_c_wh05_4 rfl rfl ?_
  refine g_getfield (pc := 5) (i := 0) (j := 0) (host := "") W24 (Or.inl (hw _ (List.mem_of_getElem? (i := 10) rfl))) rfl rfl rfl d_c_wh05_5 (fun T25 W26 => ?_)
  refine g_aload_n (pc := 8) W26 d_c_wh05_8 rfl rfl ?_
  refine g_dup (pc := 9) W26 d_c_wh05_9 rfl ?_
  refine g_getfield (pc := 10) (i := 0) (j := 1) (host := "") W26 (Or.inl (hw _ (List.mem_of_getElem? (i := 12) rfl))) rfl rfl rfl d_c_wh05_10 (fun T27 W28 => ?_)
  refine g_dup_x1 (pc := 13) W28 d_c_wh05_13 rfl rfl ?_
  refine g_iconst (pc := 14) (1 : Int32) (by decide) W28 d_c_wh05_14 ?_
  refine g_iadd (pc := 15) W28 d_c_wh05_15 ?_
  show Go p_ e_ bl_ _ (T27.setTop (mkF m_ 16 #[.val (.ref a), .val (.int (((((0 : Int32) ||| ((x0 &&& (127 : Int32)) <<< ((0 : Int32) &&& 31))) ||| ((x1 &&& (127 : Int32)) <<< ((7 : Int32) &&& 31))) ||| ((x2 &&& (127 : Int32)) <<< ((14 : Int32) &&& 31))) ||| ((x3 &&& (127 : Int32)) <<< ((21 : Int32) &&& 31)))), .val (.int (28 : Int32)), .val (.int x3)] [.int (5 : Int32), .ref a, .int (4 : Int32), .ref b]))
  refine g_putfield (pc := 16) (i := 0) (j := 1) (ty := .int) (os' := [(a, (.object "com/example/attestry/attestry/home/ByteCursor"), [.ref b, .int (5 : Int32)]), (b, (.array .byte), [.int x0, .int x1, .int x2, .int x3, .int x4, .int x5])]) (host := "") W28 (Or.inl (hw _ (List.mem_of_getElem? (i := 12) rfl))) (cls_ByteCursor hw) (Or.inl (hw _ (List.mem_of_getElem? (i := 13) rfl))) (hw _ (List.mem_of_getElem? (i := 2) rfl)) rfl rfl rfl (by decide) rfl rfl rfl d_c_wh05_16 (fun T29 W30 => ?_)
  refine g_baload (pc := 19) (i := 1) (v := .int x4) W30 rfl (by decide) rfl d_c_wh05_19 ?_
  refine g_istore_n (pc := 20) (ls' := #[.val (.ref a), .val (.int (((((0 : Int32) ||| ((x0 &&& (127 : Int32)) <<< ((0 : Int32) &&& 31))) ||| ((x1 &&& (127 : Int32)) <<< ((7 : Int32) &&& 31))) ||| ((x2 &&& (127 : Int32)) <<< ((14 : Int32) &&& 31))) ||| ((x3 &&& (127 : Int32)) <<< ((21 : Int32) &&& 31)))), .val (.int (28 : Int32)), .val (.int x4)]) W30 d_c_wh05_20 rfl ?_
  refine g_iload_n (pc := 21) W30 d_c_wh05_21 rfl ?_
  refine g_iload_n (pc := 22) W30 d_c_wh05_22 rfl ?_
  refine g_bipush (pc := 23) (127 : Int32) (by decide) W30 d_c_wh05_23 ?_
  refine g_iand (pc := 25) W30 d_c_wh05_25 ?_
  refine g_iload_n (pc := 26) W30 d_c_wh05_26 rfl ?_
  refine g_ishl (pc := 27) W30 d_c_wh05_27 ?_
  refine g_ior (pc := 28) W30 d_c_wh05_28 ?_
  refine g_istore_n (pc := 29) (ls' := #[.val (.ref a), .val (.int ((((((0 : Int32) ||| ((x0 &&& (127 : Int32)) <<< ((0 : Int32) &&& 31))) ||| ((x1 &&& (127 : Int32)) <<< ((7 : Int32) &&& 31))) ||| ((x2 &&& (127 : Int32)) <<< ((14 : Int32) &&& 31))) ||| ((x3 &&& (127 : Int32)) <<< ((21 : Int32) &&& 31))) ||| ((x4 &&& (127 : Int32)) <<< ((28 : Int32) &&& 31)))), .val (.int (28 : Int32)), .val (.int x4)]) W30 d_c_wh05_29 rfl ?_
  refine g_iload_n (pc := 30) W30 d_c_wh05_30 rfl ?_
  refine g_ifN (pc := 31) W30 d_c_wh05_31 (flt h4).1 ?_
  refine g_iload_n (pc := 34) W30 d_c_wh05_34 rfl ?_
  exact g_ireturn (pc := 35) rfl W30 d_c_wh05_35 (by decide) (by decide) ⟨rfl, rfl⟩
theorem d_c_wh11_0 : decode prog_1_method_6_code 0 = .ok (.iconst 0, 1) := by decide +kernel
theorem d_c_wh11_1 : decode prog_1_method_6_code 1 = .ok (.istore_n 1, 1) := by decide +kernel
theorem d_c_wh11_2 : decode prog_1_method_6_code 2 = .ok (.iconst 0, 1) := by decide +kernel
theorem d_c_wh11_3 : decode prog_1_method_6_code 3 = .ok (.istore_n 2, 1) := by decide +kernel
theorem d_c_wh11_4 : decode prog_1_method_6_code 4 = .ok (.aload_n 0, 1) := by decide +kernel
theorem d_c_wh11_5 : decode prog_1_method_6_code 5 = .ok (.getfield 7, 3) := by decide +kernel
theorem d_c_wh11_8 : decode prog_1_method_6_code 8 = .ok (.aload_n 0, 1) := by decide +kernel
theorem d_c_wh11_9 : decode prog_1_method_6_code 9 = .ok (.dup, 1) := by decide +kernel
theorem d_c_wh11_10 : decode prog_1_method_6_code 10 = .ok (.getfield 13, 3) := by decide +kernel
theorem d_c_wh11_13 : decode prog_1_method_6_code 13 = .ok (.dup_x1, 1) := by decide +kernel
theorem d_c_wh11_14 : decode prog_1_method_6_code 14 = .ok (.iconst 1, 1) := by decide +kernel
theorem d_c_wh11_15 : decode prog_1_method_6_code 15 = .ok (.iadd, 1) := by decide +kernel
theorem d_c_wh11_16 : decode prog_1_method_6_code 16 = .ok (.putfield 13, 3) := by decide +kernel
theorem d_c_wh11_19 : decode prog_1_method_6_code 19 = .ok (.baload, 1) := by decide +kernel
theorem d_c_wh11_20 : decode prog_1_method_6_code 20 = .ok (.istore_n 3, 1) := by decide +kernel
theorem d_c_wh11_21 : decode prog_1_method_6_code 21 = .ok (.iload_n 1, 1) := by decide +kernel
theorem d_c_wh11_22 : decode prog_1_method_6_code 22 = .ok (.iload_n 3, 1) := by decide +kernel
theorem d_c_wh11_23 : decode prog_1_method_6_code 23 = .ok (.bipush 127, 2) := by decide +kernel
theorem d_c_wh11_25 : decode prog_1_method_6_code 25 = .ok (.iand, 1) := by decide +kernel
theorem d_c_wh11_26 : decode prog_1_method_6_code 26 = .ok (.iload_n 2, 1) := by decide +kernel
theorem d_c_wh11_27 : decode prog_1_method_6_code 27 = .ok (.ishl, 1) := by decide +kernel
theorem d_c_wh11_28 : decode prog_1_method_6_code 28 = .ok (.ior, 1) := by decide +kernel
theorem d_c_wh11_29 : decode prog_1_method_6_code 29 = .ok (.istore_n 1, 1) := by decide +kernel
theorem d_c_wh11_30 : decode prog_1_method_6_code 30 = .ok (.iload_n 3, 1) := by decide +kernel
theorem d_c_wh11_31 : decode prog_1_method_6_code 31 = .ok (.ifCond .lt 5, 3) := by decide +kernel
theorem d_c_wh11_34 : decode prog_1_method_6_code 34 = .ok (.iload_n 1, 1) := by decide +kernel
theorem d_c_wh11_35 : decode prog_1_method_6_code 35 = .ok (.ireturn, 1) := by decide +kernel
set_option maxRecDepth 65536 in
set_option maxHeartbeats 40000000 in
theorem c_wh11 (l : Launch) (Z : State) (a0 : Array Value) (hw : ∀ d ∈ tables_1, d.before a0 Z = true) {B : Nat} (a b : Addr) (x0 x1 x2 x3 x4 x5 : Int32) (h0 : ¬ x1 < 0) :
    Con l Z FM B (⟨"com/example/attestry/attestry/home/ByteCursor", "whole", "()I"⟩ : MethodName) prog_1_method_6_code 4 (some .int) ({ frames := 0, cells := 0, slots := 0, locals := 0 } : Room) [] #[.ref a] [(a, (.object "com/example/attestry/attestry/home/ByteCursor"), [.ref b, .int (1 : Int32)]), (b, (.array .byte), [.int x0, .int x1, .int x2, .int x3, .int x4, .int x5])] (fun v os => v = some (.int ((0 : Int32) ||| ((x1 &&& (127 : Int32)) <<< ((0 : Int32) &&& 31)))) ∧ os = [(a, (.object "com/example/attestry/attestry/home/ByteCursor"), [.ref b, .int (2 : Int32)]), (b, (.array .byte), [.int x0, .int x1, .int x2, .int x3, .int x4, .int x5])]) := by
  refine Con.of (plainFor_of_name (by first | (simp [plainName, overriddenIn]; done) | decide +kernel)) (ls := #[.val (.ref a), .unset, .unset, .unset]) (fun m => by first | (simp [entryFrame, mkF, argsToLocals, Value.category]; done) | rfl) ?_
  intro p_ e_ h_ s_ m_ bl_ me_ c_ T0 W0
  refine g_iconst (pc := 0) (0 : Int32) (by decide) W0 d_c_wh11_0 ?_
  refine g_istore_n (pc := 1) (ls' := #[.val (.ref a), .val (.int (0 : Int32)), .unset, .unset]) W0 d_c_wh11_1 rfl ?_
  refine g_iconst (pc := 2) (0 : Int32) (by decide) W0 d_c_wh11_2 ?_
  refine g_istore_n (pc := 3) (ls' := #[.val (.ref a), .val (.int (0 : Int32)), .val (.int (0 : Int32)), .unset]) W0 d_c_wh11_3 rfl ?_
  refine g_aload_n (pc := 4) W0 d_c_wh11_4 rfl rfl ?_
  refine g_getfield (pc := 5) (i := 0) (j := 0) (host := "") W0 (Or.inl (hw _ (List.mem_of_getElem? (i := 10) rfl))) rfl rfl rfl d_c_wh11_5 (fun T1 W2 => ?_)
  refine g_aload_n (pc := 8) W2 d_c_wh11_8 rfl rfl ?_
  refine g_dup (pc := 9) W2 d_c_wh11_9 rfl ?_
  refine g_getfield (pc := 10) (i := 0) (j := 1) (host := "") W2 (Or.inl (hw _ (List.mem_of_getElem? (i := 12) rfl))) rfl rfl rfl d_c_wh11_10 (fun T3 W4 => ?_)
  refine g_dup_x1 (pc := 13) W4 d_c_wh11_13 rfl rfl ?_
  refine g_iconst (pc := 14) (1 : Int32) (by decide) W4 d_c_wh11_14 ?_
  refine g_iadd (pc := 15) W4 d_c_wh11_15 ?_
  show Go p_ e_ bl_ _ (T3.setTop (mkF m_ 16 #[.val (.ref a), .val (.int (0 : Int32)), .val (.int (0 : Int32)), .unset] [.int (2 : Int32), .ref a, .int (1 : Int32), .ref b]))
  refine g_putfield (pc := 16) (i := 0) (j := 1) (ty := .int) (os' := [(a, (.object "com/example/attestry/attestry/home/ByteCursor"), [.ref b, .int (2 : Int32)]), (b, (.array .byte), [.int x0, .int x1, .int x2, .int x3, .int x4, .int x5])]) (host := "") W4 (Or.inl (hw _ (List.mem_of_getElem? (i := 12) rfl))) (cls_ByteCursor hw) (Or.inl (hw _ (List.mem_of_getElem? (i := 13) rfl))) (hw _ (List.mem_of_getElem? (i := 2) rfl)) rfl rfl rfl (by decide) rfl rfl rfl d_c_wh11_16 (fun T5 W6 => ?_)
  refine g_baload (pc := 19) (i := 1) (v := .int x1) W6 rfl (by decide) rfl d_c_wh11_19 ?_
  refine g_istore_n (pc := 20) (ls' := #[.val (.ref a), .val (.int (0 : Int32)), .val (.int (0 : Int32)), .val (.int x1)]) W6 d_c_wh11_20 rfl ?_
  refine g_iload_n (pc := 21) W6 d_c_wh11_21 rfl ?_
  refine g_iload_n (pc := 22) W6 d_c_wh11_22 rfl ?_
  refine g_bipush (pc := 23) (127 : Int32) (by decide) W6 d_c_wh11_23 ?_
  refine g_iand (pc := 25) W6 d_c_wh11_25 ?_
  refine g_iload_n (pc := 26) W6 d_c_wh11_26 rfl ?_
  refine g_ishl (pc := 27) W6 d_c_wh11_27 ?_
  refine g_ior (pc := 28) W6 d_c_wh11_28 ?_
  refine g_istore_n (pc := 29) (ls' := #[.val (.ref a), .val (.int ((0 : Int32) ||| ((x1 &&& (127 : Int32)) <<< ((0 : Int32) &&& 31)))), .val (.int (0 : Int32)), .val (.int x1)]) W6 d_c_wh11_29 rfl ?_
  refine g_iload_n (pc := 30) W6 d_c_wh11_30 rfl ?_
  refine g_ifN (pc := 31) W6 d_c_wh11_31 (flt h0).1 ?_
  refine g_iload_n (pc := 34) W6 d_c_wh11_34 rfl ?_
  exact g_ireturn (pc := 35) rfl W6 d_c_wh11_35 (by decide) (by decide) ⟨rfl, rfl⟩
theorem d_c_wh12_0 : decode prog_1_method_6_code 0 = .ok (.iconst 0, 1) := by decide +kernel
theorem d_c_wh12_1 : decode prog_1_method_6_code 1 = .ok (.istore_n 1, 1) := by decide +kernel
theorem d_c_wh12_2 : decode prog_1_method_6_code 2 = .ok (.iconst 0, 1) := by decide +kernel
theorem d_c_wh12_3 : decode prog_1_method_6_code 3 = .ok (.istore_n 2, 1) := by decide +kernel
theorem d_c_wh12_4 : decode prog_1_method_6_code 4 = .ok (.aload_n 0, 1) := by decide +kernel
theorem d_c_wh12_5 : decode prog_1_method_6_code 5 = .ok (.getfield 7, 3) := by decide +kernel
theorem d_c_wh12_8 : decode prog_1_method_6_code 8 = .ok (.aload_n 0, 1) := by decide +kernel
theorem d_c_wh12_9 : decode prog_1_method_6_code 9 = .ok (.dup, 1) := by decide +kernel
theorem d_c_wh12_10 : decode prog_1_method_6_code 10 = .ok (.getfield 13, 3) := by decide +kernel
theorem d_c_wh12_13 : decode prog_1_method_6_code 13 = .ok (.dup_x1, 1) := by decide +kernel
theorem d_c_wh12_14 : decode prog_1_method_6_code 14 = .ok (.iconst 1, 1) := by decide +kernel
theorem d_c_wh12_15 : decode prog_1_method_6_code 15 = .ok (.iadd, 1) := by decide +kernel
theorem d_c_wh12_16 : decode prog_1_method_6_code 16 = .ok (.putfield 13, 3) := by decide +kernel
theorem d_c_wh12_19 : decode prog_1_method_6_code 19 = .ok (.baload, 1) := by decide +kernel
theorem d_c_wh12_20 : decode prog_1_method_6_code 20 = .ok (.istore_n 3, 1) := by decide +kernel
theorem d_c_wh12_21 : decode prog_1_method_6_code 21 = .ok (.iload_n 1, 1) := by decide +kernel
theorem d_c_wh12_22 : decode prog_1_method_6_code 22 = .ok (.iload_n 3, 1) := by decide +kernel
theorem d_c_wh12_23 : decode prog_1_method_6_code 23 = .ok (.bipush 127, 2) := by decide +kernel
theorem d_c_wh12_25 : decode prog_1_method_6_code 25 = .ok (.iand, 1) := by decide +kernel
theorem d_c_wh12_26 : decode prog_1_method_6_code 26 = .ok (.iload_n 2, 1) := by decide +kernel
theorem d_c_wh12_27 : decode prog_1_method_6_code 27 = .ok (.ishl, 1) := by decide +kernel
theorem d_c_wh12_28 : decode prog_1_method_6_code 28 = .ok (.ior, 1) := by decide +kernel
theorem d_c_wh12_29 : decode prog_1_method_6_code 29 = .ok (.istore_n 1, 1) := by decide +kernel
theorem d_c_wh12_30 : decode prog_1_method_6_code 30 = .ok (.iload_n 3, 1) := by decide +kernel
theorem d_c_wh12_31 : decode prog_1_method_6_code 31 = .ok (.ifCond .lt 5, 3) := by decide +kernel
theorem d_c_wh12_34 : decode prog_1_method_6_code 34 = .ok (.iload_n 1, 1) := by decide +kernel
theorem d_c_wh12_35 : decode prog_1_method_6_code 35 = .ok (.ireturn, 1) := by decide +kernel
theorem d_c_wh12_36 : decode prog_1_method_6_code 36 = .ok (.iinc 2 7, 3) := by decide +kernel
theorem d_c_wh12_39 : decode prog_1_method_6_code 39 = .ok (.goto (-35), 3) := by decide +kernel
set_option maxRecDepth 65536 in
set_option maxHeartbeats 40000000 in
theorem c_wh12 (l : Launch) (Z : State) (a0 : Array Value) (hw : ∀ d ∈ tables_1, d.before a0 Z = true) {B : Nat} (a b : Addr) (x0 x1 x2 x3 x4 x5 : Int32) (h0 : x1 < 0) (h1 : ¬ x2 < 0) :
    Con l Z FM B (⟨"com/example/attestry/attestry/home/ByteCursor", "whole", "()I"⟩ : MethodName) prog_1_method_6_code 4 (some .int) ({ frames := 0, cells := 0, slots := 0, locals := 0 } : Room) [] #[.ref a] [(a, (.object "com/example/attestry/attestry/home/ByteCursor"), [.ref b, .int (1 : Int32)]), (b, (.array .byte), [.int x0, .int x1, .int x2, .int x3, .int x4, .int x5])] (fun v os => v = some (.int (((0 : Int32) ||| ((x1 &&& (127 : Int32)) <<< ((0 : Int32) &&& 31))) ||| ((x2 &&& (127 : Int32)) <<< ((7 : Int32) &&& 31)))) ∧ os = [(a, (.object "com/example/attestry/attestry/home/ByteCursor"), [.ref b, .int (3 : Int32)]), (b, (.array .byte), [.int x0, .int x1, .int x2, .int x3, .int x4, .int x5])]) := by
  refine Con.of (plainFor_of_name (by first | (simp [plainName, overriddenIn]; done) | decide +kernel)) (ls := #[.val (.ref a), .unset, .unset, .unset]) (fun m => by first | (simp [entryFrame, mkF, argsToLocals, Value.category]; done) | rfl) ?_
  intro p_ e_ h_ s_ m_ bl_ me_ c_ T0 W0
  refine g_iconst (pc := 0) (0 : Int32) (by decide) W0 d_c_wh12_0 ?_
  refine g_istore_n (pc := 1) (ls' := #[.val (.ref a), .val (.int (0 : Int32)), .unset, .unset]) W0 d_c_wh12_1 rfl ?_
  refine g_iconst (pc := 2) (0 : Int32) (by decide) W0 d_c_wh12_2 ?_
  refine g_istore_n (pc := 3) (ls' := #[.val (.ref a), .val (.int (0 : Int32)), .val (.int (0 : Int32)), .unset]) W0 d_c_wh12_3 rfl ?_
  refine g_aload_n (pc := 4) W0 d_c_wh12_4 rfl rfl ?_
  refine g_getfield (pc := 5) (i := 0) (j := 0) (host := "") W0 (Or.inl (hw _ (List.mem_of_getElem? (i := 10) rfl))) rfl rfl rfl d_c_wh12_5 (fun T1 W2 => ?_)
  refine g_aload_n (pc := 8) W2 d_c_wh12_8 rfl rfl ?_
  refine g_dup (pc := 9) W2 d_c_wh12_9 rfl ?_
  refine g_getfield (pc := 10) (i := 0) (j := 1) (host := "") W2 (Or.inl (hw _ (List.mem_of_getElem? (i := 12) rfl))) rfl rfl rfl d_c_wh12_10 (fun T3 W4 => ?_)
  refine g_dup_x1 (pc := 13) W4 d_c_wh12_13 rfl rfl ?_
  refine g_iconst (pc := 14) (1 : Int32) (by decide) W4 d_c_wh12_14 ?_
  refine g_iadd (pc := 15) W4 d_c_wh12_15 ?_
  show Go p_ e_ bl_ _ (T3.setTop (mkF m_ 16 #[.val (.ref a), .val (.int (0 : Int32)), .val (.int (0 : Int32)), .unset] [.int (2 : Int32), .ref a, .int (1 : Int32), .ref b]))
  refine g_putfield (pc := 16) (i := 0) (j := 1) (ty := .int) (os' := [(a, (.object "com/example/attestry/attestry/home/ByteCursor"), [.ref b, .int (2 : Int32)]), (b, (.array .byte), [.int x0, .int x1, .int x2, .int x3, .int x4, .int x5])]) (host := "") W4 (Or.inl (hw _ (List.mem_of_getElem? (i := 12) rfl))) (cls_ByteCursor hw) (Or.inl (hw _ (List.mem_of_getElem? (i := 13) rfl))) (hw _ (List.mem_of_getElem? (i := 2) rfl)) rfl rfl rfl (by decide) rfl rfl rfl d_c_wh12_16 (fun T5 W6 => ?_)
  refine g_baload (pc := 19) (i := 1) (v := .int x1) W6 rfl (by decide) rfl d_c_wh12_19 ?_
  refine g_istore_n (pc := 20) (ls' := #[.val (.ref a), .val (.int (0 : Int32)), .val (.int (0 : Int32)), .val (.int x1)]) W6 d_c_wh12_20 rfl ?_
  refine g_iload_n (pc := 21) W6 d_c_wh12_21 rfl ?_
  refine g_iload_n (pc := 22) W6 d_c_wh12_22 rfl ?_
  refine g_bipush (pc := 23) (127 : Int32) (by decide) W6 d_c_wh12_23 ?_
  refine g_iand (pc := 25) W6 d_c_wh12_25 ?_
  refine g_iload_n (pc := 26) W6 d_c_wh12_26 rfl ?_
  refine g_ishl (pc := 27) W6 d_c_wh12_27 ?_
  refine g_ior (pc := 28) W6 d_c_wh12_28 ?_
  refine g_istore_n (pc := 29) (ls' := #[.val (.ref a), .val (.int ((0 : Int32) ||| ((x1 &&& (127 : Int32)) <<< ((0 : Int32) &&& 31)))), .val (.int (0 : Int32)), .val (.int x1)]) W6 d_c_wh12_29 rfl ?_
  refine g_iload_n (pc := 30) W6 d_c_wh12_30 rfl ?_
  refine g_ifY 36 (pc := 31) W6 d_c_wh12_31 (by decide) (by decide) (tlt h0).1 ?_
  refine g_iinc (pc := 36) (ls' := #[.val (.ref a), .val (.int ((0 : Int32) ||| ((x1 &&& (127 : Int32)) <<< ((0 : Int32) &&& 31)))), .val (.int (7 : Int32)), .val (.int x1)]) (7 : Int32) (by decide) W6 d_c_wh12_36 rfl rfl ?_
  refine g_goto 4 (pc := 39) W6 d_c_wh12_39 (by decide) (by decide) ?_
  refine g_aload_n (pc := 4) W6 d_c_wh12_4 rfl rfl ?_
  refine g_getfield (pc := 5) (i := 0) (j := 0) (host := "") W6 (Or.inl (hw _ (List.mem_of_getElem? (i := 10) rfl))) rfl rfl rfl d_c_wh12_5 (fun T7 W8 => ?_)
  refine g_aload_n (pc := 8) W8 d_c_wh12_8 rfl rfl ?_
  refine g_dup (pc := 9) W8 d_c_wh12_9 rfl ?_
  refine g_getfield (pc := 10) (i := 0) (j := 1) (host := "") W8 (Or.inl (hw _ (List.mem_of_getElem? (i := 12) rfl))) rfl rfl rfl d_c_wh12_10 (fun T9 W10 => ?_)
  refine g_dup_x1 (pc := 13) W10 d_c_wh12_13 rfl rfl ?_
  refine g_iconst (pc := 14) (1 : Int32) (by decide) W10 d_c_wh12_14 ?_
  refine g_iadd (pc := 15) W10 d_c_wh12_15 ?_
  show Go p_ e_ bl_ _ (T9.setTop (mkF m_ 16 #[.val (.ref a), .val (.int ((0 : Int32) ||| ((x1 &&& (127 : Int32)) <<< ((0 : Int32) &&& 31)))), .val (.int (7 : Int32)), .val (.int x1)] [.int (3 : Int32), .ref a, .int (2 : Int32), .ref b]))
  refine g_putfield (pc := 16) (i := 0) (j := 1) (ty := .int) (os' := [(a, (.object "com/example/attestry/attestry/home/ByteCursor"), [.ref b, .int (3 : Int32)]), (b, (.array .byte), [.int x0, .int x1, .int x2, .int x3, .int x4, .int x5])]) (host := "") W10 (Or.inl (hw _ (List.mem_of_getElem? (i := 12) rfl))) (cls_ByteCursor hw) (Or.inl (hw _ (List.mem_of_getElem? (i := 13) rfl))) (hw _ (List.mem_of_getElem? (i := 2) rfl)) rfl rfl rfl (by decide) rfl rfl rfl d_c_wh12_16 (fun T11 W12 => ?_)
  refine g_baload (pc := 19) (i := 1) (v := .int x2) W12 rfl (by decide) rfl d_c_wh12_19 ?_
  refine g_istore_n (pc := 20) (ls' := #[.val (.ref a), .val (.int ((0 : Int32) ||| ((x1 &&& (127 : Int32)) <<< ((0 : Int32) &&& 31)))), .val (.int (7 : Int32)), .val (.int x2)]) W12 d_c_wh12_20 rfl ?_
  refine g_iload_n (pc := 21) W12 d_c_wh12_21 rfl ?_
  refine g_iload_n (pc := 22) W12 d_c_wh12_22 rfl ?_
  refine g_bipush (pc := 23) (127 : Int32) (by decide) W12 d_c_wh12_23 ?_
  refine g_iand (pc := 25) W12 d_c_wh12_25 ?_
  refine g_iload_n (pc := 26) W12 d_c_wh12_26 rfl ?_
  refine g_ishl (pc := 27) W12 d_c_wh12_27 ?_
  refine g_ior (pc := 28) W12 d_c_wh12_28 ?_
  refine g_istore_n (pc := 29) (ls' := #[.val (.ref a), .val (.int (((0 : Int32) ||| ((x1 &&& (127 : Int32)) <<< ((0 : Int32) &&& 31))) ||| ((x2 &&& (127 : Int32)) <<< ((7 : Int32) &&& 31)))), .val (.int (7 : Int32)), .val (.int x2)]) W12 d_c_wh12_29 rfl ?_
  refine g_iload_n (pc := 30) W12 d_c_wh12_30 rfl ?_
  refine g_ifN (pc := 31) W12 d_c_wh12_31 (flt h1).1 ?_
  refine g_iload_n (pc := 34) W12 d_c_wh12_34 rfl ?_
  exact g_ireturn (pc := 35) rfl W12 d_c_wh12_35 (by decide) (by decide) ⟨rfl, rfl⟩
theorem d_c_wh13_0 : decode prog_1_method_6_code 0 = .ok (.iconst 0, 1) := by decide +kernel
theorem d_c_wh13_1 : decode prog_1_method_6_code 1 = .ok (.istore_n 1, 1) := by decide +kernel
theorem d_c_wh13_2 : decode prog_1_method_6_code 2 = .ok (.iconst 0, 1) := by decide +kernel
theorem d_c_wh13_3 : decode prog_1_method_6_code 3 = .ok (.istore_n 2, 1) := by decide +kernel
theorem d_c_wh13_4 : decode prog_1_method_6_code 4 = .ok (.aload_n 0, 1) := by decide +kernel
theorem d_c_wh13_5 : decode prog_1_method_6_code 5 = .ok (.getfield 7, 3) := by decide +kernel
theorem d_c_wh13_8 : decode prog_1_method_6_code 8 = .ok (.aload_n 0, 1) := by decide +kernel
theorem d_c_wh13_9 : decode prog_1_method_6_code 9 = .ok (.dup, 1) := by decide +kernel
theorem d_c_wh13_10 : decode prog_1_method_6_code 10 = .ok (.getfield 13, 3) := by decide +kernel
theorem d_c_wh13_13 : decode prog_1_method_6_code 13 = .ok (.dup_x1, 1) := by decide +kernel
theorem d_c_wh13_14 : decode prog_1_method_6_code 14 = .ok (.iconst 1, 1) := by decide +kernel
theorem d_c_wh13_15 : decode prog_1_method_6_code 15 = .ok (.iadd, 1) := by decide +kernel
theorem d_c_wh13_16 : decode prog_1_method_6_code 16 = .ok (.putfield 13, 3) := by decide +kernel
theorem d_c_wh13_19 : decode prog_1_method_6_code 19 = .ok (.baload, 1) := by decide +kernel
theorem d_c_wh13_20 : decode prog_1_method_6_code 20 = .ok (.istore_n 3, 1) := by decide +kernel
theorem d_c_wh13_21 : decode prog_1_method_6_code 21 = .ok (.iload_n 1, 1) := by decide +kernel
theorem d_c_wh13_22 : decode prog_1_method_6_code 22 = .ok (.iload_n 3, 1) := by decide +kernel
theorem d_c_wh13_23 : decode prog_1_method_6_code 23 = .ok (.bipush 127, 2) := by decide +kernel
theorem d_c_wh13_25 : decode prog_1_method_6_code 25 = .ok (.iand, 1) := by decide +kernel
theorem d_c_wh13_26 : decode prog_1_method_6_code 26 = .ok (.iload_n 2, 1) := by decide +kernel
theorem d_c_wh13_27 : decode prog_1_method_6_code 27 = .ok (.ishl, 1) := by decide +kernel
theorem d_c_wh13_28 : decode prog_1_method_6_code 28 = .ok (.ior, 1) := by decide +kernel
theorem d_c_wh13_29 : decode prog_1_method_6_code 29 = .ok (.istore_n 1, 1) := by decide +kernel
theorem d_c_wh13_30 : decode prog_1_method_6_code 30 = .ok (.iload_n 3, 1) := by decide +kernel
theorem d_c_wh13_31 : decode prog_1_method_6_code 31 = .ok (.ifCond .lt 5, 3) := by decide +kernel
theorem d_c_wh13_34 : decode prog_1_method_6_code 34 = .ok (.iload_n 1, 1) := by decide +kernel
theorem d_c_wh13_35 : decode prog_1_method_6_code 35 = .ok (.ireturn, 1) := by decide +kernel
theorem d_c_wh13_36 : decode prog_1_method_6_code 36 = .ok (.iinc 2 7, 3) := by decide +kernel
theorem d_c_wh13_39 : decode prog_1_method_6_code 39 = .ok (.goto (-35), 3) := by decide +kernel
set_option maxRecDepth 65536 in
set_option maxHeartbeats 40000000 in
theorem c_wh13 (l : Launch) (Z : State) (a0 : Array Value) (hw : ∀ d ∈ tables_1, d.before a0 Z = true) {B : Nat} (a b : Addr) (x0 x1 x2 x3 x4 x5 : Int32) (h0 : x1 < 0) (h1 : x2 < 0) (h2 : ¬ x3 < 0) :
    Con l Z FM B (⟨"com/example/attestry/attestry/home/ByteCursor", "whole", "()I"⟩ : MethodName) prog_1_method_6_code 4 (some .int) ({ frames := 0, cells := 0, slots := 0, locals := 0 } : Room) [] #[.ref a] [(a, (.object "com/example/attestry/attestry/home/ByteCursor"), [.ref b, .int (1 : Int32)]), (b, (.array .byte), [.int x0, .int x1, .int x2, .int x3, .int x4, .int x5])] (fun v os => v = some (.int ((((0 : Int32) ||| ((x1 &&& (127 : Int32)) <<< ((0 : Int32) &&& 31))) ||| ((x2 &&& (127 : Int32)) <<< ((7 : Int32) &&& 31))) ||| ((x3 &&& (127 : Int32)) <<< ((14 : Int32) &&& 31)))) ∧ os = [(a, (.object "com/example/attestry/attestry/home/ByteCursor"), [.ref b, .int (4 : Int32)]), (b, (.array .byte), [.int x0, .int x1, .int x2, .int x3, .int x4, .int x5])]) := by
  refine Con.of (plainFor_of_name (by first | (simp [plainName, overriddenIn]; done) | decide +kernel)) (ls := #[.val (.ref a), .unset, .unset, .unset]) (fun m => by first | (simp [entryFrame, mkF, argsToLocals, Value.category]; done) | rfl) ?_
  intro p_ e_ h_ s_ m_ bl_ me_ c_ T0 W0
  refine g_iconst (pc := 0) (0 : Int32) (by decide) W0 d_c_wh13_0 ?_
  refine g_istore_n (pc := 1) (ls' := #[.val (.ref a), .val (.int (0 : Int32)), .unset, .unset]) W0 d_c_wh13_1 rfl ?_
  refine g_iconst (pc := 2) (0 : Int32) (by decide) W0 d_c_wh13_2 ?_
  refine g_istore_n (pc := 3) (ls' := #[.val (.ref a), .val (.int (0 : Int32)), .val (.int (0 : Int32)), .unset]) W0 d_c_wh13_3 rfl ?_
  refine g_aload_n (pc := 4) W0 d_c_wh13_4 rfl rfl ?_
  refine g_getfield (pc := 5) (i := 0) (j := 0) (host := "") W0 (Or.inl (hw _ (List.mem_of_getElem? (i := 10) rfl))) rfl rfl rfl d_c_wh13_5 (fun T1 W2 => ?_)
  refine g_aload_n (pc := 8) W2 d_c_wh13_8 rfl rfl ?_
  refine g_dup (pc := 9) W2 d_c_wh13_9 rfl ?_
  refine g_getfield (pc := 10) (i := 0) (j := 1) (host := "") W2 (Or.inl (hw _ (List.mem_of_getElem? (i := 12) rfl))) rfl rfl rfl d_c_wh13_10 (fun T3 W4 => ?_)
  refine g_dup_x1 (pc := 13) W4 d_c_wh13_13 rfl rfl ?_
  refine g_iconst (pc := 14) (1 : Int32) (by decide) W4 d_c_wh13_14 ?_
  refine g_iadd (pc := 15) W4 d_c_wh13_15 ?_
  show Go p_ e_ bl_ _ (T3.setTop (mkF m_ 16 #[.val (.ref a), .val (.int (0 : Int32)), .val (.int (0 : Int32)), .unset] [.int (2 : Int32), .ref a, .int (1 : Int32), .ref b]))
  refine g_putfield (pc := 16) (i := 0) (j := 1) (ty := .int) (os' := [(a, (.object "com/example/attestry/attestry/home/ByteCursor"), [.ref b, .int (2 : Int32)]), (b, (.array .byte), [.int x0, .int x1, .int x2, .int x3, .int x4, .int x5])]) (host := "") W4 (Or.inl (hw _ (List.mem_of_getElem? (i := 12) rfl))) (cls_ByteCursor hw) (Or.inl (hw _ (List.mem_of_getElem? (i := 13) rfl))) (hw _ (List.mem_of_getElem? (i := 2) rfl)) rfl rfl rfl (by decide) rfl rfl rfl d_c_wh13_16 (fun T5 W6 => ?_)
  refine g_baload (pc := 19) (i := 1) (v := .int x1) W6 rfl (by decide) rfl d_c_wh13_19 ?_
  refine g_istore_n (pc := 20) (ls' := #[.val (.ref a), .val (.int (0 : Int32)), .val (.int (0 : Int32)), .val (.int x1)]) W6 d_c_wh13_20 rfl ?_
  refine g_iload_n (pc := 21) W6 d_c_wh13_21 rfl ?_
  refine g_iload_n (pc := 22) W6 d_c_wh13_22 rfl ?_
  refine g_bipush (pc := 23) (127 : Int32) (by decide) W6 d_c_wh13_23 ?_
  refine g_iand (pc := 25) W6 d_c_wh13_25 ?_
  refine g_iload_n (pc := 26) W6 d_c_wh13_26 rfl ?_
  refine g_ishl (pc := 27) W6 d_c_wh13_27 ?_
  refine g_ior (pc := 28) W6 d_c_wh13_28 ?_
  refine g_istore_n (pc := 29) (ls' := #[.val (.ref a), .val (.int ((0 : Int32) ||| ((x1 &&& (127 : Int32)) <<< ((0 : Int32) &&& 31)))), .val (.int (0 : Int32)), .val (.int x1)]) W6 d_c_wh13_29 rfl ?_
  refine g_iload_n (pc := 30) W6 d_c_wh13_30 rfl ?_
  refine g_ifY 36 (pc := 31) W6 d_c_wh13_31 (by decide) (by decide) (tlt h0).1 ?_
  refine g_iinc (pc := 36) (ls' := #[.val (.ref a), .val (.int ((0 : Int32) ||| ((x1 &&& (127 : Int32)) <<< ((0 : Int32) &&& 31)))), .val (.int (7 : Int32)), .val (.int x1)]) (7 : Int32) (by decide) W6 d_c_wh13_36 rfl rfl ?_
  refine g_goto 4 (pc := 39) W6 d_c_wh13_39 (by decide) (by decide) ?_
  refine g_aload_n (pc := 4) W6 d_c_wh13_4 rfl rfl ?_
  refine g_getfield (pc := 5) (i := 0) (j := 0) (host := "") W6 (Or.inl (hw _ (List.mem_of_getElem? (i := 10) rfl))) rfl rfl rfl d_c_wh13_5 (fun T7 W8 => ?_)
  refine g_aload_n (pc := 8) W8 d_c_wh13_8 rfl rfl ?_
  refine g_dup (pc := 9) W8 d_c_wh13_9 rfl ?_
  refine g_getfield (pc := 10) (i := 0) (j := 1) (host := "") W8 (Or.inl (hw _ (List.mem_of_getElem? (i := 12) rfl))) rfl rfl rfl d_c_wh13_10 (fun T9 W10 => ?_)
  refine g_dup_x1 (pc := 13) W10 d_c_wh13_13 rfl rfl ?_
  refine g_iconst (pc := 14) (1 : Int32) (by decide) W10 d_c_wh13_14 ?_
  refine g_iadd (pc := 15) W10 d_c_wh13_15 ?_
  show Go p_ e_ bl_ _ (T9.setTop (mkF m_ 16 #[.val (.ref a), .val (.int ((0 : Int32) ||| ((x1 &&& (127 : Int32)) <<< ((0 : Int32) &&& 31)))), .val (.int (7 : Int32)), .val (.int x1)] [.int (3 : Int32), .ref a, .int (2 : Int32), .ref b]))
  refine g_putfield (pc := 16) (i := 0) (j := 1) (ty := .int) (os' := [(a, (.object "com/example/attestry/attestry/home/ByteCursor"), [.ref b, .int (3 : Int32)]), (b, (.array .byte), [.int x0, .int x1, .int x2, .int x3, .int x4, .int x5])]) (host := "") W10 (Or.inl (hw _ (List.mem_of_getElem? (i := 12) rfl))) (cls_ByteCursor hw) (Or.inl (hw _ (List.mem_of_getElem? (i := 13) rfl))) (hw _ (List.mem_of_getElem? (i := 2) rfl)) rfl rfl rfl (by decide) rfl rfl rfl d_c_wh13_16 (fun T11 W12 => ?_)
  refine g_baload (pc := 19) (i := 1) (v := .int x2) W12 rfl (by decide) rfl d_c_wh13_19 ?_
  refine g_istore_n (pc := 20) (ls' := #[.val (.ref a), .val (.int ((0 : Int32) ||| ((x1 &&& (127 : Int32)) <<< ((0 : Int32) &&& 31)))), .val (.int (7 : Int32)), .val (.int x2)]) W12 d_c_wh13_20 rfl ?_
  refine g_iload_n (pc := 21) W12 d_c_wh13_21 rfl ?_
  refine g_iload_n (pc := 22) W12 d_c_wh13_22 rfl ?_
  refine g_bipush (pc := 23) (127 : Int32) (by decide) W12 d_c_wh13_23 ?_
  refine g_iand (pc := 25) W12 d_c_wh13_25 ?_
  refine g_iload_n (pc := 26) W12 d_c_wh13_26 rfl ?_
  refine g_ishl (pc := 27) W12 d_c_wh13_27 ?_
  refine g_ior (pc := 28) W12 d_c_wh13_28 ?_
  refine g_istore_n (pc := 29) (ls' := #[.val (.ref a), .val (.int (((0 : Int32) ||| ((x1 &&& (127 : Int32)) <<< ((0 : Int32) &&& 31))) ||| ((x2 &&& (127 : Int32)) <<< ((7 : Int32) &&& 31)))), .val (.int (7 : Int32)), .val (.int x2)]) W12 d_c_wh13_29 rfl ?_
  refine g_iload_n (pc := 30) W12 d_c_wh13_30 rfl ?_
  refine g_ifY 36 (pc := 31) W12 d_c_wh13_31 (by decide) (by decide) (tlt h1).1 ?_
  refine g_iinc (pc := 36) (ls' := #[.val (.ref a), .val (.int (((0 : Int32) ||| ((x1 &&& (127 : Int32)) <<< ((0 : Int32) &&& 31))) ||| ((x2 &&& (127 : Int32)) <<< ((7 : Int32) &&& 31)))), .val (.int (14 : Int32)), .val (.int x2)]) (7 : Int32) (by decide) W12 d_c_wh13_36 rfl rfl ?_
  refine g_goto 4 (pc := 39) W12 d_c_wh13_39 (by decide) (by decide) ?_
  refine g_aload_n (pc := 4) W12 d_c_wh13_4 rfl rfl ?_
  refine g_getfield (pc := 5) (i := 0) (j := 0) (host := "") W12 (Or.inl (hw _ (List.mem_of_getElem? (i := 10) rfl))) rfl rfl rfl d_c_wh13_5 (fun T13 W14 => ?_)
  refine g_aload_n (pc := 8) W14 d_c_wh13_8 rfl rfl ?_
  refine g_dup (pc := 9) W14 d_c_wh13_9 rfl ?_
  refine g_getfield (pc := 10) (i := 0) (j := 1) (host := "") W14 (Or.inl (hw _ (List.mem_of_getElem? (i := 12) rfl))) rfl rfl rfl d_c_wh13_10 (fun T15 W16 => ?_)
  refine g_dup_x1 (pc := 13) W16 d_c_wh13_13 rfl rfl ?_
  refine g_iconst (pc := 14) (1 : Int32) (by decide) W16 d_c_wh13_14 ?_
  refine g_iadd (pc := 15) W16 d_c_wh13_15 ?_
  show Go p_ e_ bl_ _ (T15.setTop (mkF m_ 16 #[.val (.ref a), .val (.int (((0 : Int32) ||| ((x1 &&& (127 : Int32)) <<< ((0 : Int32) &&& 31))) ||| ((x2 &&& (127 : Int32)) <<< ((7 : Int32) &&& 31)))), .val (.int (14 : Int32)), .val (.int x2)] [.int (4 : Int32), .ref a, .int (3 : Int32), .ref b]))
  refine g_putfield (pc := 16) (i := 0) (j := 1) (ty := .int) (os' := [(a, (.object "com/example/attestry/attestry/home/ByteCursor"), [.ref b, .int (4 : Int32)]), (b, (.array .byte), [.int x0, .int x1, .int x2, .int x3, .int x4, .int x5])]) (host := "") W16 (Or.inl (hw _ (List.mem_of_getElem? (i := 12) rfl))) (cls_ByteCursor hw) (Or.inl (hw _ (List.mem_of_getElem? (i := 13) rfl))) (hw _ (List.mem_of_getElem? (i := 2) rfl)) rfl rfl rfl (by decide) rfl rfl rfl d_c_wh13_16 (fun T17 W18 => ?_)
  refine g_baload (pc := 19) (i := 1) (v := .int x3) W18 rfl (by decide) rfl d_c_wh13_19 ?_
  refine g_istore_n (pc := 20) (ls' := #[.val (.ref a), .val (.int (((0 : Int32) ||| ((x1 &&& (127 : Int32)) <<< ((0 : Int32) &&& 31))) ||| ((x2 &&& (127 : Int32)) <<< ((7 : Int32) &&& 31)))), .val (.int (14 : Int32)), .val (.int x3)]) W18 d_c_wh13_20 rfl ?_
  refine g_iload_n (pc := 21) W18 d_c_wh13_21 rfl ?_
  refine g_iload_n (pc := 22) W18 d_c_wh13_22 rfl ?_
  refine g_bipush (pc := 23) (127 : Int32) (by decide) W18 d_c_wh13_23 ?_
  refine g_iand (pc := 25) W18 d_c_wh13_25 ?_
  refine g_iload_n (pc := 26) W18 d_c_wh13_26 rfl ?_
  refine g_ishl (pc := 27) W18 d_c_wh13_27 ?_
  refine g_ior (pc := 28) W18 d_c_wh13_28 ?_
  refine g_istore_n (pc := 29) (ls' := #[.val (.ref a), .val (.int ((((0 : Int32) ||| ((x1 &&& (127 : Int32)) <<< ((0 : Int32) &&& 31))) ||| ((x2 &&& (127 : Int32)) <<< ((7 : Int32) &&& 31))) ||| ((x3 &&& (127 : Int32)) <<< ((14 : Int32) &&& 31)))), .val (.int (14 : Int32)), .val (.int x3)]) W18 d_c_wh13_29 rfl ?_
  refine g_iload_n (pc := 30) W18 d_c_wh13_30 rfl ?_
  refine g_ifN (pc := 31) W18 d_c_wh13_31 (flt h2).1 ?_
  refine g_iload_n (pc := 34) W18 d_c_wh13_34 rfl ?_
  exact g_ireturn (pc := 35) rfl W18 d_c_wh13_35 (by decide) (by decide) ⟨rfl, rfl⟩
theorem d_c_wh14_0 : decode prog_1_method_6_code 0 = .ok (.iconst 0, 1) := by decide +kernel
theorem d_c_wh14_1 : decode prog_1_method_6_code 1 = .ok (.istore_n 1, 1) := by decide +kernel
theorem d_c_wh14_2 : decode prog_1_method_6_code 2 = .ok (.iconst 0, 1) := by decide +kernel
theorem d_c_wh14_3 : decode prog_1_method_6_code 3 = .ok (.istore_n 2, 1) := by decide +kernel
theorem d_c_wh14_4 : decode prog_1_method_6_code 4 = .ok (.aload_n 0, 1) := by decide +kernel
theorem d_c_wh14_5 : decode prog_1_method_6_code 5 = .ok (.getfield 7, 3) := by decide +kernel
theorem d_c_wh14_8 : decode prog_1_method_6_code 8 = .ok (.aload_n 0, 1) := by decide +kernel
theorem d_c_wh14_9 : decode prog_1_method_6_code 9 = .ok (.dup, 1) := by decide +kernel
theorem d_c_wh14_10 : decode prog_1_method_6_code 10 = .ok (.getfield 13, 3) := by decide +kernel
theorem d_c_wh14_13 : decode prog_1_method_6_code 13 = .ok (.dup_x1, 1) := by decide +kernel
theorem d_c_wh14_14 : decode prog_1_method_6_code 14 = .ok (.iconst 1, 1) := by decide +kernel
theorem d_c_wh14_15 : decode prog_1_method_6_code 15 = .ok (.iadd, 1) := by decide +kernel
theorem d_c_wh14_16 : decode prog_1_method_6_code 16 = .ok (.putfield 13, 3) := by decide +kernel
theorem d_c_wh14_19 : decode prog_1_method_6_code 19 = .ok (.baload, 1) := by decide +kernel
theorem d_c_wh14_20 : decode prog_1_method_6_code 20 = .ok (.istore_n 3, 1) := by decide +kernel
theorem d_c_wh14_21 : decode prog_1_method_6_code 21 = .ok (.iload_n 1, 1) := by decide +kernel
theorem d_c_wh14_22 : decode prog_1_method_6_code 22 = .ok (.iload_n 3, 1) := by decide +kernel
theorem d_c_wh14_23 : decode prog_1_method_6_code 23 = .ok (.bipush 127, 2) := by decide +kernel
theorem d_c_wh14_25 : decode prog_1_method_6_code 25 = .ok (.iand, 1) := by decide +kernel
theorem d_c_wh14_26 : decode prog_1_method_6_code 26 = .ok (.iload_n 2, 1) := by decide +kernel
theorem d_c_wh14_27 : decode prog_1_method_6_code 27 = .ok (.ishl, 1) := by decide +kernel
theorem d_c_wh14_28 : decode prog_1_method_6_code 28 = .ok (.ior, 1) := by decide +kernel
theorem d_c_wh14_29 : decode prog_1_method_6_code 29 = .ok (.istore_n 1, 1) := by decide +kernel
theorem d_c_wh14_30 : decode prog_1_method_6_code 30 = .ok (.iload_n 3, 1) := by decide +kernel
theorem d_c_wh14_31 : decode prog_1_method_6_code 31 = .ok (.ifCond .lt 5, 3) := by decide +kernel
theorem d_c_wh14_34 : decode prog_1_method_6_code 34 = .ok (.iload_n 1, 1) := by decide +kernel
theorem d_c_wh14_35 : decode prog_1_method_6_code 35 = .ok (.ireturn, 1) := by decide +kernel
theorem d_c_wh14_36 : decode prog_1_method_6_code 36 = .ok (.iinc 2 7, 3) := by decide +kernel
theorem d_c_wh14_39 : decode prog_1_method_6_code 39 = .ok (.goto (-35), 3) := by decide +kernel
set_option maxRecDepth 65536 in
set_option maxHeartbeats 40000000 in
theorem c_wh14 (l : Launch) (Z : State) (a0 : Array Value) (hw : ∀ d ∈ tables_1, d.before a0 Z = true) {B : Nat} (a b : Addr) (x0 x1 x2 x3 x4 x5 : Int32) (h0 : x1 < 0) (h1 : x2 < 0) (h2 : x3 < 0) (h3 : ¬ x4 < 0) :
    Con l Z FM B (⟨"com/example/attestry/attestry/home/ByteCursor", "whole", "()I"⟩ : MethodName) prog_1_method_6_code 4 (some .int) ({ frames := 0, cells := 0, slots := 0, locals := 0 } : Room) [] #[.ref a] [(a, (.object "com/example/attestry/attestry/home/ByteCursor"), [.ref b, .int (1 : Int32)]), (b, (.array .byte), [.int x0, .int x1, .int x2, .int x3, .int x4, .int x5])] (fun v os => v = some (.int (((((0 : Int32) ||| ((x1 &&& (127 : Int32)) <<< ((0 : Int32) &&& 31))) ||| ((x2 &&& (127 : Int32)) <<< ((7 : Int32) &&& 31))) ||| ((x3 &&& (127 : Int32)) <<< ((14 : Int32) &&& 31))) ||| ((x4 &&& (127 : Int32)) <<< ((21 : Int32) &&& 31)))) ∧ os = [(a, (.object "com/example/attestry/attestry/home/ByteCursor"), [.ref b, .int (5 : Int32)]), (b, (.array .byte), [.int x0, .int x1, .int x2, .int x3, .int x4, .int x5])]) := by
  refine Con.of (plainFor_of_name (by first | (simp [plainName, overriddenIn]; done) | decide +kernel)) (ls := #[.val (.ref a), .unset, .unset, .unset]) (fun m => by first | (simp [entryFrame, mkF, argsToLocals, Value.category]; done) | rfl) ?_
  intro p_ e_ h_ s_ m_ bl_ me_ c_ T0 W0
  refine g_iconst (pc := 0) (0 : Int32) (by decide) W0 d_c_wh14_0 ?_
  refine g_istore_n (pc := 1) (ls' := #[.val (.ref a), .val (.int (0 : Int32)), .unset, .unset]) W0 d_c_wh14_1 rfl ?_
  refine g_iconst (pc := 2) (0 : Int32) (by decide) W0 d_c_wh14_2 ?_
  refine g_istore_n (pc := 3) (ls' := #[.val (.ref a), .val (.int (0 : Int32)), .val (.int (0 : Int32)), .unset]) W0 d_c_wh14_3 rfl ?_
  refine g_aload_n (pc := 4) W0 d_c_wh14_4 rfl rfl ?_
  refine g_getfield (pc := 5) (i := 0) (j := 0) (host := "") W0 (Or.inl (hw _ (List.mem_of_getElem? (i := 10) rfl))) rfl rfl rfl d_c_wh14_5 (fun T1 W2 => ?_)
  refine g_aload_n (pc := 8) W2 d_c_wh14_8 rfl rfl ?_
  refine g_dup (pc := 9) W2 d_c_wh14_9 rfl ?_
  refine g_getfield (pc := 10) (i := 0) (j := 1) (host := "") W2 (Or.inl (hw _ (List.mem_of_getElem? (i := 12) rfl))) rfl rfl rfl d_c_wh14_10 (fun T3 W4 => ?_)
  refine g_dup_x1 (pc := 13) W4 d_c_wh14_13 rfl rfl ?_
  refine g_iconst (pc := 14) (1 : Int32) (by decide) W4 d_c_wh14_14 ?_
  refine g_iadd (pc := 15) W4 d_c_wh14_15 ?_
  show Go p_ e_ bl_ _ (T3.setTop (mkF m_ 16 #[.val (.ref a), .val (.int (0 : Int32)), .val (.int (0 : Int32)), .unset] [.int (2 : Int32), .ref a, .int (1 : Int32), .ref b]))
  refine g_putfield (pc := 16) (i := 0) (j := 1) (ty := .int) (os' := [(a, (.object "com/example/attestry/attestry/home/ByteCursor"), [.ref b, .int (2 : Int32)]), (b, (.array .byte), [.int x0, .int x1, .int x2, .int x3, .int x4, .int x5])]) (host := "") W4 (Or.inl (hw _ (List.mem_of_getElem? (i := 12) rfl))) (cls_ByteCursor hw) (Or.inl (hw _ (List.mem_of_getElem? (i := 13) rfl))) (hw _ (List.mem_of_getElem? (i := 2) rfl)) rfl rfl rfl (by decide) rfl rfl rfl d_c_wh14_16 (fun T5 W6 => ?_)
  refine g_baload (pc := 19) (i := 1) (v := .int x1) W6 rfl (by decide) rfl d_c_wh14_19 ?_
  refine g_istore_n (pc := 20) (ls' := #[.val (.ref a), .val (.int (0 : Int32)), .val (.int (0 : Int32)), .val (.int x1)]) W6 d_c_wh14_20 rfl ?_
  refine g_iload_n (pc := 21) W6 d_c_wh14_21 rfl ?_
  refine g_iload_n (pc := 22) W6 d_c_wh14_22 rfl ?_
  refine g_bipush (pc := 23) (127 : Int32) (by decide) W6 d_c_wh14_23 ?_
  refine g_iand (pc := 25) W6 d_c_wh14_25 ?_
  refine g_iload_n (pc := 26) W6 d_c_wh14_26 rfl ?_
  refine g_ishl (pc := 27) W6 d_c_wh14_27 ?_
  refine g_ior (pc := 28) W6 d_c_wh14_28 ?_
  refine g_istore_n (pc := 29) (ls' := #[.val (.ref a), .val (.int ((0 : Int32) ||| ((x1 &&& (127 : Int32)) <<< ((0 : Int32) &&& 31)))), .val (.int (0 : Int32)), .val (.int x1)]) W6 d_c_wh14_29 rfl ?_
  refine g_iload_n (pc := 30) W6 d_c_wh14_30 rfl ?_
  refine g_ifY 36 (pc := 31) W6 d_c_wh14_31 (by decide) (by decide) (tlt h0).1 ?_
  refine g_iinc (pc := 36) (ls' := #[.val (.ref a), .val (.int ((0 : Int32) ||| ((x1 &&& (127 : Int32)) <<< ((0 : Int32) &&& 31)))), .val (.int (7 : Int32)), .val (.int x1)]) (7 : Int32) (by decide) W6 d_c_wh14_36 rfl rfl ?_
  refine g_goto 4 (pc := 39) W6 d_c_wh14_39 (by decide) (by decide) ?_
  refine g_aload_n (pc := 4) W6 d_c_wh14_4 rfl rfl ?_
  refine g_getfield (pc := 5) (i := 0) (j := 0) (host := "") W6 (Or.inl (hw _ (List.mem_of_getElem? (i := 10) rfl))) rfl rfl rfl d_c_wh14_5 (fun T7 W8 => ?_)
  refine g_aload_n (pc := 8) W8 d_c_wh14_8 rfl rfl ?_
  refine g_dup (pc := 9) W8 d_c_wh14_9 rfl ?_
  refine g_getfield (pc := 10) (i := 0) (j := 1) (host := "") W8 (Or.inl (hw _ (List.mem_of_getElem? (i := 12) rfl))) rfl rfl rfl d_c_wh14_10 (fun T9 W10 => ?_)
  refine g_dup_x1 (pc := 13) W10 d_c_wh14_13 rfl rfl ?_
  refine g_iconst (pc := 14) (1 : Int32) (by decide) W10 d_c_wh14_14 ?_
  refine g_iadd (pc := 15) W10 d_c_wh14_15 ?_
  show Go p_ e_ bl_ _ (T9.setTop (mkF m_ 16 #[.val (.ref a), .val (.int ((0 : Int32) ||| ((x1 &&& (127 : Int32)) <<< ((0 : Int32) &&& 31)))), .val (.int (7 : Int32)), .val (.int x1)] [.int (3 : Int32), .ref a, .int (2 : Int32), .ref b]))
  refine g_putfield (pc := 16) (i := 0) (j := 1) (ty := .int) (os' := [(a, (.object "com/example/attestry/attestry/home/ByteCursor"), [.ref b, .int (3 : Int32)]), (b, (.array .byte), [.int x0, .int x1, .int x2, .int x3, .int x4, .int x5])]) (host := "") W10 (Or.inl (hw _ (List.mem_of_getElem? (i := 12) rfl))) (cls_ByteCursor hw) (Or.inl (hw _ (List.mem_of_getElem? (i := 13) rfl))) (hw _ (List.mem_of_getElem? (i := 2) rfl)) rfl rfl rfl (by decide) rfl rfl rfl d_c_wh14_16 (fun T11 W12 => ?_)
  refine g_baload (pc := 19) (i := 1) (v := .int x2) W12 rfl (by decide) rfl d_c_wh14_19 ?_
  refine g_istore_n (pc := 20) (ls' := #[.val (.ref a), .val (.int ((0 : Int32) ||| ((x1 &&& (127 : Int32)) <<< ((0 : Int32) &&& 31)))), .val (.int (7 : Int32)), .val (.int x2)]) W12 d_c_wh14_20 rfl ?_
  refine g_iload_n (pc := 21) W12 d_c_wh14_21 rfl ?_
  refine g_iload_n (pc := 22) W12 d_c_wh14_22 rfl ?_
  refine g_bipush (pc := 23) (127 : Int32) (by decide) W12 d_c_wh14_23 ?_
  refine g_iand (pc := 25) W12 d_c_wh14_25 ?_
  refine g_iload_n (pc := 26) W12 d_c_wh14_26 rfl ?_
  refine g_ishl (pc := 27) W12 d_c_wh14_27 ?_
  refine g_ior (pc := 28) W12 d_c_wh14_28 ?_
  refine g_istore_n (pc := 29) (ls' := #[.val (.ref a), .val (.int (((0 : Int32) ||| ((x1 &&& (127 : Int32)) <<< ((0 : Int32) &&& 31))) ||| ((x2 &&& (127 : Int32)) <<< ((7 : Int32) &&& 31)))), .val (.int (7 : Int32)), .val (.int x2)]) W12 d_c_wh14_29 rfl ?_
  refine g_iload_n (pc := 30) W12 d_c_wh14_30 rfl ?_
  refine g_ifY 36 (pc := 31) W12 d_c_wh14_31 (by decide) (by decide) (tlt h1).1 ?_
  refine g_iinc (pc := 36) (ls' := #[.val (.ref a), .val (.int (((0 : Int32) ||| ((x1 &&& (127 : Int32)) <<< ((0 : Int32) &&& 31))) ||| ((x2 &&& (127 : Int32)) <<< ((7 : Int32) &&& 31)))), .val (.int (14 : Int32)), .val (.int x2)]) (7 : Int32) (by decide) W12 d_c_wh14_36 rfl rfl ?_
  refine g_goto 4 (pc := 39) W12 d_c_wh14_39 (by decide) (by decide) ?_
  refine g_aload_n (pc := 4) W12 d_c_wh14_4 rfl rfl ?_
  refine g_getfield (pc := 5) (i := 0) (j := 0) (host := "") W12 (Or.inl (hw _ (List.mem_of_getElem? (i := 10) rfl))) rfl rfl rfl d_c_wh14_5 (fun T13 W14 => ?_)
  refine g_aload_n (pc := 8) W14 d_c_wh14_8 rfl rfl ?_
  refine g_dup (pc := 9) W14 d_c_wh14_9 rfl ?_
  refine g_getfield (pc := 10) (i := 0) (j := 1) (host := "") W14 (Or.inl (hw _ (List.mem_of_getElem? (i := 12) rfl))) rfl rfl rfl d_c_wh14_10 (fun T15 W16 => ?_)
  refine g_dup_x1 (pc := 13) W16 d_c_wh14_13 rfl rfl ?_
  refine g_iconst (pc := 14) (1 : Int32) (by decide) W16 d_c_wh14_14 ?_
  refine g_iadd (pc := 15) W16 d_c_wh14_15 ?_
  show Go p_ e_ bl_ _ (T15.setTop (mkF m_ 16 #[.val (.ref a), .val (.int (((0 : Int32) ||| ((x1 &&& (127 : Int32)) <<< ((0 : Int32) &&& 31))) ||| ((x2 &&& (127 : Int32)) <<< ((7 : Int32) &&& 31)))), .val (.int (14 : Int32)), .val (.int x2)] [.int (4 : Int32), .ref a, .int (3 : Int32), .ref b]))
  refine g_putfield (pc := 16) (i := 0) (j := 1) (ty := .int) (os' := [(a, (.object "com/example/attestry/attestry/home/ByteCursor"), [.ref b, .int (4 : Int32)]), (b, (.array .byte), [.int x0, .int x1, .int x2, .int x3, .int x4, .int x5])]) (host := "") W16 (Or.inl (hw _ (List.mem_of_getElem? (i := 12) rfl))) (cls_ByteCursor hw) (Or.inl (hw _ (List.mem_of_getElem? (i := 13) rfl))) (hw _ (List.mem_of_getElem? (i := 2) rfl)) rfl rfl rfl (by decide) rfl rfl rfl d_c_wh14_16 (fun T17 W18 => ?_)
  refine g_baload (pc := 19) (i := 1) (v := .int x3) W18 rfl (by decide) rfl d_c_wh14_19 ?_
  refine g_istore_n (pc := 20) (ls' := #[.val (.ref a), .val (.int (((0 : Int32) ||| ((x1 &&& (127 : Int32)) <<< ((0 : Int32) &&& 31))) ||| ((x2 &&& (127 : Int32)) <<< ((7 : Int32) &&& 31)))), .val (.int (14 : Int32)), .val (.int x3)]) W18 d_c_wh14_20 rfl ?_
  refine g_iload_n (pc := 21) W18 d_c_wh14_21 rfl ?_
  refine g_iload_n (pc := 22) W18 d_c_wh14_22 rfl ?_
  refine g_bipush (pc := 23) (127 : Int32) (by decide) W18 d_c_wh14_23 ?_
  refine g_iand (pc := 25) W18 d_c_wh14_25 ?_
  refine g_iload_n (pc := 26) W18 d_c_wh14_26 rfl ?_
  refine g_ishl (pc := 27) W18 d_c_wh14_27 ?_
  refine g_ior (pc := 28) W18 d_c_wh14_28 ?_
  refine g_istore_n (pc := 29) (ls' := #[.val (.ref a), .val (.int ((((0 : Int32) ||| ((x1 &&& (127 : Int32)) <<< ((0 : Int32) &&& 31))) ||| ((x2 &&& (127 : Int32)) <<< ((7 : Int32) &&& 31))) ||| ((x3 &&& (127 : Int32)) <<< ((14 : Int32) &&& 31)))), .val (.int (14 : Int32)), .val (.int x3)]) W18 d_c_wh14_29 rfl ?_
  refine g_iload_n (pc := 30) W18 d_c_wh14_30 rfl ?_
  refine g_ifY 36 (pc := 31) W18 d_c_wh14_31 (by decide) (by decide) (tlt h2).1 ?_
  refine g_iinc (pc := 36) (ls' := #[.val (.ref a), .val (.int ((((0 : Int32) ||| ((x1 &&& (127 : Int32)) <<< ((0 : Int32) &&& 31))) ||| ((x2 &&& (127 : Int32)) <<< ((7 : Int32) &&& 31))) ||| ((x3 &&& (127 : Int32)) <<< ((14 : Int32) &&& 31)))), .val (.int (21 : Int32)), .val (.int x3)]) (7 : Int32) (by decide) W18 d_c_wh14_36 rfl rfl ?_
  refine g_goto 4 (pc := 39) W18 d_c_wh14_39 (by decide) (by decide) ?_
  refine g_aload_n (pc := 4) W18 d_c_wh14_4 rfl rfl ?_
  refine g_getfield (pc := 5) (i := 0) (j := 0) (host := "") W18 (Or.inl (hw _ (List.mem_of_getElem? (i := 10) rfl))) rfl rfl rfl d_c_wh14_5 (fun T19 W20 => ?_)
  refine g_aload_n (pc := 8) W20 d_c_wh14_8 rfl rfl ?_
  refine g_dup (pc := 9) W20 d_c_wh14_9 rfl ?_
  refine g_getfield (pc := 10) (i := 0) (j := 1) (host := "") W20 (Or.inl (hw _ (List.mem_of_getElem? (i := 12) rfl))) rfl rfl rfl d_c_wh14_10 (fun T21 W22 => ?_)
  refine g_dup_x1 (pc := 13) W22 d_c_wh14_13 rfl rfl ?_
  refine g_iconst (pc := 14) (1 : Int32) (by decide) W22 d_c_wh14_14 ?_
  refine g_iadd (pc := 15) W22 d_c_wh14_15 ?_
  show Go p_ e_ bl_ _ (T21.setTop (mkF m_ 16 #[.val (.ref a), .val (.int ((((0 : Int32) ||| ((x1 &&& (127 : Int32)) <<< ((0 : Int32) &&& 31))) ||| ((x2 &&& (127 : Int32)) <<< ((7 : Int32) &&& 31))) ||| ((x3 &&& (127 : Int32)) <<< ((14 : Int32) &&& 31)))), .val (.int (21 : Int32)), .val (.int x3)] [.int (5 : Int32), .ref a, .int (4 : Int32), .ref b]))
  refine g_putfield (pc := 16) (i := 0) (j := 1) (ty := .int) (os' := [(a, (.object "com/example/attestry/attestry/home/ByteCursor"), [.ref b, .int (5 : Int32)]), (b, (.array .byte), [.int x0, .int x1, .int x2, .int x3, .int x4, .int x5])]) (host := "") W22 (Or.inl (hw _ (List.mem_of_getElem? (i := 12) rfl))) (cls_ByteCursor hw) (Or.inl (hw _ (List.mem_of_getElem? (i := 13) rfl))) (hw _ (List.mem_of_getElem? (i := 2) rfl)) rfl rfl rfl (by decide) rfl rfl rfl d_c_wh14_16 (fun T23 W24 => ?_)
  refine g_baload (pc := 19) (i := 1) (v := .int x4) W24 rfl (by decide) rfl d_c_wh14_19 ?_
  refine g_istore_n (pc := 20) (ls' := #[.val (.ref a), .val (.int ((((0 : Int32) ||| ((x1 &&& (127 : Int32)) <<< ((0 : Int32) &&& 31))) ||| ((x2 &&& (127 : Int32)) <<< ((7 : Int32) &&& 31))) ||| ((x3 &&& (127 : Int32)) <<< ((14 : Int32) &&& 31)))), .val (.int (21 : Int32)), .val (.int x4)]) W24 d_c_wh14_20 rfl ?_
  refine g_iload_n (pc := 21) W24 d_c_wh14_21 rfl ?_
  refine g_iload_n (pc := 22) W24 d_c_wh14_22 rfl ?_
  refine g_bipush (pc := 23) (127 : Int32) (by decide) W24 d_c_wh14_23 ?_
  refine g_iand (pc := 25) W24 d_c_wh14_25 ?_
  refine g_iload_n (pc := 26) W24 d_c_wh14_26 rfl ?_
  refine g_ishl (pc := 27) W24 d_c_wh14_27 ?_
  refine g_ior (pc := 28) W24 d_c_wh14_28 ?_
  refine g_istore_n (pc := 29) (ls' := #[.val (.ref a), .val (.int (((((0 : Int32) ||| ((x1 &&& (127 : Int32)) <<< ((0 : Int32) &&& 31))) ||| ((x2 &&& (127 : Int32)) <<< ((7 : Int32) &&& 31))) ||| ((x3 &&& (127 : Int32)) <<< ((14 : Int32) &&& 31))) ||| ((x4 &&& (127 : Int32)) <<< ((21 : Int32) &&& 31)))), .val (.int (21 : Int32)), .val (.int x4)]) W24 d_c_wh14_29 rfl ?_
  refine g_iload_n (pc := 30) W24 d_c_wh14_30 rfl ?_
  refine g_ifN (pc := 31) W24 d_c_wh14_31 (flt h3).1 ?_
  refine g_iload_n (pc := 34) W24 d_c_wh14_34 rfl ?_
  exact g_ireturn (pc := 35) rfl W24 d_c_wh14_35 (by decide) (by decide) ⟨rfl, rfl⟩
theorem d_c_wh15_0 : decode prog_1_method_6_code 0 = .ok (.iconst 0, 1) := by decide +kernel
theorem d_c_wh15_1 : decode prog_1_method_6_code 1 = .ok (.istore_n 1, 1) := by decide +kernel
theorem d_c_wh15_2 : decode prog_1_method_6_code 2 = .ok (.iconst 0, 1) := by decide +kernel
theorem d_c_wh15_3 : decode prog_1_method_6_code 3 = .ok (.istore_n 2, 1) := by decide +kernel
theorem d_c_wh15_4 : decode prog_1_method_6_code 4 = .ok (.aload_n 0, 1) := by decide +kernel
theorem d_c_wh15_5 : decode prog_1_method_6_code 5 = .ok (.getfield 7, 3) := by decide +kernel
theorem d_c_wh15_8 : decode prog_1_method_6_code 8 = .ok (.aload_n 0, 1) := by decide +kernel
theorem d_c_wh15_9 : decode prog_1_method_6_code 9 = .ok (.dup, 1) := by decide +kernel
theorem d_c_wh15_10 : decode prog_1_method_6_code 10 = .ok (.getfield 13, 3) := by decide +kernel
theorem d_c_wh15_13 : decode prog_1_method_6_code 13 = .ok (.dup_x1, 1) := by decide +kernel
theorem d_c_wh15_14 : decode prog_1_method_6_code 14 = .ok (.iconst 1, 1) := by decide +kernel
theorem d_c_wh15_15 : decode prog_1_method_6_code 15 = .ok (.iadd, 1) := by decide +kernel
theorem d_c_wh15_16 : decode prog_1_method_6_code 16 = .ok (.putfield 13, 3) := by decide +kernel
theorem d_c_wh15_19 : decode prog_1_method_6_code 19 = .ok (.baload, 1) := by decide +kernel
theorem d_c_wh15_20 : decode prog_1_method_6_code 20 = .ok (.istore_n 3, 1) := by decide +kernel
theorem d_c_wh15_21 : decode prog_1_method_6_code 21 = .ok (.iload_n 1, 1) := by decide +kernel
theorem d_c_wh15_22 : decode prog_1_method_6_code 22 = .ok (.iload_n 3, 1) := by decide +kernel
theorem d_c_wh15_23 : decode prog_1_method_6_code 23 = .ok (.bipush 127, 2) := by decide +kernel
theorem d_c_wh15_25 : decode prog_1_method_6_code 25 = .ok (.iand, 1) := by decide +kernel
theorem d_c_wh15_26 : decode prog_1_method_6_code 26 = .ok (.iload_n 2, 1) := by decide +kernel
theorem d_c_wh15_27 : decode prog_1_method_6_code 27 = .ok (.ishl, 1) := by decide +kernel
theorem d_c_wh15_28 : decode prog_1_method_6_code 28 = .ok (.ior, 1) := by decide +kernel
theorem d_c_wh15_29 : decode prog_1_method_6_code 29 = .ok (.istore_n 1, 1) := by decide +kernel
theorem d_c_wh15_30 : decode prog_1_method_6_code 30 = .ok (.iload_n 3, 1) := by decide +kernel
theorem d_c_wh15_31 : decode prog_1_method_6_code 31 = .ok (.ifCond .lt 5, 3) := by decide +kernel
theorem d_c_wh15_34 : decode prog_1_method_6_code 34 = .ok (.iload_n 1, 1) := by decide +kernel
theorem d_c_wh15_35 : decode prog_1_method_6_code 35 = .ok (.ireturn, 1) := by decide +kernel
theorem d_c_wh15_36 : decode prog_1_method_6_code 36 = .ok (.iinc 2 7, 3) := by decide +kernel
theorem d_c_wh15_39 : decode prog_1_method_6_code 39 = .ok (.goto (-35), 3) := by decide +kernel
set_option maxRecDepth 65536 in
set_option maxHeartbeats 40000000 in
theorem c_wh15 (l : Launch) (Z : State) (a0 : Array Value) (hw : ∀ d ∈ tables_1, d.before a0 Z = true) {B : Nat} (a b : Addr) (x0 x1 x2 x3 x4 x5 : Int32) (h0 : x1 < 0) (h1 : x2 < 0) (h2 : x3 < 0) (h3 : x4 < 0) (h4 : ¬ x5 < 0) :
    Con l Z FM B (⟨"com/example/attestry/attestry/home/ByteCursor", "whole", "()I"⟩ : MethodName) prog_1_method_6_code 4 (some .int) ({ frames := 0, cells := 0, slots := 0, locals := 0 } : Room) [] #[.ref a] [(a, (.object "com/example/attestry/attestry/home/ByteCursor"), [.ref b, .int (1 : Int32)]), (b, (.array .byte), [.int x0, .int x1, .int x2, .int x3, .int x4, .int x5])] (fun v os => v = some (.int ((((((0 : Int32) ||| ((x1 &&& (127 : Int32)) <<< ((0 : Int32) &&& 31))) ||| ((x2 &&& (127 : Int32)) <<< ((7 : Int32) &&& 31))) ||| ((x3 &&& (127 : Int32)) <<< ((14 : Int32) &&& 31))) ||| ((x4 &&& (127 : Int32)) <<< ((21 : Int32) &&& 31))) ||| ((x5 &&& (127 : Int32)) <<< ((28 : Int32) &&& 31)))) ∧ os = [(a, (.object "com/example/attestry/attestry/home/ByteCursor"), [.ref b, .int (6 : Int32)]), (b, (.array .byte), [.int x0, .int x1, .int x2, .int x3, .int x4, .int x5])]) := by
  refine Con.of (plainFor_of_name (by first | (simp [plainName, overriddenIn]; done) | decide +kernel)) (ls := #[.val (.ref a), .unset, .unset, .unset]) (fun m => by first | (simp [entryFrame, mkF, argsToLocals, Value.category]; done) | rfl) ?_
  intro p_ e_ h_ s_ m_ bl_ me_ c_ T0 W0
  refine g_iconst (pc := 0) (0 : Int32) (by decide) W0 d_c_wh15_0 ?_
  refine g_istore_n (pc := 1) (ls' := #[.val (.ref a), .val (.int (0 : Int32)), .unset, .unset]) W0 d_c_wh15_1 rfl ?_
  refine g_iconst (pc := 2) (0 : Int32) (by decide) W0 d_c_wh15_2 ?_
  refine g_istore_n (pc := 3) (ls' := #[.val (.ref a), .val (.int (0 : Int32)), .val (.int (0 : Int32)), .unset]) W0 d_c_wh15_3 rfl ?_
  refine g_aload_n (pc := 4) W0 d_c_wh15_4 rfl rfl ?_
  refine g_getfield (pc := 5) (i := 0) (j := 0) (host := "") W0 (Or.inl (hw _ (List.mem_of_getElem? (i := 10) rfl))) rfl rfl rfl d_c_wh15_5 (fun T1 W2 => ?_)
  refine g_aload_n (pc := 8) W2 d_c_wh15_8 rfl rfl ?_
  refine g_dup (pc := 9) W2 d_c_wh15_9 rfl ?_
  refine g_getfield (pc := 10) (i := 0) (j := 1) (host := "") W2 (Or.inl (hw _ (List.mem_of_getElem? (i := 12) rfl))) rfl rfl rfl d_c_wh15_10 (fun T3 W4 => ?_)
  refine g_dup_x1 (pc := 13) W4 d_c_wh15_13 rfl rfl ?_
  refine g_iconst (pc := 14) (1 : Int32) (by decide) W4 d_c_wh15_14 ?_
  refine g_iadd (pc := 15) W4 d_c_wh15_15 ?_
  show Go p_ e_ bl_ _ (T3.setTop (mkF m_ 16 #[.val (.ref a), .val (.int (0 : Int32)), .val (.int (0 : Int32)), .unset] [.int (2 : Int32), .ref a, .int (1 : Int32), .ref b]))
  refine g_putfield (pc := 16) (i := 0) (j := 1) (ty := .int) (os' := [(a, (.object "com/example/attestry/attestry/home/ByteCursor"), [.ref b, .int (2 : Int32)]), (b, (.array .byte), [.int x0, .int x1, .int x2, .int x3, .int x4, .int x5])]) (host := "") W4 (Or.inl (hw _ (List.mem_of_getElem? (i := 12) rfl))) (cls_ByteCursor hw) (Or.inl (hw _ (List.mem_of_getElem? (i := 13) rfl))) (hw _ (List.mem_of_getElem? (i := 2) rfl)) rfl rfl rfl (by decide) rfl rfl rfl d_c_wh15_16 (fun T5 W6 => ?_)
  refine g_baload (pc := 19) (i := 1) (v := .int x1) W6 rfl (by decide) rfl d_c_wh15_19 ?_
  refine g_istore_n (pc := 20) (ls' := #[.val (.ref a), .val (.int (0 : Int32)), .val (.int (0 : Int32)), .val (.int x1)]) W6 d_c_wh15_20 rfl ?_
  refine g_iload_n (pc := 21) W6 d_c_wh15_21 rfl ?_
  refine g_iload_n (pc := 22) W6 d_c_wh15_22 rfl ?_
  refine g_bipush (pc := 23) (127 : Int32) (by decide) W6 d_c_wh15_23 ?_
  refine g_iand (pc := 25) W6 d_c_wh15_25 ?_
  refine g_iload_n (pc := 26) W6 d_c_wh15_26 rfl ?_
  refine g_ishl (pc := 27) W6 d_c_wh15_27 ?_
  refine g_ior (pc := 28) W6 d_c_wh15_28 ?_
  refine g_istore_n (pc := 29) (ls' := #[.val (.ref a), .val (.int ((0 : Int32) ||| ((x1 &&& (127 : Int32)) <<< ((0 : Int32) &&& 31)))), .val (.int (0 : Int32)), .val (.int x1)]) W6 d_c_wh15_29 rfl ?_
  refine g_iload_n (pc := 30) W6 d_c_wh15_30 rfl ?_
  refine g_ifY 36 (pc := 31) W6 d_c_wh15_31 (by decide) (by decide) (tlt h0).1 ?_
  refine g_iinc (pc := 36) (ls' := #[.val (.ref a), .val (.int ((0 : Int32) ||| ((x1 &&& (127 : Int32)) <<< ((0 : Int32) &&& 31)))), .val (.int (7 : Int32)), .val (.int x1)]) (7 : Int32) (by decide) W6 d_c_wh15_36 rfl rfl ?_
  refine g_goto 4 (pc := 39) W6 d_c_wh15_39 (by decide) (by decide) ?_
  refine g_aload_n (pc := 4) W6 d_c_wh15_4 rfl rfl ?_
  refine g_getfield (pc := 5) (i := 0) (j := 0) (host := "") W6 (Or.inl (hw _ (List.mem_of_getElem? (i := 10) rfl))) rfl rfl rfl d_c_wh15_5 (fun T7 W8 => ?_)
  refine g_aload_n (pc := 8) W8 d_c_wh15_8 rfl rfl ?_
  refine g_dup (pc := 9) W8 d_c_wh15_9 rfl ?_
  refine g_getfield (pc := 10) (i := 0) (j := 1) (host := "") W8 (Or.inl (hw _ (List.mem_of_getElem? (i := 12) rfl))) rfl rfl rfl d_c_wh15_10 (fun T9 W10 => ?_)
  refine g_dup_x1 (pc := 13) W10 d_c_wh15_13 rfl rfl ?_
  refine g_iconst (pc := 14) (1 : Int32) (by decide) W10 d_c_wh15_14 ?_
  refine g_iadd (pc := 15) W10 d_c_wh15_15 ?_
  show Go p_ e_ bl_ _ (T9.setTop (mkF m_ 16 #[.val (.ref a), .val (.int ((0 : Int32) ||| ((x1 &&& (127 : Int32)) <<< ((0 : Int32) &&& 31)))), .val (.int (7 : Int32)), .val (.int x1)] [.int (3 : Int32), .ref a, .int (2 : Int32), .ref b]))
  refine g_putfield (pc := 16) (i := 0) (j := 1) (ty := .int) (os' := [(a, (.object "com/example/attestry/attestry/home/ByteCursor"), [.ref b, .int (3 : Int32)]), (b, (.array .byte), [.int x0, .int x1, .int x2, .int x3, .int x4, .int x5])]) (host := "") W10 (Or.inl (hw _ (List.mem_of_getElem? (i := 12) rfl))) (cls_ByteCursor hw) (Or.inl (hw _ (List.mem_of_getElem? (i := 13) rfl))) (hw _ (List.mem_of_getElem? (i := 2) rfl)) rfl rfl rfl (by decide) rfl rfl rfl d_c_wh15_16 (fun T11 W12 => ?_)
  refine g_baload (pc := 19) (i := 1) (v := .int x2) W12 rfl (by decide) rfl d_c_wh15_19 ?_
  refine g_istore_n (pc := 20) (ls' := #[.val (.ref a), .val (.int ((0 : Int32) ||| ((x1 &&& (127 : Int32)) <<< ((0 : Int32) &&& 31)))), .val (.int (7 : Int32)), .val (.int x2)]) W12 d_c_wh15_20 rfl ?_
  refine g_iload_n (pc := 21) W12 d_c_wh15_21 rfl ?_
  refine g_iload_n (pc := 22) W12 d_c_wh15_22 rfl ?_
  refine g_bipush (pc := 23) (127 : Int32) (by decide) W12 d_c_wh15_23 ?_
  refine g_iand (pc := 25) W12 d_c_wh15_25 ?_
  refine g_iload_n (pc := 26) W12 d_c_wh15_26 rfl ?_
  refine g_ishl (pc := 27) W12 d_c_wh15_27 ?_
  refine g_ior (pc := 28) W12 d_c_wh15_28 ?_
  refine g_istore_n (pc := 29) (ls' := #[.val (.ref a), .val (.int (((0 : Int32) ||| ((x1 &&& (127 : Int32)) <<< ((0 : Int32) &&& 31))) ||| ((x2 &&& (127 : Int32)) <<< ((7 : Int32) &&& 31)))), .val (.int (7 : Int32)), .val (.int x2)]) W12 d_c_wh15_29 rfl ?_
  refine g_iload_n (pc := 30) W12 d_c_wh15_30 rfl ?_
  refine g_ifY 36 (pc := 31) W12 d_c_wh15_31 (by decide) (by decide) (tlt h1).1 ?_
  refine g_iinc (pc := 36) (ls' := #[.val (.ref a), .val (.int (((0 : Int32) ||| ((x1 &&& (127 : Int32)) <<< ((0 : Int32) &&& 31))) ||| ((x2 &&& (127 : Int32)) <<< ((7 : Int32) &&& 31)))), .val (.int (14 : Int32)), .val (.int x2)]) (7 : Int32) (by decide) W12 d_c_wh15_36 rfl rfl ?_
  refine g_goto 4 (pc := 39) W12 d_c_wh15_39 (by decide) (by decide) ?_
  refine g_aload_n (pc := 4) W12 d_c_wh15_4 rfl rfl ?_
  refine g_getfield (pc := 5) (i := 0) (j := 0) (host := "") W12 (Or.inl (hw _ (List.mem_of_getElem? (i := 10) rfl))) rfl rfl rfl d_c_wh15_5 (fun T13 W14 => ?_)
  refine g_aload_n (pc := 8) W14 d_c_wh15_8 rfl rfl ?_
  refine g_dup (pc := 9) W14 d_c_wh15_9 rfl ?_
  refine g_getfield (pc := 10) (i := 0) (j := 1) (host := "") W14 (Or.inl (hw _ (List.mem_of_getElem? (i := 12) rfl))) rfl rfl rfl d_c_wh15_10 (fun T15 W16 => ?_)
  refine g_dup_x1 (pc := 13) W16 d_c_wh15_13 rfl rfl ?_
  refine g_iconst (pc := 14) (1 : Int32) (by decide) W16 d_c_wh15_14 ?_
  refine g_iadd (pc := 15) W16 d_c_wh15_15 ?_
  show Go p_ e_ bl_ _ (T15.setTop (mkF m_ 16 #[.val (.ref a), .val (.int (((0 : Int32) ||| ((x1 &&& (127 : Int32)) <<< ((0 : Int32) &&& 31))) ||| ((x2 &&& (127 : Int32)) <<< ((7 : Int32) &&& 31)))), .val (.int (14 : Int32)), .val (.int x2)] [.int (4 : Int32), .ref a, .int (3 : Int32), .ref b]))
  refine g_putfield (pc := 16) (i := 0) (j := 1) (ty := .int) (os' := [(a, (.object "com/example/attestry/attestry/home/ByteCursor"), [.ref b, .int (4 : Int32)]), (b, (.array .byte), [.int x0, .int x1, .int x2, .int x3, .int x4, .int x5])]) (host := "") W16 (Or.inl (hw _ (List.mem_of_getElem? (i := 12) rfl))) (cls_ByteCursor hw) (Or.inl (hw _ (List.mem_of_getElem? (i := 13) rfl))) (hw _ (List.mem_of_getElem? (i := 2) rfl)) rfl rfl rfl (by decide) rfl rfl rfl d_c_wh15_16 (fun T17 W18 => ?_)
  refine g_baload (pc := 19) (i := 1) (v := .int x3) W18 rfl (by decide) rfl d_c_wh15_19 ?_
  refine g_istore_n (pc := 20) (ls' := #[.val (.ref a), .val (.int (((0 : Int32) ||| ((x1 &&& (127 : Int32)) <<< ((0 : Int32) &&& 31))) ||| ((x2 &&& (127 : Int32)) <<< ((7 : Int32) &&& 31)))), .val (.int (14 : Int32)), .val (.int x3)]) W18 d_c_wh15_20 rfl ?_
  refine g_iload_n (pc := 21) W18 d_c_wh15_21 rfl ?_
  refine g_iload_n (pc := 22) W18 d_c_wh15_22 rfl ?_
  refine g_bipush (pc := 23) (127 : Int32) (by decide) W18 d_c_wh15_23 ?_
  refine g_iand (pc := 25) W18 d_c_wh15_25 ?_
  refine g_iload_n (pc := 26) W18 d_c_wh15_26 rfl ?_
  refine g_ishl (pc := 27) W18 d_c_wh15_27 ?_
  refine g_ior (pc := 28) W18 d_c_wh15_28 ?_
  refine g_istore_n (pc := 29) (ls' := #[.val (.ref a), .val (.int ((((0 : Int32) ||| ((x1 &&& (127 : Int32)) <<< ((0 : Int32) &&& 31))) ||| ((x2 &&& (127 : Int32)) <<< ((7 : Int32) &&& 31))) ||| ((x3 &&& (127 : Int32)) <<< ((14 : Int32) &&& 31)))), .val (.int (14 : Int32)), .val (.int x3)]) W18 d_c_wh15_29 rfl ?_
  refine g_iload_n (pc := 30) W18 d_c_wh15_30 rfl ?_
  refine g_ifY 36 (pc := 31) W18 d_c_wh15_31 (by decide) (by decide) (tlt h2).1 ?_
  refine g_iinc (pc := 36) (ls' := #[.val (.ref a), .val (.int ((((0 : Int32) ||| ((x1 &&& (127 : Int32)) <<< ((0 : Int32) &&& 31))) ||| ((x2 &&& (127 : Int32)) <<< ((7 : Int32) &&& 31))) ||| ((x3 &&& (127 : Int32)) <<< ((14 : Int32) &&& 31)))), .val (.int (21 : Int32)), .val (.int x3)]) (7 : Int32) (by decide) W18 d_c_wh15_36 rfl rfl ?_
  refine g_goto 4 (pc := 39) W18 d_c_wh15_39 (by decide) (by decide) ?_
  refine g_aload_n (pc := 4) W18 d_c_wh15_4 rfl rfl ?_
  refine g_getfield (pc := 5) (i := 0) (j := 0) (host := "") W18 (Or.inl (hw _ (List.mem_of_getElem? (i := 10) rfl))) rfl rfl rfl d_c_wh15_5 (fun T19 W20 => ?_)
  refine g_aload_n (pc := 8) W20 d_c_wh15_8 rfl rfl ?_
  refine g_dup (pc := 9) W20 d_c_wh15_9 rfl ?_
  refine g_getfield (pc := 10) (i := 0) (j := 1) (host := "") W20 (Or.inl (hw _ (List.mem_of_getElem? (i := 12) rfl))) rfl rfl rfl d_c_wh15_10 (fun T21 W22 => ?_)
  refine g_dup_x1 (pc := 13) W22 d_c_wh15_13 rfl rfl ?_
  refine g_iconst (pc := 14) (1 : Int32) (by decide) W22 d_c_wh15_14 ?_
  refine g_iadd (pc := 15) W22 d_c_wh15_15 ?_
  show Go p_ e_ bl_ _ (T21.setTop (mkF m_ 16 #[.val (.ref a), .val (.int ((((0 : Int32) ||| ((x1 &&& (127 : Int32)) <<< ((0 : Int32) &&& 31))) ||| ((x2 &&& (127 : Int32)) <<< ((7 : Int32) &&& 31))) ||| ((x3 &&& (127 : Int32)) <<< ((14 : Int32) &&& 31)))), .val (.int (21 : Int32)), .val (.int x3)] [.int (5 : Int32), .ref a, .int (4 : Int32), .ref b]))
  refine g_putfield (pc := 16) (i := 0) (j := 1) (ty := .int) (os' := [(a, (.object "com/example/attestry/attestry/home/ByteCursor"), [.ref b, .int (5 : Int32)]), (b, (.array .byte), [.int x0, .int x1, .int x2, .int x3, .int x4, .int x5])]) (host := "") W22 (Or.inl (hw _ (List.mem_of_getElem? (i := 12) rfl))) (cls_ByteCursor hw) (Or.inl (hw _ (List.mem_of_getElem? (i := 13) rfl))) (hw _ (List.mem_of_getElem? (i := 2) rfl)) rfl rfl rfl (by decide) rfl rfl rfl d_c_wh15_16 (fun T23 W24 => ?_)
  refine g_baload (pc := 19) (i := 1) (v := .int x4) W24 rfl (by decide) rfl d_c_wh15_19 ?_
  refine g_istore_n (pc := 20) (ls' := #[.val (.ref a), .val (.int ((((0 : Int32) ||| ((x1 &&& (127 : Int32)) <<< ((0 : Int32) &&& 31))) ||| ((x2 &&& (127 : Int32)) <<< ((7 : Int32) &&& 31))) ||| ((x3 &&& (127 : Int32)) <<< ((14 : Int32) &&& 31)))), .val (.int (21 : Int32)), .val (.int x4)]) W24 d_c_wh15_20 rfl ?_
  refine g_iload_n (pc := 21) W24 d_c_wh15_21 rfl ?_
  refine g_iload_n (pc := 22) W24 d_c_wh15_22 rfl ?_
  refine g_bipush (pc := 23) (127 : Int32) (by decide) W24 d_c_wh15_23 ?_
  refine g_iand (pc := 25) W24 d_c_wh15_25 ?_
  refine g_iload_n (pc := 26) W24 d_c_wh15_26 rfl ?_
  refine g_ishl (pc := 27) W24 d_c_wh15_27 ?_
  refine g_ior (pc := 28) W24 d_c_wh15_28 ?_
  refine g_istore_n (pc := 29) (ls' := #[.val (.ref a), .val (.int (((((0 : Int32) ||| ((x1 &&& (127 : Int32)) <<< ((0 : Int32) &&& 31))) ||| ((x2 &&& (127 : Int32)) <<< ((7 : Int32) &&& 31))) ||| ((x3 &&& (127 : Int32)) <<< ((14 : Int32) &&& 31))) ||| ((x4 &&& (127 : Int32)) <<< ((21 : Int32) &&& 31)))), .val (.int (21 : Int32)), .val (.int x4)]) W24 d_c_wh15_29 rfl ?_
  refine g_iload_n (pc := 30) W24 d_c_wh15_30 rfl ?_
  refine g_ifY 36 (pc := 31) W24 d_c_wh15_31 (by decide) (by decide) (tlt h3).1 ?_
  refine g_iinc (pc := 36) (ls' := #[.val (.ref a), .val (.int (((((0 : Int32) ||| ((x1 &&& (127 : Int32)) <<< ((0 : Int32) &&& 31))) ||| ((x2 &&& (127 : Int32)) <<< ((7 : Int32) &&& 31))) ||| ((x3 &&& (127 : Int32)) <<< ((14 : Int32) &&& 31))) ||| ((x4 &&& (127 : Int32)) <<< ((21 : Int32) &&& 31)))), .val (.int (28 : Int32)), .val (.int x4)]) (7 : Int32) (by decide) W24 d_c_wh15_36 rfl rfl ?_
  refine g_goto 4 (pc := 39) W24 d_c_wh15_39 (by decide) (by decide) ?_
  refine g_aload_n (pc := 4) W24 d_c_wh15_4 rfl rfl ?_
  refine g_getfield (pc := 5) (i := 0) (j := 0) (host := "") W24 (Or.inl (hw _ (List.mem_of_getElem? (i := 10) rfl))) rfl rfl rfl d_c_wh15_5 (fun T25 W26 => ?_)
  refine g_aload_n (pc := 8) W26 d_c_wh15_8 rfl rfl ?_
  refine g_dup (pc := 9) W26 d_c_wh15_9 rfl ?_
  refine g_getfield (pc := 10) (i := 0) (j := 1) (host := "") W26 (Or.inl (hw _ (List.mem_of_getElem? (i := 12) rfl))) rfl rfl rfl d_c_wh15_10 (fun T27 W28 => ?_)
  refine g_dup_x1 (pc := 13) W28 d_c_wh15_13 rfl rfl ?_
  refine g_iconst (pc := 14) (1 : Int32) (by decide) W28 d_c_wh15_14 ?_
  refine g_iadd (pc := 15) W28 d_c_wh15_15 ?_
  show Go p_ e_ bl_ _ (T27.setTop (mkF m_ 16 #[.val (.ref a), .val (.int (((((0 : Int32) ||| ((x1 &&& (127 : Int32)) <<< ((0 : Int32) &&& 31))) ||| ((x2 &&& (127 : Int32)) <<< ((7 : Int32) &&& 31))) ||| ((x3 &&& (127 : Int32)) <<< ((14 : Int32) &&& 31))) ||| ((x4 &&& (127 : Int32)) <<< ((21 : Int32) &&& 31)))), .val (.int (28 : Int32)), .val (.int x4)] [.int (6 : Int32), .ref a, .int (5 : Int32), .ref b]))
  refine g_putfield (pc := 16) (i := 0) (j := 1) (ty := .int) (os' := [(a, (.object "com/example/attestry/attestry/home/ByteCursor"), [.ref b, .int (6 : Int32)]), (b, (.array .byte), [.int x0, .int x1, .int x2, .int x3, .int x4, .int x5])]) (host := "") W28 (Or.inl (hw _ (List.mem_of_getElem? (i := 12) rfl))) (cls_ByteCursor hw) (Or.inl (hw _ (List.mem_of_getElem? (i := 13) rfl))) (hw _ (List.mem_of_getElem? (i := 2) rfl)) rfl rfl rfl (by decide) rfl rfl rfl d_c_wh15_16 (fun T29 W30 => ?_)
  refine g_baload (pc := 19) (i := 1) (v := .int x5) W30 rfl (by decide) rfl d_c_wh15_19 ?_
  refine g_istore_n (pc := 20) (ls' := #[.val (.ref a), .val (.int (((((0 : Int32) ||| ((x1 &&& (127 : Int32)) <<< ((0 : Int32) &&& 31))) ||| ((x2 &&& (127 : Int32)) <<< ((7 : Int32) &&& 31))) ||| ((x3 &&& (127 : Int32)) <<< ((14 : Int32) &&& 31))) ||| ((x4 &&& (127 : Int32)) <<< ((21 : Int32) &&& 31)))), .val (.int (28 : Int32)), .val (.int x5)]) W30 d_c_wh15_20 rfl ?_
  refine g_iload_n (pc := 21) W30 d_c_wh15_21 rfl ?_
  refine g_iload_n (pc := 22) W30 d_c_wh15_22 rfl ?_
  refine g_bipush (pc := 23) (127 : Int32) (by decide) W30 d_c_wh15_23 ?_
  refine g_iand (pc := 25) W30 d_c_wh15_25 ?_
  refine g_iload_n (pc := 26) W30 d_c_wh15_26 rfl ?_
  refine g_ishl (pc := 27) W30 d_c_wh15_27 ?_
  refine g_ior (pc := 28) W30 d_c_wh15_28 ?_
  refine g_istore_n (pc := 29) (ls' := #[.val (.ref a), .val (.int ((((((0 : Int32) ||| ((x1 &&& (127 : Int32)) <<< ((0 : Int32) &&& 31))) ||| ((x2 &&& (127 : Int32)) <<< ((7 : Int32) &&& 31))) ||| ((x3 &&& (127 : Int32)) <<< ((14 : Int32) &&& 31))) ||| ((x4 &&& (127 : Int32)) <<< ((21 : Int32) &&& 31))) ||| ((x5 &&& (127 : Int32)) <<< ((28 : Int32) &&& 31)))), .val (.int (28 : Int32)), .val (.int x5)]) W30 d_c_wh15_29 rfl ?_
  refine g_iload_n (pc := 30) W30 d_c_wh15_30 rfl ?_
  refine g_ifN (pc := 31) W30 d_c_wh15_31 (flt h4).1 ?_
  refine g_iload_n (pc := 34) W30 d_c_wh15_34 rfl ?_
  exact g_ireturn (pc := 35) rfl W30 d_c_wh15_35 (by decide) (by decide) ⟨rfl, rfl⟩
theorem own_is {x y : Int32} {k : Int} (h : x.toInt = k) (e : y.toInt = k) : x = y := Int32.toInt_inj.mp (h.trans e.symm)
theorem own_bit (a : Int32) : a &&& 1 = 0 ∨ a &&& 1 = 1 := by
  have e : (a &&& 1).toInt = a.toInt % 2 ^ 1 := Jvm.Kit.i32_mask a 1 (k := 1) (by decide) (by decide)
  rcases (by omega : (a &&& 1).toInt = 0 ∨ (a &&& 1).toInt = 1) with h | h
  · exact Or.inl (own_is h (by decide))
  · exact Or.inr (own_is h (by decide))
theorem own_byte (v : Int32) : -128 ≤ v.toInt8.toInt32.toInt ∧ v.toInt8.toInt32.toInt ≤ 127 := by
  rw [Int8.toInt_toInt32]
  have h1 := Int8.toInt_lt v.toInt8
  have h2 := Int8.le_toInt v.toInt8
  omega
theorem own_m (z : Int32) : (z &&& 255).toInt = z.toInt % 256 := Jvm.Kit.i32_mask z 255 (k := 8) (by decide) (by decide)
theorem own_m7 (z : Int32) : (z &&& 127).toInt = z.toInt % 128 := Jvm.Kit.i32_mask z 127 (k := 7) (by decide) (by decide)
theorem own_n {v : Int32} (h : v.toInt8.toInt32 &&& 255 < 128) : ¬ v.toInt8.toInt32 < 0 := by
  have b := own_byte v
  simp only [Int32.lt_iff_toInt_lt, own_m, Int32.reduceToInt] at h ⊢
  omega
theorem own_y {v : Int32} (h : ¬ v.toInt8.toInt32 &&& 255 < 128) : v.toInt8.toInt32 < 0 := by
  have b := own_byte v
  simp only [Int32.lt_iff_toInt_lt, own_m, Int32.reduceToInt] at h ⊢
  omega
theorem own_15 (v : Int32) : ¬ (v &&& 15).toInt8.toInt32 < 0 := by
  have e : (v &&& 15).toInt = v.toInt % 2 ^ 4 := Jvm.Kit.i32_mask v 15 (k := 4) (by decide) (by decide)
  simp only [Int32.lt_iff_toInt_lt, Int8.toInt_toInt32, Int32.toInt_toInt8, Int32.reduceToInt, e]
  rw [Int.bmod_eq_of_le (by omega) (by omega)]
  omega
theorem own_16 (v : Int32) : (v &&& 15).toInt8.toInt32.toInt % 256 < 16 ∧ (v &&& 15).toInt8.toInt32.toInt % 128 = (v &&& 15).toInt8.toInt32.toInt % 256 := by
  have e : (v &&& 15).toInt = v.toInt % 2 ^ 4 := Jvm.Kit.i32_mask v 15 (k := 4) (by decide) (by decide)
  simp only [Int8.toInt_toInt32, Int32.toInt_toInt8, e]
  rw [Int.bmod_eq_of_le (by omega) (by omega)]
  omega
theorem own_bv (v u : BitVec 32) (k : Nat) (hv : v.toNat < 2 ^ k) (hu : u.toNat * 2 ^ k < 2 ^ 32) : (v ||| (u <<< k)).toNat = v.toNat + u.toNat * 2 ^ k := by
  rw [BitVec.toNat_or, BitVec.toNat_shiftLeft, Nat.shiftLeft_eq, Nat.mod_eq_of_lt hu, Nat.or_comm, ← Nat.shiftLeft_eq, ← Nat.shiftLeft_add_eq_or_of_lt hv, Nat.shiftLeft_eq, Nat.add_comm]
theorem own_u (x : Int32) : ((x &&& 127).toBitVec.toNat : Int) = x.toInt % 128 := by
  have h := own_m7 x
  have d : (x &&& 127).toInt = if 2 * (x &&& 127).toBitVec.toNat < 2 ^ 32 then ((x &&& 127).toBitVec.toNat : Int) else ((x &&& 127).toBitVec.toNat : Int) - (2 ^ 32 : Nat) := BitVec.toInt_eq_toNat_cond _
  have l1 := (x &&& 127).toBitVec.isLt
  split at d <;> omega
theorem own_st0 (v x : Int32) (hv : v.toBitVec.toNat < 2 ^ 0) (hu : (x &&& 127).toBitVec.toNat < 128) : (v ||| ((x &&& (127 : Int32)) <<< ((0 : Int32) &&& 31))).toBitVec.toNat = v.toBitVec.toNat + (x &&& 127).toBitVec.toNat * 2 ^ 0 := by
  have q := own_bv v.toBitVec (x &&& 127).toBitVec 0 hv (by omega)
  rw [← q]; rfl
theorem own_st7 (v x : Int32) (hv : v.toBitVec.toNat < 2 ^ 7) (hu : (x &&& 127).toBitVec.toNat < 128) : (v ||| ((x &&& (127 : Int32)) <<< ((7 : Int32) &&& 31))).toBitVec.toNat = v.toBitVec.toNat + (x &&& 127).toBitVec.toNat * 2 ^ 7 := by
  have q := own_bv v.toBitVec (x &&& 127).toBitVec 7 hv (by omega)
  rw [← q]; rfl
theorem own_st14 (v x : Int32) (hv : v.toBitVec.toNat < 2 ^ 14) (hu : (x &&& 127).toBitVec.toNat < 128) : (v ||| ((x &&& (127 : Int32)) <<< ((14 : Int32) &&& 31))).toBitVec.toNat = v.toBitVec.toNat + (x &&& 127).toBitVec.toNat * 2 ^ 14 := by
  have q := own_bv v.toBitVec (x &&& 127).toBitVec 14 hv (by omega)
  rw [← q]; rfl
theorem own_st21 (v x : Int32) (hv : v.toBitVec.toNat < 2 ^ 21) (hu : (x &&& 127).toBitVec.toNat < 128) : (v ||| ((x &&& (127 : Int32)) <<< ((21 : Int32) &&& 31))).toBitVec.toNat = v.toBitVec.toNat + (x &&& 127).toBitVec.toNat * 2 ^ 21 := by
  have q := own_bv v.toBitVec (x &&& 127).toBitVec 21 hv (by omega)
  rw [← q]; rfl
theorem own_st28 (v x : Int32) (hv : v.toBitVec.toNat < 2 ^ 28) (hu : (x &&& 127).toBitVec.toNat < 16) : (v ||| ((x &&& (127 : Int32)) <<< ((28 : Int32) &&& 31))).toBitVec.toNat = v.toBitVec.toNat + (x &&& 127).toBitVec.toNat * 2 ^ 28 := by
  have q := own_bv v.toBitVec (x &&& 127).toBitVec 28 hv (by omega)
  rw [← q]; rfl
theorem own_la1 (A X : Int64) (h0 : 0 ≤ A.toInt) (h1 : A.toInt < 1099511627776) (h2 : 0 ≤ X.toInt) (h3 : X.toInt < 256) : (A + (X * (128 : Int64))).toInt = A.toInt + X.toInt * 128 := by
  have e : (128 : Int64).toInt = 128 := by decide
  have q := c_lmul X (128 : Int64)
  have r := rng64 (X * (128 : Int64))
  have q2 := c_ladd A (X * (128 : Int64))
  have r2 := rng64 (A + (X * (128 : Int64)))
  rw [e] at q
  omega
theorem own_la2 (A X : Int64) (h0 : 0 ≤ A.toInt) (h1 : A.toInt < 1099511627776) (h2 : 0 ≤ X.toInt) (h3 : X.toInt < 256) : (A + (X * (16384 : Int64))).toInt = A.toInt + X.toInt * 16384 := by
  have e : (16384 : Int64).toInt = 16384 := by decide
  have q := c_lmul X (16384 : Int64)
  have r := rng64 (X * (16384 : Int64))
  have q2 := c_ladd A (X * (16384 : Int64))
  have r2 := rng64 (A + (X * (16384 : Int64)))
  rw [e] at q
  omega
theorem own_la3 (A X : Int64) (h0 : 0 ≤ A.toInt) (h1 : A.toInt < 1099511627776) (h2 : 0 ≤ X.toInt) (h3 : X.toInt < 256) : (A + (X * (2097152 : Int64))).toInt = A.toInt + X.toInt * 2097152 := by
  have e : (2097152 : Int64).toInt = 2097152 := by decide
  have q := c_lmul X (2097152 : Int64)
  have r := rng64 (X * (2097152 : Int64))
  have q2 := c_ladd A (X * (2097152 : Int64))
  have r2 := rng64 (A + (X * (2097152 : Int64)))
  rw [e] at q
  omega
theorem own_la4 (A X : Int64) (h0 : 0 ≤ A.toInt) (h1 : A.toInt < 1099511627776) (h2 : 0 ≤ X.toInt) (h3 : X.toInt < 256) : (A + (X * (268435456 : Int64))).toInt = A.toInt + X.toInt * 268435456 := by
  have e : (268435456 : Int64).toInt = 268435456 := by decide
  have q := c_lmul X (268435456 : Int64)
  have r := rng64 (X * (268435456 : Int64))
  have q2 := c_ladd A (X * (268435456 : Int64))
  have r2 := rng64 (A + (X * (268435456 : Int64)))
  rw [e] at q
  omega
theorem own_lo (z : Int32) : 0 ≤ ((z &&& 255) &&& 127).toInt64.toInt ∧ ((z &&& 255) &&& 127).toInt64.toInt < 128 ∧ ((z &&& 255) &&& 127).toInt64.toInt = z.toInt % 128 := by
  rw [Int32.toInt_toInt64, own_m7, own_m]; omega
theorem own_hi (z : Int32) : 0 ≤ (z &&& 255).toInt64.toInt ∧ (z &&& 255).toInt64.toInt < 256 ∧ (z &&& 255).toInt64.toInt = z.toInt % 256 := by
  rw [Int32.toInt_toInt64, own_m]; omega
theorem own_fin {v : Int32} {S : Int64} (h : (v.toBitVec.toNat : Int) = S.toInt) : v = S.toInt32 := by
  have d : v.toInt = Int.bmod (v.toBitVec.toNat : Int) (2 ^ 32) := BitVec.toInt_eq_toNat_bmod _
  apply Int32.toInt_inj.mp
  rw [d, Int64.toInt_toInt32, h]
set_option maxHeartbeats 4000000 in
theorem own_e1 (y0 : Int32) (hc : y0.toInt % 128 = y0.toInt % 256) : ((0 : Int32) ||| ((y0 &&& (127 : Int32)) <<< ((0 : Int32) &&& 31))) = (y0 &&& (255 : Int32)).toInt64.toInt32 := by
  refine own_fin ?_
  have u0 := own_u y0
  have b0 : (y0 &&& 127).toBitVec.toNat < 128 := by omega
  have z0 : (0 : Int32).toBitVec.toNat = 0 := rfl
  have n0 := own_st0 (0 : Int32) y0 (by omega) b0
  generalize ((0 : Int32) ||| ((y0 &&& (127 : Int32)) <<< ((0 : Int32) &&& 31))) = w0 at *
  have c0 := own_hi y0
  generalize (y0 &&& (255 : Int32)).toInt64 = t0 at *
  omega
set_option maxHeartbeats 4000000 in
theorem own_e2 (y0 y1 : Int32) (hc : y1.toInt % 128 = y1.toInt % 256) : (((0 : Int32) ||| ((y0 &&& (127 : Int32)) <<< ((0 : Int32) &&& 31))) ||| ((y1 &&& (127 : Int32)) <<< ((7 : Int32) &&& 31))) = (((y0 &&& (255 : Int32)) &&& (127 : Int32)).toInt64 + ((y1 &&& (255 : Int32)).toInt64 * (128 : Int64))).toInt32 := by
  refine own_fin ?_
  have u0 := own_u y0
  have b0 : (y0 &&& 127).toBitVec.toNat < 128 := by omega
  have u1 := own_u y1
  have b1 : (y1 &&& 127).toBitVec.toNat < 128 := by omega
  have z0 : (0 : Int32).toBitVec.toNat = 0 := rfl
  have n0 := own_st0 (0 : Int32) y0 (by omega) b0
  generalize ((0 : Int32) ||| ((y0 &&& (127 : Int32)) <<< ((0 : Int32) &&& 31))) = w0 at *
  have n1 := own_st7 w0 y1 (by omega) b1
  generalize (w0 ||| ((y1 &&& (127 : Int32)) <<< ((7 : Int32) &&& 31))) = w1 at *
  have c0 := own_lo y0
  have c1 := own_hi y1
  generalize ((y0 &&& (255 : Int32)) &&& (127 : Int32)).toInt64 = t0 at *
  generalize (y1 &&& (255 : Int32)).toInt64 = t1 at *
  have a1 := own_la1 t0 t1 (by omega) (by omega) (by omega) (by omega)
  generalize (t0 + (t1 * (128 : Int64))) = s1 at *
  omega
set_option maxHeartbeats 4000000 in
theorem own_e3 (y0 y1 y2 : Int32) (hc : y2.toInt % 128 = y2.toInt % 256) : ((((0 : Int32) ||| ((y0 &&& (127 : Int32)) <<< ((0 : Int32) &&& 31))) ||| ((y1 &&& (127 : Int32)) <<< ((7 : Int32) &&& 31))) ||| ((y2 &&& (127 : Int32)) <<< ((14 : Int32) &&& 31))) = ((((y0 &&& (255 : Int32)) &&& (127 : Int32)).toInt64 + (((y1 &&& (255 : Int32)) &&& (127 : Int32)).toInt64 * (128 : Int64))) + ((y2 &&& (255 : Int32)).toInt64 * (16384 : Int64))).toInt32 := by
  refine own_fin ?_
  have u0 := own_u y0
  have b0 : (y0 &&& 127).toBitVec.toNat < 128 := by omega
  have u1 := own_u y1
  have b1 : (y1 &&& 127).toBitVec.toNat < 128 := by omega
  have u2 := own_u y2
  have b2 : (y2 &&& 127).toBitVec.toNat < 128 := by omega
  have z0 : (0 : Int32).toBitVec.toNat = 0 := rfl
  have n0 := own_st0 (0 : Int32) y0 (by omega) b0
  generalize ((0 : Int32) ||| ((y0 &&& (127 : Int32)) <<< ((0 : Int32) &&& 31))) = w0 at *
  have n1 := own_st7 w0 y1 (by omega) b1
  generalize (w0 ||| ((y1 &&& (127 : Int32)) <<< ((7 : Int32) &&& 31))) = w1 at *
  have n2 := own_st14 w1 y2 (by omega) b2
  generalize (w1 ||| ((y2 &&& (127 : Int32)) <<< ((14 : Int32) &&& 31))) = w2 at *
  have c0 := own_lo y0
  have c1 := own_lo y1
  have c2 := own_hi y2
  generalize ((y0 &&& (255 : Int32)) &&& (127 : Int32)).toInt64 = t0 at *
  generalize ((y1 &&& (255 : Int32)) &&& (127 : Int32)).toInt64 = t1 at *
  generalize (y2 &&& (255 : Int32)).toInt64 = t2 at *
  have a1 := own_la1 t0 t1 (by omega) (by omega) (by omega) (by omega)
  generalize (t0 + (t1 * (128 : Int64))) = s1 at *
  have a2 := own_la2 s1 t2 (by omega) (by omega) (by omega) (by omega)
  generalize (s1 + (t2 * (16384 : Int64))) = s2 at *
  omega
set_option maxHeartbeats 4000000 in
theorem own_e4 (y0 y1 y2 y3 : Int32) (hc : y3.toInt % 128 = y3.toInt % 256) : (((((0 : Int32) ||| ((y0 &&& (127 : Int32)) <<< ((0 : Int32) &&& 31))) ||| ((y1 &&& (127 : Int32)) <<< ((7 : Int32) &&& 31))) ||| ((y2 &&& (127 : Int32)) <<< ((14 : Int32) &&& 31))) ||| ((y3 &&& (127 : Int32)) <<< ((21 : Int32) &&& 31))) = (((((y0 &&& (255 : Int32)) &&& (127 : Int32)).toInt64 + (((y1 &&& (255 : Int32)) &&& (127 : Int32)).toInt64 * (128 : Int64))) + (((y2 &&& (255 : Int32)) &&& (127 : Int32)).toInt64 * (16384 : Int64))) + ((y3 &&& (255 : Int32)).toInt64 * (2097152 : Int64))).toInt32 := by
  refine own_fin ?_
  have u0 := own_u y0
  have b0 : (y0 &&& 127).toBitVec.toNat < 128 := by omega
  have u1 := own_u y1
  have b1 : (y1 &&& 127).toBitVec.toNat < 128 := by omega
  have u2 := own_u y2
  have b2 : (y2 &&& 127).toBitVec.toNat < 128 := by omega
  have u3 := own_u y3
  have b3 : (y3 &&& 127).toBitVec.toNat < 128 := by omega
  have z0 : (0 : Int32).toBitVec.toNat = 0 := rfl
  have n0 := own_st0 (0 : Int32) y0 (by omega) b0
  generalize ((0 : Int32) ||| ((y0 &&& (127 : Int32)) <<< ((0 : Int32) &&& 31))) = w0 at *
  have n1 := own_st7 w0 y1 (by omega) b1
  generalize (w0 ||| ((y1 &&& (127 : Int32)) <<< ((7 : Int32) &&& 31))) = w1 at *
  have n2 := own_st14 w1 y2 (by omega) b2
  generalize (w1 ||| ((y2 &&& (127 : Int32)) <<< ((14 : Int32) &&& 31))) = w2 at *
  have n3 := own_st21 w2 y3 (by omega) b3
  generalize (w2 ||| ((y3 &&& (127 : Int32)) <<< ((21 : Int32) &&& 31))) = w3 at *
  have c0 := own_lo y0
  have c1 := own_lo y1
  have c2 := own_lo y2
  have c3 := own_hi y3
  generalize ((y0 &&& (255 : Int32)) &&& (127 : Int32)).toInt64 = t0 at *
  generalize ((y1 &&& (255 : Int32)) &&& (127 : Int32)).toInt64 = t1 at *
  generalize ((y2 &&& (255 : Int32)) &&& (127 : Int32)).toInt64 = t2 at *
  generalize (y3 &&& (255 : Int32)).toInt64 = t3 at *
  have a1 := own_la1 t0 t1 (by omega) (by omega) (by omega) (by omega)
  generalize (t0 + (t1 * (128 : Int64))) = s1 at *
  have a2 := own_la2 s1 t2 (by omega) (by omega) (by omega) (by omega)
  generalize (s1 + (t2 * (16384 : Int64))) = s2 at *
  have a3 := own_la3 s2 t3 (by omega) (by omega) (by omega) (by omega)
  generalize (s2 + (t3 * (2097152 : Int64))) = s3 at *
  omega
set_option maxHeartbeats 4000000 in
theorem own_e5 (y0 y1 y2 y3 y4 : Int32) (hb : y4.toInt % 256 < 16) (hc : y4.toInt % 128 = y4.toInt % 256) : ((((((0 : Int32) ||| ((y0 &&& (127 : Int32)) <<< ((0 : Int32) &&& 31))) ||| ((y1 &&& (127 : Int32)) <<< ((7 : Int32) &&& 31))) ||| ((y2 &&& (127 : Int32)) <<< ((14 : Int32) &&& 31))) ||| ((y3 &&& (127 : Int32)) <<< ((21 : Int32) &&& 31))) ||| ((y4 &&& (127 : Int32)) <<< ((28 : Int32) &&& 31))) = ((((((y0 &&& (255 : Int32)) &&& (127 : Int32)).toInt64 + (((y1 &&& (255 : Int32)) &&& (127 : Int32)).toInt64 * (128 : Int64))) + (((y2 &&& (255 : Int32)) &&& (127 : Int32)).toInt64 * (16384 : Int64))) + (((y3 &&& (255 : Int32)) &&& (127 : Int32)).toInt64 * (2097152 : Int64))) + ((y4 &&& (255 : Int32)).toInt64 * (268435456 : Int64))).toInt32 := by
  refine own_fin ?_
  have u0 := own_u y0
  have b0 : (y0 &&& 127).toBitVec.toNat < 128 := by omega
  have u1 := own_u y1
  have b1 : (y1 &&& 127).toBitVec.toNat < 128 := by omega
  have u2 := own_u y2
  have b2 : (y2 &&& 127).toBitVec.toNat < 128 := by omega
  have u3 := own_u y3
  have b3 : (y3 &&& 127).toBitVec.toNat < 128 := by omega
  have u4 := own_u y4
  have b4 : (y4 &&& 127).toBitVec.toNat < 16 := by omega
  have z0 : (0 : Int32).toBitVec.toNat = 0 := rfl
  have n0 := own_st0 (0 : Int32) y0 (by omega) b0
  generalize ((0 : Int32) ||| ((y0 &&& (127 : Int32)) <<< ((0 : Int32) &&& 31))) = w0 at *
  have n1 := own_st7 w0 y1 (by omega) b1
  generalize (w0 ||| ((y1 &&& (127 : Int32)) <<< ((7 : Int32) &&& 31))) = w1 at *
  have n2 := own_st14 w1 y2 (by omega) b2
  generalize (w1 ||| ((y2 &&& (127 : Int32)) <<< ((14 : Int32) &&& 31))) = w2 at *
  have n3 := own_st21 w2 y3 (by omega) b3
  generalize (w2 ||| ((y3 &&& (127 : Int32)) <<< ((21 : Int32) &&& 31))) = w3 at *
  have n4 := own_st28 w3 y4 (by omega) b4
  generalize (w3 ||| ((y4 &&& (127 : Int32)) <<< ((28 : Int32) &&& 31))) = w4 at *
  have c0 := own_lo y0
  have c1 := own_lo y1
  have c2 := own_lo y2
  have c3 := own_lo y3
  have c4 := own_hi y4
  generalize ((y0 &&& (255 : Int32)) &&& (127 : Int32)).toInt64 = t0 at *
  generalize ((y1 &&& (255 : Int32)) &&& (127 : Int32)).toInt64 = t1 at *
  generalize ((y2 &&& (255 : Int32)) &&& (127 : Int32)).toInt64 = t2 at *
  generalize ((y3 &&& (255 : Int32)) &&& (127 : Int32)).toInt64 = t3 at *
  generalize (y4 &&& (255 : Int32)).toInt64 = t4 at *
  have a1 := own_la1 t0 t1 (by omega) (by omega) (by omega) (by omega)
  generalize (t0 + (t1 * (128 : Int64))) = s1 at *
  have a2 := own_la2 s1 t2 (by omega) (by omega) (by omega) (by omega)
  generalize (s1 + (t2 * (16384 : Int64))) = s2 at *
  have a3 := own_la3 s2 t3 (by omega) (by omega) (by omega) (by omega)
  generalize (s2 + (t3 * (2097152 : Int64))) = s3 at *
  have a4 := own_la4 s3 t4 (by omega) (by omega) (by omega) (by omega)
  generalize (s3 + (t4 * (268435456 : Int64))) = s4 at *
  omega
set_option maxRecDepth 65536 in
set_option maxHeartbeats 40000000 in
theorem c_law (l : Launch) (Z : State) (a0 : Array Value) (hw : ∀ d ∈ tables_1, d.before a0 Z = true) {B : Nat} (p0 p1 p2 p3 p4 p5 : Int32) :
    Con l Z FM B x code maxLocals ret room_1 tables_1 #[.int p0, .int p1, .int p2, .int p3, .int p4, .int p5] [] (fun v os => v = some (.int 1)) := by
  refine Con.of (plainFor_of_name (by first | (simp [plainName, overriddenIn]; done) | decide +kernel)) (ls := #[.val (.int p0), .val (.int p1), .val (.int p2), .val (.int p3), .val (.int p4), .val (.int p5), .unset, .unset, .unset, .unset, .unset, .unset, .unset, .unset, .unset, .unset, .unset, .unset, .unset, .unset, .unset, .unset, .unset, .unset, .unset]) (fun m => by first | (simp [entryFrame, mkF, argsToLocals, Value.category, maxLocals]; done) | rfl) ?_
  intro p_ e_ h_ s_ m_ bl_ me_ c_ T0 W0
  refine g_iload (pc := 0) W0 at_0 rfl ?_
  refine g_iconst (pc := 2) (1 : Int32) (by decide) W0 at_2 ?_
  refine g_iand (pc := 3) W0 at_3 ?_
  refine g_istore (pc := 4) (ls' := #[.val (.int p0), .val (.int p1), .val (.int p2), .val (.int p3), .val (.int p4), .val (.int p5), .val (.int (p5 &&& (1 : Int32))), .unset, .unset, .unset, .unset, .unset, .unset, .unset, .unset, .unset, .unset, .unset, .unset, .unset, .unset, .unset, .unset, .unset, .unset]) W0 at_4 rfl ?_
  refine g_iload (pc := 6) W0 at_6 rfl ?_
  refine g_iconst (pc := 8) (1 : Int32) (by decide) W0 at_8 ?_
  refine g_ishr (pc := 9) W0 at_9 ?_
  refine g_i2b (pc := 10) W0 at_10 ?_
  refine g_istore (pc := 11) (ls' := #[.val (.int p0), .val (.int p1), .val (.int p2), .val (.int p3), .val (.int p4), .val (.int p5), .val (.int (p5 &&& (1 : Int32))), .val (.int (p5 >>> ((1 : Int32) &&& 31)).toInt8.toInt32), .unset, .unset, .unset, .unset, .unset, .unset, .unset, .unset, .unset, .unset, .unset, .unset, .unset, .unset, .unset, .unset, .unset]) W0 at_11 rfl ?_
  refine g_iload_n (pc := 13) W0 at_13 rfl ?_
  refine g_i2b (pc := 14) W0 at_14 ?_
  refine g_istore (pc := 15) (ls' := #[.val (.int p0), .val (.int p1), .val (.int p2), .val (.int p3), .val (.int p4), .val (.int p5), .val (.int (p5 &&& (1 : Int32))), .val (.int (p5 >>> ((1 : Int32) &&& 31)).toInt8.toInt32), .val (.int p0.toInt8.toInt32), .unset, .unset, .unset, .unset, .unset, .unset, .unset, .unset, .unset, .unset, .unset, .unset, .unset, .unset, .unset, .unset]) W0 at_15 rfl ?_
  refine g_iload_n (pc := 17) W0 at_17 rfl ?_
  refine g_i2b (pc := 18) W0 at_18 ?_
  refine g_istore (pc := 19) (ls' := #[.val (.int p0), .val (.int p1), .val (.int p2), .val (.int p3), .val (.int p4), .val (.int p5), .val (.int (p5 &&& (1 : Int32))), .val (.int (p5 >>> ((1 : Int32) &&& 31)).toInt8.toInt32), .val (.int p0.toInt8.toInt32), .val (.int p1.toInt8.toInt32), .unset, .unset, .unset, .unset, .unset, .unset, .unset, .unset, .unset, .unset, .unset, .unset, .unset, .unset, .unset]) W0 at_19 rfl ?_
  refine g_iload_n (pc := 21) W0 at_21 rfl ?_
  refine g_i2b (pc := 22) W0 at_22 ?_
  refine g_istore (pc := 23) (ls' := #[.val (.int p0), .val (.int p1), .val (.int p2), .val (.int p3), .val (.int p4), .val (.int p5), .val (.int (p5 &&& (1 : Int32))), .val (.int (p5 >>> ((1 : Int32) &&& 31)).toInt8.toInt32), .val (.int p0.toInt8.toInt32), .val (.int p1.toInt8.toInt32), .val (.int p2.toInt8.toInt32), .unset, .unset, .unset, .unset, .unset, .unset, .unset, .unset, .unset, .unset, .unset, .unset, .unset, .unset]) W0 at_23 rfl ?_
  refine g_iload_n (pc := 25) W0 at_25 rfl ?_
  refine g_i2b (pc := 26) W0 at_26 ?_
  refine g_istore (pc := 27) (ls' := #[.val (.int p0), .val (.int p1), .val (.int p2), .val (.int p3), .val (.int p4), .val (.int p5), .val (.int (p5 &&& (1 : Int32))), .val (.int (p5 >>> ((1 : Int32) &&& 31)).toInt8.toInt32), .val (.int p0.toInt8.toInt32), .val (.int p1.toInt8.toInt32), .val (.int p2.toInt8.toInt32), .val (.int p3.toInt8.toInt32), .unset, .unset, .unset, .unset, .unset, .unset, .unset, .unset, .unset, .unset, .unset, .unset, .unset]) W0 at_27 rfl ?_
  refine g_iload (pc := 29) W0 at_29 rfl ?_
  refine g_bipush (pc := 31) (15 : Int32) (by decide) W0 at_31 ?_
  refine g_iand (pc := 33) W0 at_33 ?_
  refine g_i2b (pc := 34) W0 at_34 ?_
  refine g_istore (pc := 35) (ls' := #[.val (.int p0), .val (.int p1), .val (.int p2), .val (.int p3), .val (.int p4), .val (.int p5), .val (.int (p5 &&& (1 : Int32))), .val (.int (p5 >>> ((1 : Int32) &&& 31)).toInt8.toInt32), .val (.int p0.toInt8.toInt32), .val (.int p1.toInt8.toInt32), .val (.int p2.toInt8.toInt32), .val (.int p3.toInt8.toInt32), .val (.int (p4 &&& (15 : Int32)).toInt8.toInt32), .unset, .unset, .unset, .unset, .unset, .unset, .unset, .unset, .unset, .unset, .unset, .unset]) W0 at_35 rfl ?_
  refine g_bipush (pc := 37) (6 : Int32) (by decide) W0 at_37 ?_
  refine g_newarray (pc := 39) (ty := .byte) (vs := [.int (0 : Int32), .int (0 : Int32), .int (0 : Int32), .int (0 : Int32), .int (0 : Int32), .int (0 : Int32)]) 6 W0 (hw _ (List.mem_of_getElem? (i := 0) rfl)) rfl (by decide) (by decide) (by decide) rfl at_39 (by decide) (by decide) (fun T2 b1 W3 => ?_)
  have W4 := W3.re (os' := [(b1, (.array .byte), [.int (0 : Int32), .int (0 : Int32), .int (0 : Int32), .int (0 : Int32), .int (0 : Int32), .int (0 : Int32)])]) rfl
  refine g_astore (pc := 41) (ls' := #[.val (.int p0), .val (.int p1), .val (.int p2), .val (.int p3), .val (.int p4), .val (.int p5), .val (.int (p5 &&& (1 : Int32))), .val (.int (p5 >>> ((1 : Int32) &&& 31)).toInt8.toInt32), .val (.int p0.toInt8.toInt32), .val (.int p1.toInt8.toInt32), .val (.int p2.toInt8.toInt32), .val (.int p3.toInt8.toInt32), .val (.int (p4 &&& (15 : Int32)).toInt8.toInt32), .val (.ref b1), .unset, .unset, .unset, .unset, .unset, .unset, .unset, .unset, .unset, .unset, .unset]) W4 at_41 rfl rfl ?_
  rcases own_bit p5 with hl | hl
  · rw [hl]
    refine g_iload (pc := 43) W4 at_43 rfl ?_
    refine g_iconst (pc := 45) (1 : Int32) (by decide) W4 at_45 ?_
    refine g_icmpY 88 (pc := 46) W4 at_46 (by decide) (by decide) (by decide) ?_
    refine g_aload (pc := 88) W4 at_88 rfl rfl ?_
    refine g_iconst (pc := 90) (0 : Int32) (by decide) W4 at_90 ?_
    refine g_iload (pc := 91) W4 at_91 rfl ?_
    refine g_bastore (pc := 93) (i := 0) (os' := [(b1, (.array .byte), [.int p0.toInt8.toInt32, .int (0 : Int32), .int (0 : Int32), .int (0 : Int32), .int (0 : Int32), .int (0 : Int32)])]) (x' := p0.toInt8.toInt32) (own_bb _) 0 W4 rfl (by decide) (by decide) (Nat.le_of_ble_eq_true rfl) rfl at_93 (fun T5 W6 => ?_)
    refine g_aload (pc := 94) W6 at_94 rfl rfl ?_
    refine g_iconst (pc := 96) (1 : Int32) (by decide) W6 at_96 ?_
    refine g_iload (pc := 97) W6 at_97 rfl ?_
    refine g_bastore (pc := 99) (i := 0) (os' := [(b1, (.array .byte), [.int p0.toInt8.toInt32, .int p1.toInt8.toInt32, .int (0 : Int32), .int (0 : Int32), .int (0 : Int32), .int (0 : Int32)])]) (x' := p1.toInt8.toInt32) (own_bb _) 1 W6 rfl (by decide) (by decide) (Nat.le_of_ble_eq_true rfl) rfl at_99 (fun T7 W8 => ?_)
    refine g_aload (pc := 100) W8 at_100 rfl rfl ?_
    refine g_iconst (pc := 102) (2 : Int32) (by decide) W8 at_102 ?_
    refine g_iload (pc := 103) W8 at_103 rfl ?_
    refine g_bastore (pc := 105) (i := 0) (os' := [(b1, (.array .byte), [.int p0.toInt8.toInt32, .int p1.toInt8.toInt32, .int p2.toInt8.toInt32, .int (0 : Int32), .int (0 : Int32), .int (0 : Int32)])]) (x' := p2.toInt8.toInt32) (own_bb _) 2 W8 rfl (by decide) (by decide) (Nat.le_of_ble_eq_true rfl) rfl at_105 (fun T9 W10 => ?_)
    refine g_aload (pc := 106) W10 at_106 rfl rfl ?_
    refine g_iconst (pc := 108) (3 : Int32) (by decide) W10 at_108 ?_
    refine g_iload (pc := 109) W10 at_109 rfl ?_
    refine g_bastore (pc := 111) (i := 0) (os' := [(b1, (.array .byte), [.int p0.toInt8.toInt32, .int p1.toInt8.toInt32, .int p2.toInt8.toInt32, .int p3.toInt8.toInt32, .int (0 : Int32), .int (0 : Int32)])]) (x' := p3.toInt8.toInt32) (own_bb _) 3 W10 rfl (by decide) (by decide) (Nat.le_of_ble_eq_true rfl) rfl at_111 (fun T11 W12 => ?_)
    refine g_aload (pc := 112) W12 at_112 rfl rfl ?_
    refine g_iconst (pc := 114) (4 : Int32) (by decide) W12 at_114 ?_
    refine g_iload (pc := 115) W12 at_115 rfl ?_
    refine g_bastore (pc := 117) (i := 0) (os' := [(b1, (.array .byte), [.int p0.toInt8.toInt32, .int p1.toInt8.toInt32, .int p2.toInt8.toInt32, .int p3.toInt8.toInt32, .int (p4 &&& (15 : Int32)).toInt8.toInt32, .int (0 : Int32)])]) (x' := (p4 &&& (15 : Int32)).toInt8.toInt32) (own_bb _) 4 W12 rfl (by decide) (by decide) (Nat.le_of_ble_eq_true rfl) rfl at_117 (fun T13 W14 => ?_)
    refine g_aload (pc := 118) W14 at_118 rfl rfl ?_
    refine g_iconst (pc := 120) (5 : Int32) (by decide) W14 at_120 ?_
    refine g_iload (pc := 121) W14 at_121 rfl ?_
    refine g_bastore (pc := 123) (i := 0) (os' := [(b1, (.array .byte), [.int p0.toInt8.toInt32, .int p1.toInt8.toInt32, .int p2.toInt8.toInt32, .int p3.toInt8.toInt32, .int (p4 &&& (15 : Int32)).toInt8.toInt32, .int (p5 >>> ((1 : Int32) &&& 31)).toInt8.toInt32])]) (x' := (p5 >>> ((1 : Int32) &&& 31)).toInt8.toInt32) (own_bb _) 5 W14 rfl (by decide) (by decide) (Nat.le_of_ble_eq_true rfl) rfl at_123 (fun T15 W16 => ?_)
    refine g_iload (pc := 124) W16 at_124 rfl ?_
    refine g_sipush (pc := 126) (255 : Int32) (by decide) W16 at_126 ?_
    refine g_iand (pc := 129) W16 at_129 ?_
    refine g_istore (pc := 130) (ls' := #[.val (.int p0), .val (.int p1), .val (.int p2), .val (.int p3), .val (.int p4), .val (.int p5), .val (.int (0 : Int32)), .val (.int (p5 >>> ((1 : Int32) &&& 31)).toInt8.toInt32), .val (.int p0.toInt8.toInt32), .val (.int p1.toInt8.toInt32), .val (.int p2.toInt8.toInt32), .val (.int p3.toInt8.toInt32), .val (.int (p4 &&& (15 : Int32)).toInt8.toInt32), .val (.ref b1), .val (.int (p0.toInt8.toInt32 &&& (255 : Int32))), .unset, .unset, .unset, .unset, .unset, .unset, .unset, .unset, .unset, .unset]) W16 at_130 rfl ?_
    refine g_iload (pc := 132) W16 at_132 rfl ?_
    refine g_sipush (pc := 134) (255 : Int32) (by decide) W16 at_134 ?_
    refine g_iand (pc := 137) W16 at_137 ?_
    refine g_istore (pc := 138) (ls' := #[.val (.int p0), .val (.int p1), .val (.int p2), .val (.int p3), .val (.int p4), .val (.int p5), .val (.int (0 : Int32)), .val (.int (p5 >>> ((1 : Int32) &&& 31)).toInt8.toInt32), .val (.int p0.toInt8.toInt32), .val (.int p1.toInt8.toInt32), .val (.int p2.toInt8.toInt32), .val (.int p3.toInt8.toInt32), .val (.int (p4 &&& (15 : Int32)).toInt8.toInt32), .val (.ref b1), .val (.int (p0.toInt8.toInt32 &&& (255 : Int32))), .val (.int (p1.toInt8.toInt32 &&& (255 : Int32))), .unset, .unset, .unset, .unset, .unset, .unset, .unset, .unset, .unset]) W16 at_138 rfl ?_
    refine g_iload (pc := 140) W16 at_140 rfl ?_
    refine g_sipush (pc := 142) (255 : Int32) (by decide) W16 at_142 ?_
    refine g_iand (pc := 145) W16 at_145 ?_
    refine g_istore (pc := 146) (ls' := #[.val (.int p0), .val (.int p1), .val (.int p2), .val (.int p3), .val (.int p4), .val (.int p5), .val (.int (0 : Int32)), .val (.int (p5 >>> ((1 : Int32) &&& 31)).toInt8.toInt32), .val (.int p0.toInt8.toInt32), .val (.int p1.toInt8.toInt32), .val (.int p2.toInt8.toInt32), .val (.int p3.toInt8.toInt32), .val (.int (p4 &&& (15 : Int32)).toInt8.toInt32), .val (.ref b1), .val (.int (p0.toInt8.toInt32 &&& (255 : Int32))), .val (.int (p1.toInt8.toInt32 &&& (255 : Int32))), .val (.int (p2.toInt8.toInt32 &&& (255 : Int32))), .unset, .unset, .unset, .unset, .unset, .unset, .unset, .unset]) W16 at_146 rfl ?_
    refine g_iload (pc := 148) W16 at_148 rfl ?_
    refine g_sipush (pc := 150) (255 : Int32) (by decide) W16 at_150 ?_
    refine g_iand (pc := 153) W16 at_153 ?_
    refine g_istore (pc := 154) (ls' := #[.val (.int p0), .val (.int p1), .val (.int p2), .val (.int p3), .val (.int p4), .val (.int p5), .val (.int (0 : Int32)), .val (.int (p5 >>> ((1 : Int32) &&& 31)).toInt8.toInt32), .val (.int p0.toInt8.toInt32), .val (.int p1.toInt8.toInt32), .val (.int p2.toInt8.toInt32), .val (.int p3.toInt8.toInt32), .val (.int (p4 &&& (15 : Int32)).toInt8.toInt32), .val (.ref b1), .val (.int (p0.toInt8.toInt32 &&& (255 : Int32))), .val (.int (p1.toInt8.toInt32 &&& (255 : Int32))), .val (.int (p2.toInt8.toInt32 &&& (255 : Int32))), .val (.int (p3.toInt8.toInt32 &&& (255 : Int32))), .unset, .unset, .unset, .unset, .unset, .unset, .unset]) W16 at_154 rfl ?_
    refine g_iload (pc := 156) W16 at_156 rfl ?_
    refine g_sipush (pc := 158) (255 : Int32) (by decide) W16 at_158 ?_
    refine g_iand (pc := 161) W16 at_161 ?_
    refine g_istore (pc := 162) (ls' := #[.val (.int p0), .val (.int p1), .val (.int p2), .val (.int p3), .val (.int p4), .val (.int p5), .val (.int (0 : Int32)), .val (.int (p5 >>> ((1 : Int32) &&& 31)).toInt8.toInt32), .val (.int p0.toInt8.toInt32), .val (.int p1.toInt8.toInt32), .val (.int p2.toInt8.toInt32), .val (.int p3.toInt8.toInt32), .val (.int (p4 &&& (15 : Int32)).toInt8.toInt32), .val (.ref b1), .val (.int (p0.toInt8.toInt32 &&& (255 : Int32))), .val (.int (p1.toInt8.toInt32 &&& (255 : Int32))), .val (.int (p2.toInt8.toInt32 &&& (255 : Int32))), .val (.int (p3.toInt8.toInt32 &&& (255 : Int32))), .val (.int ((p4 &&& (15 : Int32)).toInt8.toInt32 &&& (255 : Int32))), .unset, .unset, .unset, .unset, .unset, .unset]) W16 at_162 rfl ?_
    refine g_iload (pc := 164) W16 at_164 rfl ?_
    refine g_sipush (pc := 166) (128 : Int32) (by decide) W16 at_166 ?_
    refine g_icmp_ge 183 (pc := 169) W16 at_169 (by decide) (by decide) (fun c17 => ?_) (fun c17 => ?_)
    · refine g_iload (pc := 183) W16 at_183 rfl ?_
      refine g_sipush (pc := 185) (128 : Int32) (by decide) W16 at_185 ?_
      refine g_icmp_ge 213 (pc := 188) W16 at_188 (by decide) (by decide) (fun c18 => ?_) (fun c18 => ?_)
      · refine g_iload (pc := 213) W16 at_213 rfl ?_
        refine g_sipush (pc := 215) (128 : Int32) (by decide) W16 at_215 ?_
        refine g_icmp_ge 254 (pc := 218) W16 at_218 (by decide) (by decide) (fun c19 => ?_) (fun c19 => ?_)
        · refine g_iload (pc := 254) W16 at_254 rfl ?_
          refine g_sipush (pc := 256) (128 : Int32) (by decide) W16 at_256 ?_
          refine g_icmp_ge 306 (pc := 259) W16 at_259 (by decide) (by decide) (fun c20 => ?_) (fun c20 => ?_)
          · refine g_iconst (pc := 306) (5 : Int32) (by decide) W16 at_306 ?_
            refine g_istore (pc := 307) (ls' := #[.val (.int p0), .val (.int p1), .val (.int p2), .val (.int p3), .val (.int p4), .val (.int p5), .val (.int (0 : Int32)), .val (.int (p5 >>> ((1 : Int32) &&& 31)).toInt8.toInt32), .val (.int p0.toInt8.toInt32), .val (.int p1.toInt8.toInt32), .val (.int p2.toInt8.toInt32), .val (.int p3.toInt8.toInt32), .val (.int (p4 &&& (15 : Int32)).toInt8.toInt32), .val (.ref b1), .val (.int (p0.toInt8.toInt32 &&& (255 : Int32))), .val (.int (p1.toInt8.toInt32 &&& (255 : Int32))), .val (.int (p2.toInt8.toInt32 &&& (255 : Int32))), .val (.int (p3.toInt8.toInt32 &&& (255 : Int32))), .val (.int ((p4 &&& (15 : Int32)).toInt8.toInt32 &&& (255 : Int32))), .unset, .unset, .val (.int (5 : Int32)), .unset, .unset, .unset]) W16 at_307 rfl ?_
            refine g_iload (pc := 309) W16 at_309 rfl ?_
            refine g_bipush (pc := 311) (127 : Int32) (by decide) W16 at_311 ?_
            refine g_iand (pc := 313) W16 at_313 ?_
            refine g_i2l (pc := 314) W16 at_314 ?_
            refine g_iload (pc := 315) W16 at_315 rfl ?_
            refine g_bipush (pc := 317) (127 : Int32) (by decide) W16 at_317 ?_
            refine g_iand (pc := 319) W16 at_319 ?_
            refine g_i2l (pc := 320) W16 at_320 ?_
            refine g_ldc2_long (pc := 321) (v := (128 : Int64)) W16 (hw _ (List.mem_of_getElem? (i := 24) rfl)) at_321 ?_
            refine g_lmul (pc := 324) W16 at_324 ?_
            refine g_ladd (pc := 325) W16 at_325 ?_
            refine g_iload (pc := 326) W16 at_326 rfl ?_
            refine g_bipush (pc := 328) (127 : Int32) (by decide) W16 at_328 ?_
            refine g_iand (pc := 330) W16 at_330 ?_
            refine g_i2l (pc := 331) W16 at_331 ?_
            refine g_ldc2_long (pc := 332) (v := (16384 : Int64)) W16 (hw _ (List.mem_of_getElem? (i := 25) rfl)) at_332 ?_
            refine g_lmul (pc := 335) W16 at_335 ?_
            refine g_ladd (pc := 336) W16 at_336 ?_
            refine g_iload (pc := 337) W16 at_337 rfl ?_
            refine g_bipush (pc := 339) (127 : Int32) (by decide) W16 at_339 ?_
            refine g_iand (pc := 341) W16 at_341 ?_
            refine g_i2l (pc := 342) W16 at_342 ?_
            refine g_ldc2_long (pc := 343) (v := (2097152 : Int64)) W16 (hw _ (List.mem_of_getElem? (i := 26) rfl)) at_343 ?_
            refine g_lmul (pc := 346) W16 at_346 ?_
            refine g_ladd (pc := 347) W16 at_347 ?_
            refine g_iload (pc := 348) W16 at_348 rfl ?_
            refine g_i2l (pc := 350) W16 at_350 ?_
            refine g_ldc2_long (pc := 351) (v := (268435456 : Int64)) W16 (hw _ (List.mem_of_getElem? (i := 27) rfl)) at_351 ?_
            refine g_lmul (pc := 354) W16 at_354 ?_
            refine g_ladd (pc := 355) W16 at_355 ?_
            refine g_lstore (pc := 356) (ls' := #[.val (.int p0), .val (.int p1), .val (.int p2), .val (.int p3), .val (.int p4), .val (.int p5), .val (.int (0 : Int32)), .val (.int (p5 >>> ((1 : Int32) &&& 31)).toInt8.toInt32), .val (.int p0.toInt8.toInt32), .val (.int p1.toInt8.toInt32), .val (.int p2.toInt8.toInt32), .val (.int p3.toInt8.toInt32), .val (.int (p4 &&& (15 : Int32)).toInt8.toInt32), .val (.ref b1), .val (.int (p0.toInt8.toInt32 &&& (255 : Int32))), .val (.int (p1.toInt8.toInt32 &&& (255 : Int32))), .val (.int (p2.toInt8.toInt32 &&& (255 : Int32))), .val (.int (p3.toInt8.toInt32 &&& (255 : Int32))), .val (.int ((p4 &&& (15 : Int32)).toInt8.toInt32 &&& (255 : Int32))), .val (.long ((((((p0.toInt8.toInt32 &&& (255 : Int32)) &&& (127 : Int32)).toInt64 + (((p1.toInt8.toInt32 &&& (255 : Int32)) &&& (127 : Int32)).toInt64 * (128 : Int64))) + (((p2.toInt8.toInt32 &&& (255 : Int32)) &&& (127 : Int32)).toInt64 * (16384 : Int64))) + (((p3.toInt8.toInt32 &&& (255 : Int32)) &&& (127 : Int32)).toInt64 * (2097152 : Int64))) + (((p4 &&& (15 : Int32)).toInt8.toInt32 &&& (255 : Int32)).toInt64 * (268435456 : Int64)))), .second, .val (.int (5 : Int32)), .unset, .unset, .unset]) W16 at_356 rfl ?_
            refine g_lload (pc := 358) W16 at_358 rfl ?_
            refine g_l2i (pc := 360) W16 at_360 ?_
            refine g_istore (pc := 361) (ls' := #[.val (.int p0), .val (.int p1), .val (.int p2), .val (.int p3), .val (.int p4), .val (.int p5), .val (.int (0 : Int32)), .val (.int (p5 >>> ((1 : Int32) &&& 31)).toInt8.toInt32), .val (.int p0.toInt8.toInt32), .val (.int p1.toInt8.toInt32), .val (.int p2.toInt8.toInt32), .val (.int p3.toInt8.toInt32), .val (.int (p4 &&& (15 : Int32)).toInt8.toInt32), .val (.ref b1), .val (.int (p0.toInt8.toInt32 &&& (255 : Int32))), .val (.int (p1.toInt8.toInt32 &&& (255 : Int32))), .val (.int (p2.toInt8.toInt32 &&& (255 : Int32))), .val (.int (p3.toInt8.toInt32 &&& (255 : Int32))), .val (.int ((p4 &&& (15 : Int32)).toInt8.toInt32 &&& (255 : Int32))), .val (.long ((((((p0.toInt8.toInt32 &&& (255 : Int32)) &&& (127 : Int32)).toInt64 + (((p1.toInt8.toInt32 &&& (255 : Int32)) &&& (127 : Int32)).toInt64 * (128 : Int64))) + (((p2.toInt8.toInt32 &&& (255 : Int32)) &&& (127 : Int32)).toInt64 * (16384 : Int64))) + (((p3.toInt8.toInt32 &&& (255 : Int32)) &&& (127 : Int32)).toInt64 * (2097152 : Int64))) + (((p4 &&& (15 : Int32)).toInt8.toInt32 &&& (255 : Int32)).toInt64 * (268435456 : Int64)))), .second, .val (.int (5 : Int32)), .val (.int ((((((p0.toInt8.toInt32 &&& (255 : Int32)) &&& (127 : Int32)).toInt64 + (((p1.toInt8.toInt32 &&& (255 : Int32)) &&& (127 : Int32)).toInt64 * (128 : Int64))) + (((p2.toInt8.toInt32 &&& (255 : Int32)) &&& (127 : Int32)).toInt64 * (16384 : Int64))) + (((p3.toInt8.toInt32 &&& (255 : Int32)) &&& (127 : Int32)).toInt64 * (2097152 : Int64))) + (((p4 &&& (15 : Int32)).toInt8.toInt32 &&& (255 : Int32)).toInt64 * (268435456 : Int64))).toInt32), .unset, .unset]) W16 at_361 rfl ?_
            refine g_new (pc := 363) (vs := [.null, .int (0 : Int32)]) W16 (hw _ (List.mem_of_getElem? (i := 1) rfl)) (hw _ (List.mem_of_getElem? (i := 2) rfl)) (hw _ (List.mem_of_getElem? (i := 3) rfl)) (cls_ByteCursor hw) (by decide) at_363 (by decide) (by decide) (fun T22 b21 W23 => ?_)
            have W24 := W23.re (os' := [(b1, (.array .byte), [.int p0.toInt8.toInt32, .int p1.toInt8.toInt32, .int p2.toInt8.toInt32, .int p3.toInt8.toInt32, .int (p4 &&& (15 : Int32)).toInt8.toInt32, .int (p5 >>> ((1 : Int32) &&& 31)).toInt8.toInt32]), (b21, (.object "com/example/attestry/attestry/home/ByteCursor"), [.null, .int (0 : Int32)])]) rfl
            refine g_dup (pc := 366) W24 at_366 rfl ?_
            refine g_aload (pc := 367) W24 at_367 rfl rfl ?_
            refine g_iload (pc := 369) W24 at_369 rfl ?_
            refine g_init (pc := 371) (Wt := 1) (argsL := [.ref b1, .int (0 : Int32)]) (rest := [.ref b21]) (loc := [(b21, (.object "com/example/attestry/attestry/home/ByteCursor"), [.null, .int (0 : Int32)])]) (rst := [(b1, (.array .byte), [.int p0.toInt8.toInt32, .int p1.toInt8.toInt32, .int p2.toInt8.toInt32, .int p3.toInt8.toInt32, .int (p4 &&& (15 : Int32)).toInt8.toInt32, .int (p5 >>> ((1 : Int32) &&& 31)).toInt8.toInt32])]) W24 rfl (hw _ (List.mem_of_getElem? (i := 4) rfl)) (hw _ (List.mem_of_getElem? (i := 5) rfl)) (hw _ (List.mem_of_getElem? (i := 3) rfl)) (hw _ (List.mem_of_getElem? (i := 6) rfl)) (by decide) (c_init l Z a0 hw b21 b1 (0 : Int32)) ⟨[1, 0], by decide, rfl⟩ rfl pd_ABI__V rfl rfl rfl (Nat.le_of_ble_eq_true rfl) (by decide) (by decide) (by decide) (by decide) at_371 ?_
            rintro T25 _ _ ⟨rfl, rfl⟩ W26
            have W27 := W26.re (os' := [(b21, (.object "com/example/attestry/attestry/home/ByteCursor"), [.ref b1, .int (0 : Int32)]), (b1, (.array .byte), [.int p0.toInt8.toInt32, .int p1.toInt8.toInt32, .int p2.toInt8.toInt32, .int p3.toInt8.toInt32, .int (p4 &&& (15 : Int32)).toInt8.toInt32, .int (p5 >>> ((1 : Int32) &&& 31)).toInt8.toInt32])]) rfl
            show Go p_ e_ bl_ _ (T25.setTop (mkF m_ 374 #[.val (.int p0), .val (.int p1), .val (.int p2), .val (.int p3), .val (.int p4), .val (.int p5), .val (.int (0 : Int32)), .val (.int (p5 >>> ((1 : Int32) &&& 31)).toInt8.toInt32), .val (.int p0.toInt8.toInt32), .val (.int p1.toInt8.toInt32), .val (.int p2.toInt8.toInt32), .val (.int p3.toInt8.toInt32), .val (.int (p4 &&& (15 : Int32)).toInt8.toInt32), .val (.ref b1), .val (.int (p0.toInt8.toInt32 &&& (255 : Int32))), .val (.int (p1.toInt8.toInt32 &&& (255 : Int32))), .val (.int (p2.toInt8.toInt32 &&& (255 : Int32))), .val (.int (p3.toInt8.toInt32 &&& (255 : Int32))), .val (.int ((p4 &&& (15 : Int32)).toInt8.toInt32 &&& (255 : Int32))), .val (.long ((((((p0.toInt8.toInt32 &&& (255 : Int32)) &&& (127 : Int32)).toInt64 + (((p1.toInt8.toInt32 &&& (255 : Int32)) &&& (127 : Int32)).toInt64 * (128 : Int64))) + (((p2.toInt8.toInt32 &&& (255 : Int32)) &&& (127 : Int32)).toInt64 * (16384 : Int64))) + (((p3.toInt8.toInt32 &&& (255 : Int32)) &&& (127 : Int32)).toInt64 * (2097152 : Int64))) + (((p4 &&& (15 : Int32)).toInt8.toInt32 &&& (255 : Int32)).toInt64 * (268435456 : Int64)))), .second, .val (.int (5 : Int32)), .val (.int ((((((p0.toInt8.toInt32 &&& (255 : Int32)) &&& (127 : Int32)).toInt64 + (((p1.toInt8.toInt32 &&& (255 : Int32)) &&& (127 : Int32)).toInt64 * (128 : Int64))) + (((p2.toInt8.toInt32 &&& (255 : Int32)) &&& (127 : Int32)).toInt64 * (16384 : Int64))) + (((p3.toInt8.toInt32 &&& (255 : Int32)) &&& (127 : Int32)).toInt64 * (2097152 : Int64))) + (((p4 &&& (15 : Int32)).toInt8.toInt32 &&& (255 : Int32)).toInt64 * (268435456 : Int64))).toInt32), .unset, .unset] [.ref b21]))
            refine g_astore (pc := 374) (ls' := #[.val (.int p0), .val (.int p1), .val (.int p2), .val (.int p3), .val (.int p4), .val (.int p5), .val (.int (0 : Int32)), .val (.int (p5 >>> ((1 : Int32) &&& 31)).toInt8.toInt32), .val (.int p0.toInt8.toInt32), .val (.int p1.toInt8.toInt32), .val (.int p2.toInt8.toInt32), .val (.int p3.toInt8.toInt32), .val (.int (p4 &&& (15 : Int32)).toInt8.toInt32), .val (.ref b1), .val (.int (p0.toInt8.toInt32 &&& (255 : Int32))), .val (.int (p1.toInt8.toInt32 &&& (255 : Int32))), .val (.int (p2.toInt8.toInt32 &&& (255 : Int32))), .val (.int (p3.toInt8.toInt32 &&& (255 : Int32))), .val (.int ((p4 &&& (15 : Int32)).toInt8.toInt32 &&& (255 : Int32))), .val (.long ((((((p0.toInt8.toInt32 &&& (255 : Int32)) &&& (127 : Int32)).toInt64 + (((p1.toInt8.toInt32 &&& (255 : Int32)) &&& (127 : Int32)).toInt64 * (128 : Int64))) + (((p2.toInt8.toInt32 &&& (255 : Int32)) &&& (127 : Int32)).toInt64 * (16384 : Int64))) + (((p3.toInt8.toInt32 &&& (255 : Int32)) &&& (127 : Int32)).toInt64 * (2097152 : Int64))) + (((p4 &&& (15 : Int32)).toInt8.toInt32 &&& (255 : Int32)).toInt64 * (268435456 : Int64)))), .second, .val (.int (5 : Int32)), .val (.int ((((((p0.toInt8.toInt32 &&& (255 : Int32)) &&& (127 : Int32)).toInt64 + (((p1.toInt8.toInt32 &&& (255 : Int32)) &&& (127 : Int32)).toInt64 * (128 : Int64))) + (((p2.toInt8.toInt32 &&& (255 : Int32)) &&& (127 : Int32)).toInt64 * (16384 : Int64))) + (((p3.toInt8.toInt32 &&& (255 : Int32)) &&& (127 : Int32)).toInt64 * (2097152 : Int64))) + (((p4 &&& (15 : Int32)).toInt8.toInt32 &&& (255 : Int32)).toInt64 * (268435456 : Int64))).toInt32), .val (.ref b21), .unset]) W27 at_374 rfl rfl ?_
            refine g_aload (pc := 376) W27 at_376 rfl rfl ?_
            refine g_virtual (i := 0) (pc := 378) (Wt := 0) (argsL := []) (rest := []) (loc := [(b21, (.object "com/example/attestry/attestry/home/ByteCursor"), [.ref b1, .int (0 : Int32)]), (b1, (.array .byte), [.int p0.toInt8.toInt32, .int p1.toInt8.toInt32, .int p2.toInt8.toInt32, .int p3.toInt8.toInt32, .int (p4 &&& (15 : Int32)).toInt8.toInt32, .int (p5 >>> ((1 : Int32) &&& 31)).toInt8.toInt32])]) (rst := []) W27 (hw _ (List.mem_of_getElem? (i := 14) rfl)) (hw _ (List.mem_of_getElem? (i := 16) rfl)) (hw _ (List.mem_of_getElem? (i := 3) rfl)) (hw _ (List.mem_of_getElem? (i := 18) rfl)) (hw _ (List.mem_of_getElem? (i := 15) rfl)) (hw _ (List.mem_of_getElem? (i := 17) rfl)) rfl (by decide) (c_wh05 l Z a0 hw b21 b1 p0.toInt8.toInt32 p1.toInt8.toInt32 p2.toInt8.toInt32 p3.toInt8.toInt32 (p4 &&& (15 : Int32)).toInt8.toInt32 (p5 >>> ((1 : Int32) &&& 31)).toInt8.toInt32 (own_y c17) (own_y c18) (own_y c19) (own_y c20) (own_15 p4)) ⟨[0, 1], by decide, rfl⟩ rfl pd___I rfl rfl rfl (Nat.le_of_ble_eq_true rfl) (by decide) (by decide) (by decide) (by decide) at_378 ?_
            rintro T28 _ _ ⟨rfl, rfl⟩ W29
            have W30 := W29.re (os' := [(b21, (.object "com/example/attestry/attestry/home/ByteCursor"), [.ref b1, .int (5 : Int32)]), (b1, (.array .byte), [.int p0.toInt8.toInt32, .int p1.toInt8.toInt32, .int p2.toInt8.toInt32, .int p3.toInt8.toInt32, .int (p4 &&& (15 : Int32)).toInt8.toInt32, .int (p5 >>> ((1 : Int32) &&& 31)).toInt8.toInt32])]) rfl
            show Go p_ e_ bl_ _ (T28.setTop (mkF m_ 381 #[.val (.int p0), .val (.int p1), .val (.int p2), .val (.int p3), .val (.int p4), .val (.int p5), .val (.int (0 : Int32)), .val (.int (p5 >>> ((1 : Int32) &&& 31)).toInt8.toInt32), .val (.int p0.toInt8.toInt32), .val (.int p1.toInt8.toInt32), .val (.int p2.toInt8.toInt32), .val (.int p3.toInt8.toInt32), .val (.int (p4 &&& (15 : Int32)).toInt8.toInt32), .val (.ref b1), .val (.int (p0.toInt8.toInt32 &&& (255 : Int32))), .val (.int (p1.toInt8.toInt32 &&& (255 : Int32))), .val (.int (p2.toInt8.toInt32 &&& (255 : Int32))), .val (.int (p3.toInt8.toInt32 &&& (255 : Int32))), .val (.int ((p4 &&& (15 : Int32)).toInt8.toInt32 &&& (255 : Int32))), .val (.long ((((((p0.toInt8.toInt32 &&& (255 : Int32)) &&& (127 : Int32)).toInt64 + (((p1.toInt8.toInt32 &&& (255 : Int32)) &&& (127 : Int32)).toInt64 * (128 : Int64))) + (((p2.toInt8.toInt32 &&& (255 : Int32)) &&& (127 : Int32)).toInt64 * (16384 : Int64))) + (((p3.toInt8.toInt32 &&& (255 : Int32)) &&& (127 : Int32)).toInt64 * (2097152 : Int64))) + (((p4 &&& (15 : Int32)).toInt8.toInt32 &&& (255 : Int32)).toInt64 * (268435456 : Int64)))), .second, .val (.int (5 : Int32)), .val (.int ((((((p0.toInt8.toInt32 &&& (255 : Int32)) &&& (127 : Int32)).toInt64 + (((p1.toInt8.toInt32 &&& (255 : Int32)) &&& (127 : Int32)).toInt64 * (128 : Int64))) + (((p2.toInt8.toInt32 &&& (255 : Int32)) &&& (127 : Int32)).toInt64 * (16384 : Int64))) + (((p3.toInt8.toInt32 &&& (255 : Int32)) &&& (127 : Int32)).toInt64 * (2097152 : Int64))) + (((p4 &&& (15 : Int32)).toInt8.toInt32 &&& (255 : Int32)).toInt64 * (268435456 : Int64))).toInt32), .val (.ref b21), .unset] [.int ((((((0 : Int32) ||| ((p0.toInt8.toInt32 &&& (127 : Int32)) <<< ((0 : Int32) &&& 31))) ||| ((p1.toInt8.toInt32 &&& (127 : Int32)) <<< ((7 : Int32) &&& 31))) ||| ((p2.toInt8.toInt32 &&& (127 : Int32)) <<< ((14 : Int32) &&& 31))) ||| ((p3.toInt8.toInt32 &&& (127 : Int32)) <<< ((21 : Int32) &&& 31))) ||| (((p4 &&& (15 : Int32)).toInt8.toInt32 &&& (127 : Int32)) <<< ((28 : Int32) &&& 31)))]))
            refine g_istore (pc := 381) (ls' := #[.val (.int p0), .val (.int p1), .val (.int p2), .val (.int p3), .val (.int p4), .val (.int p5), .val (.int (0 : Int32)), .val (.int (p5 >>> ((1 : Int32) &&& 31)).toInt8.toInt32), .val (.int p0.toInt8.toInt32), .val (.int p1.toInt8.toInt32), .val (.int p2.toInt8.toInt32), .val (.int p3.toInt8.toInt32), .val (.int (p4 &&& (15 : Int32)).toInt8.toInt32), .val (.ref b1), .val (.int (p0.toInt8.toInt32 &&& (255 : Int32))), .val (.int (p1.toInt8.toInt32 &&& (255 : Int32))), .val (.int (p2.toInt8.toInt32 &&& (255 : Int32))), .val (.int (p3.toInt8.toInt32 &&& (255 : Int32))), .val (.int ((p4 &&& (15 : Int32)).toInt8.toInt32 &&& (255 : Int32))), .val (.long ((((((p0.toInt8.toInt32 &&& (255 : Int32)) &&& (127 : Int32)).toInt64 + (((p1.toInt8.toInt32 &&& (255 : Int32)) &&& (127 : Int32)).toInt64 * (128 : Int64))) + (((p2.toInt8.toInt32 &&& (255 : Int32)) &&& (127 : Int32)).toInt64 * (16384 : Int64))) + (((p3.toInt8.toInt32 &&& (255 : Int32)) &&& (127 : Int32)).toInt64 * (2097152 : Int64))) + (((p4 &&& (15 : Int32)).toInt8.toInt32 &&& (255 : Int32)).toInt64 * (268435456 : Int64)))), .second, .val (.int (5 : Int32)), .val (.int ((((((p0.toInt8.toInt32 &&& (255 : Int32)) &&& (127 : Int32)).toInt64 + (((p1.toInt8.toInt32 &&& (255 : Int32)) &&& (127 : Int32)).toInt64 * (128 : Int64))) + (((p2.toInt8.toInt32 &&& (255 : Int32)) &&& (127 : Int32)).toInt64 * (16384 : Int64))) + (((p3.toInt8.toInt32 &&& (255 : Int32)) &&& (127 : Int32)).toInt64 * (2097152 : Int64))) + (((p4 &&& (15 : Int32)).toInt8.toInt32 &&& (255 : Int32)).toInt64 * (268435456 : Int64))).toInt32), .val (.ref b21), .val (.int ((((((0 : Int32) ||| ((p0.toInt8.toInt32 &&& (127 : Int32)) <<< ((0 : Int32) &&& 31))) ||| ((p1.toInt8.toInt32 &&& (127 : Int32)) <<< ((7 : Int32) &&& 31))) ||| ((p2.toInt8.toInt32 &&& (127 : Int32)) <<< ((14 : Int32) &&& 31))) ||| ((p3.toInt8.toInt32 &&& (127 : Int32)) <<< ((21 : Int32) &&& 31))) ||| (((p4 &&& (15 : Int32)).toInt8.toInt32 &&& (127 : Int32)) <<< ((28 : Int32) &&& 31))))]) W30 at_381 rfl ?_
            refine g_iload (pc := 383) W30 at_383 rfl ?_
            refine g_iload (pc := 385) W30 at_385 rfl ?_
            refine g_icmpN (pc := 387) W30 at_387 (teq (own_e5 p0.toInt8.toInt32 p1.toInt8.toInt32 p2.toInt8.toInt32 p3.toInt8.toInt32 (p4 &&& (15 : Int32)).toInt8.toInt32 (own_16 p4).1 (own_16 p4).2)).2 ?_
            refine g_aload (pc := 390) W30 at_390 rfl rfl ?_
            refine g_virtual (i := 0) (pc := 392) (Wt := 0) (argsL := []) (rest := []) (loc := [(b21, (.object "com/example/attestry/attestry/home/ByteCursor"), [.ref b1, .int (5 : Int32)])]) (rst := [(b1, (.array .byte), [.int p0.toInt8.toInt32, .int p1.toInt8.toInt32, .int p2.toInt8.toInt32, .int p3.toInt8.toInt32, .int (p4 &&& (15 : Int32)).toInt8.toInt32, .int (p5 >>> ((1 : Int32) &&& 31)).toInt8.toInt32])]) W30 (hw _ (List.mem_of_getElem? (i := 19) rfl)) (hw _ (List.mem_of_getElem? (i := 21) rfl)) (hw _ (List.mem_of_getElem? (i := 3) rfl)) (hw _ (List.mem_of_getElem? (i := 23) rfl)) (hw _ (List.mem_of_getElem? (i := 20) rfl)) (hw _ (List.mem_of_getElem? (i := 22) rfl)) rfl (by decide) (c_at l Z a0 hw b21 b1 (5 : Int32)) ⟨[0, 1], by decide, rfl⟩ rfl pd___I rfl rfl rfl (Nat.le_of_ble_eq_true rfl) (by decide) (by decide) (by decide) (by decide) at_392 ?_
            rintro T31 _ _ ⟨rfl, rfl⟩ W32
            have W33 := W32.re (os' := [(b21, (.object "com/example/attestry/attestry/home/ByteCursor"), [.ref b1, .int (5 : Int32)]), (b1, (.array .byte), [.int p0.toInt8.toInt32, .int p1.toInt8.toInt32, .int p2.toInt8.toInt32, .int p3.toInt8.toInt32, .int (p4 &&& (15 : Int32)).toInt8.toInt32, .int (p5 >>> ((1 : Int32) &&& 31)).toInt8.toInt32])]) rfl
            show Go p_ e_ bl_ _ (T31.setTop (mkF m_ 395 #[.val (.int p0), .val (.int p1), .val (.int p2), .val (.int p3), .val (.int p4), .val (.int p5), .val (.int (0 : Int32)), .val (.int (p5 >>> ((1 : Int32) &&& 31)).toInt8.toInt32), .val (.int p0.toInt8.toInt32), .val (.int p1.toInt8.toInt32), .val (.int p2.toInt8.toInt32), .val (.int p3.toInt8.toInt32), .val (.int (p4 &&& (15 : Int32)).toInt8.toInt32), .val (.ref b1), .val (.int (p0.toInt8.toInt32 &&& (255 : Int32))), .val (.int (p1.toInt8.toInt32 &&& (255 : Int32))), .val (.int (p2.toInt8.toInt32 &&& (255 : Int32))), .val (.int (p3.toInt8.toInt32 &&& (255 : Int32))), .val (.int ((p4 &&& (15 : Int32)).toInt8.toInt32 &&& (255 : Int32))), .val (.long ((((((p0.toInt8.toInt32 &&& (255 : Int32)) &&& (127 : Int32)).toInt64 + (((p1.toInt8.toInt32 &&& (255 : Int32)) &&& (127 : Int32)).toInt64 * (128 : Int64))) + (((p2.toInt8.toInt32 &&& (255 : Int32)) &&& (127 : Int32)).toInt64 * (16384 : Int64))) + (((p3.toInt8.toInt32 &&& (255 : Int32)) &&& (127 : Int32)).toInt64 * (2097152 : Int64))) + (((p4 &&& (15 : Int32)).toInt8.toInt32 &&& (255 : Int32)).toInt64 * (268435456 : Int64)))), .second, .val (.int (5 : Int32)), .val (.int ((((((p0.toInt8.toInt32 &&& (255 : Int32)) &&& (127 : Int32)).toInt64 + (((p1.toInt8.toInt32 &&& (255 : Int32)) &&& (127 : Int32)).toInt64 * (128 : Int64))) + (((p2.toInt8.toInt32 &&& (255 : Int32)) &&& (127 : Int32)).toInt64 * (16384 : Int64))) + (((p3.toInt8.toInt32 &&& (255 : Int32)) &&& (127 : Int32)).toInt64 * (2097152 : Int64))) + (((p4 &&& (15 : Int32)).toInt8.toInt32 &&& (255 : Int32)).toInt64 * (268435456 : Int64))).toInt32), .val (.ref b21), .val (.int ((((((0 : Int32) ||| ((p0.toInt8.toInt32 &&& (127 : Int32)) <<< ((0 : Int32) &&& 31))) ||| ((p1.toInt8.toInt32 &&& (127 : Int32)) <<< ((7 : Int32) &&& 31))) ||| ((p2.toInt8.toInt32 &&& (127 : Int32)) <<< ((14 : Int32) &&& 31))) ||| ((p3.toInt8.toInt32 &&& (127 : Int32)) <<< ((21 : Int32) &&& 31))) ||| (((p4 &&& (15 : Int32)).toInt8.toInt32 &&& (127 : Int32)) <<< ((28 : Int32) &&& 31))))] [.int (5 : Int32)]))
            refine g_iload (pc := 395) W33 at_395 rfl ?_
            refine g_iload (pc := 397) W33 at_397 rfl ?_
            refine g_iadd (pc := 399) W33 at_399 ?_
            show Go p_ e_ bl_ _ (T31.setTop (mkF m_ 400 #[.val (.int p0), .val (.int p1), .val (.int p2), .val (.int p3), .val (.int p4), .val (.int p5), .val (.int (0 : Int32)), .val (.int (p5 >>> ((1 : Int32) &&& 31)).toInt8.toInt32), .val (.int p0.toInt8.toInt32), .val (.int p1.toInt8.toInt32), .val (.int p2.toInt8.toInt32), .val (.int p3.toInt8.toInt32), .val (.int (p4 &&& (15 : Int32)).toInt8.toInt32), .val (.ref b1), .val (.int (p0.toInt8.toInt32 &&& (255 : Int32))), .val (.int (p1.toInt8.toInt32 &&& (255 : Int32))), .val (.int (p2.toInt8.toInt32 &&& (255 : Int32))), .val (.int (p3.toInt8.toInt32 &&& (255 : Int32))), .val (.int ((p4 &&& (15 : Int32)).toInt8.toInt32 &&& (255 : Int32))), .val (.long ((((((p0.toInt8.toInt32 &&& (255 : Int32)) &&& (127 : Int32)).toInt64 + (((p1.toInt8.toInt32 &&& (255 : Int32)) &&& (127 : Int32)).toInt64 * (128 : Int64))) + (((p2.toInt8.toInt32 &&& (255 : Int32)) &&& (127 : Int32)).toInt64 * (16384 : Int64))) + (((p3.toInt8.toInt32 &&& (255 : Int32)) &&& (127 : Int32)).toInt64 * (2097152 : Int64))) + (((p4 &&& (15 : Int32)).toInt8.toInt32 &&& (255 : Int32)).toInt64 * (268435456 : Int64)))), .second, .val (.int (5 : Int32)), .val (.int ((((((p0.toInt8.toInt32 &&& (255 : Int32)) &&& (127 : Int32)).toInt64 + (((p1.toInt8.toInt32 &&& (255 : Int32)) &&& (127 : Int32)).toInt64 * (128 : Int64))) + (((p2.toInt8.toInt32 &&& (255 : Int32)) &&& (127 : Int32)).toInt64 * (16384 : Int64))) + (((p3.toInt8.toInt32 &&& (255 : Int32)) &&& (127 : Int32)).toInt64 * (2097152 : Int64))) + (((p4 &&& (15 : Int32)).toInt8.toInt32 &&& (255 : Int32)).toInt64 * (268435456 : Int64))).toInt32), .val (.ref b21), .val (.int ((((((0 : Int32) ||| ((p0.toInt8.toInt32 &&& (127 : Int32)) <<< ((0 : Int32) &&& 31))) ||| ((p1.toInt8.toInt32 &&& (127 : Int32)) <<< ((7 : Int32) &&& 31))) ||| ((p2.toInt8.toInt32 &&& (127 : Int32)) <<< ((14 : Int32) &&& 31))) ||| ((p3.toInt8.toInt32 &&& (127 : Int32)) <<< ((21 : Int32) &&& 31))) ||| (((p4 &&& (15 : Int32)).toInt8.toInt32 &&& (127 : Int32)) <<< ((28 : Int32) &&& 31))))] [.int (5 : Int32), .int (5 : Int32)]))
            refine g_icmpN (pc := 400) W33 at_400 (by decide) ?_
            refine g_iconst (pc := 403) (1 : Int32) (by decide) W33 at_403 ?_
            refine g_goto 408 (pc := 404) W33 at_404 (by decide) (by decide) ?_
            exact g_zreturn (pc := 408) rfl (by decide) W33 at_408 (by decide) (by decide) rfl
          · refine g_iconst (pc := 262) (4 : Int32) (by decide) W16 at_262 ?_
            refine g_istore (pc := 263) (ls' := #[.val (.int p0), .val (.int p1), .val (.int p2), .val (.int p3), .val (.int p4), .val (.int p5), .val (.int (0 : Int32)), .val (.int (p5 >>> ((1 : Int32) &&& 31)).toInt8.toInt32), .val (.int p0.toInt8.toInt32), .val (.int p1.toInt8.toInt32), .val (.int p2.toInt8.toInt32), .val (.int p3.toInt8.toInt32), .val (.int (p4 &&& (15 : Int32)).toInt8.toInt32), .val (.ref b1), .val (.int (p0.toInt8.toInt32 &&& (255 : Int32))), .val (.int (p1.toInt8.toInt32 &&& (255 : Int32))), .val (.int (p2.toInt8.toInt32 &&& (255 : Int32))), .val (.int (p3.toInt8.toInt32 &&& (255 : Int32))), .val (.int ((p4 &&& (15 : Int32)).toInt8.toInt32 &&& (255 : Int32))), .unset, .unset, .val (.int (4 : Int32)), .unset, .unset, .unset]) W16 at_263 rfl ?_
            refine g_iload (pc := 265) W16 at_265 rfl ?_
            refine g_bipush (pc := 267) (127 : Int32) (by decide) W16 at_267 ?_
            refine g_iand (pc := 269) W16 at_269 ?_
            refine g_i2l (pc := 270) W16 at_270 ?_
            refine g_iload (pc := 271) W16 at_271 rfl ?_
            refine g_bipush (pc := 273) (127 : Int32) (by decide) W16 at_273 ?_
            refine g_iand (pc := 275) W16 at_275 ?_
            refine g_i2l (pc := 276) W16 at_276 ?_
            refine g_ldc2_long (pc := 277) (v := (128 : Int64)) W16 (hw _ (List.mem_of_getElem? (i := 24) rfl)) at_277 ?_
            refine g_lmul (pc := 280) W16 at_280 ?_
            refine g_ladd (pc := 281) W16 at_281 ?_
            refine g_iload (pc := 282) W16 at_282 rfl ?_
            refine g_bipush (pc := 284) (127 : Int32) (by decide) W16 at_284 ?_
            refine g_iand (pc := 286) W16 at_286 ?_
            refine g_i2l (pc := 287) W16 at_287 ?_
            refine g_ldc2_long (pc := 288) (v := (16384 : Int64)) W16 (hw _ (List.mem_of_getElem? (i := 25) rfl)) at_288 ?_
            refine g_lmul (pc := 291) W16 at_291 ?_
            refine g_ladd (pc := 292) W16 at_292 ?_
            refine g_iload (pc := 293) W16 at_293 rfl ?_
            refine g_i2l (pc := 295) W16 at_295 ?_
            refine g_ldc2_long (pc := 296) (v := (2097152 : Int64)) W16 (hw _ (List.mem_of_getElem? (i := 26) rfl)) at_296 ?_
            refine g_lmul (pc := 299) W16 at_299 ?_
            refine g_ladd (pc := 300) W16 at_300 ?_
            refine g_lstore (pc := 301) (ls' := #[.val (.int p0), .val (.int p1), .val (.int p2), .val (.int p3), .val (.int p4), .val (.int p5), .val (.int (0 : Int32)), .val (.int (p5 >>> ((1 : Int32) &&& 31)).toInt8.toInt32), .val (.int p0.toInt8.toInt32), .val (.int p1.toInt8.toInt32), .val (.int p2.toInt8.toInt32), .val (.int p3.toInt8.toInt32), .val (.int (p4 &&& (15 : Int32)).toInt8.toInt32), .val (.ref b1), .val (.int (p0.toInt8.toInt32 &&& (255 : Int32))), .val (.int (p1.toInt8.toInt32 &&& (255 : Int32))), .val (.int (p2.toInt8.toInt32 &&& (255 : Int32))), .val (.int (p3.toInt8.toInt32 &&& (255 : Int32))), .val (.int ((p4 &&& (15 : Int32)).toInt8.toInt32 &&& (255 : Int32))), .val (.long (((((p0.toInt8.toInt32 &&& (255 : Int32)) &&& (127 : Int32)).toInt64 + (((p1.toInt8.toInt32 &&& (255 : Int32)) &&& (127 : Int32)).toInt64 * (128 : Int64))) + (((p2.toInt8.toInt32 &&& (255 : Int32)) &&& (127 : Int32)).toInt64 * (16384 : Int64))) + ((p3.toInt8.toInt32 &&& (255 : Int32)).toInt64 * (2097152 : Int64)))), .second, .val (.int (4 : Int32)), .unset, .unset, .unset]) W16 at_301 rfl ?_
            refine g_goto 358 (pc := 303) W16 at_303 (by decide) (by decide) ?_
            refine g_lload (pc := 358) W16 at_358 rfl ?_
            refine g_l2i (pc := 360) W16 at_360 ?_
            refine g_istore (pc := 361) (ls' := #[.val (.int p0), .val (.int p1), .val (.int p2), .val (.int p3), .val (.int p4), .val (.int p5), .val (.int (0 : Int32)), .val (.int (p5 >>> ((1 : Int32) &&& 31)).toInt8.toInt32), .val (.int p0.toInt8.toInt32), .val (.int p1.toInt8.toInt32), .val (.int p2.toInt8.toInt32), .val (.int p3.toInt8.toInt32), .val (.int (p4 &&& (15 : Int32)).toInt8.toInt32), .val (.ref b1), .val (.int (p0.toInt8.toInt32 &&& (255 : Int32))), .val (.int (p1.toInt8.toInt32 &&& (255 : Int32))), .val (.int (p2.toInt8.toInt32 &&& (255 : Int32))), .val (.int (p3.toInt8.toInt32 &&& (255 : Int32))), .val (.int ((p4 &&& (15 : Int32)).toInt8.toInt32 &&& (255 : Int32))), .val (.long (((((p0.toInt8.toInt32 &&& (255 : Int32)) &&& (127 : Int32)).toInt64 + (((p1.toInt8.toInt32 &&& (255 : Int32)) &&& (127 : Int32)).toInt64 * (128 : Int64))) + (((p2.toInt8.toInt32 &&& (255 : Int32)) &&& (127 : Int32)).toInt64 * (16384 : Int64))) + ((p3.toInt8.toInt32 &&& (255 : Int32)).toInt64 * (2097152 : Int64)))), .second, .val (.int (4 : Int32)), .val (.int (((((p0.toInt8.toInt32 &&& (255 : Int32)) &&& (127 : Int32)).toInt64 + (((p1.toInt8.toInt32 &&& (255 : Int32)) &&& (127 : Int32)).toInt64 * (128 : Int64))) + (((p2.toInt8.toInt32 &&& (255 : Int32)) &&& (127 : Int32)).toInt64 * (16384 : Int64))) + ((p3.toInt8.toInt32 &&& (255 : Int32)).toInt64 * (2097152 : Int64))).toInt32), .unset, .unset]) W16 at_361 rfl ?_
            refine g_new (pc := 363) (vs := [.null, .int (0 : Int32)]) W16 (hw _ (List.mem_of_getElem? (i := 1) rfl)) (hw _ (List.mem_of_getElem? (i := 2) rfl)) (hw _ (List.mem_of_getElem? (i := 3) rfl)) (cls_ByteCursor hw) (by decide) at_363 (by decide) (by decide) (fun T35 b34 W36 => ?_)
            have W37 := W36.re (os' := [(b1, (.array .byte), [.int p0.toInt8.toInt32, .int p1.toInt8.toInt32, .int p2.toInt8.toInt32, .int p3.toInt8.toInt32, .int (p4 &&& (15 : Int32)).toInt8.toInt32, .int (p5 >>> ((1 : Int32) &&& 31)).toInt8.toInt32]), (b34, (.object "com/example/attestry/attestry/home/ByteCursor"), [.null, .int (0 : Int32)])]) rfl
            refine g_dup (pc := 366) W37 at_366 rfl ?_
            refine g_aload (pc := 367) W37 at_367 rfl rfl ?_
            refine g_iload (pc := 369) W37 at_369 rfl ?_
            refine g_init (pc := 371) (Wt := 1) (argsL := [.ref b1, .int (0 : Int32)]) (rest := [.ref b34]) (loc := [(b34, (.object "com/example/attestry/attestry/home/ByteCursor"), [.null, .int (0 : Int32)])]) (rst := [(b1, (.array .byte), [.int p0.toInt8.toInt32, .int p1.toInt8.toInt32, .int p2.toInt8.toInt32, .int p3.toInt8.toInt32, .int (p4 &&& (15 : Int32)).toInt8.toInt32, .int (p5 >>> ((1 : Int32) &&& 31)).toInt8.toInt32])]) W37 rfl (hw _ (List.mem_of_getElem? (i := 4) rfl)) (hw _ (List.mem_of_getElem? (i := 5) rfl)) (hw _ (List.mem_of_getElem? (i := 3) rfl)) (hw _ (List.mem_of_getElem? (i := 6) rfl)) (by decide) (c_init l Z a0 hw b34 b1 (0 : Int32)) ⟨[1, 0], by decide, rfl⟩ rfl pd_ABI__V rfl rfl rfl (Nat.le_of_ble_eq_true rfl) (by decide) (by decide) (by decide) (by decide) at_371 ?_
            rintro T38 _ _ ⟨rfl, rfl⟩ W39
            have W40 := W39.re (os' := [(b34, (.object "com/example/attestry/attestry/home/ByteCursor"), [.ref b1, .int (0 : Int32)]), (b1, (.array .byte), [.int p0.toInt8.toInt32, .int p1.toInt8.toInt32, .int p2.toInt8.toInt32, .int p3.toInt8.toInt32, .int (p4 &&& (15 : Int32)).toInt8.toInt32, .int (p5 >>> ((1 : Int32) &&& 31)).toInt8.toInt32])]) rfl
            show Go p_ e_ bl_ _ (T38.setTop (mkF m_ 374 #[.val (.int p0), .val (.int p1), .val (.int p2), .val (.int p3), .val (.int p4), .val (.int p5), .val (.int (0 : Int32)), .val (.int (p5 >>> ((1 : Int32) &&& 31)).toInt8.toInt32), .val (.int p0.toInt8.toInt32), .val (.int p1.toInt8.toInt32), .val (.int p2.toInt8.toInt32), .val (.int p3.toInt8.toInt32), .val (.int (p4 &&& (15 : Int32)).toInt8.toInt32), .val (.ref b1), .val (.int (p0.toInt8.toInt32 &&& (255 : Int32))), .val (.int (p1.toInt8.toInt32 &&& (255 : Int32))), .val (.int (p2.toInt8.toInt32 &&& (255 : Int32))), .val (.int (p3.toInt8.toInt32 &&& (255 : Int32))), .val (.int ((p4 &&& (15 : Int32)).toInt8.toInt32 &&& (255 : Int32))), .val (.long (((((p0.toInt8.toInt32 &&& (255 : Int32)) &&& (127 : Int32)).toInt64 + (((p1.toInt8.toInt32 &&& (255 : Int32)) &&& (127 : Int32)).toInt64 * (128 : Int64))) + (((p2.toInt8.toInt32 &&& (255 : Int32)) &&& (127 : Int32)).toInt64 * (16384 : Int64))) + ((p3.toInt8.toInt32 &&& (255 : Int32)).toInt64 * (2097152 : Int64)))), .second, .val (.int (4 : Int32)), .val (.int (((((p0.toInt8.toInt32 &&& (255 : Int32)) &&& (127 : Int32)).toInt64 + (((p1.toInt8.toInt32 &&& (255 : Int32)) &&& (127 : Int32)).toInt64 * (128 : Int64))) + (((p2.toInt8.toInt32 &&& (255 : Int32)) &&& (127 : Int32)).toInt64 * (16384 : Int64))) + ((p3.toInt8.toInt32 &&& (255 : Int32)).toInt64 * (2097152 : Int64))).toInt32), .unset, .unset] [.ref b34]))
            refine g_astore (pc := 374) (ls' := #[.val (.int p0), .val (.int p1), .val (.int p2), .val (.int p3), .val (.int p4), .val (.int p5), .val (.int (0 : Int32)), .val (.int (p5 >>> ((1 : Int32) &&& 31)).toInt8.toInt32), .val (.int p0.toInt8.toInt32), .val (.int p1.toInt8.toInt32), .val (.int p2.toInt8.toInt32), .val (.int p3.toInt8.toInt32), .val (.int (p4 &&& (15 : Int32)).toInt8.toInt32), .val (.ref b1), .val (.int (p0.toInt8.toInt32 &&& (255 : Int32))), .val (.int (p1.toInt8.toInt32 &&& (255 : Int32))), .val (.int (p2.toInt8.toInt32 &&& (255 : Int32))), .val (.int (p3.toInt8.toInt32 &&& (255 : Int32))), .val (.int ((p4 &&& (15 : Int32)).toInt8.toInt32 &&& (255 : Int32))), .val (.long (((((p0.toInt8.toInt32 &&& (255 : Int32)) &&& (127 : Int32)).toInt64 + (((p1.toInt8.toInt32 &&& (255 : Int32)) &&& (127 : Int32)).toInt64 * (128 : Int64))) + (((p2.toInt8.toInt32 &&& (255 : Int32)) &&& (127 : Int32)).toInt64 * (16384 : Int64))) + ((p3.toInt8.toInt32 &&& (255 : Int32)).toInt64 * (2097152 : Int64)))), .second, .val (.int (4 : Int32)), .val (.int (((((p0.toInt8.toInt32 &&& (255 : Int32)) &&& (127 : Int32)).toInt64 + (((p1.toInt8.toInt32 &&& (255 : Int32)) &&& (127 : Int32)).toInt64 * (128 : Int64))) + (((p2.toInt8.toInt32 &&& (255 : Int32)) &&& (127 : Int32)).toInt64 * (16384 : Int64))) + ((p3.toInt8.toInt32 &&& (255 : Int32)).toInt64 * (2097152 : Int64))).toInt32), .val (.ref b34), .unset]) W40 at_374 rfl rfl ?_
            refine g_aload (pc := 376) W40 at_376 rfl rfl ?_
            refine g_virtual (i := 0) (pc := 378) (Wt := 0) (argsL := []) (rest := []) (loc := [(b34, (.object "com/example/attestry/attestry/home/ByteCursor"), [.ref b1, .int (0 : Int32)]), (b1, (.array .byte), [.int p0.toInt8.toInt32, .int p1.toInt8.toInt32, .int p2.toInt8.toInt32, .int p3.toInt8.toInt32, .int (p4 &&& (15 : Int32)).toInt8.toInt32, .int (p5 >>> ((1 : Int32) &&& 31)).toInt8.toInt32])]) (rst := []) W40 (hw _ (List.mem_of_getElem? (i := 14) rfl)) (hw _ (List.mem_of_getElem? (i := 16) rfl)) (hw _ (List.mem_of_getElem? (i := 3) rfl)) (hw _ (List.mem_of_getElem? (i := 18) rfl)) (hw _ (List.mem_of_getElem? (i := 15) rfl)) (hw _ (List.mem_of_getElem? (i := 17) rfl)) rfl (by decide) (c_wh04 l Z a0 hw b34 b1 p0.toInt8.toInt32 p1.toInt8.toInt32 p2.toInt8.toInt32 p3.toInt8.toInt32 (p4 &&& (15 : Int32)).toInt8.toInt32 (p5 >>> ((1 : Int32) &&& 31)).toInt8.toInt32 (own_y c17) (own_y c18) (own_y c19) (own_n c20)) ⟨[0, 1], by decide, rfl⟩ rfl pd___I rfl rfl rfl (Nat.le_of_ble_eq_true rfl) (by decide) (by decide) (by decide) (by decide) at_378 ?_
            rintro T41 _ _ ⟨rfl, rfl⟩ W42
            have W43 := W42.re (os' := [(b34, (.object "com/example/attestry/attestry/home/ByteCursor"), [.ref b1, .int (4 : Int32)]), (b1, (.array .byte), [.int p0.toInt8.toInt32, .int p1.toInt8.toInt32, .int p2.toInt8.toInt32, .int p3.toInt8.toInt32, .int (p4 &&& (15 : Int32)).toInt8.toInt32, .int (p5 >>> ((1 : Int32) &&& 31)).toInt8.toInt32])]) rfl
            show Go p_ e_ bl_ _ (T41.setTop (mkF m_ 381 #[.val (.int p0), .val (.int p1), .val (.int p2), .val (.int p3), .val (.int p4), .val (.int p5), .val (.int (0 : Int32)), .val (.int (p5 >>> ((1 : Int32) &&& 31)).toInt8.toInt32), .val (.int p0.toInt8.toInt32), .val (.int p1.toInt8.toInt32), .val (.int p2.toInt8.toInt32), .val (.int p3.toInt8.toInt32), .val (.int (p4 &&& (15 : Int32)).toInt8.toInt32), .val (.ref b1), .val (.int (p0.toInt8.toInt32 &&& (255 : Int32))), .val (.int (p1.toInt8.toInt32 &&& (255 : Int32))), .val (.int (p2.toInt8.toInt32 &&& (255 : Int32))), .val (.int (p3.toInt8.toInt32 &&& (255 : Int32))), .val (.int ((p4 &&& (15 : Int32)).toInt8.toInt32 &&& (255 : Int32))), .val (.long (((((p0.toInt8.toInt32 &&& (255 : Int32)) &&& (127 : Int32)).toInt64 + (((p1.toInt8.toInt32 &&& (255 : Int32)) &&& (127 : Int32)).toInt64 * (128 : Int64))) + (((p2.toInt8.toInt32 &&& (255 : Int32)) &&& (127 : Int32)).toInt64 * (16384 : Int64))) + ((p3.toInt8.toInt32 &&& (255 : Int32)).toInt64 * (2097152 : Int64)))), .second, .val (.int (4 : Int32)), .val (.int (((((p0.toInt8.toInt32 &&& (255 : Int32)) &&& (127 : Int32)).toInt64 + (((p1.toInt8.toInt32 &&& (255 : Int32)) &&& (127 : Int32)).toInt64 * (128 : Int64))) + (((p2.toInt8.toInt32 &&& (255 : Int32)) &&& (127 : Int32)).toInt64 * (16384 : Int64))) + ((p3.toInt8.toInt32 &&& (255 : Int32)).toInt64 * (2097152 : Int64))).toInt32), .val (.ref b34), .unset] [.int (((((0 : Int32) ||| ((p0.toInt8.toInt32 &&& (127 : Int32)) <<< ((0 : Int32) &&& 31))) ||| ((p1.toInt8.toInt32 &&& (127 : Int32)) <<< ((7 : Int32) &&& 31))) ||| ((p2.toInt8.toInt32 &&& (127 : Int32)) <<< ((14 : Int32) &&& 31))) ||| ((p3.toInt8.toInt32 &&& (127 : Int32)) <<< ((21 : Int32) &&& 31)))]))
            refine g_istore (pc := 381) (ls' := #[.val (.int p0), .val (.int p1), .val (.int p2), .val (.int p3), .val (.int p4), .val (.int p5), .val (.int (0 : Int32)), .val (.int (p5 >>> ((1 : Int32) &&& 31)).toInt8.toInt32), .val (.int p0.toInt8.toInt32), .val (.int p1.toInt8.toInt32), .val (.int p2.toInt8.toInt32), .val (.int p3.toInt8.toInt32), .val (.int (p4 &&& (15 : Int32)).toInt8.toInt32), .val (.ref b1), .val (.int (p0.toInt8.toInt32 &&& (255 : Int32))), .val (.int (p1.toInt8.toInt32 &&& (255 : Int32))), .val (.int (p2.toInt8.toInt32 &&& (255 : Int32))), .val (.int (p3.toInt8.toInt32 &&& (255 : Int32))), .val (.int ((p4 &&& (15 : Int32)).toInt8.toInt32 &&& (255 : Int32))), .val (.long (((((p0.toInt8.toInt32 &&& (255 : Int32)) &&& (127 : Int32)).toInt64 + (((p1.toInt8.toInt32 &&& (255 : Int32)) &&& (127 : Int32)).toInt64 * (128 : Int64))) + (((p2.toInt8.toInt32 &&& (255 : Int32)) &&& (127 : Int32)).toInt64 * (16384 : Int64))) + ((p3.toInt8.toInt32 &&& (255 : Int32)).toInt64 * (2097152 : Int64)))), .second, .val (.int (4 : Int32)), .val (.int (((((p0.toInt8.toInt32 &&& (255 : Int32)) &&& (127 : Int32)).toInt64 + (((p1.toInt8.toInt32 &&& (255 : Int32)) &&& (127 : Int32)).toInt64 * (128 : Int64))) + (((p2.toInt8.toInt32 &&& (255 : Int32)) &&& (127 : Int32)).toInt64 * (16384 : Int64))) + ((p3.toInt8.toInt32 &&& (255 : Int32)).toInt64 * (2097152 : Int64))).toInt32), .val (.ref b34), .val (.int (((((0 : Int32) ||| ((p0.toInt8.toInt32 &&& (127 : Int32)) <<< ((0 : Int32) &&& 31))) ||| ((p1.toInt8.toInt32 &&& (127 : Int32)) <<< ((7 : Int32) &&& 31))) ||| ((p2.toInt8.toInt32 &&& (127 : Int32)) <<< ((14 : Int32) &&& 31))) ||| ((p3.toInt8.toInt32 &&& (127 : Int32)) <<< ((21 : Int32) &&& 31))))]) W43 at_381 rfl ?_
            refine g_iload (pc := 383) W43 at_383 rfl ?_
            refine g_iload (pc := 385) W43 at_385 rfl ?_
            refine g_icmpN (pc := 387) W43 at_387 (teq (own_e4 p0.toInt8.toInt32 p1.toInt8.toInt32 p2.toInt8.toInt32 p3.toInt8.toInt32 (by have q := c20; simp only [Int32.lt_iff_toInt_lt, own_m, Int32.reduceToInt] at q; omega))).2 ?_
            refine g_aload (pc := 390) W43 at_390 rfl rfl ?_
            refine g_virtual (i := 0) (pc := 392) (Wt := 0) (argsL := []) (rest := []) (loc := [(b34, (.object "com/example/attestry/attestry/home/ByteCursor"), [.ref b1, .int (4 : Int32)])]) (rst := [(b1, (.array .byte), [.int p0.toInt8.toInt32, .int p1.toInt8.toInt32, .int p2.toInt8.toInt32, .int p3.toInt8.toInt32, .int (p4 &&& (15 : Int32)).toInt8.toInt32, .int (p5 >>> ((1 : Int32) &&& 31)).toInt8.toInt32])]) W43 (hw _ (List.mem_of_getElem? (i := 19) rfl)) (hw _ (List.mem_of_getElem? (i := 21) rfl)) (hw _ (List.mem_of_getElem? (i := 3) rfl)) (hw _ (List.mem_of_getElem? (i := 23) rfl)) (hw _ (List.mem_of_getElem? (i := 20) rfl)) (hw _ (List.mem_of_getElem? (i := 22) rfl)) rfl (by decide) (c_at l Z a0 hw b34 b1 (4 : Int32)) ⟨[0, 1], by decide, rfl⟩ rfl pd___I rfl rfl rfl (Nat.le_of_ble_eq_true rfl) (by decide) (by decide) (by decide) (by decide) at_392 ?_
            rintro T44 _ _ ⟨rfl, rfl⟩ W45
            have W46 := W45.re (os' := [(b34, (.object "com/example/attestry/attestry/home/ByteCursor"), [.ref b1, .int (4 : Int32)]), (b1, (.array .byte), [.int p0.toInt8.toInt32, .int p1.toInt8.toInt32, .int p2.toInt8.toInt32, .int p3.toInt8.toInt32, .int (p4 &&& (15 : Int32)).toInt8.toInt32, .int (p5 >>> ((1 : Int32) &&& 31)).toInt8.toInt32])]) rfl
            show Go p_ e_ bl_ _ (T44.setTop (mkF m_ 395 #[.val (.int p0), .val (.int p1), .val (.int p2), .val (.int p3), .val (.int p4), .val (.int p5), .val (.int (0 : Int32)), .val (.int (p5 >>> ((1 : Int32) &&& 31)).toInt8.toInt32), .val (.int p0.toInt8.toInt32), .val (.int p1.toInt8.toInt32), .val (.int p2.toInt8.toInt32), .val (.int p3.toInt8.toInt32), .val (.int (p4 &&& (15 : Int32)).toInt8.toInt32), .val (.ref b1), .val (.int (p0.toInt8.toInt32 &&& (255 : Int32))), .val (.int (p1.toInt8.toInt32 &&& (255 : Int32))), .val (.int (p2.toInt8.toInt32 &&& (255 : Int32))), .val (.int (p3.toInt8.toInt32 &&& (255 : Int32))), .val (.int ((p4 &&& (15 : Int32)).toInt8.toInt32 &&& (255 : Int32))), .val (.long (((((p0.toInt8.toInt32 &&& (255 : Int32)) &&& (127 : Int32)).toInt64 + (((p1.toInt8.toInt32 &&& (255 : Int32)) &&& (127 : Int32)).toInt64 * (128 : Int64))) + (((p2.toInt8.toInt32 &&& (255 : Int32)) &&& (127 : Int32)).toInt64 * (16384 : Int64))) + ((p3.toInt8.toInt32 &&& (255 : Int32)).toInt64 * (2097152 : Int64)))), .second, .val (.int (4 : Int32)), .val (.int (((((p0.toInt8.toInt32 &&& (255 : Int32)) &&& (127 : Int32)).toInt64 + (((p1.toInt8.toInt32 &&& (255 : Int32)) &&& (127 : Int32)).toInt64 * (128 : Int64))) + (((p2.toInt8.toInt32 &&& (255 : Int32)) &&& (127 : Int32)).toInt64 * (16384 : Int64))) + ((p3.toInt8.toInt32 &&& (255 : Int32)).toInt64 * (2097152 : Int64))).toInt32), .val (.ref b34), .val (.int (((((0 : Int32) ||| ((p0.toInt8.toInt32 &&& (127 : Int32)) <<< ((0 : Int32) &&& 31))) ||| ((p1.toInt8.toInt32 &&& (127 : Int32)) <<< ((7 : Int32) &&& 31))) ||| ((p2.toInt8.toInt32 &&& (127 : Int32)) <<< ((14 : Int32) &&& 31))) ||| ((p3.toInt8.toInt32 &&& (127 : Int32)) <<< ((21 : Int32) &&& 31))))] [.int (4 : Int32)]))
            refine g_iload (pc := 395) W46 at_395 rfl ?_
            refine g_iload (pc := 397) W46 at_397 rfl ?_
            refine g_iadd (pc := 399) W46 at_399 ?_
            show Go p_ e_ bl_ _ (T44.setTop (mkF m_ 400 #[.val (.int p0), .val (.int p1), .val (.int p2), .val (.int p3), .val (.int p4), .val (.int p5), .val (.int (0 : Int32)), .val (.int (p5 >>> ((1 : Int32) &&& 31)).toInt8.toInt32), .val (.int p0.toInt8.toInt32), .val (.int p1.toInt8.toInt32), .val (.int p2.toInt8.toInt32), .val (.int p3.toInt8.toInt32), .val (.int (p4 &&& (15 : Int32)).toInt8.toInt32), .val (.ref b1), .val (.int (p0.toInt8.toInt32 &&& (255 : Int32))), .val (.int (p1.toInt8.toInt32 &&& (255 : Int32))), .val (.int (p2.toInt8.toInt32 &&& (255 : Int32))), .val (.int (p3.toInt8.toInt32 &&& (255 : Int32))), .val (.int ((p4 &&& (15 : Int32)).toInt8.toInt32 &&& (255 : Int32))), .val (.long (((((p0.toInt8.toInt32 &&& (255 : Int32)) &&& (127 : Int32)).toInt64 + (((p1.toInt8.toInt32 &&& (255 : Int32)) &&& (127 : Int32)).toInt64 * (128 : Int64))) + (((p2.toInt8.toInt32 &&& (255 : Int32)) &&& (127 : Int32)).toInt64 * (16384 : Int64))) + ((p3.toInt8.toInt32 &&& (255 : Int32)).toInt64 * (2097152 : Int64)))), .second, .val (.int (4 : Int32)), .val (.int (((((p0.toInt8.toInt32 &&& (255 : Int32)) &&& (127 : Int32)).toInt64 + (((p1.toInt8.toInt32 &&& (255 : Int32)) &&& (127 : Int32)).toInt64 * (128 : Int64))) + (((p2.toInt8.toInt32 &&& (255 : Int32)) &&& (127 : Int32)).toInt64 * (16384 : Int64))) + ((p3.toInt8.toInt32 &&& (255 : Int32)).toInt64 * (2097152 : Int64))).toInt32), .val (.ref b34), .val (.int (((((0 : Int32) ||| ((p0.toInt8.toInt32 &&& (127 : Int32)) <<< ((0 : Int32) &&& 31))) ||| ((p1.toInt8.toInt32 &&& (127 : Int32)) <<< ((7 : Int32) &&& 31))) ||| ((p2.toInt8.toInt32 &&& (127 : Int32)) <<< ((14 : Int32) &&& 31))) ||| ((p3.toInt8.toInt32 &&& (127 : Int32)) <<< ((21 : Int32) &&& 31))))] [.int (4 : Int32), .int (4 : Int32)]))
            refine g_icmpN (pc := 400) W46 at_400 (by decide) ?_
            refine g_iconst (pc := 403) (1 : Int32) (by decide) W46 at_403 ?_
            refine g_goto 408 (pc := 404) W46 at_404 (by decide) (by decide) ?_
            exact g_zreturn (pc := 408) rfl (by decide) W46 at_408 (by decide) (by decide) rfl
        · refine g_iconst (pc := 221) (3 : Int32) (by decide) W16 at_221 ?_
          refine g_istore (pc := 222) (ls' := #[.val (.int p0), .val (.int p1), .val (.int p2), .val (.int p3), .val (.int p4), .val (.int p5), .val (.int (0 : Int32)), .val (.int (p5 >>> ((1 : Int32) &&& 31)).toInt8.toInt32), .val (.int p0.toInt8.toInt32), .val (.int p1.toInt8.toInt32), .val (.int p2.toInt8.toInt32), .val (.int p3.toInt8.toInt32), .val (.int (p4 &&& (15 : Int32)).toInt8.toInt32), .val (.ref b1), .val (.int (p0.toInt8.toInt32 &&& (255 : Int32))), .val (.int (p1.toInt8.toInt32 &&& (255 : Int32))), .val (.int (p2.toInt8.toInt32 &&& (255 : Int32))), .val (.int (p3.toInt8.toInt32 &&& (255 : Int32))), .val (.int ((p4 &&& (15 : Int32)).toInt8.toInt32 &&& (255 : Int32))), .unset, .unset, .val (.int (3 : Int32)), .unset, .unset, .unset]) W16 at_222 rfl ?_
          refine g_iload (pc := 224) W16 at_224 rfl ?_
          refine g_bipush (pc := 226) (127 : Int32) (by decide) W16 at_226 ?_
          refine g_iand (pc := 228) W16 at_228 ?_
          refine g_i2l (pc := 229) W16 at_229 ?_
          refine g_iload (pc := 230) W16 at_230 rfl ?_
          refine g_bipush (pc := 232) (127 : Int32) (by decide) W16 at_232 ?_
          refine g_iand (pc := 234) W16 at_234 ?_
          refine g_i2l (pc := 235) W16 at_235 ?_
          refine g_ldc2_long (pc := 236) (v := (128 : Int64)) W16 (hw _ (List.mem_of_getElem? (i := 24) rfl)) at_236 ?_
          refine g_lmul (pc := 239) W16 at_239 ?_
          refine g_ladd (pc := 240) W16 at_240 ?_
          refine g_iload (pc := 241) W16 at_241 rfl ?_
          refine g_i2l (pc := 243) W16 at_243 ?_
          refine g_ldc2_long (pc := 244) (v := (16384 : Int64)) W16 (hw _ (List.mem_of_getElem? (i := 25) rfl)) at_244 ?_
          refine g_lmul (pc := 247) W16 at_247 ?_
          refine g_ladd (pc := 248) W16 at_248 ?_
          refine g_lstore (pc := 249) (ls' := #[.val (.int p0), .val (.int p1), .val (.int p2), .val (.int p3), .val (.int p4), .val (.int p5), .val (.int (0 : Int32)), .val (.int (p5 >>> ((1 : Int32) &&& 31)).toInt8.toInt32), .val (.int p0.toInt8.toInt32), .val (.int p1.toInt8.toInt32), .val (.int p2.toInt8.toInt32), .val (.int p3.toInt8.toInt32), .val (.int (p4 &&& (15 : Int32)).toInt8.toInt32), .val (.ref b1), .val (.int (p0.toInt8.toInt32 &&& (255 : Int32))), .val (.int (p1.toInt8.toInt32 &&& (255 : Int32))), .val (.int (p2.toInt8.toInt32 &&& (255 : Int32))), .val (.int (p3.toInt8.toInt32 &&& (255 : Int32))), .val (.int ((p4 &&& (15 : Int32)).toInt8.toInt32 &&& (255 : Int32))), .val (.long ((((p0.toInt8.toInt32 &&& (255 : Int32)) &&& (127 : Int32)).toInt64 + (((p1.toInt8.toInt32 &&& (255 : Int32)) &&& (127 : Int32)).toInt64 * (128 : Int64))) + ((p2.toInt8.toInt32 &&& (255 : Int32)).toInt64 * (16384 : Int64)))), .second, .val (.int (3 : Int32)), .unset, .unset, .unset]) W16 at_249 rfl ?_
          refine g_goto 358 (pc := 251) W16 at_251 (by decide) (by decide) ?_
          refine g_lload (pc := 358) W16 at_358 rfl ?_
          refine g_l2i (pc := 360) W16 at_360 ?_
          refine g_istore (pc := 361) (ls' := #[.val (.int p0), .val (.int p1), .val (.int p2), .val (.int p3), .val (.int p4), .val (.int p5), .val (.int (0 : Int32)), .val (.int (p5 >>> ((1 : Int32) &&& 31)).toInt8.toInt32), .val (.int p0.toInt8.toInt32), .val (.int p1.toInt8.toInt32), .val (.int p2.toInt8.toInt32), .val (.int p3.toInt8.toInt32), .val (.int (p4 &&& (15 : Int32)).toInt8.toInt32), .val (.ref b1), .val (.int (p0.toInt8.toInt32 &&& (255 : Int32))), .val (.int (p1.toInt8.toInt32 &&& (255 : Int32))), .val (.int (p2.toInt8.toInt32 &&& (255 : Int32))), .val (.int (p3.toInt8.toInt32 &&& (255 : Int32))), .val (.int ((p4 &&& (15 : Int32)).toInt8.toInt32 &&& (255 : Int32))), .val (.long ((((p0.toInt8.toInt32 &&& (255 : Int32)) &&& (127 : Int32)).toInt64 + (((p1.toInt8.toInt32 &&& (255 : Int32)) &&& (127 : Int32)).toInt64 * (128 : Int64))) + ((p2.toInt8.toInt32 &&& (255 : Int32)).toInt64 * (16384 : Int64)))), .second, .val (.int (3 : Int32)), .val (.int ((((p0.toInt8.toInt32 &&& (255 : Int32)) &&& (127 : Int32)).toInt64 + (((p1.toInt8.toInt32 &&& (255 : Int32)) &&& (127 : Int32)).toInt64 * (128 : Int64))) + ((p2.toInt8.toInt32 &&& (255 : Int32)).toInt64 * (16384 : Int64))).toInt32), .unset, .unset]) W16 at_361 rfl ?_
          refine g_new (pc := 363) (vs := [.null, .int (0 : Int32)]) W16 (hw _ (List.mem_of_getElem? (i := 1) rfl)) (hw _ (List.mem_of_getElem? (i := 2) rfl)) (hw _ (List.mem_of_getElem? (i := 3) rfl)) (cls_ByteCursor hw) (by decide) at_363 (by decide) (by decide) (fun T48 b47 W49 => ?_)
          have W50 := W49.re (os' := [(b1, (.array .byte), [.int p0.toInt8.toInt32, .int p1.toInt8.toInt32, .int p2.toInt8.toInt32, .int p3.toInt8.toInt32, .int (p4 &&& (15 : Int32)).toInt8.toInt32, .int (p5 >>> ((1 : Int32) &&& 31)).toInt8.toInt32]), (b47, (.object "com/example/attestry/attestry/home/ByteCursor"), [.null, .int (0 : Int32)])]) rfl
          refine g_dup (pc := 366) W50 at_366 rfl ?_
          refine g_aload (pc := 367) W50 at_367 rfl rfl ?_
          refine g_iload (pc := 369) W50 at_369 rfl ?_
          refine g_init (pc := 371) (Wt := 1) (argsL := [.ref b1, .int (0 : Int32)]) (rest := [.ref b47]) (loc := [(b47, (.object "com/example/attestry/attestry/home/ByteCursor"), [.null, .int (0 : Int32)])]) (rst := [(b1, (.array .byte), [.int p0.toInt8.toInt32, .int p1.toInt8.toInt32, .int p2.toInt8.toInt32, .int p3.toInt8.toInt32, .int (p4 &&& (15 : Int32)).toInt8.toInt32, .int (p5 >>> ((1 : Int32) &&& 31)).toInt8.toInt32])]) W50 rfl (hw _ (List.mem_of_getElem? (i := 4) rfl)) (hw _ (List.mem_of_getElem? (i := 5) rfl)) (hw _ (List.mem_of_getElem? (i := 3) rfl)) (hw _ (List.mem_of_getElem? (i := 6) rfl)) (by decide) (c_init l Z a0 hw b47 b1 (0 : Int32)) ⟨[1, 0], by decide, rfl⟩ rfl pd_ABI__V rfl rfl rfl (Nat.le_of_ble_eq_true rfl) (by decide) (by decide) (by decide) (by decide) at_371 ?_
          rintro T51 _ _ ⟨rfl, rfl⟩ W52
          have W53 := W52.re (os' := [(b47, (.object "com/example/attestry/attestry/home/ByteCursor"), [.ref b1, .int (0 : Int32)]), (b1, (.array .byte), [.int p0.toInt8.toInt32, .int p1.toInt8.toInt32, .int p2.toInt8.toInt32, .int p3.toInt8.toInt32, .int (p4 &&& (15 : Int32)).toInt8.toInt32, .int (p5 >>> ((1 : Int32) &&& 31)).toInt8.toInt32])]) rfl
          show Go p_ e_ bl_ _ (T51.setTop (mkF m_ 374 #[.val (.int p0), .val (.int p1), .val (.int p2), .val (.int p3), .val (.int p4), .val (.int p5), .val (.int (0 : Int32)), .val (.int (p5 >>> ((1 : Int32) &&& 31)).toInt8.toInt32), .val (.int p0.toInt8.toInt32), .val (.int p1.toInt8.toInt32), .val (.int p2.toInt8.toInt32), .val (.int p3.toInt8.toInt32), .val (.int (p4 &&& (15 : Int32)).toInt8.toInt32), .val (.ref b1), .val (.int (p0.toInt8.toInt32 &&& (255 : Int32))), .val (.int (p1.toInt8.toInt32 &&& (255 : Int32))), .val (.int (p2.toInt8.toInt32 &&& (255 : Int32))), .val (.int (p3.toInt8.toInt32 &&& (255 : Int32))), .val (.int ((p4 &&& (15 : Int32)).toInt8.toInt32 &&& (255 : Int32))), .val (.long ((((p0.toInt8.toInt32 &&& (255 : Int32)) &&& (127 : Int32)).toInt64 + (((p1.toInt8.toInt32 &&& (255 : Int32)) &&& (127 : Int32)).toInt64 * (128 : Int64))) + ((p2.toInt8.toInt32 &&& (255 : Int32)).toInt64 * (16384 : Int64)))), .second, .val (.int (3 : Int32)), .val (.int ((((p0.toInt8.toInt32 &&& (255 : Int32)) &&& (127 : Int32)).toInt64 + (((p1.toInt8.toInt32 &&& (255 : Int32)) &&& (127 : Int32)).toInt64 * (128 : Int64))) + ((p2.toInt8.toInt32 &&& (255 : Int32)).toInt64 * (16384 : Int64))).toInt32), .unset, .unset] [.ref b47]))
          refine g_astore (pc := 374) (ls' := #[.val (.int p0), .val (.int p1), .val (.int p2), .val (.int p3), .val (.int p4), .val (.int p5), .val (.int (0 : Int32)), .val (.int (p5 >>> ((1 : Int32) &&& 31)).toInt8.toInt32), .val (.int p0.toInt8.toInt32), .val (.int p1.toInt8.toInt32), .val (.int p2.toInt8.toInt32), .val (.int p3.toInt8.toInt32), .val (.int (p4 &&& (15 : Int32)).toInt8.toInt32), .val (.ref b1), .val (.int (p0.toInt8.toInt32 &&& (255 : Int32))), .val (.int (p1.toInt8.toInt32 &&& (255 : Int32))), .val (.int (p2.toInt8.toInt32 &&& (255 : Int32))), .val (.int (p3.toInt8.toInt32 &&& (255 : Int32))), .val (.int ((p4 &&& (15 : Int32)).toInt8.toInt32 &&& (255 : Int32))), .val (.long ((((p0.toInt8.toInt32 &&& (255 : Int32)) &&& (127 : Int32)).toInt64 + (((p1.toInt8.toInt32 &&& (255 : Int32)) &&& (127 : Int32)).toInt64 * (128 : Int64))) + ((p2.toInt8.toInt32 &&& (255 : Int32)).toInt64 * (16384 : Int64)))), .second, .val (.int (3 : Int32)), .val (.int ((((p0.toInt8.toInt32 &&& (255 : Int32)) &&& (127 : Int32)).toInt64 + (((p1.toInt8.toInt32 &&& (255 : Int32)) &&& (127 : Int32)).toInt64 * (128 : Int64))) + ((p2.toInt8.toInt32 &&& (255 : Int32)).toInt64 * (16384 : Int64))).toInt32), .val (.ref b47), .unset]) W53 at_374 rfl rfl ?_
          refine g_aload (pc := 376) W53 at_376 rfl rfl ?_
          refine g_virtual (i := 0) (pc := 378) (Wt := 0) (argsL := []) (rest := []) (loc := [(b47, (.object "com/example/attestry/attestry/home/ByteCursor"), [.ref b1, .int (0 : Int32)]), (b1, (.array .byte), [.int p0.toInt8.toInt32, .int p1.toInt8.toInt32, .int p2.toInt8.toInt32, .int p3.toInt8.toInt32, .int (p4 &&& (15 : Int32)).toInt8.toInt32, .int (p5 >>> ((1 : Int32) &&& 31)).toInt8.toInt32])]) (rst := []) W53 (hw _ (List.mem_of_getElem? (i := 14) rfl)) (hw _ (List.mem_of_getElem? (i := 16) rfl)) (hw _ (List.mem_of_getElem? (i := 3) rfl)) (hw _ (List.mem_of_getElem? (i := 18) rfl)) (hw _ (List.mem_of_getElem? (i := 15) rfl)) (hw _ (List.mem_of_getElem? (i := 17) rfl)) rfl (by decide) (c_wh03 l Z a0 hw b47 b1 p0.toInt8.toInt32 p1.toInt8.toInt32 p2.toInt8.toInt32 p3.toInt8.toInt32 (p4 &&& (15 : Int32)).toInt8.toInt32 (p5 >>> ((1 : Int32) &&& 31)).toInt8.toInt32 (own_y c17) (own_y c18) (own_n c19)) ⟨[0, 1], by decide, rfl⟩ rfl pd___I rfl rfl rfl (Nat.le_of_ble_eq_true rfl) (by decide) (by decide) (by decide) (by decide) at_378 ?_
          rintro T54 _ _ ⟨rfl, rfl⟩ W55
          have W56 := W55.re (os' := [(b47, (.object "com/example/attestry/attestry/home/ByteCursor"), [.ref b1, .int (3 : Int32)]), (b1, (.array .byte), [.int p0.toInt8.toInt32, .int p1.toInt8.toInt32, .int p2.toInt8.toInt32, .int p3.toInt8.toInt32, .int (p4 &&& (15 : Int32)).toInt8.toInt32, .int (p5 >>> ((1 : Int32) &&& 31)).toInt8.toInt32])]) rfl
          show Go p_ e_ bl_ _ (T54.setTop (mkF m_ 381 #[.val (.int p0), .val (.int p1), .val (.int p2), .val (.int p3), .val (.int p4), .val (.int p5), .val (.int (0 : Int32)), .val (.int (p5 >>> ((1 : Int32) &&& 31)).toInt8.toInt32), .val (.int p0.toInt8.toInt32), .val (.int p1.toInt8.toInt32), .val (.int p2.toInt8.toInt32), .val (.int p3.toInt8.toInt32), .val (.int (p4 &&& (15 : Int32)).toInt8.toInt32), .val (.ref b1), .val (.int (p0.toInt8.toInt32 &&& (255 : Int32))), .val (.int (p1.toInt8.toInt32 &&& (255 : Int32))), .val (.int (p2.toInt8.toInt32 &&& (255 : Int32))), .val (.int (p3.toInt8.toInt32 &&& (255 : Int32))), .val (.int ((p4 &&& (15 : Int32)).toInt8.toInt32 &&& (255 : Int32))), .val (.long ((((p0.toInt8.toInt32 &&& (255 : Int32)) &&& (127 : Int32)).toInt64 + (((p1.toInt8.toInt32 &&& (255 : Int32)) &&& (127 : Int32)).toInt64 * (128 : Int64))) + ((p2.toInt8.toInt32 &&& (255 : Int32)).toInt64 * (16384 : Int64)))), .second, .val (.int (3 : Int32)), .val (.int ((((p0.toInt8.toInt32 &&& (255 : Int32)) &&& (127 : Int32)).toInt64 + (((p1.toInt8.toInt32 &&& (255 : Int32)) &&& (127 : Int32)).toInt64 * (128 : Int64))) + ((p2.toInt8.toInt32 &&& (255 : Int32)).toInt64 * (16384 : Int64))).toInt32), .val (.ref b47), .unset] [.int ((((0 : Int32) ||| ((p0.toInt8.toInt32 &&& (127 : Int32)) <<< ((0 : Int32) &&& 31))) ||| ((p1.toInt8.toInt32 &&& (127 : Int32)) <<< ((7 : Int32) &&& 31))) ||| ((p2.toInt8.toInt32 &&& (127 : Int32)) <<< ((14 : Int32) &&& 31)))]))
          refine g_istore (pc := 381) (ls' := #[.val (.int p0), .val (.int p1), .val (.int p2), .val (.int p3), .val (.int p4), .val (.int p5), .val (.int (0 : Int32)), .val (.int (p5 >>> ((1 : Int32) &&& 31)).toInt8.toInt32), .val (.int p0.toInt8.toInt32), .val (.int p1.toInt8.toInt32), .val (.int p2.toInt8.toInt32), .val (.int p3.toInt8.toInt32), .val (.int (p4 &&& (15 : Int32)).toInt8.toInt32), .val (.ref b1), .val (.int (p0.toInt8.toInt32 &&& (255 : Int32))), .val (.int (p1.toInt8.toInt32 &&& (255 : Int32))), .val (.int (p2.toInt8.toInt32 &&& (255 : Int32))), .val (.int (p3.toInt8.toInt32 &&& (255 : Int32))), .val (.int ((p4 &&& (15 : Int32)).toInt8.toInt32 &&& (255 : Int32))), .val (.long ((((p0.toInt8.toInt32 &&& (255 : Int32)) &&& (127 : Int32)).toInt64 + (((p1.toInt8.toInt32 &&& (255 : Int32)) &&& (127 : Int32)).toInt64 * (128 : Int64))) + ((p2.toInt8.toInt32 &&& (255 : Int32)).toInt64 * (16384 : Int64)))), .second, .val (.int (3 : Int32)), .val (.int ((((p0.toInt8.toInt32 &&& (255 : Int32)) &&& (127 : Int32)).toInt64 + (((p1.toInt8.toInt32 &&& (255 : Int32)) &&& (127 : Int32)).toInt64 * (128 : Int64))) + ((p2.toInt8.toInt32 &&& (255 : Int32)).toInt64 * (16384 : Int64))).toInt32), .val (.ref b47), .val (.int ((((0 : Int32) ||| ((p0.toInt8.toInt32 &&& (127 : Int32)) <<< ((0 : Int32) &&& 31))) ||| ((p1.toInt8.toInt32 &&& (127 : Int32)) <<< ((7 : Int32) &&& 31))) ||| ((p2.toInt8.toInt32 &&& (127 : Int32)) <<< ((14 : Int32) &&& 31))))]) W56 at_381 rfl ?_
          refine g_iload (pc := 383) W56 at_383 rfl ?_
          refine g_iload (pc := 385) W56 at_385 rfl ?_
          refine g_icmpN (pc := 387) W56 at_387 (teq (own_e3 p0.toInt8.toInt32 p1.toInt8.toInt32 p2.toInt8.toInt32 (by have q := c19; simp only [Int32.lt_iff_toInt_lt, own_m, Int32.reduceToInt] at q; omega))).2 ?_
          refine g_aload (pc := 390) W56 at_390 rfl rfl ?_
          refine g_virtual (i := 0) (pc := 392) (Wt := 0) (argsL := []) (rest := []) (loc := [(b47, (.object "com/example/attestry/attestry/home/ByteCursor"), [.ref b1, .int (3 : Int32)])]) (rst := [(b1, (.array .byte), [.int p0.toInt8.toInt32, .int p1.toInt8.toInt32, .int p2.toInt8.toInt32, .int p3.toInt8.toInt32, .int (p4 &&& (15 : Int32)).toInt8.toInt32, .int (p5 >>> ((1 : Int32) &&& 31)).toInt8.toInt32])]) W56 (hw _ (List.mem_of_getElem? (i := 19) rfl)) (hw _ (List.mem_of_getElem? (i := 21) rfl)) (hw _ (List.mem_of_getElem? (i := 3) rfl)) (hw _ (List.mem_of_getElem? (i := 23) rfl)) (hw _ (List.mem_of_getElem? (i := 20) rfl)) (hw _ (List.mem_of_getElem? (i := 22) rfl)) rfl (by decide) (c_at l Z a0 hw b47 b1 (3 : Int32)) ⟨[0, 1], by decide, rfl⟩ rfl pd___I rfl rfl rfl (Nat.le_of_ble_eq_true rfl) (by decide) (by decide) (by decide) (by decide) at_392 ?_
          rintro T57 _ _ ⟨rfl, rfl⟩ W58
          have W59 := W58.re (os' := [(b47, (.object "com/example/attestry/attestry/home/ByteCursor"), [.ref b1, .int (3 : Int32)]), (b1, (.array .byte), [.int p0.toInt8.toInt32, .int p1.toInt8.toInt32, .int p2.toInt8.toInt32, .int p3.toInt8.toInt32, .int (p4 &&& (15 : Int32)).toInt8.toInt32, .int (p5 >>> ((1 : Int32) &&& 31)).toInt8.toInt32])]) rfl
          show Go p_ e_ bl_ _ (T57.setTop (mkF m_ 395 #[.val (.int p0), .val (.int p1), .val (.int p2), .val (.int p3), .val (.int p4), .val (.int p5), .val (.int (0 : Int32)), .val (.int (p5 >>> ((1 : Int32) &&& 31)).toInt8.toInt32), .val (.int p0.toInt8.toInt32), .val (.int p1.toInt8.toInt32), .val (.int p2.toInt8.toInt32), .val (.int p3.toInt8.toInt32), .val (.int (p4 &&& (15 : Int32)).toInt8.toInt32), .val (.ref b1), .val (.int (p0.toInt8.toInt32 &&& (255 : Int32))), .val (.int (p1.toInt8.toInt32 &&& (255 : Int32))), .val (.int (p2.toInt8.toInt32 &&& (255 : Int32))), .val (.int (p3.toInt8.toInt32 &&& (255 : Int32))), .val (.int ((p4 &&& (15 : Int32)).toInt8.toInt32 &&& (255 : Int32))), .val (.long ((((p0.toInt8.toInt32 &&& (255 : Int32)) &&& (127 : Int32)).toInt64 + (((p1.toInt8.toInt32 &&& (255 : Int32)) &&& (127 : Int32)).toInt64 * (128 : Int64))) + ((p2.toInt8.toInt32 &&& (255 : Int32)).toInt64 * (16384 : Int64)))), .second, .val (.int (3 : Int32)), .val (.int ((((p0.toInt8.toInt32 &&& (255 : Int32)) &&& (127 : Int32)).toInt64 + (((p1.toInt8.toInt32 &&& (255 : Int32)) &&& (127 : Int32)).toInt64 * (128 : Int64))) + ((p2.toInt8.toInt32 &&& (255 : Int32)).toInt64 * (16384 : Int64))).toInt32), .val (.ref b47), .val (.int ((((0 : Int32) ||| ((p0.toInt8.toInt32 &&& (127 : Int32)) <<< ((0 : Int32) &&& 31))) ||| ((p1.toInt8.toInt32 &&& (127 : Int32)) <<< ((7 : Int32) &&& 31))) ||| ((p2.toInt8.toInt32 &&& (127 : Int32)) <<< ((14 : Int32) &&& 31))))] [.int (3 : Int32)]))
          refine g_iload (pc := 395) W59 at_395 rfl ?_
          refine g_iload (pc := 397) W59 at_397 rfl ?_
          refine g_iadd (pc := 399) W59 at_399 ?_
          show Go p_ e_ bl_ _ (T57.setTop (mkF m_ 400 #[.val (.int p0), .val (.int p1), .val (.int p2), .val (.int p3), .val (.int p4), .val (.int p5), .val (.int (0 : Int32)), .val (.int (p5 >>> ((1 : Int32) &&& 31)).toInt8.toInt32), .val (.int p0.toInt8.toInt32), .val (.int p1.toInt8.toInt32), .val (.int p2.toInt8.toInt32), .val (.int p3.toInt8.toInt32), .val (.int (p4 &&& (15 : Int32)).toInt8.toInt32), .val (.ref b1), .val (.int (p0.toInt8.toInt32 &&& (255 : Int32))), .val (.int (p1.toInt8.toInt32 &&& (255 : Int32))), .val (.int (p2.toInt8.toInt32 &&& (255 : Int32))), .val (.int (p3.toInt8.toInt32 &&& (255 : Int32))), .val (.int ((p4 &&& (15 : Int32)).toInt8.toInt32 &&& (255 : Int32))), .val (.long ((((p0.toInt8.toInt32 &&& (255 : Int32)) &&& (127 : Int32)).toInt64 + (((p1.toInt8.toInt32 &&& (255 : Int32)) &&& (127 : Int32)).toInt64 * (128 : Int64))) + ((p2.toInt8.toInt32 &&& (255 : Int32)).toInt64 * (16384 : Int64)))), .second, .val (.int (3 : Int32)), .val (.int ((((p0.toInt8.toInt32 &&& (255 : Int32)) &&& (127 : Int32)).toInt64 + (((p1.toInt8.toInt32 &&& (255 : Int32)) &&& (127 : Int32)).toInt64 * (128 : Int64))) + ((p2.toInt8.toInt32 &&& (255 : Int32)).toInt64 * (16384 : Int64))).toInt32), .val (.ref b47), .val (.int ((((0 : Int32) ||| ((p0.toInt8.toInt32 &&& (127 : Int32)) <<< ((0 : Int32) &&& 31))) ||| ((p1.toInt8.toInt32 &&& (127 : Int32)) <<< ((7 : Int32) &&& 31))) ||| ((p2.toInt8.toInt32 &&& (127 : Int32)) <<< ((14 : Int32) &&& 31))))] [.int (3 : Int32), .int (3 : Int32)]))
          refine g_icmpN (pc := 400) W59 at_400 (by decide) ?_
          refine g_iconst (pc := 403) (1 : Int32) (by decide) W59 at_403 ?_
          refine g_goto 408 (pc := 404) W59 at_404 (by decide) (by decide) ?_
          exact g_zreturn (pc := 408) rfl (by decide) W59 at_408 (by decide) (by decide) rfl
      · refine g_iconst (pc := 191) (2 : Int32) (by decide) W16 at_191 ?_
        refine g_istore (pc := 192) (ls' := #[.val (.int p0), .val (.int p1), .val (.int p2), .val (.int p3), .val (.int p4), .val (.int p5), .val (.int (0 : Int32)), .val (.int (p5 >>> ((1 : Int32) &&& 31)).toInt8.toInt32), .val (.int p0.toInt8.toInt32), .val (.int p1.toInt8.toInt32), .val (.int p2.toInt8.toInt32), .val (.int p3.toInt8.toInt32), .val (.int (p4 &&& (15 : Int32)).toInt8.toInt32), .val (.ref b1), .val (.int (p0.toInt8.toInt32 &&& (255 : Int32))), .val (.int (p1.toInt8.toInt32 &&& (255 : Int32))), .val (.int (p2.toInt8.toInt32 &&& (255 : Int32))), .val (.int (p3.toInt8.toInt32 &&& (255 : Int32))), .val (.int ((p4 &&& (15 : Int32)).toInt8.toInt32 &&& (255 : Int32))), .unset, .unset, .val (.int (2 : Int32)), .unset, .unset, .unset]) W16 at_192 rfl ?_
        refine g_iload (pc := 194) W16 at_194 rfl ?_
        refine g_bipush (pc := 196) (127 : Int32) (by decide) W16 at_196 ?_
        refine g_iand (pc := 198) W16 at_198 ?_
        refine g_i2l (pc := 199) W16 at_199 ?_
        refine g_iload (pc := 200) W16 at_200 rfl ?_
        refine g_i2l (pc := 202) W16 at_202 ?_
        refine g_ldc2_long (pc := 203) (v := (128 : Int64)) W16 (hw _ (List.mem_of_getElem? (i := 24) rfl)) at_203 ?_
        refine g_lmul (pc := 206) W16 at_206 ?_
        refine g_ladd (pc := 207) W16 at_207 ?_
        refine g_lstore (pc := 208) (ls' := #[.val (.int p0), .val (.int p1), .val (.int p2), .val (.int p3), .val (.int p4), .val (.int p5), .val (.int (0 : Int32)), .val (.int (p5 >>> ((1 : Int32) &&& 31)).toInt8.toInt32), .val (.int p0.toInt8.toInt32), .val (.int p1.toInt8.toInt32), .val (.int p2.toInt8.toInt32), .val (.int p3.toInt8.toInt32), .val (.int (p4 &&& (15 : Int32)).toInt8.toInt32), .val (.ref b1), .val (.int (p0.toInt8.toInt32 &&& (255 : Int32))), .val (.int (p1.toInt8.toInt32 &&& (255 : Int32))), .val (.int (p2.toInt8.toInt32 &&& (255 : Int32))), .val (.int (p3.toInt8.toInt32 &&& (255 : Int32))), .val (.int ((p4 &&& (15 : Int32)).toInt8.toInt32 &&& (255 : Int32))), .val (.long (((p0.toInt8.toInt32 &&& (255 : Int32)) &&& (127 : Int32)).toInt64 + ((p1.toInt8.toInt32 &&& (255 : Int32)).toInt64 * (128 : Int64)))), .second, .val (.int (2 : Int32)), .unset, .unset, .unset]) W16 at_208 rfl ?_
        refine g_goto 358 (pc := 210) W16 at_210 (by decide) (by decide) ?_
        refine g_lload (pc := 358) W16 at_358 rfl ?_
        refine g_l2i (pc := 360) W16 at_360 ?_
        refine g_istore (pc := 361) (ls' := #[.val (.int p0), .val (.int p1), .val (.int p2), .val (.int p3), .val (.int p4), .val (.int p5), .val (.int (0 : Int32)), .val (.int (p5 >>> ((1 : Int32) &&& 31)).toInt8.toInt32), .val (.int p0.toInt8.toInt32), .val (.int p1.toInt8.toInt32), .val (.int p2.toInt8.toInt32), .val (.int p3.toInt8.toInt32), .val (.int (p4 &&& (15 : Int32)).toInt8.toInt32), .val (.ref b1), .val (.int (p0.toInt8.toInt32 &&& (255 : Int32))), .val (.int (p1.toInt8.toInt32 &&& (255 : Int32))), .val (.int (p2.toInt8.toInt32 &&& (255 : Int32))), .val (.int (p3.toInt8.toInt32 &&& (255 : Int32))), .val (.int ((p4 &&& (15 : Int32)).toInt8.toInt32 &&& (255 : Int32))), .val (.long (((p0.toInt8.toInt32 &&& (255 : Int32)) &&& (127 : Int32)).toInt64 + ((p1.toInt8.toInt32 &&& (255 : Int32)).toInt64 * (128 : Int64)))), .second, .val (.int (2 : Int32)), .val (.int (((p0.toInt8.toInt32 &&& (255 : Int32)) &&& (127 : Int32)).toInt64 + ((p1.toInt8.toInt32 &&& (255 : Int32)).toInt64 * (128 : Int64))).toInt32), .unset, .unset]) W16 at_361 rfl ?_
        refine g_new (pc := 363) (vs := [.null, .int (0 : Int32)]) W16 (hw _ (List.mem_of_getElem? (i := 1) rfl)) (hw _ (List.mem_of_getElem? (i := 2) rfl)) (hw _ (List.mem_of_getElem? (i := 3) rfl)) (cls_ByteCursor hw) (by decide) at_363 (by decide) (by decide) (fun T61 b60 W62 => ?_)
        have W63 := W62.re (os' := [(b1, (.array .byte), [.int p0.toInt8.toInt32, .int p1.toInt8.toInt32, .int p2.toInt8.toInt32, .int p3.toInt8.toInt32, .int (p4 &&& (15 : Int32)).toInt8.toInt32, .int (p5 >>> ((1 : Int32) &&& 31)).toInt8.toInt32]), (b60, (.object "com/example/attestry/attestry/home/ByteCursor"), [.null, .int (0 : Int32)])]) rfl
        refine g_dup (pc := 366) W63 at_366 rfl ?_
        refine g_aload (pc := 367) W63 at_367 rfl rfl ?_
        refine g_iload (pc := 369) W63 at_369 rfl ?_
        refine g_init (pc := 371) (Wt := 1) (argsL := [.ref b1, .int (0 : Int32)]) (rest := [.ref b60]) (loc := [(b60, (.object "com/example/attestry/attestry/home/ByteCursor"), [.null, .int (0 : Int32)])]) (rst := [(b1, (.array .byte), [.int p0.toInt8.toInt32, .int p1.toInt8.toInt32, .int p2.toInt8.toInt32, .int p3.toInt8.toInt32, .int (p4 &&& (15 : Int32)).toInt8.toInt32, .int (p5 >>> ((1 : Int32) &&& 31)).toInt8.toInt32])]) W63 rfl (hw _ (List.mem_of_getElem? (i := 4) rfl)) (hw _ (List.mem_of_getElem? (i := 5) rfl)) (hw _ (List.mem_of_getElem? (i := 3) rfl)) (hw _ (List.mem_of_getElem? (i := 6) rfl)) (by decide) (c_init l Z a0 hw b60 b1 (0 : Int32)) ⟨[1, 0], by decide, rfl⟩ rfl pd_ABI__V rfl rfl rfl (Nat.le_of_ble_eq_true rfl) (by decide) (by decide) (by decide) (by decide) at_371 ?_
        rintro T64 _ _ ⟨rfl, rfl⟩ W65
        have W66 := W65.re (os' := [(b60, (.object "com/example/attestry/attestry/home/ByteCursor"), [.ref b1, .int (0 : Int32)]), (b1, (.array .byte), [.int p0.toInt8.toInt32, .int p1.toInt8.toInt32, .int p2.toInt8.toInt32, .int p3.toInt8.toInt32, .int (p4 &&& (15 : Int32)).toInt8.toInt32, .int (p5 >>> ((1 : Int32) &&& 31)).toInt8.toInt32])]) rfl
        show Go p_ e_ bl_ _ (T64.setTop (mkF m_ 374 #[.val (.int p0), .val (.int p1), .val (.int p2), .val (.int p3), .val (.int p4), .val (.int p5), .val (.int (0 : Int32)), .val (.int (p5 >>> ((1 : Int32) &&& 31)).toInt8.toInt32), .val (.int p0.toInt8.toInt32), .val (.int p1.toInt8.toInt32), .val (.int p2.toInt8.toInt32), .val (.int p3.toInt8.toInt32), .val (.int (p4 &&& (15 : Int32)).toInt8.toInt32), .val (.ref b1), .val (.int (p0.toInt8.toInt32 &&& (255 : Int32))), .val (.int (p1.toInt8.toInt32 &&& (255 : Int32))), .val (.int (p2.toInt8.toInt32 &&& (255 : Int32))), .val (.int (p3.toInt8.toInt32 &&& (255 : Int32))), .val (.int ((p4 &&& (15 : Int32)).toInt8.toInt32 &&& (255 : Int32))), .val (.long (((p0.toInt8.toInt32 &&& (255 : Int32)) &&& (127 : Int32)).toInt64 + ((p1.toInt8.toInt32 &&& (255 : Int32)).toInt64 * (128 : Int64)))), .second, .val (.int (2 : Int32)), .val (.int (((p0.toInt8.toInt32 &&& (255 : Int32)) &&& (127 : Int32)).toInt64 + ((p1.toInt8.toInt32 &&& (255 : Int32)).toInt64 * (128 : Int64))).toInt32), .unset, .unset] [.ref b60]))
        refine g_astore (pc := 374) (ls' := #[.val (.int p0), .val (.int p1), .val (.int p2), .val (.int p3), .val (.int p4), .val (.int p5), .val (.int (0 : Int32)), .val (.int (p5 >>> ((1 : Int32) &&& 31)).toInt8.toInt32), .val (.int p0.toInt8.toInt32), .val (.int p1.toInt8.toInt32), .val (.int p2.toInt8.toInt32), .val (.int p3.toInt8.toInt32), .val (.int (p4 &&& (15 : Int32)).toInt8.toInt32), .val (.ref b1), .val (.int (p0.toInt8.toInt32 &&& (255 : Int32))), .val (.int (p1.toInt8.toInt32 &&& (255 : Int32))), .val (.int (p2.toInt8.toInt32 &&& (255 : Int32))), .val (.int (p3.toInt8.toInt32 &&& (255 : Int32))), .val (.int ((p4 &&& (15 : Int32)).toInt8.toInt32 &&& (255 : Int32))), .val (.long (((p0.toInt8.toInt32 &&& (255 : Int32)) &&& (127 : Int32)).toInt64 + ((p1.toInt8.toInt32 &&& (255 : Int32)).toInt64 * (128 : Int64)))), .second, .val (.int (2 : Int32)), .val (.int (((p0.toInt8.toInt32 &&& (255 : Int32)) &&& (127 : Int32)).toInt64 + ((p1.toInt8.toInt32 &&& (255 : Int32)).toInt64 * (128 : Int64))).toInt32), .val (.ref b60), .unset]) W66 at_374 rfl rfl ?_
        refine g_aload (pc := 376) W66 at_376 rfl rfl ?_
        refine g_virtual (i := 0) (pc := 378) (Wt := 0) (argsL := []) (rest := []) (loc := [(b60, (.object "com/example/attestry/attestry/home/ByteCursor"), [.ref b1, .int (0 : Int32)]), (b1, (.array .byte), [.int p0.toInt8.toInt32, .int p1.toInt8.toInt32, .int p2.toInt8.toInt32, .int p3.toInt8.toInt32, .int (p4 &&& (15 : Int32)).toInt8.toInt32, .int (p5 >>> ((1 : Int32) &&& 31)).toInt8.toInt32])]) (rst := []) W66 (hw _ (List.mem_of_getElem? (i := 14) rfl)) (hw _ (List.mem_of_getElem? (i := 16) rfl)) (hw _ (List.mem_of_getElem? (i := 3) rfl)) (hw _ (List.mem_of_getElem? (i := 18) rfl)) (hw _ (List.mem_of_getElem? (i := 15) rfl)) (hw _ (List.mem_of_getElem? (i := 17) rfl)) rfl (by decide) (c_wh02 l Z a0 hw b60 b1 p0.toInt8.toInt32 p1.toInt8.toInt32 p2.toInt8.toInt32 p3.toInt8.toInt32 (p4 &&& (15 : Int32)).toInt8.toInt32 (p5 >>> ((1 : Int32) &&& 31)).toInt8.toInt32 (own_y c17) (own_n c18)) ⟨[0, 1], by decide, rfl⟩ rfl pd___I rfl rfl rfl (Nat.le_of_ble_eq_true rfl) (by decide) (by decide) (by decide) (by decide) at_378 ?_
        rintro T67 _ _ ⟨rfl, rfl⟩ W68
        have W69 := W68.re (os' := [(b60, (.object "com/example/attestry/attestry/home/ByteCursor"), [.ref b1, .int (2 : Int32)]), (b1, (.array .byte), [.int p0.toInt8.toInt32, .int p1.toInt8.toInt32, .int p2.toInt8.toInt32, .int p3.toInt8.toInt32, .int (p4 &&& (15 : Int32)).toInt8.toInt32, .int (p5 >>> ((1 : Int32) &&& 31)).toInt8.toInt32])]) rfl
        show Go p_ e_ bl_ _ (T67.setTop (mkF m_ 381 #[.val (.int p0), .val (.int p1), .val (.int p2), .val (.int p3), .val (.int p4), .val (.int p5), .val (.int (0 : Int32)), .val (.int (p5 >>> ((1 : Int32) &&& 31)).toInt8.toInt32), .val (.int p0.toInt8.toInt32), .val (.int p1.toInt8.toInt32), .val (.int p2.toInt8.toInt32), .val (.int p3.toInt8.toInt32), .val (.int (p4 &&& (15 : Int32)).toInt8.toInt32), .val (.ref b1), .val (.int (p0.toInt8.toInt32 &&& (255 : Int32))), .val (.int (p1.toInt8.toInt32 &&& (255 : Int32))), .val (.int (p2.toInt8.toInt32 &&& (255 : Int32))), .val (.int (p3.toInt8.toInt32 &&& (255 : Int32))), .val (.int ((p4 &&& (15 : Int32)).toInt8.toInt32 &&& (255 : Int32))), .val (.long (((p0.toInt8.toInt32 &&& (255 : Int32)) &&& (127 : Int32)).toInt64 + ((p1.toInt8.toInt32 &&& (255 : Int32)).toInt64 * (128 : Int64)))), .second, .val (.int (2 : Int32)), .val (.int (((p0.toInt8.toInt32 &&& (255 : Int32)) &&& (127 : Int32)).toInt64 + ((p1.toInt8.toInt32 &&& (255 : Int32)).toInt64 * (128 : Int64))).toInt32), .val (.ref b60), .unset] [.int (((0 : Int32) ||| ((p0.toInt8.toInt32 &&& (127 : Int32)) <<< ((0 : Int32) &&& 31))) ||| ((p1.toInt8.toInt32 &&& (127 : Int32)) <<< ((7 : Int32) &&& 31)))]))
        refine g_istore (pc := 381) (ls' := #[.val (.int p0), .val (.int p1), .val (.int p2), .val (.int p3), .val (.int p4), .val (.int p5), .val (.int (0 : Int32)), .val (.int (p5 >>> ((1 : Int32) &&& 31)).toInt8.toInt32), .val (.int p0.toInt8.toInt32), .val (.int p1.toInt8.toInt32), .val (.int p2.toInt8.toInt32), .val (.int p3.toInt8.toInt32), .val (.int (p4 &&& (15 : Int32)).toInt8.toInt32), .val (.ref b1), .val (.int (p0.toInt8.toInt32 &&& (255 : Int32))), .val (.int (p1.toInt8.toInt32 &&& (255 : Int32))), .val (.int (p2.toInt8.toInt32 &&& (255 : Int32))), .val (.int (p3.toInt8.toInt32 &&& (255 : Int32))), .val (.int ((p4 &&& (15 : Int32)).toInt8.toInt32 &&& (255 : Int32))), .val (.long (((p0.toInt8.toInt32 &&& (255 : Int32)) &&& (127 : Int32)).toInt64 + ((p1.toInt8.toInt32 &&& (255 : Int32)).toInt64 * (128 : Int64)))), .second, .val (.int (2 : Int32)), .val (.int (((p0.toInt8.toInt32 &&& (255 : Int32)) &&& (127 : Int32)).toInt64 + ((p1.toInt8.toInt32 &&& (255 : Int32)).toInt64 * (128 : Int64))).toInt32), .val (.ref b60), .val (.int (((0 : Int32) ||| ((p0.toInt8.toInt32 &&& (127 : Int32)) <<< ((0 : Int32) &&& 31))) ||| ((p1.toInt8.toInt32 &&& (127 : Int32)) <<< ((7 : Int32) &&& 31))))]) W69 at_381 rfl ?_
        refine g_iload (pc := 383) W69 at_383 rfl ?_
        refine g_iload (pc := 385) W69 at_385 rfl ?_
        refine g_icmpN (pc := 387) W69 at_387 (teq (own_e2 p0.toInt8.toInt32 p1.toInt8.toInt32 (by have q := c18; simp only [Int32.lt_iff_toInt_lt, own_m, Int32.reduceToInt] at q; omega))).2 ?_
        refine g_aload (pc := 390) W69 at_390 rfl rfl ?_
        refine g_virtual (i := 0) (pc := 392) (Wt := 0) (argsL := []) (rest := []) (loc := [(b60, (.object "com/example/attestry/attestry/home/ByteCursor"), [.ref b1, .int (2 : Int32)])]) (rst := [(b1, (.array .byte), [.int p0.toInt8.toInt32, .int p1.toInt8.toInt32, .int p2.toInt8.toInt32, .int p3.toInt8.toInt32, .int (p4 &&& (15 : Int32)).toInt8.toInt32, .int (p5 >>> ((1 : Int32) &&& 31)).toInt8.toInt32])]) W69 (hw _ (List.mem_of_getElem? (i := 19) rfl)) (hw _ (List.mem_of_getElem? (i := 21) rfl)) (hw _ (List.mem_of_getElem? (i := 3) rfl)) (hw _ (List.mem_of_getElem? (i := 23) rfl)) (hw _ (List.mem_of_getElem? (i := 20) rfl)) (hw _ (List.mem_of_getElem? (i := 22) rfl)) rfl (by decide) (c_at l Z a0 hw b60 b1 (2 : Int32)) ⟨[0, 1], by decide, rfl⟩ rfl pd___I rfl rfl rfl (Nat.le_of_ble_eq_true rfl) (by decide) (by decide) (by decide) (by decide) at_392 ?_
        rintro T70 _ _ ⟨rfl, rfl⟩ W71
        have W72 := W71.re (os' := [(b60, (.object "com/example/attestry/attestry/home/ByteCursor"), [.ref b1, .int (2 : Int32)]), (b1, (.array .byte), [.int p0.toInt8.toInt32, .int p1.toInt8.toInt32, .int p2.toInt8.toInt32, .int p3.toInt8.toInt32, .int (p4 &&& (15 : Int32)).toInt8.toInt32, .int (p5 >>> ((1 : Int32) &&& 31)).toInt8.toInt32])]) rfl
        show Go p_ e_ bl_ _ (T70.setTop (mkF m_ 395 #[.val (.int p0), .val (.int p1), .val (.int p2), .val (.int p3), .val (.int p4), .val (.int p5), .val (.int (0 : Int32)), .val (.int (p5 >>> ((1 : Int32) &&& 31)).toInt8.toInt32), .val (.int p0.toInt8.toInt32), .val (.int p1.toInt8.toInt32), .val (.int p2.toInt8.toInt32), .val (.int p3.toInt8.toInt32), .val (.int (p4 &&& (15 : Int32)).toInt8.toInt32), .val (.ref b1), .val (.int (p0.toInt8.toInt32 &&& (255 : Int32))), .val (.int (p1.toInt8.toInt32 &&& (255 : Int32))), .val (.int (p2.toInt8.toInt32 &&& (255 : Int32))), .val (.int (p3.toInt8.toInt32 &&& (255 : Int32))), .val (.int ((p4 &&& (15 : Int32)).toInt8.toInt32 &&& (255 : Int32))), .val (.long (((p0.toInt8.toInt32 &&& (255 : Int32)) &&& (127 : Int32)).toInt64 + ((p1.toInt8.toInt32 &&& (255 : Int32)).toInt64 * (128 : Int64)))), .second, .val (.int (2 : Int32)), .val (.int (((p0.toInt8.toInt32 &&& (255 : Int32)) &&& (127 : Int32)).toInt64 + ((p1.toInt8.toInt32 &&& (255 : Int32)).toInt64 * (128 : Int64))).toInt32), .val (.ref b60), .val (.int (((0 : Int32) ||| ((p0.toInt8.toInt32 &&& (127 : Int32)) <<< ((0 : Int32) &&& 31))) ||| ((p1.toInt8.toInt32 &&& (127 : Int32)) <<< ((7 : Int32) &&& 31))))] [.int (2 : Int32)]))
        refine g_iload (pc := 395) W72 at_395 rfl ?_
        refine g_iload (pc := 397) W72 at_397 rfl ?_
        refine g_iadd (pc := 399) W72 at_399 ?_
        show Go p_ e_ bl_ _ (T70.setTop (mkF m_ 400 #[.val (.int p0), .val (.int p1), .val (.int p2), .val (.int p3), .val (.int p4), .val (.int p5), .val (.int (0 : Int32)), .val (.int (p5 >>> ((1 : Int32) &&& 31)).toInt8.toInt32), .val (.int p0.toInt8.toInt32), .val (.int p1.toInt8.toInt32), .val (.int p2.toInt8.toInt32), .val (.int p3.toInt8.toInt32), .val (.int (p4 &&& (15 : Int32)).toInt8.toInt32), .val (.ref b1), .val (.int (p0.toInt8.toInt32 &&& (255 : Int32))), .val (.int (p1.toInt8.toInt32 &&& (255 : Int32))), .val (.int (p2.toInt8.toInt32 &&& (255 : Int32))), .val (.int (p3.toInt8.toInt32 &&& (255 : Int32))), .val (.int ((p4 &&& (15 : Int32)).toInt8.toInt32 &&& (255 : Int32))), .val (.long (((p0.toInt8.toInt32 &&& (255 : Int32)) &&& (127 : Int32)).toInt64 + ((p1.toInt8.toInt32 &&& (255 : Int32)).toInt64 * (128 : Int64)))), .second, .val (.int (2 : Int32)), .val (.int (((p0.toInt8.toInt32 &&& (255 : Int32)) &&& (127 : Int32)).toInt64 + ((p1.toInt8.toInt32 &&& (255 : Int32)).toInt64 * (128 : Int64))).toInt32), .val (.ref b60), .val (.int (((0 : Int32) ||| ((p0.toInt8.toInt32 &&& (127 : Int32)) <<< ((0 : Int32) &&& 31))) ||| ((p1.toInt8.toInt32 &&& (127 : Int32)) <<< ((7 : Int32) &&& 31))))] [.int (2 : Int32), .int (2 : Int32)]))
        refine g_icmpN (pc := 400) W72 at_400 (by decide) ?_
        refine g_iconst (pc := 403) (1 : Int32) (by decide) W72 at_403 ?_
        refine g_goto 408 (pc := 404) W72 at_404 (by decide) (by decide) ?_
        exact g_zreturn (pc := 408) rfl (by decide) W72 at_408 (by decide) (by decide) rfl
    · refine g_iconst (pc := 172) (1 : Int32) (by decide) W16 at_172 ?_
      refine g_istore (pc := 173) (ls' := #[.val (.int p0), .val (.int p1), .val (.int p2), .val (.int p3), .val (.int p4), .val (.int p5), .val (.int (0 : Int32)), .val (.int (p5 >>> ((1 : Int32) &&& 31)).toInt8.toInt32), .val (.int p0.toInt8.toInt32), .val (.int p1.toInt8.toInt32), .val (.int p2.toInt8.toInt32), .val (.int p3.toInt8.toInt32), .val (.int (p4 &&& (15 : Int32)).toInt8.toInt32), .val (.ref b1), .val (.int (p0.toInt8.toInt32 &&& (255 : Int32))), .val (.int (p1.toInt8.toInt32 &&& (255 : Int32))), .val (.int (p2.toInt8.toInt32 &&& (255 : Int32))), .val (.int (p3.toInt8.toInt32 &&& (255 : Int32))), .val (.int ((p4 &&& (15 : Int32)).toInt8.toInt32 &&& (255 : Int32))), .unset, .unset, .val (.int (1 : Int32)), .unset, .unset, .unset]) W16 at_173 rfl ?_
      refine g_iload (pc := 175) W16 at_175 rfl ?_
      refine g_i2l (pc := 177) W16 at_177 ?_
      refine g_lstore (pc := 178) (ls' := #[.val (.int p0), .val (.int p1), .val (.int p2), .val (.int p3), .val (.int p4), .val (.int p5), .val (.int (0 : Int32)), .val (.int (p5 >>> ((1 : Int32) &&& 31)).toInt8.toInt32), .val (.int p0.toInt8.toInt32), .val (.int p1.toInt8.toInt32), .val (.int p2.toInt8.toInt32), .val (.int p3.toInt8.toInt32), .val (.int (p4 &&& (15 : Int32)).toInt8.toInt32), .val (.ref b1), .val (.int (p0.toInt8.toInt32 &&& (255 : Int32))), .val (.int (p1.toInt8.toInt32 &&& (255 : Int32))), .val (.int (p2.toInt8.toInt32 &&& (255 : Int32))), .val (.int (p3.toInt8.toInt32 &&& (255 : Int32))), .val (.int ((p4 &&& (15 : Int32)).toInt8.toInt32 &&& (255 : Int32))), .val (.long (p0.toInt8.toInt32 &&& (255 : Int32)).toInt64), .second, .val (.int (1 : Int32)), .unset, .unset, .unset]) W16 at_178 rfl ?_
      refine g_goto 358 (pc := 180) W16 at_180 (by decide) (by decide) ?_
      refine g_lload (pc := 358) W16 at_358 rfl ?_
      refine g_l2i (pc := 360) W16 at_360 ?_
      refine g_istore (pc := 361) (ls' := #[.val (.int p0), .val (.int p1), .val (.int p2), .val (.int p3), .val (.int p4), .val (.int p5), .val (.int (0 : Int32)), .val (.int (p5 >>> ((1 : Int32) &&& 31)).toInt8.toInt32), .val (.int p0.toInt8.toInt32), .val (.int p1.toInt8.toInt32), .val (.int p2.toInt8.toInt32), .val (.int p3.toInt8.toInt32), .val (.int (p4 &&& (15 : Int32)).toInt8.toInt32), .val (.ref b1), .val (.int (p0.toInt8.toInt32 &&& (255 : Int32))), .val (.int (p1.toInt8.toInt32 &&& (255 : Int32))), .val (.int (p2.toInt8.toInt32 &&& (255 : Int32))), .val (.int (p3.toInt8.toInt32 &&& (255 : Int32))), .val (.int ((p4 &&& (15 : Int32)).toInt8.toInt32 &&& (255 : Int32))), .val (.long (p0.toInt8.toInt32 &&& (255 : Int32)).toInt64), .second, .val (.int (1 : Int32)), .val (.int (p0.toInt8.toInt32 &&& (255 : Int32)).toInt64.toInt32), .unset, .unset]) W16 at_361 rfl ?_
      refine g_new (pc := 363) (vs := [.null, .int (0 : Int32)]) W16 (hw _ (List.mem_of_getElem? (i := 1) rfl)) (hw _ (List.mem_of_getElem? (i := 2) rfl)) (hw _ (List.mem_of_getElem? (i := 3) rfl)) (cls_ByteCursor hw) (by decide) at_363 (by decide) (by decide) (fun T74 b73 W75 => ?_)
      have W76 := W75.re (os' := [(b1, (.array .byte), [.int p0.toInt8.toInt32, .int p1.toInt8.toInt32, .int p2.toInt8.toInt32, .int p3.toInt8.toInt32, .int (p4 &&& (15 : Int32)).toInt8.toInt32, .int (p5 >>> ((1 : Int32) &&& 31)).toInt8.toInt32]), (b73, (.object "com/example/attestry/attestry/home/ByteCursor"), [.null, .int (0 : Int32)])]) rfl
      refine g_dup (pc := 366) W76 at_366 rfl ?_
      refine g_aload (pc := 367) W76 at_367 rfl rfl ?_
      refine g_iload (pc := 369) W76 at_369 rfl ?_
      refine g_init (pc := 371) (Wt := 1) (argsL := [.ref b1, .int (0 : Int32)]) (rest := [.ref b73]) (loc := [(b73, (.object "com/example/attestry/attestry/home/ByteCursor"), [.null, .int (0 : Int32)])]) (rst := [(b1, (.array .byte), [.int p0.toInt8.toInt32, .int p1.toInt8.toInt32, .int p2.toInt8.toInt32, .int p3.toInt8.toInt32, .int (p4 &&& (15 : Int32)).toInt8.toInt32, .int (p5 >>> ((1 : Int32) &&& 31)).toInt8.toInt32])]) W76 rfl (hw _ (List.mem_of_getElem? (i := 4) rfl)) (hw _ (List.mem_of_getElem? (i := 5) rfl)) (hw _ (List.mem_of_getElem? (i := 3) rfl)) (hw _ (List.mem_of_getElem? (i := 6) rfl)) (by decide) (c_init l Z a0 hw b73 b1 (0 : Int32)) ⟨[1, 0], by decide, rfl⟩ rfl pd_ABI__V rfl rfl rfl (Nat.le_of_ble_eq_true rfl) (by decide) (by decide) (by decide) (by decide) at_371 ?_
      rintro T77 _ _ ⟨rfl, rfl⟩ W78
      have W79 := W78.re (os' := [(b73, (.object "com/example/attestry/attestry/home/ByteCursor"), [.ref b1, .int (0 : Int32)]), (b1, (.array .byte), [.int p0.toInt8.toInt32, .int p1.toInt8.toInt32, .int p2.toInt8.toInt32, .int p3.toInt8.toInt32, .int (p4 &&& (15 : Int32)).toInt8.toInt32, .int (p5 >>> ((1 : Int32) &&& 31)).toInt8.toInt32])]) rfl
      show Go p_ e_ bl_ _ (T77.setTop (mkF m_ 374 #[.val (.int p0), .val (.int p1), .val (.int p2), .val (.int p3), .val (.int p4), .val (.int p5), .val (.int (0 : Int32)), .val (.int (p5 >>> ((1 : Int32) &&& 31)).toInt8.toInt32), .val (.int p0.toInt8.toInt32), .val (.int p1.toInt8.toInt32), .val (.int p2.toInt8.toInt32), .val (.int p3.toInt8.toInt32), .val (.int (p4 &&& (15 : Int32)).toInt8.toInt32), .val (.ref b1), .val (.int (p0.toInt8.toInt32 &&& (255 : Int32))), .val (.int (p1.toInt8.toInt32 &&& (255 : Int32))), .val (.int (p2.toInt8.toInt32 &&& (255 : Int32))), .val (.int (p3.toInt8.toInt32 &&& (255 : Int32))), .val (.int ((p4 &&& (15 : Int32)).toInt8.toInt32 &&& (255 : Int32))), .val (.long (p0.toInt8.toInt32 &&& (255 : Int32)).toInt64), .second, .val (.int (1 : Int32)), .val (.int (p0.toInt8.toInt32 &&& (255 : Int32)).toInt64.toInt32), .unset, .unset] [.ref b73]))
      refine g_astore (pc := 374) (ls' := #[.val (.int p0), .val (.int p1), .val (.int p2), .val (.int p3), .val (.int p4), .val (.int p5), .val (.int (0 : Int32)), .val (.int (p5 >>> ((1 : Int32) &&& 31)).toInt8.toInt32), .val (.int p0.toInt8.toInt32), .val (.int p1.toInt8.toInt32), .val (.int p2.toInt8.toInt32), .val (.int p3.toInt8.toInt32), .val (.int (p4 &&& (15 : Int32)).toInt8.toInt32), .val (.ref b1), .val (.int (p0.toInt8.toInt32 &&& (255 : Int32))), .val (.int (p1.toInt8.toInt32 &&& (255 : Int32))), .val (.int (p2.toInt8.toInt32 &&& (255 : Int32))), .val (.int (p3.toInt8.toInt32 &&& (255 : Int32))), .val (.int ((p4 &&& (15 : Int32)).toInt8.toInt32 &&& (255 : Int32))), .val (.long (p0.toInt8.toInt32 &&& (255 : Int32)).toInt64), .second, .val (.int (1 : Int32)), .val (.int (p0.toInt8.toInt32 &&& (255 : Int32)).toInt64.toInt32), .val (.ref b73), .unset]) W79 at_374 rfl rfl ?_
      refine g_aload (pc := 376) W79 at_376 rfl rfl ?_
      refine g_virtual (i := 0) (pc := 378) (Wt := 0) (argsL := []) (rest := []) (loc := [(b73, (.object "com/example/attestry/attestry/home/ByteCursor"), [.ref b1, .int (0 : Int32)]), (b1, (.array .byte), [.int p0.toInt8.toInt32, .int p1.toInt8.toInt32, .int p2.toInt8.toInt32, .int p3.toInt8.toInt32, .int (p4 &&& (15 : Int32)).toInt8.toInt32, .int (p5 >>> ((1 : Int32) &&& 31)).toInt8.toInt32])]) (rst := []) W79 (hw _ (List.mem_of_getElem? (i := 14) rfl)) (hw _ (List.mem_of_getElem? (i := 16) rfl)) (hw _ (List.mem_of_getElem? (i := 3) rfl)) (hw _ (List.mem_of_getElem? (i := 18) rfl)) (hw _ (List.mem_of_getElem? (i := 15) rfl)) (hw _ (List.mem_of_getElem? (i := 17) rfl)) rfl (by decide) (c_wh01 l Z a0 hw b73 b1 p0.toInt8.toInt32 p1.toInt8.toInt32 p2.toInt8.toInt32 p3.toInt8.toInt32 (p4 &&& (15 : Int32)).toInt8.toInt32 (p5 >>> ((1 : Int32) &&& 31)).toInt8.toInt32 (own_n c17)) ⟨[0, 1], by decide, rfl⟩ rfl pd___I rfl rfl rfl (Nat.le_of_ble_eq_true rfl) (by decide) (by decide) (by decide) (by decide) at_378 ?_
      rintro T80 _ _ ⟨rfl, rfl⟩ W81
      have W82 := W81.re (os' := [(b73, (.object "com/example/attestry/attestry/home/ByteCursor"), [.ref b1, .int (1 : Int32)]), (b1, (.array .byte), [.int p0.toInt8.toInt32, .int p1.toInt8.toInt32, .int p2.toInt8.toInt32, .int p3.toInt8.toInt32, .int (p4 &&& (15 : Int32)).toInt8.toInt32, .int (p5 >>> ((1 : Int32) &&& 31)).toInt8.toInt32])]) rfl
      show Go p_ e_ bl_ _ (T80.setTop (mkF m_ 381 #[.val (.int p0), .val (.int p1), .val (.int p2), .val (.int p3), .val (.int p4), .val (.int p5), .val (.int (0 : Int32)), .val (.int (p5 >>> ((1 : Int32) &&& 31)).toInt8.toInt32), .val (.int p0.toInt8.toInt32), .val (.int p1.toInt8.toInt32), .val (.int p2.toInt8.toInt32), .val (.int p3.toInt8.toInt32), .val (.int (p4 &&& (15 : Int32)).toInt8.toInt32), .val (.ref b1), .val (.int (p0.toInt8.toInt32 &&& (255 : Int32))), .val (.int (p1.toInt8.toInt32 &&& (255 : Int32))), .val (.int (p2.toInt8.toInt32 &&& (255 : Int32))), .val (.int (p3.toInt8.toInt32 &&& (255 : Int32))), .val (.int ((p4 &&& (15 : Int32)).toInt8.toInt32 &&& (255 : Int32))), .val (.long (p0.toInt8.toInt32 &&& (255 : Int32)).toInt64), .second, .val (.int (1 : Int32)), .val (.int (p0.toInt8.toInt32 &&& (255 : Int32)).toInt64.toInt32), .val (.ref b73), .unset] [.int ((0 : Int32) ||| ((p0.toInt8.toInt32 &&& (127 : Int32)) <<< ((0 : Int32) &&& 31)))]))
      refine g_istore (pc := 381) (ls' := #[.val (.int p0), .val (.int p1), .val (.int p2), .val (.int p3), .val (.int p4), .val (.int p5), .val (.int (0 : Int32)), .val (.int (p5 >>> ((1 : Int32) &&& 31)).toInt8.toInt32), .val (.int p0.toInt8.toInt32), .val (.int p1.toInt8.toInt32), .val (.int p2.toInt8.toInt32), .val (.int p3.toInt8.toInt32), .val (.int (p4 &&& (15 : Int32)).toInt8.toInt32), .val (.ref b1), .val (.int (p0.toInt8.toInt32 &&& (255 : Int32))), .val (.int (p1.toInt8.toInt32 &&& (255 : Int32))), .val (.int (p2.toInt8.toInt32 &&& (255 : Int32))), .val (.int (p3.toInt8.toInt32 &&& (255 : Int32))), .val (.int ((p4 &&& (15 : Int32)).toInt8.toInt32 &&& (255 : Int32))), .val (.long (p0.toInt8.toInt32 &&& (255 : Int32)).toInt64), .second, .val (.int (1 : Int32)), .val (.int (p0.toInt8.toInt32 &&& (255 : Int32)).toInt64.toInt32), .val (.ref b73), .val (.int ((0 : Int32) ||| ((p0.toInt8.toInt32 &&& (127 : Int32)) <<< ((0 : Int32) &&& 31))))]) W82 at_381 rfl ?_
      refine g_iload (pc := 383) W82 at_383 rfl ?_
      refine g_iload (pc := 385) W82 at_385 rfl ?_
      refine g_icmpN (pc := 387) W82 at_387 (teq (own_e1 p0.toInt8.toInt32 (by have q := c17; simp only [Int32.lt_iff_toInt_lt, own_m, Int32.reduceToInt] at q; omega))).2 ?_
      refine g_aload (pc := 390) W82 at_390 rfl rfl ?_
      refine g_virtual (i := 0) (pc := 392) (Wt := 0) (argsL := []) (rest := []) (loc := [(b73, (.object "com/example/attestry/attestry/home/ByteCursor"), [.ref b1, .int (1 : Int32)])]) (rst := [(b1, (.array .byte), [.int p0.toInt8.toInt32, .int p1.toInt8.toInt32, .int p2.toInt8.toInt32, .int p3.toInt8.toInt32, .int (p4 &&& (15 : Int32)).toInt8.toInt32, .int (p5 >>> ((1 : Int32) &&& 31)).toInt8.toInt32])]) W82 (hw _ (List.mem_of_getElem? (i := 19) rfl)) (hw _ (List.mem_of_getElem? (i := 21) rfl)) (hw _ (List.mem_of_getElem? (i := 3) rfl)) (hw _ (List.mem_of_getElem? (i := 23) rfl)) (hw _ (List.mem_of_getElem? (i := 20) rfl)) (hw _ (List.mem_of_getElem? (i := 22) rfl)) rfl (by decide) (c_at l Z a0 hw b73 b1 (1 : Int32)) ⟨[0, 1], by decide, rfl⟩ rfl pd___I rfl rfl rfl (Nat.le_of_ble_eq_true rfl) (by decide) (by decide) (by decide) (by decide) at_392 ?_
      rintro T83 _ _ ⟨rfl, rfl⟩ W84
      have W85 := W84.re (os' := [(b73, (.object "com/example/attestry/attestry/home/ByteCursor"), [.ref b1, .int (1 : Int32)]), (b1, (.array .byte), [.int p0.toInt8.toInt32, .int p1.toInt8.toInt32, .int p2.toInt8.toInt32, .int p3.toInt8.toInt32, .int (p4 &&& (15 : Int32)).toInt8.toInt32, .int (p5 >>> ((1 : Int32) &&& 31)).toInt8.toInt32])]) rfl
      show Go p_ e_ bl_ _ (T83.setTop (mkF m_ 395 #[.val (.int p0), .val (.int p1), .val (.int p2), .val (.int p3), .val (.int p4), .val (.int p5), .val (.int (0 : Int32)), .val (.int (p5 >>> ((1 : Int32) &&& 31)).toInt8.toInt32), .val (.int p0.toInt8.toInt32), .val (.int p1.toInt8.toInt32), .val (.int p2.toInt8.toInt32), .val (.int p3.toInt8.toInt32), .val (.int (p4 &&& (15 : Int32)).toInt8.toInt32), .val (.ref b1), .val (.int (p0.toInt8.toInt32 &&& (255 : Int32))), .val (.int (p1.toInt8.toInt32 &&& (255 : Int32))), .val (.int (p2.toInt8.toInt32 &&& (255 : Int32))), .val (.int (p3.toInt8.toInt32 &&& (255 : Int32))), .val (.int ((p4 &&& (15 : Int32)).toInt8.toInt32 &&& (255 : Int32))), .val (.long (p0.toInt8.toInt32 &&& (255 : Int32)).toInt64), .second, .val (.int (1 : Int32)), .val (.int (p0.toInt8.toInt32 &&& (255 : Int32)).toInt64.toInt32), .val (.ref b73), .val (.int ((0 : Int32) ||| ((p0.toInt8.toInt32 &&& (127 : Int32)) <<< ((0 : Int32) &&& 31))))] [.int (1 : Int32)]))
      refine g_iload (pc := 395) W85 at_395 rfl ?_
      refine g_iload (pc := 397) W85 at_397 rfl ?_
      refine g_iadd (pc := 399) W85 at_399 ?_
      show Go p_ e_ bl_ _ (T83.setTop (mkF m_ 400 #[.val (.int p0), .val (.int p1), .val (.int p2), .val (.int p3), .val (.int p4), .val (.int p5), .val (.int (0 : Int32)), .val (.int (p5 >>> ((1 : Int32) &&& 31)).toInt8.toInt32), .val (.int p0.toInt8.toInt32), .val (.int p1.toInt8.toInt32), .val (.int p2.toInt8.toInt32), .val (.int p3.toInt8.toInt32), .val (.int (p4 &&& (15 : Int32)).toInt8.toInt32), .val (.ref b1), .val (.int (p0.toInt8.toInt32 &&& (255 : Int32))), .val (.int (p1.toInt8.toInt32 &&& (255 : Int32))), .val (.int (p2.toInt8.toInt32 &&& (255 : Int32))), .val (.int (p3.toInt8.toInt32 &&& (255 : Int32))), .val (.int ((p4 &&& (15 : Int32)).toInt8.toInt32 &&& (255 : Int32))), .val (.long (p0.toInt8.toInt32 &&& (255 : Int32)).toInt64), .second, .val (.int (1 : Int32)), .val (.int (p0.toInt8.toInt32 &&& (255 : Int32)).toInt64.toInt32), .val (.ref b73), .val (.int ((0 : Int32) ||| ((p0.toInt8.toInt32 &&& (127 : Int32)) <<< ((0 : Int32) &&& 31))))] [.int (1 : Int32), .int (1 : Int32)]))
      refine g_icmpN (pc := 400) W85 at_400 (by decide) ?_
      refine g_iconst (pc := 403) (1 : Int32) (by decide) W85 at_403 ?_
      refine g_goto 408 (pc := 404) W85 at_404 (by decide) (by decide) ?_
      exact g_zreturn (pc := 408) rfl (by decide) W85 at_408 (by decide) (by decide) rfl
  · rw [hl]
    refine g_iload (pc := 43) W4 at_43 rfl ?_
    refine g_iconst (pc := 45) (1 : Int32) (by decide) W4 at_45 ?_
    refine g_icmpN (pc := 46) W4 at_46 (by decide) ?_
    refine g_aload (pc := 49) W4 at_49 rfl rfl ?_
    refine g_iconst (pc := 51) (0 : Int32) (by decide) W4 at_51 ?_
    refine g_iload (pc := 52) W4 at_52 rfl ?_
    refine g_bastore (pc := 54) (i := 0) (os' := [(b1, (.array .byte), [.int (p5 >>> ((1 : Int32) &&& 31)).toInt8.toInt32, .int (0 : Int32), .int (0 : Int32), .int (0 : Int32), .int (0 : Int32), .int (0 : Int32)])]) (x' := (p5 >>> ((1 : Int32) &&& 31)).toInt8.toInt32) (own_bb _) 0 W4 rfl (by decide) (by decide) (Nat.le_of_ble_eq_true rfl) rfl at_54 (fun T86 W87 => ?_)
    refine g_aload (pc := 55) W87 at_55 rfl rfl ?_
    refine g_iconst (pc := 57) (1 : Int32) (by decide) W87 at_57 ?_
    refine g_iload (pc := 58) W87 at_58 rfl ?_
    refine g_bastore (pc := 60) (i := 0) (os' := [(b1, (.array .byte), [.int (p5 >>> ((1 : Int32) &&& 31)).toInt8.toInt32, .int p0.toInt8.toInt32, .int (0 : Int32), .int (0 : Int32), .int (0 : Int32), .int (0 : Int32)])]) (x' := p0.toInt8.toInt32) (own_bb _) 1 W87 rfl (by decide) (by decide) (Nat.le_of_ble_eq_true rfl) rfl at_60 (fun T88 W89 => ?_)
    refine g_aload (pc := 61) W89 at_61 rfl rfl ?_
    refine g_iconst (pc := 63) (2 : Int32) (by decide) W89 at_63 ?_
    refine g_iload (pc := 64) W89 at_64 rfl ?_
    refine g_bastore (pc := 66) (i := 0) (os' := [(b1, (.array .byte), [.int (p5 >>> ((1 : Int32) &&& 31)).toInt8.toInt32, .int p0.toInt8.toInt32, .int p1.toInt8.toInt32, .int (0 : Int32), .int (0 : Int32), .int (0 : Int32)])]) (x' := p1.toInt8.toInt32) (own_bb _) 2 W89 rfl (by decide) (by decide) (Nat.le_of_ble_eq_true rfl) rfl at_66 (fun T90 W91 => ?_)
    refine g_aload (pc := 67) W91 at_67 rfl rfl ?_
    refine g_iconst (pc := 69) (3 : Int32) (by decide) W91 at_69 ?_
    refine g_iload (pc := 70) W91 at_70 rfl ?_
    refine g_bastore (pc := 72) (i := 0) (os' := [(b1, (.array .byte), [.int (p5 >>> ((1 : Int32) &&& 31)).toInt8.toInt32, .int p0.toInt8.toInt32, .int p1.toInt8.toInt32, .int p2.toInt8.toInt32, .int (0 : Int32), .int (0 : Int32)])]) (x' := p2.toInt8.toInt32) (own_bb _) 3 W91 rfl (by decide) (by decide) (Nat.le_of_ble_eq_true rfl) rfl at_72 (fun T92 W93 => ?_)
    refine g_aload (pc := 73) W93 at_73 rfl rfl ?_
    refine g_iconst (pc := 75) (4 : Int32) (by decide) W93 at_75 ?_
    refine g_iload (pc := 76) W93 at_76 rfl ?_
    refine g_bastore (pc := 78) (i := 0) (os' := [(b1, (.array .byte), [.int (p5 >>> ((1 : Int32) &&& 31)).toInt8.toInt32, .int p0.toInt8.toInt32, .int p1.toInt8.toInt32, .int p2.toInt8.toInt32, .int p3.toInt8.toInt32, .int (0 : Int32)])]) (x' := p3.toInt8.toInt32) (own_bb _) 4 W93 rfl (by decide) (by decide) (Nat.le_of_ble_eq_true rfl) rfl at_78 (fun T94 W95 => ?_)
    refine g_aload (pc := 79) W95 at_79 rfl rfl ?_
    refine g_iconst (pc := 81) (5 : Int32) (by decide) W95 at_81 ?_
    refine g_iload (pc := 82) W95 at_82 rfl ?_
    refine g_bastore (pc := 84) (i := 0) (os' := [(b1, (.array .byte), [.int (p5 >>> ((1 : Int32) &&& 31)).toInt8.toInt32, .int p0.toInt8.toInt32, .int p1.toInt8.toInt32, .int p2.toInt8.toInt32, .int p3.toInt8.toInt32, .int (p4 &&& (15 : Int32)).toInt8.toInt32])]) (x' := (p4 &&& (15 : Int32)).toInt8.toInt32) (own_bb _) 5 W95 rfl (by decide) (by decide) (Nat.le_of_ble_eq_true rfl) rfl at_84 (fun T96 W97 => ?_)
    refine g_goto 124 (pc := 85) W97 at_85 (by decide) (by decide) ?_
    refine g_iload (pc := 124) W97 at_124 rfl ?_
    refine g_sipush (pc := 126) (255 : Int32) (by decide) W97 at_126 ?_
    refine g_iand (pc := 129) W97 at_129 ?_
    refine g_istore (pc := 130) (ls' := #[.val (.int p0), .val (.int p1), .val (.int p2), .val (.int p3), .val (.int p4), .val (.int p5), .val (.int (1 : Int32)), .val (.int (p5 >>> ((1 : Int32) &&& 31)).toInt8.toInt32), .val (.int p0.toInt8.toInt32), .val (.int p1.toInt8.toInt32), .val (.int p2.toInt8.toInt32), .val (.int p3.toInt8.toInt32), .val (.int (p4 &&& (15 : Int32)).toInt8.toInt32), .val (.ref b1), .val (.int (p0.toInt8.toInt32 &&& (255 : Int32))), .unset, .unset, .unset, .unset, .unset, .unset, .unset, .unset, .unset, .unset]) W97 at_130 rfl ?_
    refine g_iload (pc := 132) W97 at_132 rfl ?_
    refine g_sipush (pc := 134) (255 : Int32) (by decide) W97 at_134 ?_
    refine g_iand (pc := 137) W97 at_137 ?_
    refine g_istore (pc := 138) (ls' := #[.val (.int p0), .val (.int p1), .val (.int p2), .val (.int p3), .val (.int p4), .val (.int p5), .val (.int (1 : Int32)), .val (.int (p5 >>> ((1 : Int32) &&& 31)).toInt8.toInt32), .val (.int p0.toInt8.toInt32), .val (.int p1.toInt8.toInt32), .val (.int p2.toInt8.toInt32), .val (.int p3.toInt8.toInt32), .val (.int (p4 &&& (15 : Int32)).toInt8.toInt32), .val (.ref b1), .val (.int (p0.toInt8.toInt32 &&& (255 : Int32))), .val (.int (p1.toInt8.toInt32 &&& (255 : Int32))), .unset, .unset, .unset, .unset, .unset, .unset, .unset, .unset, .unset]) W97 at_138 rfl ?_
    refine g_iload (pc := 140) W97 at_140 rfl ?_
    refine g_sipush (pc := 142) (255 : Int32) (by decide) W97 at_142 ?_
    refine g_iand (pc := 145) W97 at_145 ?_
    refine g_istore (pc := 146) (ls' := #[.val (.int p0), .val (.int p1), .val (.int p2), .val (.int p3), .val (.int p4), .val (.int p5), .val (.int (1 : Int32)), .val (.int (p5 >>> ((1 : Int32) &&& 31)).toInt8.toInt32), .val (.int p0.toInt8.toInt32), .val (.int p1.toInt8.toInt32), .val (.int p2.toInt8.toInt32), .val (.int p3.toInt8.toInt32), .val (.int (p4 &&& (15 : Int32)).toInt8.toInt32), .val (.ref b1), .val (.int (p0.toInt8.toInt32 &&& (255 : Int32))), .val (.int (p1.toInt8.toInt32 &&& (255 : Int32))), .val (.int (p2.toInt8.toInt32 &&& (255 : Int32))), .unset, .unset, .unset, .unset, .unset, .unset, .unset, .unset]) W97 at_146 rfl ?_
    refine g_iload (pc := 148) W97 at_148 rfl ?_
    refine g_sipush (pc := 150) (255 : Int32) (by decide) W97 at_150 ?_
    refine g_iand (pc := 153) W97 at_153 ?_
    refine g_istore (pc := 154) (ls' := #[.val (.int p0), .val (.int p1), .val (.int p2), .val (.int p3), .val (.int p4), .val (.int p5), .val (.int (1 : Int32)), .val (.int (p5 >>> ((1 : Int32) &&& 31)).toInt8.toInt32), .val (.int p0.toInt8.toInt32), .val (.int p1.toInt8.toInt32), .val (.int p2.toInt8.toInt32), .val (.int p3.toInt8.toInt32), .val (.int (p4 &&& (15 : Int32)).toInt8.toInt32), .val (.ref b1), .val (.int (p0.toInt8.toInt32 &&& (255 : Int32))), .val (.int (p1.toInt8.toInt32 &&& (255 : Int32))), .val (.int (p2.toInt8.toInt32 &&& (255 : Int32))), .val (.int (p3.toInt8.toInt32 &&& (255 : Int32))), .unset, .unset, .unset, .unset, .unset, .unset, .unset]) W97 at_154 rfl ?_
    refine g_iload (pc := 156) W97 at_156 rfl ?_
    refine g_sipush (pc := 158) (255 : Int32) (by decide) W97 at_158 ?_
    refine g_iand (pc := 161) W97 at_161 ?_
    refine g_istore (pc := 162) (ls' := #[.val (.int p0), .val (.int p1), .val (.int p2), .val (.int p3), .val (.int p4), .val (.int p5), .val (.int (1 : Int32)), .val (.int (p5 >>> ((1 : Int32) &&& 31)).toInt8.toInt32), .val (.int p0.toInt8.toInt32), .val (.int p1.toInt8.toInt32), .val (.int p2.toInt8.toInt32), .val (.int p3.toInt8.toInt32), .val (.int (p4 &&& (15 : Int32)).toInt8.toInt32), .val (.ref b1), .val (.int (p0.toInt8.toInt32 &&& (255 : Int32))), .val (.int (p1.toInt8.toInt32 &&& (255 : Int32))), .val (.int (p2.toInt8.toInt32 &&& (255 : Int32))), .val (.int (p3.toInt8.toInt32 &&& (255 : Int32))), .val (.int ((p4 &&& (15 : Int32)).toInt8.toInt32 &&& (255 : Int32))), .unset, .unset, .unset, .unset, .unset, .unset]) W97 at_162 rfl ?_
    refine g_iload (pc := 164) W97 at_164 rfl ?_
    refine g_sipush (pc := 166) (128 : Int32) (by decide) W97 at_166 ?_
    refine g_icmp_ge 183 (pc := 169) W97 at_169 (by decide) (by decide) (fun c98 => ?_) (fun c98 => ?_)
    · refine g_iload (pc := 183) W97 at_183 rfl ?_
      refine g_sipush (pc := 185) (128 : Int32) (by decide) W97 at_185 ?_
      refine g_icmp_ge 213 (pc := 188) W97 at_188 (by decide) (by decide) (fun c99 => ?_) (fun c99 => ?_)
      · refine g_iload (pc := 213) W97 at_213 rfl ?_
        refine g_sipush (pc := 215) (128 : Int32) (by decide) W97 at_215 ?_
        refine g_icmp_ge 254 (pc := 218) W97 at_218 (by decide) (by decide) (fun c100 => ?_) (fun c100 => ?_)
        · refine g_iload (pc := 254) W97 at_254 rfl ?_
          refine g_sipush (pc := 256) (128 : Int32) (by decide) W97 at_256 ?_
          refine g_icmp_ge 306 (pc := 259) W97 at_259 (by decide) (by decide) (fun c101 => ?_) (fun c101 => ?_)
          · refine g_iconst (pc := 306) (5 : Int32) (by decide) W97 at_306 ?_
            refine g_istore (pc := 307) (ls' := #[.val (.int p0), .val (.int p1), .val (.int p2), .val (.int p3), .val (.int p4), .val (.int p5), .val (.int (1 : Int32)), .val (.int (p5 >>> ((1 : Int32) &&& 31)).toInt8.toInt32), .val (.int p0.toInt8.toInt32), .val (.int p1.toInt8.toInt32), .val (.int p2.toInt8.toInt32), .val (.int p3.toInt8.toInt32), .val (.int (p4 &&& (15 : Int32)).toInt8.toInt32), .val (.ref b1), .val (.int (p0.toInt8.toInt32 &&& (255 : Int32))), .val (.int (p1.toInt8.toInt32 &&& (255 : Int32))), .val (.int (p2.toInt8.toInt32 &&& (255 : Int32))), .val (.int (p3.toInt8.toInt32 &&& (255 : Int32))), .val (.int ((p4 &&& (15 : Int32)).toInt8.toInt32 &&& (255 : Int32))), .unset, .unset, .val (.int (5 : Int32)), .unset, .unset, .unset]) W97 at_307 rfl ?_
            refine g_iload (pc := 309) W97 at_309 rfl ?_
            refine g_bipush (pc := 311) (127 : Int32) (by decide) W97 at_311 ?_
            refine g_iand (pc := 313) W97 at_313 ?_
            refine g_i2l (pc := 314) W97 at_314 ?_
            refine g_iload (pc := 315) W97 at_315 rfl ?_
            refine g_bipush (pc := 317) (127 : Int32) (by decide) W97 at_317 ?_
            refine g_iand (pc := 319) W97 at_319 ?_
            refine g_i2l (pc := 320) W97 at_320 ?_
            refine g_ldc2_long (pc := 321) (v := (128 : Int64)) W97 (hw _ (List.mem_of_getElem? (i := 24) rfl)) at_321 ?_
            refine g_lmul (pc := 324) W97 at_324 ?_
            refine g_ladd (pc := 325) W97 at_325 ?_
            refine g_iload (pc := 326) W97 at_326 rfl ?_
            refine g_bipush (pc := 328) (127 : Int32) (by decide) W97 at_328 ?_
            refine g_iand (pc := 330) W97 at_330 ?_
            refine g_i2l (pc := 331) W97 at_331 ?_
            refine g_ldc2_long (pc := 332) (v := (16384 : Int64)) W97 (hw _ (List.mem_of_getElem? (i := 25) rfl)) at_332 ?_
            refine g_lmul (pc := 335) W97 at_335 ?_
            refine g_ladd (pc := 336) W97 at_336 ?_
            refine g_iload (pc := 337) W97 at_337 rfl ?_
            refine g_bipush (pc := 339) (127 : Int32) (by decide) W97 at_339 ?_
            refine g_iand (pc := 341) W97 at_341 ?_
            refine g_i2l (pc := 342) W97 at_342 ?_
            refine g_ldc2_long (pc := 343) (v := (2097152 : Int64)) W97 (hw _ (List.mem_of_getElem? (i := 26) rfl)) at_343 ?_
            refine g_lmul (pc := 346) W97 at_346 ?_
            refine g_ladd (pc := 347) W97 at_347 ?_
            refine g_iload (pc := 348) W97 at_348 rfl ?_
            refine g_i2l (pc := 350) W97 at_350 ?_
            refine g_ldc2_long (pc := 351) (v := (268435456 : Int64)) W97 (hw _ (List.mem_of_getElem? (i := 27) rfl)) at_351 ?_
            refine g_lmul (pc := 354) W97 at_354 ?_
            refine g_ladd (pc := 355) W97 at_355 ?_
            refine g_lstore (pc := 356) (ls' := #[.val (.int p0), .val (.int p1), .val (.int p2), .val (.int p3), .val (.int p4), .val (.int p5), .val (.int (1 : Int32)), .val (.int (p5 >>> ((1 : Int32) &&& 31)).toInt8.toInt32), .val (.int p0.toInt8.toInt32), .val (.int p1.toInt8.toInt32), .val (.int p2.toInt8.toInt32), .val (.int p3.toInt8.toInt32), .val (.int (p4 &&& (15 : Int32)).toInt8.toInt32), .val (.ref b1), .val (.int (p0.toInt8.toInt32 &&& (255 : Int32))), .val (.int (p1.toInt8.toInt32 &&& (255 : Int32))), .val (.int (p2.toInt8.toInt32 &&& (255 : Int32))), .val (.int (p3.toInt8.toInt32 &&& (255 : Int32))), .val (.int ((p4 &&& (15 : Int32)).toInt8.toInt32 &&& (255 : Int32))), .val (.long ((((((p0.toInt8.toInt32 &&& (255 : Int32)) &&& (127 : Int32)).toInt64 + (((p1.toInt8.toInt32 &&& (255 : Int32)) &&& (127 : Int32)).toInt64 * (128 : Int64))) + (((p2.toInt8.toInt32 &&& (255 : Int32)) &&& (127 : Int32)).toInt64 * (16384 : Int64))) + (((p3.toInt8.toInt32 &&& (255 : Int32)) &&& (127 : Int32)).toInt64 * (2097152 : Int64))) + (((p4 &&& (15 : Int32)).toInt8.toInt32 &&& (255 : Int32)).toInt64 * (268435456 : Int64)))), .second, .val (.int (5 : Int32)), .unset, .unset, .unset]) W97 at_356 rfl ?_
            refine g_lload (pc := 358) W97 at_358 rfl ?_
            refine g_l2i (pc := 360) W97 at_360 ?_
            refine g_istore (pc := 361) (ls' := #[.val (.int p0), .val (.int p1), .val (.int p2), .val (.int p3), .val (.int p4), .val (.int p5), .val (.int (1 : Int32)), .val (.int (p5 >>> ((1 : Int32) &&& 31)).toInt8.toInt32), .val (.int p0.toInt8.toInt32), .val (.int p1.toInt8.toInt32), .val (.int p2.toInt8.toInt32), .val (.int p3.toInt8.toInt32), .val (.int (p4 &&& (15 : Int32)).toInt8.toInt32), .val (.ref b1), .val (.int (p0.toInt8.toInt32 &&& (255 : Int32))), .val (.int (p1.toInt8.toInt32 &&& (255 : Int32))), .val (.int (p2.toInt8.toInt32 &&& (255 : Int32))), .val (.int (p3.toInt8.toInt32 &&& (255 : Int32))), .val (.int ((p4 &&& (15 : Int32)).toInt8.toInt32 &&& (255 : Int32))), .val (.long ((((((p0.toInt8.toInt32 &&& (255 : Int32)) &&& (127 : Int32)).toInt64 + (((p1.toInt8.toInt32 &&& (255 : Int32)) &&& (127 : Int32)).toInt64 * (128 : Int64))) + (((p2.toInt8.toInt32 &&& (255 : Int32)) &&& (127 : Int32)).toInt64 * (16384 : Int64))) + (((p3.toInt8.toInt32 &&& (255 : Int32)) &&& (127 : Int32)).toInt64 * (2097152 : Int64))) + (((p4 &&& (15 : Int32)).toInt8.toInt32 &&& (255 : Int32)).toInt64 * (268435456 : Int64)))), .second, .val (.int (5 : Int32)), .val (.int ((((((p0.toInt8.toInt32 &&& (255 : Int32)) &&& (127 : Int32)).toInt64 + (((p1.toInt8.toInt32 &&& (255 : Int32)) &&& (127 : Int32)).toInt64 * (128 : Int64))) + (((p2.toInt8.toInt32 &&& (255 : Int32)) &&& (127 : Int32)).toInt64 * (16384 : Int64))) + (((p3.toInt8.toInt32 &&& (255 : Int32)) &&& (127 : Int32)).toInt64 * (2097152 : Int64))) + (((p4 &&& (15 : Int32)).toInt8.toInt32 &&& (255 : Int32)).toInt64 * (268435456 : Int64))).toInt32), .unset, .unset]) W97 at_361 rfl ?_
            refine g_new (pc := 363) (vs := [.null, .int (0 : Int32)]) W97 (hw _ (List.mem_of_getElem? (i := 1) rfl)) (hw _ (List.mem_of_getElem? (i := 2) rfl)) (hw _ (List.mem_of_getElem? (i := 3) rfl)) (cls_ByteCursor hw) (by decide) at_363 (by decide) (by decide) (fun T103 b102 W104 => ?_)
            have W105 := W104.re (os' := [(b1, (.array .byte), [.int (p5 >>> ((1 : Int32) &&& 31)).toInt8.toInt32, .int p0.toInt8.toInt32, .int p1.toInt8.toInt32, .int p2.toInt8.toInt32, .int p3.toInt8.toInt32, .int (p4 &&& (15 : Int32)).toInt8.toInt32]), (b102, (.object "com/example/attestry/attestry/home/ByteCursor"), [.null, .int (0 : Int32)])]) rfl
            refine g_dup (pc := 366) W105 at_366 rfl ?_
            refine g_aload (pc := 367) W105 at_367 rfl rfl ?_
            refine g_iload (pc := 369) W105 at_369 rfl ?_
            refine g_init (pc := 371) (Wt := 1) (argsL := [.ref b1, .int (1 : Int32)]) (rest := [.ref b102]) (loc := [(b102, (.object "com/example/attestry/attestry/home/ByteCursor"), [.null, .int (0 : Int32)])]) (rst := [(b1, (.array .byte), [.int (p5 >>> ((1 : Int32) &&& 31)).toInt8.toInt32, .int p0.toInt8.toInt32, .int p1.toInt8.toInt32, .int p2.toInt8.toInt32, .int p3.toInt8.toInt32, .int (p4 &&& (15 : Int32)).toInt8.toInt32])]) W105 rfl (hw _ (List.mem_of_getElem? (i := 4) rfl)) (hw _ (List.mem_of_getElem? (i := 5) rfl)) (hw _ (List.mem_of_getElem? (i := 3) rfl)) (hw _ (List.mem_of_getElem? (i := 6) rfl)) (by decide) (c_init l Z a0 hw b102 b1 (1 : Int32)) ⟨[1, 0], by decide, rfl⟩ rfl pd_ABI__V rfl rfl rfl (Nat.le_of_ble_eq_true rfl) (by decide) (by decide) (by decide) (by decide) at_371 ?_
            rintro T106 _ _ ⟨rfl, rfl⟩ W107
            have W108 := W107.re (os' := [(b102, (.object "com/example/attestry/attestry/home/ByteCursor"), [.ref b1, .int (1 : Int32)]), (b1, (.array .byte), [.int (p5 >>> ((1 : Int32) &&& 31)).toInt8.toInt32, .int p0.toInt8.toInt32, .int p1.toInt8.toInt32, .int p2.toInt8.toInt32, .int p3.toInt8.toInt32, .int (p4 &&& (15 : Int32)).toInt8.toInt32])]) rfl
            show Go p_ e_ bl_ _ (T106.setTop (mkF m_ 374 #[.val (.int p0), .val (.int p1), .val (.int p2), .val (.int p3), .val (.int p4), .val (.int p5), .val (.int (1 : Int32)), .val (.int (p5 >>> ((1 : Int32) &&& 31)).toInt8.toInt32), .val (.int p0.toInt8.toInt32), .val (.int p1.toInt8.toInt32), .val (.int p2.toInt8.toInt32), .val (.int p3.toInt8.toInt32), .val (.int (p4 &&& (15 : Int32)).toInt8.toInt32), .val (.ref b1), .val (.int (p0.toInt8.toInt32 &&& (255 : Int32))), .val (.int (p1.toInt8.toInt32 &&& (255 : Int32))), .val (.int (p2.toInt8.toInt32 &&& (255 : Int32))), .val (.int (p3.toInt8.toInt32 &&& (255 : Int32))), .val (.int ((p4 &&& (15 : Int32)).toInt8.toInt32 &&& (255 : Int32))), .val (.long ((((((p0.toInt8.toInt32 &&& (255 : Int32)) &&& (127 : Int32)).toInt64 + (((p1.toInt8.toInt32 &&& (255 : Int32)) &&& (127 : Int32)).toInt64 * (128 : Int64))) + (((p2.toInt8.toInt32 &&& (255 : Int32)) &&& (127 : Int32)).toInt64 * (16384 : Int64))) + (((p3.toInt8.toInt32 &&& (255 : Int32)) &&& (127 : Int32)).toInt64 * (2097152 : Int64))) + (((p4 &&& (15 : Int32)).toInt8.toInt32 &&& (255 : Int32)).toInt64 * (268435456 : Int64)))), .second, .val (.int (5 : Int32)), .val (.int ((((((p0.toInt8.toInt32 &&& (255 : Int32)) &&& (127 : Int32)).toInt64 + (((p1.toInt8.toInt32 &&& (255 : Int32)) &&& (127 : Int32)).toInt64 * (128 : Int64))) + (((p2.toInt8.toInt32 &&& (255 : Int32)) &&& (127 : Int32)).toInt64 * (16384 : Int64))) + (((p3.toInt8.toInt32 &&& (255 : Int32)) &&& (127 : Int32)).toInt64 * (2097152 : Int64))) + (((p4 &&& (15 : Int32)).toInt8.toInt32 &&& (255 : Int32)).toInt64 * (268435456 : Int64))).toInt32), .unset, .unset] [.ref b102]))
            refine g_astore (pc := 374) (ls' := #[.val (.int p0), .val (.int p1), .val (.int p2), .val (.int p3), .val (.int p4), .val (.int p5), .val (.int (1 : Int32)), .val (.int (p5 >>> ((1 : Int32) &&& 31)).toInt8.toInt32), .val (.int p0.toInt8.toInt32), .val (.int p1.toInt8.toInt32), .val (.int p2.toInt8.toInt32), .val (.int p3.toInt8.toInt32), .val (.int (p4 &&& (15 : Int32)).toInt8.toInt32), .val (.ref b1), .val (.int (p0.toInt8.toInt32 &&& (255 : Int32))), .val (.int (p1.toInt8.toInt32 &&& (255 : Int32))), .val (.int (p2.toInt8.toInt32 &&& (255 : Int32))), .val (.int (p3.toInt8.toInt32 &&& (255 : Int32))), .val (.int ((p4 &&& (15 : Int32)).toInt8.toInt32 &&& (255 : Int32))), .val (.long ((((((p0.toInt8.toInt32 &&& (255 : Int32)) &&& (127 : Int32)).toInt64 + (((p1.toInt8.toInt32 &&& (255 : Int32)) &&& (127 : Int32)).toInt64 * (128 : Int64))) + (((p2.toInt8.toInt32 &&& (255 : Int32)) &&& (127 : Int32)).toInt64 * (16384 : Int64))) + (((p3.toInt8.toInt32 &&& (255 : Int32)) &&& (127 : Int32)).toInt64 * (2097152 : Int64))) + (((p4 &&& (15 : Int32)).toInt8.toInt32 &&& (255 : Int32)).toInt64 * (268435456 : Int64)))), .second, .val (.int (5 : Int32)), .val (.int ((((((p0.toInt8.toInt32 &&& (255 : Int32)) &&& (127 : Int32)).toInt64 + (((p1.toInt8.toInt32 &&& (255 : Int32)) &&& (127 : Int32)).toInt64 * (128 : Int64))) + (((p2.toInt8.toInt32 &&& (255 : Int32)) &&& (127 : Int32)).toInt64 * (16384 : Int64))) + (((p3.toInt8.toInt32 &&& (255 : Int32)) &&& (127 : Int32)).toInt64 * (2097152 : Int64))) + (((p4 &&& (15 : Int32)).toInt8.toInt32 &&& (255 : Int32)).toInt64 * (268435456 : Int64))).toInt32), .val (.ref b102), .unset]) W108 at_374 rfl rfl ?_
            refine g_aload (pc := 376) W108 at_376 rfl rfl ?_
            refine g_virtual (i := 0) (pc := 378) (Wt := 0) (argsL := []) (rest := []) (loc := [(b102, (.object "com/example/attestry/attestry/home/ByteCursor"), [.ref b1, .int (1 : Int32)]), (b1, (.array .byte), [.int (p5 >>> ((1 : Int32) &&& 31)).toInt8.toInt32, .int p0.toInt8.toInt32, .int p1.toInt8.toInt32, .int p2.toInt8.toInt32, .int p3.toInt8.toInt32, .int (p4 &&& (15 : Int32)).toInt8.toInt32])]) (rst := []) W108 (hw _ (List.mem_of_getElem? (i := 14) rfl)) (hw _ (List.mem_of_getElem? (i := 16) rfl)) (hw _ (List.mem_of_getElem? (i := 3) rfl)) (hw _ (List.mem_of_getElem? (i := 18) rfl)) (hw _ (List.mem_of_getElem? (i := 15) rfl)) (hw _ (List.mem_of_getElem? (i := 17) rfl)) rfl (by decide) (c_wh15 l Z a0 hw b102 b1 (p5 >>> ((1 : Int32) &&& 31)).toInt8.toInt32 p0.toInt8.toInt32 p1.toInt8.toInt32 p2.toInt8.toInt32 p3.toInt8.toInt32 (p4 &&& (15 : Int32)).toInt8.toInt32 (own_y c98) (own_y c99) (own_y c100) (own_y c101) (own_15 p4)) ⟨[0, 1], by decide, rfl⟩ rfl pd___I rfl rfl rfl (Nat.le_of_ble_eq_true rfl) (by decide) (by decide) (by decide) (by decide) at_378 ?_
            rintro T109 _ _ ⟨rfl, rfl⟩ W110
            have W111 := W110.re (os' := [(b102, (.object "com/example/attestry/attestry/home/ByteCursor"), [.ref b1, .int (6 : Int32)]), (b1, (.array .byte), [.int (p5 >>> ((1 : Int32) &&& 31)).toInt8.toInt32, .int p0.toInt8.toInt32, .int p1.toInt8.toInt32, .int p2.toInt8.toInt32, .int p3.toInt8.toInt32, .int (p4 &&& (15 : Int32)).toInt8.toInt32])]) rfl
            show Go p_ e_ bl_ _ (T109.setTop (mkF m_ 381 #[.val (.int p0), .val (.int p1), .val (.int p2), .val (.int p3), .val (.int p4), .val (.int p5), .val (.int (1 : Int32)), .val (.int (p5 >>> ((1 : Int32) &&& 31)).toInt8.toInt32), .val (.int p0.toInt8.toInt32), .val (.int p1.toInt8.toInt32), .val (.int p2.toInt8.toInt32), .val (.int p3.toInt8.toInt32), .val (.int (p4 &&& (15 : Int32)).toInt8.toInt32), .val (.ref b1), .val (.int (p0.toInt8.toInt32 &&& (255 : Int32))), .val (.int (p1.toInt8.toInt32 &&& (255 : Int32))), .val (.int (p2.toInt8.toInt32 &&& (255 : Int32))), .val (.int (p3.toInt8.toInt32 &&& (255 : Int32))), .val (.int ((p4 &&& (15 : Int32)).toInt8.toInt32 &&& (255 : Int32))), .val (.long ((((((p0.toInt8.toInt32 &&& (255 : Int32)) &&& (127 : Int32)).toInt64 + (((p1.toInt8.toInt32 &&& (255 : Int32)) &&& (127 : Int32)).toInt64 * (128 : Int64))) + (((p2.toInt8.toInt32 &&& (255 : Int32)) &&& (127 : Int32)).toInt64 * (16384 : Int64))) + (((p3.toInt8.toInt32 &&& (255 : Int32)) &&& (127 : Int32)).toInt64 * (2097152 : Int64))) + (((p4 &&& (15 : Int32)).toInt8.toInt32 &&& (255 : Int32)).toInt64 * (268435456 : Int64)))), .second, .val (.int (5 : Int32)), .val (.int ((((((p0.toInt8.toInt32 &&& (255 : Int32)) &&& (127 : Int32)).toInt64 + (((p1.toInt8.toInt32 &&& (255 : Int32)) &&& (127 : Int32)).toInt64 * (128 : Int64))) + (((p2.toInt8.toInt32 &&& (255 : Int32)) &&& (127 : Int32)).toInt64 * (16384 : Int64))) + (((p3.toInt8.toInt32 &&& (255 : Int32)) &&& (127 : Int32)).toInt64 * (2097152 : Int64))) + (((p4 &&& (15 : Int32)).toInt8.toInt32 &&& (255 : Int32)).toInt64 * (268435456 : Int64))).toInt32), .val (.ref b102), .unset] [.int ((((((0 : Int32) ||| ((p0.toInt8.toInt32 &&& (127 : Int32)) <<< ((0 : Int32) &&& 31))) ||| ((p1.toInt8.toInt32 &&& (127 : Int32)) <<< ((7 : Int32) &&& 31))) ||| ((p2.toInt8.toInt32 &&& (127 : Int32)) <<< ((14 : Int32) &&& 31))) ||| ((p3.toInt8.toInt32 &&& (127 : Int32)) <<< ((21 : Int32) &&& 31))) ||| (((p4 &&& (15 : Int32)).toInt8.toInt32 &&& (127 : Int32)) <<< ((28 : Int32) &&& 31)))]))
            refine g_istore (pc := 381) (ls' := #[.val (.int p0), .val (.int p1), .val (.int p2), .val (.int p3), .val (.int p4), .val (.int p5), .val (.int (1 : Int32)), .val (.int (p5 >>> ((1 : Int32) &&& 31)).toInt8.toInt32), .val (.int p0.toInt8.toInt32), .val (.int p1.toInt8.toInt32), .val (.int p2.toInt8.toInt32), .val (.int p3.toInt8.toInt32), .val (.int (p4 &&& (15 : Int32)).toInt8.toInt32), .val (.ref b1), .val (.int (p0.toInt8.toInt32 &&& (255 : Int32))), .val (.int (p1.toInt8.toInt32 &&& (255 : Int32))), .val (.int (p2.toInt8.toInt32 &&& (255 : Int32))), .val (.int (p3.toInt8.toInt32 &&& (255 : Int32))), .val (.int ((p4 &&& (15 : Int32)).toInt8.toInt32 &&& (255 : Int32))), .val (.long ((((((p0.toInt8.toInt32 &&& (255 : Int32)) &&& (127 : Int32)).toInt64 + (((p1.toInt8.toInt32 &&& (255 : Int32)) &&& (127 : Int32)).toInt64 * (128 : Int64))) + (((p2.toInt8.toInt32 &&& (255 : Int32)) &&& (127 : Int32)).toInt64 * (16384 : Int64))) + (((p3.toInt8.toInt32 &&& (255 : Int32)) &&& (127 : Int32)).toInt64 * (2097152 : Int64))) + (((p4 &&& (15 : Int32)).toInt8.toInt32 &&& (255 : Int32)).toInt64 * (268435456 : Int64)))), .second, .val (.int (5 : Int32)), .val (.int ((((((p0.toInt8.toInt32 &&& (255 : Int32)) &&& (127 : Int32)).toInt64 + (((p1.toInt8.toInt32 &&& (255 : Int32)) &&& (127 : Int32)).toInt64 * (128 : Int64))) + (((p2.toInt8.toInt32 &&& (255 : Int32)) &&& (127 : Int32)).toInt64 * (16384 : Int64))) + (((p3.toInt8.toInt32 &&& (255 : Int32)) &&& (127 : Int32)).toInt64 * (2097152 : Int64))) + (((p4 &&& (15 : Int32)).toInt8.toInt32 &&& (255 : Int32)).toInt64 * (268435456 : Int64))).toInt32), .val (.ref b102), .val (.int ((((((0 : Int32) ||| ((p0.toInt8.toInt32 &&& (127 : Int32)) <<< ((0 : Int32) &&& 31))) ||| ((p1.toInt8.toInt32 &&& (127 : Int32)) <<< ((7 : Int32) &&& 31))) ||| ((p2.toInt8.toInt32 &&& (127 : Int32)) <<< ((14 : Int32) &&& 31))) ||| ((p3.toInt8.toInt32 &&& (127 : Int32)) <<< ((21 : Int32) &&& 31))) ||| (((p4 &&& (15 : Int32)).toInt8.toInt32 &&& (127 : Int32)) <<< ((28 : Int32) &&& 31))))]) W111 at_381 rfl ?_
            refine g_iload (pc := 383) W111 at_383 rfl ?_
            refine g_iload (pc := 385) W111 at_385 rfl ?_
            refine g_icmpN (pc := 387) W111 at_387 (teq (own_e5 p0.toInt8.toInt32 p1.toInt8.toInt32 p2.toInt8.toInt32 p3.toInt8.toInt32 (p4 &&& (15 : Int32)).toInt8.toInt32 (own_16 p4).1 (own_16 p4).2)).2 ?_
            refine g_aload (pc := 390) W111 at_390 rfl rfl ?_
            refine g_virtual (i := 0) (pc := 392) (Wt := 0) (argsL := []) (rest := []) (loc := [(b102, (.object "com/example/attestry/attestry/home/ByteCursor"), [.ref b1, .int (6 : Int32)])]) (rst := [(b1, (.array .byte), [.int (p5 >>> ((1 : Int32) &&& 31)).toInt8.toInt32, .int p0.toInt8.toInt32, .int p1.toInt8.toInt32, .int p2.toInt8.toInt32, .int p3.toInt8.toInt32, .int (p4 &&& (15 : Int32)).toInt8.toInt32])]) W111 (hw _ (List.mem_of_getElem? (i := 19) rfl)) (hw _ (List.mem_of_getElem? (i := 21) rfl)) (hw _ (List.mem_of_getElem? (i := 3) rfl)) (hw _ (List.mem_of_getElem? (i := 23) rfl)) (hw _ (List.mem_of_getElem? (i := 20) rfl)) (hw _ (List.mem_of_getElem? (i := 22) rfl)) rfl (by decide) (c_at l Z a0 hw b102 b1 (6 : Int32)) ⟨[0, 1], by decide, rfl⟩ rfl pd___I rfl rfl rfl (Nat.le_of_ble_eq_true rfl) (by decide) (by decide) (by decide) (by decide) at_392 ?_
            rintro T112 _ _ ⟨rfl, rfl⟩ W113
            have W114 := W113.re (os' := [(b102, (.object "com/example/attestry/attestry/home/ByteCursor"), [.ref b1, .int (6 : Int32)]), (b1, (.array .byte), [.int (p5 >>> ((1 : Int32) &&& 31)).toInt8.toInt32, .int p0.toInt8.toInt32, .int p1.toInt8.toInt32, .int p2.toInt8.toInt32, .int p3.toInt8.toInt32, .int (p4 &&& (15 : Int32)).toInt8.toInt32])]) rfl
            show Go p_ e_ bl_ _ (T112.setTop (mkF m_ 395 #[.val (.int p0), .val (.int p1), .val (.int p2), .val (.int p3), .val (.int p4), .val (.int p5), .val (.int (1 : Int32)), .val (.int (p5 >>> ((1 : Int32) &&& 31)).toInt8.toInt32), .val (.int p0.toInt8.toInt32), .val (.int p1.toInt8.toInt32), .val (.int p2.toInt8.toInt32), .val (.int p3.toInt8.toInt32), .val (.int (p4 &&& (15 : Int32)).toInt8.toInt32), .val (.ref b1), .val (.int (p0.toInt8.toInt32 &&& (255 : Int32))), .val (.int (p1.toInt8.toInt32 &&& (255 : Int32))), .val (.int (p2.toInt8.toInt32 &&& (255 : Int32))), .val (.int (p3.toInt8.toInt32 &&& (255 : Int32))), .val (.int ((p4 &&& (15 : Int32)).toInt8.toInt32 &&& (255 : Int32))), .val (.long ((((((p0.toInt8.toInt32 &&& (255 : Int32)) &&& (127 : Int32)).toInt64 + (((p1.toInt8.toInt32 &&& (255 : Int32)) &&& (127 : Int32)).toInt64 * (128 : Int64))) + (((p2.toInt8.toInt32 &&& (255 : Int32)) &&& (127 : Int32)).toInt64 * (16384 : Int64))) + (((p3.toInt8.toInt32 &&& (255 : Int32)) &&& (127 : Int32)).toInt64 * (2097152 : Int64))) + (((p4 &&& (15 : Int32)).toInt8.toInt32 &&& (255 : Int32)).toInt64 * (268435456 : Int64)))), .second, .val (.int (5 : Int32)), .val (.int ((((((p0.toInt8.toInt32 &&& (255 : Int32)) &&& (127 : Int32)).toInt64 + (((p1.toInt8.toInt32 &&& (255 : Int32)) &&& (127 : Int32)).toInt64 * (128 : Int64))) + (((p2.toInt8.toInt32 &&& (255 : Int32)) &&& (127 : Int32)).toInt64 * (16384 : Int64))) + (((p3.toInt8.toInt32 &&& (255 : Int32)) &&& (127 : Int32)).toInt64 * (2097152 : Int64))) + (((p4 &&& (15 : Int32)).toInt8.toInt32 &&& (255 : Int32)).toInt64 * (268435456 : Int64))).toInt32), .val (.ref b102), .val (.int ((((((0 : Int32) ||| ((p0.toInt8.toInt32 &&& (127 : Int32)) <<< ((0 : Int32) &&& 31))) ||| ((p1.toInt8.toInt32 &&& (127 : Int32)) <<< ((7 : Int32) &&& 31))) ||| ((p2.toInt8.toInt32 &&& (127 : Int32)) <<< ((14 : Int32) &&& 31))) ||| ((p3.toInt8.toInt32 &&& (127 : Int32)) <<< ((21 : Int32) &&& 31))) ||| (((p4 &&& (15 : Int32)).toInt8.toInt32 &&& (127 : Int32)) <<< ((28 : Int32) &&& 31))))] [.int (6 : Int32)]))
            refine g_iload (pc := 395) W114 at_395 rfl ?_
            refine g_iload (pc := 397) W114 at_397 rfl ?_
            refine g_iadd (pc := 399) W114 at_399 ?_
            show Go p_ e_ bl_ _ (T112.setTop (mkF m_ 400 #[.val (.int p0), .val (.int p1), .val (.int p2), .val (.int p3), .val (.int p4), .val (.int p5), .val (.int (1 : Int32)), .val (.int (p5 >>> ((1 : Int32) &&& 31)).toInt8.toInt32), .val (.int p0.toInt8.toInt32), .val (.int p1.toInt8.toInt32), .val (.int p2.toInt8.toInt32), .val (.int p3.toInt8.toInt32), .val (.int (p4 &&& (15 : Int32)).toInt8.toInt32), .val (.ref b1), .val (.int (p0.toInt8.toInt32 &&& (255 : Int32))), .val (.int (p1.toInt8.toInt32 &&& (255 : Int32))), .val (.int (p2.toInt8.toInt32 &&& (255 : Int32))), .val (.int (p3.toInt8.toInt32 &&& (255 : Int32))), .val (.int ((p4 &&& (15 : Int32)).toInt8.toInt32 &&& (255 : Int32))), .val (.long ((((((p0.toInt8.toInt32 &&& (255 : Int32)) &&& (127 : Int32)).toInt64 + (((p1.toInt8.toInt32 &&& (255 : Int32)) &&& (127 : Int32)).toInt64 * (128 : Int64))) + (((p2.toInt8.toInt32 &&& (255 : Int32)) &&& (127 : Int32)).toInt64 * (16384 : Int64))) + (((p3.toInt8.toInt32 &&& (255 : Int32)) &&& (127 : Int32)).toInt64 * (2097152 : Int64))) + (((p4 &&& (15 : Int32)).toInt8.toInt32 &&& (255 : Int32)).toInt64 * (268435456 : Int64)))), .second, .val (.int (5 : Int32)), .val (.int ((((((p0.toInt8.toInt32 &&& (255 : Int32)) &&& (127 : Int32)).toInt64 + (((p1.toInt8.toInt32 &&& (255 : Int32)) &&& (127 : Int32)).toInt64 * (128 : Int64))) + (((p2.toInt8.toInt32 &&& (255 : Int32)) &&& (127 : Int32)).toInt64 * (16384 : Int64))) + (((p3.toInt8.toInt32 &&& (255 : Int32)) &&& (127 : Int32)).toInt64 * (2097152 : Int64))) + (((p4 &&& (15 : Int32)).toInt8.toInt32 &&& (255 : Int32)).toInt64 * (268435456 : Int64))).toInt32), .val (.ref b102), .val (.int ((((((0 : Int32) ||| ((p0.toInt8.toInt32 &&& (127 : Int32)) <<< ((0 : Int32) &&& 31))) ||| ((p1.toInt8.toInt32 &&& (127 : Int32)) <<< ((7 : Int32) &&& 31))) ||| ((p2.toInt8.toInt32 &&& (127 : Int32)) <<< ((14 : Int32) &&& 31))) ||| ((p3.toInt8.toInt32 &&& (127 : Int32)) <<< ((21 : Int32) &&& 31))) ||| (((p4 &&& (15 : Int32)).toInt8.toInt32 &&& (127 : Int32)) <<< ((28 : Int32) &&& 31))))] [.int (6 : Int32), .int (6 : Int32)]))
            refine g_icmpN (pc := 400) W114 at_400 (by decide) ?_
            refine g_iconst (pc := 403) (1 : Int32) (by decide) W114 at_403 ?_
            refine g_goto 408 (pc := 404) W114 at_404 (by decide) (by decide) ?_
            exact g_zreturn (pc := 408) rfl (by decide) W114 at_408 (by decide) (by decide) rfl
          · refine g_iconst (pc := 262) (4 : Int32) (by decide) W97 at_262 ?_
            refine g_istore (pc := 263) (ls' := #[.val (.int p0), .val (.int p1), .val (.int p2), .val (.int p3), .val (.int p4), .val (.int p5), .val (.int (1 : Int32)), .val (.int (p5 >>> ((1 : Int32) &&& 31)).toInt8.toInt32), .val (.int p0.toInt8.toInt32), .val (.int p1.toInt8.toInt32), .val (.int p2.toInt8.toInt32), .val (.int p3.toInt8.toInt32), .val (.int (p4 &&& (15 : Int32)).toInt8.toInt32), .val (.ref b1), .val (.int (p0.toInt8.toInt32 &&& (255 : Int32))), .val (.int (p1.toInt8.toInt32 &&& (255 : Int32))), .val (.int (p2.toInt8.toInt32 &&& (255 : Int32))), .val (.int (p3.toInt8.toInt32 &&& (255 : Int32))), .val (.int ((p4 &&& (15 : Int32)).toInt8.toInt32 &&& (255 : Int32))), .unset, .unset, .val (.int (4 : Int32)), .unset, .unset, .unset]) W97 at_263 rfl ?_
            refine g_iload (pc := 265) W97 at_265 rfl ?_
            refine g_bipush (pc := 267) (127 : Int32) (by decide) W97 at_267 ?_
            refine g_iand (pc := 269) W97 at_269 ?_
            refine g_i2l (pc := 270) W97 at_270 ?_
            refine g_iload (pc := 271) W97 at_271 rfl ?_
            refine g_bipush (pc := 273) (127 : Int32) (by decide) W97 at_273 ?_
            refine g_iand (pc := 275) W97 at_275 ?_
            refine g_i2l (pc := 276) W97 at_276 ?_
            refine g_ldc2_long (pc := 277) (v := (128 : Int64)) W97 (hw _ (List.mem_of_getElem? (i := 24) rfl)) at_277 ?_
            refine g_lmul (pc := 280) W97 at_280 ?_
            refine g_ladd (pc := 281) W97 at_281 ?_
            refine g_iload (pc := 282) W97 at_282 rfl ?_
            refine g_bipush (pc := 284) (127 : Int32) (by decide) W97 at_284 ?_
            refine g_iand (pc := 286) W97 at_286 ?_
            refine g_i2l (pc := 287) W97 at_287 ?_
            refine g_ldc2_long (pc := 288) (v := (16384 : Int64)) W97 (hw _ (List.mem_of_getElem? (i := 25) rfl)) at_288 ?_
            refine g_lmul (pc := 291) W97 at_291 ?_
            refine g_ladd (pc := 292) W97 at_292 ?_
            refine g_iload (pc := 293) W97 at_293 rfl ?_
            refine g_i2l (pc := 295) W97 at_295 ?_
            refine g_ldc2_long (pc := 296) (v := (2097152 : Int64)) W97 (hw _ (List.mem_of_getElem? (i := 26) rfl)) at_296 ?_
            refine g_lmul (pc := 299) W97 at_299 ?_
            refine g_ladd (pc := 300) W97 at_300 ?_
            refine g_lstore (pc := 301) (ls' := #[.val (.int p0), .val (.int p1), .val (.int p2), .val (.int p3), .val (.int p4), .val (.int p5), .val (.int (1 : Int32)), .val (.int (p5 >>> ((1 : Int32) &&& 31)).toInt8.toInt32), .val (.int p0.toInt8.toInt32), .val (.int p1.toInt8.toInt32), .val (.int p2.toInt8.toInt32), .val (.int p3.toInt8.toInt32), .val (.int (p4 &&& (15 : Int32)).toInt8.toInt32), .val (.ref b1), .val (.int (p0.toInt8.toInt32 &&& (255 : Int32))), .val (.int (p1.toInt8.toInt32 &&& (255 : Int32))), .val (.int (p2.toInt8.toInt32 &&& (255 : Int32))), .val (.int (p3.toInt8.toInt32 &&& (255 : Int32))), .val (.int ((p4 &&& (15 : Int32)).toInt8.toInt32 &&& (255 : Int32))), .val (.long (((((p0.toInt8.toInt32 &&& (255 : Int32)) &&& (127 : Int32)).toInt64 + (((p1.toInt8.toInt32 &&& (255 : Int32)) &&& (127 : Int32)).toInt64 * (128 : Int64))) + (((p2.toInt8.toInt32 &&& (255 : Int32)) &&& (127 : Int32)).toInt64 * (16384 : Int64))) + ((p3.toInt8.toInt32 &&& (255 : Int32)).toInt64 * (2097152 : Int64)))), .second, .val (.int (4 : Int32)), .unset, .unset, .unset]) W97 at_301 rfl ?_
            refine g_goto 358 (pc := 303) W97 at_303 (by decide) (by decide) ?_
            refine g_lload (pc := 358) W97 at_358 rfl ?_
            refine g_l2i (pc := 360) W97 at_360 ?_
            refine g_istore (pc := 361) (ls' := #[.val (.int p0), .val (.int p1), .val (.int p2), .val (.int p3), .val (.int p4), .val (.int p5), .val (.int (1 : Int32)), .val (.int (p5 >>> ((1 : Int32) &&& 31)).toInt8.toInt32), .val (.int p0.toInt8.toInt32), .val (.int p1.toInt8.toInt32), .val (.int p2.toInt8.toInt32), .val (.int p3.toInt8.toInt32), .val (.int (p4 &&& (15 : Int32)).toInt8.toInt32), .val (.ref b1), .val (.int (p0.toInt8.toInt32 &&& (255 : Int32))), .val (.int (p1.toInt8.toInt32 &&& (255 : Int32))), .val (.int (p2.toInt8.toInt32 &&& (255 : Int32))), .val (.int (p3.toInt8.toInt32 &&& (255 : Int32))), .val (.int ((p4 &&& (15 : Int32)).toInt8.toInt32 &&& (255 : Int32))), .val (.long (((((p0.toInt8.toInt32 &&& (255 : Int32)) &&& (127 : Int32)).toInt64 + (((p1.toInt8.toInt32 &&& (255 : Int32)) &&& (127 : Int32)).toInt64 * (128 : Int64))) + (((p2.toInt8.toInt32 &&& (255 : Int32)) &&& (127 : Int32)).toInt64 * (16384 : Int64))) + ((p3.toInt8.toInt32 &&& (255 : Int32)).toInt64 * (2097152 : Int64)))), .second, .val (.int (4 : Int32)), .val (.int (((((p0.toInt8.toInt32 &&& (255 : Int32)) &&& (127 : Int32)).toInt64 + (((p1.toInt8.toInt32 &&& (255 : Int32)) &&& (127 : Int32)).toInt64 * (128 : Int64))) + (((p2.toInt8.toInt32 &&& (255 : Int32)) &&& (127 : Int32)).toInt64 * (16384 : Int64))) + ((p3.toInt8.toInt32 &&& (255 : Int32)).toInt64 * (2097152 : Int64))).toInt32), .unset, .unset]) W97 at_361 rfl ?_
            refine g_new (pc := 363) (vs := [.null, .int (0 : Int32)]) W97 (hw _ (List.mem_of_getElem? (i := 1) rfl)) (hw _ (List.mem_of_getElem? (i := 2) rfl)) (hw _ (List.mem_of_getElem? (i := 3) rfl)) (cls_ByteCursor hw) (by decide) at_363 (by decide) (by decide) (fun T116 b115 W117 => ?_)
            have W118 := W117.re (os' := [(b1, (.array .byte), [.int (p5 >>> ((1 : Int32) &&& 31)).toInt8.toInt32, .int p0.toInt8.toInt32, .int p1.toInt8.toInt32, .int p2.toInt8.toInt32, .int p3.toInt8.toInt32, .int (p4 &&& (15 : Int32)).toInt8.toInt32]), (b115, (.object "com/example/attestry/attestry/home/ByteCursor"), [.null, .int (0 : Int32)])]) rfl
            refine g_dup (pc := 366) W118 at_366 rfl ?_
            refine g_aload (pc := 367) W118 at_367 rfl rfl ?_
            refine g_iload (pc := 369) W118 at_369 rfl ?_
            refine g_init (pc := 371) (Wt := 1) (argsL := [.ref b1, .int (1 : Int32)]) (rest := [.ref b115]) (loc := [(b115, (.object "com/example/attestry/attestry/home/ByteCursor"), [.null, .int (0 : Int32)])]) (rst := [(b1, (.array .byte), [.int (p5 >>> ((1 : Int32) &&& 31)).toInt8.toInt32, .int p0.toInt8.toInt32, .int p1.toInt8.toInt32, .int p2.toInt8.toInt32, .int p3.toInt8.toInt32, .int (p4 &&& (15 : Int32)).toInt8.toInt32])]) W118 rfl (hw _ (List.mem_of_getElem? (i := 4) rfl)) (hw _ (List.mem_of_getElem? (i := 5) rfl)) (hw _ (List.mem_of_getElem? (i := 3) rfl)) (hw _ (List.mem_of_getElem? (i := 6) rfl)) (by decide) (c_init l Z a0 hw b115 b1 (1 : Int32)) ⟨[1, 0], by decide, rfl⟩ rfl pd_ABI__V rfl rfl rfl (Nat.le_of_ble_eq_true rfl) (by decide) (by decide) (by decide) (by decide) at_371 ?_
            rintro T119 _ _ ⟨rfl, rfl⟩ W120
            have W121 := W120.re (os' := [(b115, (.object "com/example/attestry/attestry/home/ByteCursor"), [.ref b1, .int (1 : Int32)]), (b1, (.array .byte), [.int (p5 >>> ((1 : Int32) &&& 31)).toInt8.toInt32, .int p0.toInt8.toInt32, .int p1.toInt8.toInt32, .int p2.toInt8.toInt32, .int p3.toInt8.toInt32, .int (p4 &&& (15 : Int32)).toInt8.toInt32])]) rfl
            show Go p_ e_ bl_ _ (T119.setTop (mkF m_ 374 #[.val (.int p0), .val (.int p1), .val (.int p2), .val (.int p3), .val (.int p4), .val (.int p5), .val (.int (1 : Int32)), .val (.int (p5 >>> ((1 : Int32) &&& 31)).toInt8.toInt32), .val (.int p0.toInt8.toInt32), .val (.int p1.toInt8.toInt32), .val (.int p2.toInt8.toInt32), .val (.int p3.toInt8.toInt32), .val (.int (p4 &&& (15 : Int32)).toInt8.toInt32), .val (.ref b1), .val (.int (p0.toInt8.toInt32 &&& (255 : Int32))), .val (.int (p1.toInt8.toInt32 &&& (255 : Int32))), .val (.int (p2.toInt8.toInt32 &&& (255 : Int32))), .val (.int (p3.toInt8.toInt32 &&& (255 : Int32))), .val (.int ((p4 &&& (15 : Int32)).toInt8.toInt32 &&& (255 : Int32))), .val (.long (((((p0.toInt8.toInt32 &&& (255 : Int32)) &&& (127 : Int32)).toInt64 + (((p1.toInt8.toInt32 &&& (255 : Int32)) &&& (127 : Int32)).toInt64 * (128 : Int64))) + (((p2.toInt8.toInt32 &&& (255 : Int32)) &&& (127 : Int32)).toInt64 * (16384 : Int64))) + ((p3.toInt8.toInt32 &&& (255 : Int32)).toInt64 * (2097152 : Int64)))), .second, .val (.int (4 : Int32)), .val (.int (((((p0.toInt8.toInt32 &&& (255 : Int32)) &&& (127 : Int32)).toInt64 + (((p1.toInt8.toInt32 &&& (255 : Int32)) &&& (127 : Int32)).toInt64 * (128 : Int64))) + (((p2.toInt8.toInt32 &&& (255 : Int32)) &&& (127 : Int32)).toInt64 * (16384 : Int64))) + ((p3.toInt8.toInt32 &&& (255 : Int32)).toInt64 * (2097152 : Int64))).toInt32), .unset, .unset] [.ref b115]))
            refine g_astore (pc := 374) (ls' := #[.val (.int p0), .val (.int p1), .val (.int p2), .val (.int p3), .val (.int p4), .val (.int p5), .val (.int (1 : Int32)), .val (.int (p5 >>> ((1 : Int32) &&& 31)).toInt8.toInt32), .val (.int p0.toInt8.toInt32), .val (.int p1.toInt8.toInt32), .val (.int p2.toInt8.toInt32), .val (.int p3.toInt8.toInt32), .val (.int (p4 &&& (15 : Int32)).toInt8.toInt32), .val (.ref b1), .val (.int (p0.toInt8.toInt32 &&& (255 : Int32))), .val (.int (p1.toInt8.toInt32 &&& (255 : Int32))), .val (.int (p2.toInt8.toInt32 &&& (255 : Int32))), .val (.int (p3.toInt8.toInt32 &&& (255 : Int32))), .val (.int ((p4 &&& (15 : Int32)).toInt8.toInt32 &&& (255 : Int32))), .val (.long (((((p0.toInt8.toInt32 &&& (255 : Int32)) &&& (127 : Int32)).toInt64 + (((p1.toInt8.toInt32 &&& (255 : Int32)) &&& (127 : Int32)).toInt64 * (128 : Int64))) + (((p2.toInt8.toInt32 &&& (255 : Int32)) &&& (127 : Int32)).toInt64 * (16384 : Int64))) + ((p3.toInt8.toInt32 &&& (255 : Int32)).toInt64 * (2097152 : Int64)))), .second, .val (.int (4 : Int32)), .val (.int (((((p0.toInt8.toInt32 &&& (255 : Int32)) &&& (127 : Int32)).toInt64 + (((p1.toInt8.toInt32 &&& (255 : Int32)) &&& (127 : Int32)).toInt64 * (128 : Int64))) + (((p2.toInt8.toInt32 &&& (255 : Int32)) &&& (127 : Int32)).toInt64 * (16384 : Int64))) + ((p3.toInt8.toInt32 &&& (255 : Int32)).toInt64 * (2097152 : Int64))).toInt32), .val (.ref b115), .unset]) W121 at_374 rfl rfl ?_
            refine g_aload (pc := 376) W121 at_376 rfl rfl ?_
            refine g_virtual (i := 0) (pc := 378) (Wt := 0) (argsL := []) (rest := []) (loc := [(b115, (.object "com/example/attestry/attestry/home/ByteCursor"), [.ref b1, .int (1 : Int32)]), (b1, (.array .byte), [.int (p5 >>> ((1 : Int32) &&& 31)).toInt8.toInt32, .int p0.toInt8.toInt32, .int p1.toInt8.toInt32, .int p2.toInt8.toInt32, .int p3.toInt8.toInt32, .int (p4 &&& (15 : Int32)).toInt8.toInt32])]) (rst := []) W121 (hw _ (List.mem_of_getElem? (i := 14) rfl)) (hw _ (List.mem_of_getElem? (i := 16) rfl)) (hw _ (List.mem_of_getElem? (i := 3) rfl)) (hw _ (List.mem_of_getElem? (i := 18) rfl)) (hw _ (List.mem_of_getElem? (i := 15) rfl)) (hw _ (List.mem_of_getElem? (i := 17) rfl)) rfl (by decide) (c_wh14 l Z a0 hw b115 b1 (p5 >>> ((1 : Int32) &&& 31)).toInt8.toInt32 p0.toInt8.toInt32 p1.toInt8.toInt32 p2.toInt8.toInt32 p3.toInt8.toInt32 (p4 &&& (15 : Int32)).toInt8.toInt32 (own_y c98) (own_y c99) (own_y c100) (own_n c101)) ⟨[0, 1], by decide, rfl⟩ rfl pd___I rfl rfl rfl (Nat.le_of_ble_eq_true rfl) (by decide) (by decide) (by decide) (by decide) at_378 ?_
            rintro T122 _ _ ⟨rfl, rfl⟩ W123
            have W124 := W123.re (os' := [(b115, (.object "com/example/attestry/attestry/home/ByteCursor"), [.ref b1, .int (5 : Int32)]), (b1, (.array .byte), [.int (p5 >>> ((1 : Int32) &&& 31)).toInt8.toInt32, .int p0.toInt8.toInt32, .int p1.toInt8.toInt32, .int p2.toInt8.toInt32, .int p3.toInt8.toInt32, .int (p4 &&& (15 : Int32)).toInt8.toInt32])]) rfl
            show Go p_ e_ bl_ _ (T122.setTop (mkF m_ 381 #[.val (.int p0), .val (.int p1), .val (.int p2), .val (.int p3), .val (.int p4), .val (.int p5), .val (.int (1 : Int32)), .val (.int (p5 >>> ((1 : Int32) &&& 31)).toInt8.toInt32), .val (.int p0.toInt8.toInt32), .val (.int p1.toInt8.toInt32), .val (.int p2.toInt8.toInt32), .val (.int p3.toInt8.toInt32), .val (.int (p4 &&& (15 : Int32)).toInt8.toInt32), .val (.ref b1), .val (.int (p0.toInt8.toInt32 &&& (255 : Int32))), .val (.int (p1.toInt8.toInt32 &&& (255 : Int32))), .val (.int (p2.toInt8.toInt32 &&& (255 : Int32))), .val (.int (p3.toInt8.toInt32 &&& (255 : Int32))), .val (.int ((p4 &&& (15 : Int32)).toInt8.toInt32 &&& (255 : Int32))), .val (.long (((((p0.toInt8.toInt32 &&& (255 : Int32)) &&& (127 : Int32)).toInt64 + (((p1.toInt8.toInt32 &&& (255 : Int32)) &&& (127 : Int32)).toInt64 * (128 : Int64))) + (((p2.toInt8.toInt32 &&& (255 : Int32)) &&& (127 : Int32)).toInt64 * (16384 : Int64))) + ((p3.toInt8.toInt32 &&& (255 : Int32)).toInt64 * (2097152 : Int64)))), .second, .val (.int (4 : Int32)), .val (.int (((((p0.toInt8.toInt32 &&& (255 : Int32)) &&& (127 : Int32)).toInt64 + (((p1.toInt8.toInt32 &&& (255 : Int32)) &&& (127 : Int32)).toInt64 * (128 : Int64))) + (((p2.toInt8.toInt32 &&& (255 : Int32)) &&& (127 : Int32)).toInt64 * (16384 : Int64))) + ((p3.toInt8.toInt32 &&& (255 : Int32)).toInt64 * (2097152 : Int64))).toInt32), .val (.ref b115), .unset] [.int (((((0 : Int32) ||| ((p0.toInt8.toInt32 &&& (127 : Int32)) <<< ((0 : Int32) &&& 31))) ||| ((p1.toInt8.toInt32 &&& (127 : Int32)) <<< ((7 : Int32) &&& 31))) ||| ((p2.toInt8.toInt32 &&& (127 : Int32)) <<< ((14 : Int32) &&& 31))) ||| ((p3.toInt8.toInt32 &&& (127 : Int32)) <<< ((21 : Int32) &&& 31)))]))
            refine g_istore (pc := 381) (ls' := #[.val (.int p0), .val (.int p1), .val (.int p2), .val (.int p3), .val (.int p4), .val (.int p5), .val (.int (1 : Int32)), .val (.int (p5 >>> ((1 : Int32) &&& 31)).toInt8.toInt32), .val (.int p0.toInt8.toInt32), .val (.int p1.toInt8.toInt32), .val (.int p2.toInt8.toInt32), .val (.int p3.toInt8.toInt32), .val (.int (p4 &&& (15 : Int32)).toInt8.toInt32), .val (.ref b1), .val (.int (p0.toInt8.toInt32 &&& (255 : Int32))), .val (.int (p1.toInt8.toInt32 &&& (255 : Int32))), .val (.int (p2.toInt8.toInt32 &&& (255 : Int32))), .val (.int (p3.toInt8.toInt32 &&& (255 : Int32))), .val (.int ((p4 &&& (15 : Int32)).toInt8.toInt32 &&& (255 : Int32))), .val (.long (((((p0.toInt8.toInt32 &&& (255 : Int32)) &&& (127 : Int32)).toInt64 + (((p1.toInt8.toInt32 &&& (255 : Int32)) &&& (127 : Int32)).toInt64 * (128 : Int64))) + (((p2.toInt8.toInt32 &&& (255 : Int32)) &&& (127 : Int32)).toInt64 * (16384 : Int64))) + ((p3.toInt8.toInt32 &&& (255 : Int32)).toInt64 * (2097152 : Int64)))), .second, .val (.int (4 : Int32)), .val (.int (((((p0.toInt8.toInt32 &&& (255 : Int32)) &&& (127 : Int32)).toInt64 + (((p1.toInt8.toInt32 &&& (255 : Int32)) &&& (127 : Int32)).toInt64 * (128 : Int64))) + (((p2.toInt8.toInt32 &&& (255 : Int32)) &&& (127 : Int32)).toInt64 * (16384 : Int64))) + ((p3.toInt8.toInt32 &&& (255 : Int32)).toInt64 * (2097152 : Int64))).toInt32), .val (.ref b115), .val (.int (((((0 : Int32) ||| ((p0.toInt8.toInt32 &&& (127 : Int32)) <<< ((0 : Int32) &&& 31))) ||| ((p1.toInt8.toInt32 &&& (127 : Int32)) <<< ((7 : Int32) &&& 31))) ||| ((p2.toInt8.toInt32 &&& (127 : Int32)) <<< ((14 : Int32) &&& 31))) ||| ((p3.toInt8.toInt32 &&& (127 : Int32)) <<< ((21 : Int32) &&& 31))))]) W124 at_381 rfl ?_
            refine g_iload (pc := 383) W124 at_383 rfl ?_
            refine g_iload (pc := 385) W124 at_385 rfl ?_
            refine g_icmpN (pc := 387) W124 at_387 (teq (own_e4 p0.toInt8.toInt32 p1.toInt8.toInt32 p2.toInt8.toInt32 p3.toInt8.toInt32 (by have q := c101; simp only [Int32.lt_iff_toInt_lt, own_m, Int32.reduceToInt] at q; omega))).2 ?_
            refine g_aload (pc := 390) W124 at_390 rfl rfl ?_
            refine g_virtual (i := 0) (pc := 392) (Wt := 0) (argsL := []) (rest := []) (loc := [(b115, (.object "com/example/attestry/attestry/home/ByteCursor"), [.ref b1, .int (5 : Int32)])]) (rst := [(b1, (.array .byte), [.int (p5 >>> ((1 : Int32) &&& 31)).toInt8.toInt32, .int p0.toInt8.toInt32, .int p1.toInt8.toInt32, .int p2.toInt8.toInt32, .int p3.toInt8.toInt32, .int (p4 &&& (15 : Int32)).toInt8.toInt32])]) W124 (hw _ (List.mem_of_getElem? (i := 19) rfl)) (hw _ (List.mem_of_getElem? (i := 21) rfl)) (hw _ (List.mem_of_getElem? (i := 3) rfl)) (hw _ (List.mem_of_getElem? (i := 23) rfl)) (hw _ (List.mem_of_getElem? (i := 20) rfl)) (hw _ (List.mem_of_getElem? (i := 22) rfl)) rfl (by decide) (c_at l Z a0 hw b115 b1 (5 : Int32)) ⟨[0, 1], by decide, rfl⟩ rfl pd___I rfl rfl rfl (Nat.le_of_ble_eq_true rfl) (by decide) (by decide) (by decide) (by decide) at_392 ?_
            rintro T125 _ _ ⟨rfl, rfl⟩ W126
            have W127 := W126.re (os' := [(b115, (.object "com/example/attestry/attestry/home/ByteCursor"), [.ref b1, .int (5 : Int32)]), (b1, (.array .byte), [.int (p5 >>> ((1 : Int32) &&& 31)).toInt8.toInt32, .int p0.toInt8.toInt32, .int p1.toInt8.toInt32, .int p2.toInt8.toInt32, .int p3.toInt8.toInt32, .int (p4 &&& (15 : Int32)).toInt8.toInt32])]) rfl
            show Go p_ e_ bl_ _ (T125.setTop (mkF m_ 395 #[.val (.int p0), .val (.int p1), .val (.int p2), .val (.int p3), .val (.int p4), .val (.int p5), .val (.int (1 : Int32)), .val (.int (p5 >>> ((1 : Int32) &&& 31)).toInt8.toInt32), .val (.int p0.toInt8.toInt32), .val (.int p1.toInt8.toInt32), .val (.int p2.toInt8.toInt32), .val (.int p3.toInt8.toInt32), .val (.int (p4 &&& (15 : Int32)).toInt8.toInt32), .val (.ref b1), .val (.int (p0.toInt8.toInt32 &&& (255 : Int32))), .val (.int (p1.toInt8.toInt32 &&& (255 : Int32))), .val (.int (p2.toInt8.toInt32 &&& (255 : Int32))), .val (.int (p3.toInt8.toInt32 &&& (255 : Int32))), .val (.int ((p4 &&& (15 : Int32)).toInt8.toInt32 &&& (255 : Int32))), .val (.long (((((p0.toInt8.toInt32 &&& (255 : Int32)) &&& (127 : Int32)).toInt64 + (((p1.toInt8.toInt32 &&& (255 : Int32)) &&& (127 : Int32)).toInt64 * (128 : Int64))) + (((p2.toInt8.toInt32 &&& (255 : Int32)) &&& (127 : Int32)).toInt64 * (16384 : Int64))) + ((p3.toInt8.toInt32 &&& (255 : Int32)).toInt64 * (2097152 : Int64)))), .second, .val (.int (4 : Int32)), .val (.int (((((p0.toInt8.toInt32 &&& (255 : Int32)) &&& (127 : Int32)).toInt64 + (((p1.toInt8.toInt32 &&& (255 : Int32)) &&& (127 : Int32)).toInt64 * (128 : Int64))) + (((p2.toInt8.toInt32 &&& (255 : Int32)) &&& (127 : Int32)).toInt64 * (16384 : Int64))) + ((p3.toInt8.toInt32 &&& (255 : Int32)).toInt64 * (2097152 : Int64))).toInt32), .val (.ref b115), .val (.int (((((0 : Int32) ||| ((p0.toInt8.toInt32 &&& (127 : Int32)) <<< ((0 : Int32) &&& 31))) ||| ((p1.toInt8.toInt32 &&& (127 : Int32)) <<< ((7 : Int32) &&& 31))) ||| ((p2.toInt8.toInt32 &&& (127 : Int32)) <<< ((14 : Int32) &&& 31))) ||| ((p3.toInt8.toInt32 &&& (127 : Int32)) <<< ((21 : Int32) &&& 31))))] [.int (5 : Int32)]))
            refine g_iload (pc := 395) W127 at_395 rfl ?_
            refine g_iload (pc := 397) W127 at_397 rfl ?_
            refine g_iadd (pc := 399) W127 at_399 ?_
            show Go p_ e_ bl_ _ (T125.setTop (mkF m_ 400 #[.val (.int p0), .val (.int p1), .val (.int p2), .val (.int p3), .val (.int p4), .val (.int p5), .val (.int (1 : Int32)), .val (.int (p5 >>> ((1 : Int32) &&& 31)).toInt8.toInt32), .val (.int p0.toInt8.toInt32), .val (.int p1.toInt8.toInt32), .val (.int p2.toInt8.toInt32), .val (.int p3.toInt8.toInt32), .val (.int (p4 &&& (15 : Int32)).toInt8.toInt32), .val (.ref b1), .val (.int (p0.toInt8.toInt32 &&& (255 : Int32))), .val (.int (p1.toInt8.toInt32 &&& (255 : Int32))), .val (.int (p2.toInt8.toInt32 &&& (255 : Int32))), .val (.int (p3.toInt8.toInt32 &&& (255 : Int32))), .val (.int ((p4 &&& (15 : Int32)).toInt8.toInt32 &&& (255 : Int32))), .val (.long (((((p0.toInt8.toInt32 &&& (255 : Int32)) &&& (127 : Int32)).toInt64 + (((p1.toInt8.toInt32 &&& (255 : Int32)) &&& (127 : Int32)).toInt64 * (128 : Int64))) + (((p2.toInt8.toInt32 &&& (255 : Int32)) &&& (127 : Int32)).toInt64 * (16384 : Int64))) + ((p3.toInt8.toInt32 &&& (255 : Int32)).toInt64 * (2097152 : Int64)))), .second, .val (.int (4 : Int32)), .val (.int (((((p0.toInt8.toInt32 &&& (255 : Int32)) &&& (127 : Int32)).toInt64 + (((p1.toInt8.toInt32 &&& (255 : Int32)) &&& (127 : Int32)).toInt64 * (128 : Int64))) + (((p2.toInt8.toInt32 &&& (255 : Int32)) &&& (127 : Int32)).toInt64 * (16384 : Int64))) + ((p3.toInt8.toInt32 &&& (255 : Int32)).toInt64 * (2097152 : Int64))).toInt32), .val (.ref b115), .val (.int (((((0 : Int32) ||| ((p0.toInt8.toInt32 &&& (127 : Int32)) <<< ((0 : Int32) &&& 31))) ||| ((p1.toInt8.toInt32 &&& (127 : Int32)) <<< ((7 : Int32) &&& 31))) ||| ((p2.toInt8.toInt32 &&& (127 : Int32)) <<< ((14 : Int32) &&& 31))) ||| ((p3.toInt8.toInt32 &&& (127 : Int32)) <<< ((21 : Int32) &&& 31))))] [.int (5 : Int32), .int (5 : Int32)]))
            refine g_icmpN (pc := 400) W127 at_400 (by decide) ?_
            refine g_iconst (pc := 403) (1 : Int32) (by decide) W127 at_403 ?_
            refine g_goto 408 (pc := 404) W127 at_404 (by decide) (by decide) ?_
            exact g_zreturn (pc := 408) rfl (by decide) W127 at_408 (by decide) (by decide) rfl
        · refine g_iconst (pc := 221) (3 : Int32) (by decide) W97 at_221 ?_
          refine g_istore (pc := 222) (ls' := #[.val (.int p0), .val (.int p1), .val (.int p2), .val (.int p3), .val (.int p4), .val (.int p5), .val (.int (1 : Int32)), .val (.int (p5 >>> ((1 : Int32) &&& 31)).toInt8.toInt32), .val (.int p0.toInt8.toInt32), .val (.int p1.toInt8.toInt32), .val (.int p2.toInt8.toInt32), .val (.int p3.toInt8.toInt32), .val (.int (p4 &&& (15 : Int32)).toInt8.toInt32), .val (.ref b1), .val (.int (p0.toInt8.toInt32 &&& (255 : Int32))), .val (.int (p1.toInt8.toInt32 &&& (255 : Int32))), .val (.int (p2.toInt8.toInt32 &&& (255 : Int32))), .val (.int (p3.toInt8.toInt32 &&& (255 : Int32))), .val (.int ((p4 &&& (15 : Int32)).toInt8.toInt32 &&& (255 : Int32))), .unset, .unset, .val (.int (3 : Int32)), .unset, .unset, .unset]) W97 at_222 rfl ?_
          refine g_iload (pc := 224) W97 at_224 rfl ?_
          refine g_bipush (pc := 226) (127 : Int32) (by decide) W97 at_226 ?_
          refine g_iand (pc := 228) W97 at_228 ?_
          refine g_i2l (pc := 229) W97 at_229 ?_
          refine g_iload (pc := 230) W97 at_230 rfl ?_
          refine g_bipush (pc := 232) (127 : Int32) (by decide) W97 at_232 ?_
          refine g_iand (pc := 234) W97 at_234 ?_
          refine g_i2l (pc := 235) W97 at_235 ?_
          refine g_ldc2_long (pc := 236) (v := (128 : Int64)) W97 (hw _ (List.mem_of_getElem? (i := 24) rfl)) at_236 ?_
          refine g_lmul (pc := 239) W97 at_239 ?_
          refine g_ladd (pc := 240) W97 at_240 ?_
          refine g_iload (pc := 241) W97 at_241 rfl ?_
          refine g_i2l (pc := 243) W97 at_243 ?_
          refine g_ldc2_long (pc := 244) (v := (16384 : Int64)) W97 (hw _ (List.mem_of_getElem? (i := 25) rfl)) at_244 ?_
          refine g_lmul (pc := 247) W97 at_247 ?_
          refine g_ladd (pc := 248) W97 at_248 ?_
          refine g_lstore (pc := 249) (ls' := #[.val (.int p0), .val (.int p1), .val (.int p2), .val (.int p3), .val (.int p4), .val (.int p5), .val (.int (1 : Int32)), .val (.int (p5 >>> ((1 : Int32) &&& 31)).toInt8.toInt32), .val (.int p0.toInt8.toInt32), .val (.int p1.toInt8.toInt32), .val (.int p2.toInt8.toInt32), .val (.int p3.toInt8.toInt32), .val (.int (p4 &&& (15 : Int32)).toInt8.toInt32), .val (.ref b1), .val (.int (p0.toInt8.toInt32 &&& (255 : Int32))), .val (.int (p1.toInt8.toInt32 &&& (255 : Int32))), .val (.int (p2.toInt8.toInt32 &&& (255 : Int32))), .val (.int (p3.toInt8.toInt32 &&& (255 : Int32))), .val (.int ((p4 &&& (15 : Int32)).toInt8.toInt32 &&& (255 : Int32))), .val (.long ((((p0.toInt8.toInt32 &&& (255 : Int32)) &&& (127 : Int32)).toInt64 + (((p1.toInt8.toInt32 &&& (255 : Int32)) &&& (127 : Int32)).toInt64 * (128 : Int64))) + ((p2.toInt8.toInt32 &&& (255 : Int32)).toInt64 * (16384 : Int64)))), .second, .val (.int (3 : Int32)), .unset, .unset, .unset]) W97 at_249 rfl ?_
          refine g_goto 358 (pc := 251) W97 at_251 (by decide) (by decide) ?_
          refine g_lload (pc := 358) W97 at_358 rfl ?_
          refine g_l2i (pc := 360) W97 at_360 ?_
          refine g_istore (pc := 361) (ls' := #[.val (.int p0), .val (.int p1), .val (.int p2), .val (.int p3), .val (.int p4), .val (.int p5), .val (.int (1 : Int32)), .val (.int (p5 >>> ((1 : Int32) &&& 31)).toInt8.toInt32), .val (.int p0.toInt8.toInt32), .val (.int p1.toInt8.toInt32), .val (.int p2.toInt8.toInt32), .val (.int p3.toInt8.toInt32), .val (.int (p4 &&& (15 : Int32)).toInt8.toInt32), .val (.ref b1), .val (.int (p0.toInt8.toInt32 &&& (255 : Int32))), .val (.int (p1.toInt8.toInt32 &&& (255 : Int32))), .val (.int (p2.toInt8.toInt32 &&& (255 : Int32))), .val (.int (p3.toInt8.toInt32 &&& (255 : Int32))), .val (.int ((p4 &&& (15 : Int32)).toInt8.toInt32 &&& (255 : Int32))), .val (.long ((((p0.toInt8.toInt32 &&& (255 : Int32)) &&& (127 : Int32)).toInt64 + (((p1.toInt8.toInt32 &&& (255 : Int32)) &&& (127 : Int32)).toInt64 * (128 : Int64))) + ((p2.toInt8.toInt32 &&& (255 : Int32)).toInt64 * (16384 : Int64)))), .second, .val (.int (3 : Int32)), .val (.int ((((p0.toInt8.toInt32 &&& (255 : Int32)) &&& (127 : Int32)).toInt64 + (((p1.toInt8.toInt32 &&& (255 : Int32)) &&& (127 : Int32)).toInt64 * (128 : Int64))) + ((p2.toInt8.toInt32 &&& (255 : Int32)).toInt64 * (16384 : Int64))).toInt32), .unset, .unset]) W97 at_361 rfl ?_
          refine g_new (pc := 363) (vs := [.null, .int (0 : Int32)]) W97 (hw _ (List.mem_of_getElem? (i := 1) rfl)) (hw _ (List.mem_of_getElem? (i := 2) rfl)) (hw _ (List.mem_of_getElem? (i := 3) rfl)) (cls_ByteCursor hw) (by decide) at_363 (by decide) (by decide) (fun T129 b128 W130 => ?_)
          have W131 := W130.re (os' := [(b1, (.array .byte), [.int (p5 >>> ((1 : Int32) &&& 31)).toInt8.toInt32, .int p0.toInt8.toInt32, .int p1.toInt8.toInt32, .int p2.toInt8.toInt32, .int p3.toInt8.toInt32, .int (p4 &&& (15 : Int32)).toInt8.toInt32]), (b128, (.object "com/example/attestry/attestry/home/ByteCursor"), [.null, .int (0 : Int32)])]) rfl
          refine g_dup (pc := 366) W131 at_366 rfl ?_
          refine g_aload (pc := 367) W131 at_367 rfl rfl ?_
          refine g_iload (pc := 369) W131 at_369 rfl ?_
          refine g_init (pc := 371) (Wt := 1) (argsL := [.ref b1, .int (1 : Int32)]) (rest := [.ref b128]) (loc := [(b128, (.object "com/example/attestry/attestry/home/ByteCursor"), [.null, .int (0 : Int32)])]) (rst := [(b1, (.array .byte), [.int (p5 >>> ((1 : Int32) &&& 31)).toInt8.toInt32, .int p0.toInt8.toInt32, .int p1.toInt8.toInt32, .int p2.toInt8.toInt32, .int p3.toInt8.toInt32, .int (p4 &&& (15 : Int32)).toInt8.toInt32])]) W131 rfl (hw _ (List.mem_of_getElem? (i := 4) rfl)) (hw _ (List.mem_of_getElem? (i := 5) rfl)) (hw _ (List.mem_of_getElem? (i := 3) rfl)) (hw _ (List.mem_of_getElem? (i := 6) rfl)) (by decide) (c_init l Z a0 hw b128 b1 (1 : Int32)) ⟨[1, 0], by decide, rfl⟩ rfl pd_ABI__V rfl rfl rfl (Nat.le_of_ble_eq_true rfl) (by decide) (by decide) (by decide) (by decide) at_371 ?_
          rintro T132 _ _ ⟨rfl, rfl⟩ W133
          have W134 := W133.re (os' := [(b128, (.object "com/example/attestry/attestry/home/ByteCursor"), [.ref b1, .int (1 : Int32)]), (b1, (.array .byte), [.int (p5 >>> ((1 : Int32) &&& 31)).toInt8.toInt32, .int p0.toInt8.toInt32, .int p1.toInt8.toInt32, .int p2.toInt8.toInt32, .int p3.toInt8.toInt32, .int (p4 &&& (15 : Int32)).toInt8.toInt32])]) rfl
          show Go p_ e_ bl_ _ (T132.setTop (mkF m_ 374 #[.val (.int p0), .val (.int p1), .val (.int p2), .val (.int p3), .val (.int p4), .val (.int p5), .val (.int (1 : Int32)), .val (.int (p5 >>> ((1 : Int32) &&& 31)).toInt8.toInt32), .val (.int p0.toInt8.toInt32), .val (.int p1.toInt8.toInt32), .val (.int p2.toInt8.toInt32), .val (.int p3.toInt8.toInt32), .val (.int (p4 &&& (15 : Int32)).toInt8.toInt32), .val (.ref b1), .val (.int (p0.toInt8.toInt32 &&& (255 : Int32))), .val (.int (p1.toInt8.toInt32 &&& (255 : Int32))), .val (.int (p2.toInt8.toInt32 &&& (255 : Int32))), .val (.int (p3.toInt8.toInt32 &&& (255 : Int32))), .val (.int ((p4 &&& (15 : Int32)).toInt8.toInt32 &&& (255 : Int32))), .val (.long ((((p0.toInt8.toInt32 &&& (255 : Int32)) &&& (127 : Int32)).toInt64 + (((p1.toInt8.toInt32 &&& (255 : Int32)) &&& (127 : Int32)).toInt64 * (128 : Int64))) + ((p2.toInt8.toInt32 &&& (255 : Int32)).toInt64 * (16384 : Int64)))), .second, .val (.int (3 : Int32)), .val (.int ((((p0.toInt8.toInt32 &&& (255 : Int32)) &&& (127 : Int32)).toInt64 + (((p1.toInt8.toInt32 &&& (255 : Int32)) &&& (127 : Int32)).toInt64 * (128 : Int64))) + ((p2.toInt8.toInt32 &&& (255 : Int32)).toInt64 * (16384 : Int64))).toInt32), .unset, .unset] [.ref b128]))
          refine g_astore (pc := 374) (ls' := #[.val (.int p0), .val (.int p1), .val (.int p2), .val (.int p3), .val (.int p4), .val (.int p5), .val (.int (1 : Int32)), .val (.int (p5 >>> ((1 : Int32) &&& 31)).toInt8.toInt32), .val (.int p0.toInt8.toInt32), .val (.int p1.toInt8.toInt32), .val (.int p2.toInt8.toInt32), .val (.int p3.toInt8.toInt32), .val (.int (p4 &&& (15 : Int32)).toInt8.toInt32), .val (.ref b1), .val (.int (p0.toInt8.toInt32 &&& (255 : Int32))), .val (.int (p1.toInt8.toInt32 &&& (255 : Int32))), .val (.int (p2.toInt8.toInt32 &&& (255 : Int32))), .val (.int (p3.toInt8.toInt32 &&& (255 : Int32))), .val (.int ((p4 &&& (15 : Int32)).toInt8.toInt32 &&& (255 : Int32))), .val (.long ((((p0.toInt8.toInt32 &&& (255 : Int32)) &&& (127 : Int32)).toInt64 + (((p1.toInt8.toInt32 &&& (255 : Int32)) &&& (127 : Int32)).toInt64 * (128 : Int64))) + ((p2.toInt8.toInt32 &&& (255 : Int32)).toInt64 * (16384 : Int64)))), .second, .val (.int (3 : Int32)), .val (.int ((((p0.toInt8.toInt32 &&& (255 : Int32)) &&& (127 : Int32)).toInt64 + (((p1.toInt8.toInt32 &&& (255 : Int32)) &&& (127 : Int32)).toInt64 * (128 : Int64))) + ((p2.toInt8.toInt32 &&& (255 : Int32)).toInt64 * (16384 : Int64))).toInt32), .val (.ref b128), .unset]) W134 at_374 rfl rfl ?_
          refine g_aload (pc := 376) W134 at_376 rfl rfl ?_
          refine g_virtual (i := 0) (pc := 378) (Wt := 0) (argsL := []) (rest := []) (loc := [(b128, (.object "com/example/attestry/attestry/home/ByteCursor"), [.ref b1, .int (1 : Int32)]), (b1, (.array .byte), [.int (p5 >>> ((1 : Int32) &&& 31)).toInt8.toInt32, .int p0.toInt8.toInt32, .int p1.toInt8.toInt32, .int p2.toInt8.toInt32, .int p3.toInt8.toInt32, .int (p4 &&& (15 : Int32)).toInt8.toInt32])]) (rst := []) W134 (hw _ (List.mem_of_getElem? (i := 14) rfl)) (hw _ (List.mem_of_getElem? (i := 16) rfl)) (hw _ (List.mem_of_getElem? (i := 3) rfl)) (hw _ (List.mem_of_getElem? (i := 18) rfl)) (hw _ (List.mem_of_getElem? (i := 15) rfl)) (hw _ (List.mem_of_getElem? (i := 17) rfl)) rfl (by decide) (c_wh13 l Z a0 hw b128 b1 (p5 >>> ((1 : Int32) &&& 31)).toInt8.toInt32 p0.toInt8.toInt32 p1.toInt8.toInt32 p2.toInt8.toInt32 p3.toInt8.toInt32 (p4 &&& (15 : Int32)).toInt8.toInt32 (own_y c98) (own_y c99) (own_n c100)) ⟨[0, 1], by decide, rfl⟩ rfl pd___I rfl rfl rfl (Nat.le_of_ble_eq_true rfl) (by decide) (by decide) (by decide) (by decide) at_378 ?_
          rintro T135 _ _ ⟨rfl, rfl⟩ W136
          have W137 := W136.re (os' := [(b128, (.object "com/example/attestry/attestry/home/ByteCursor"), [.ref b1, .int (4 : Int32)]), (b1, (.array .byte), [.int (p5 >>> ((1 : Int32) &&& 31)).toInt8.toInt32, .int p0.toInt8.toInt32, .int p1.toInt8.toInt32, .int p2.toInt8.toInt32, .int p3.toInt8.toInt32, .int (p4 &&& (15 : Int32)).toInt8.toInt32])]) rfl
          show Go p_ e_ bl_ _ (T135.setTop (mkF m_ 381 #[.val (.int p0), .val (.int p1), .val (.int p2), .val (.int p3), .val (.int p4), .val (.int p5), .val (.int (1 : Int32)), .val (.int (p5 >>> ((1 : Int32) &&& 31)).toInt8.toInt32), .val (.int p0.toInt8.toInt32), .val (.int p1.toInt8.toInt32), .val (.int p2.toInt8.toInt32), .val (.int p3.toInt8.toInt32), .val (.int (p4 &&& (15 : Int32)).toInt8.toInt32), .val (.ref b1), .val (.int (p0.toInt8.toInt32 &&& (255 : Int32))), .val (.int (p1.toInt8.toInt32 &&& (255 : Int32))), .val (.int (p2.toInt8.toInt32 &&& (255 : Int32))), .val (.int (p3.toInt8.toInt32 &&& (255 : Int32))), .val (.int ((p4 &&& (15 : Int32)).toInt8.toInt32 &&& (255 : Int32))), .val (.long ((((p0.toInt8.toInt32 &&& (255 : Int32)) &&& (127 : Int32)).toInt64 + (((p1.toInt8.toInt32 &&& (255 : Int32)) &&& (127 : Int32)).toInt64 * (128 : Int64))) + ((p2.toInt8.toInt32 &&& (255 : Int32)).toInt64 * (16384 : Int64)))), .second, .val (.int (3 : Int32)), .val (.int ((((p0.toInt8.toInt32 &&& (255 : Int32)) &&& (127 : Int32)).toInt64 + (((p1.toInt8.toInt32 &&& (255 : Int32)) &&& (127 : Int32)).toInt64 * (128 : Int64))) + ((p2.toInt8.toInt32 &&& (255 : Int32)).toInt64 * (16384 : Int64))).toInt32), .val (.ref b128), .unset] [.int ((((0 : Int32) ||| ((p0.toInt8.toInt32 &&& (127 : Int32)) <<< ((0 : Int32) &&& 31))) ||| ((p1.toInt8.toInt32 &&& (127 : Int32)) <<< ((7 : Int32) &&& 31))) ||| ((p2.toInt8.toInt32 &&& (127 : Int32)) <<< ((14 : Int32) &&& 31)))]))
          refine g_istore (pc := 381) (ls' := #[.val (.int p0), .val (.int p1), .val (.int p2), .val (.int p3), .val (.int p4), .val (.int p5), .val (.int (1 : Int32)), .val (.int (p5 >>> ((1 : Int32) &&& 31)).toInt8.toInt32), .val (.int p0.toInt8.toInt32), .val (.int p1.toInt8.toInt32), .val (.int p2.toInt8.toInt32), .val (.int p3.toInt8.toInt32), .val (.int (p4 &&& (15 : Int32)).toInt8.toInt32), .val (.ref b1), .val (.int (p0.toInt8.toInt32 &&& (255 : Int32))), .val (.int (p1.toInt8.toInt32 &&& (255 : Int32))), .val (.int (p2.toInt8.toInt32 &&& (255 : Int32))), .val (.int (p3.toInt8.toInt32 &&& (255 : Int32))), .val (.int ((p4 &&& (15 : Int32)).toInt8.toInt32 &&& (255 : Int32))), .val (.long ((((p0.toInt8.toInt32 &&& (255 : Int32)) &&& (127 : Int32)).toInt64 + (((p1.toInt8.toInt32 &&& (255 : Int32)) &&& (127 : Int32)).toInt64 * (128 : Int64))) + ((p2.toInt8.toInt32 &&& (255 : Int32)).toInt64 * (16384 : Int64)))), .second, .val (.int (3 : Int32)), .val (.int ((((p0.toInt8.toInt32 &&& (255 : Int32)) &&& (127 : Int32)).toInt64 + (((p1.toInt8.toInt32 &&& (255 : Int32)) &&& (127 : Int32)).toInt64 * (128 : Int64))) + ((p2.toInt8.toInt32 &&& (255 : Int32)).toInt64 * (16384 : Int64))).toInt32), .val (.ref b128), .val (.int ((((0 : Int32) ||| ((p0.toInt8.toInt32 &&& (127 : Int32)) <<< ((0 : Int32) &&& 31))) ||| ((p1.toInt8.toInt32 &&& (127 : Int32)) <<< ((7 : Int32) &&& 31))) ||| ((p2.toInt8.toInt32 &&& (127 : Int32)) <<< ((14 : Int32) &&& 31))))]) W137 at_381 rfl ?_
          refine g_iload (pc := 383) W137 at_383 rfl ?_
          refine g_iload (pc := 385) W137 at_385 rfl ?_
          refine g_icmpN (pc := 387) W137 at_387 (teq (own_e3 p0.toInt8.toInt32 p1.toInt8.toInt32 p2.toInt8.toInt32 (by have q := c100; simp only [Int32.lt_iff_toInt_lt, own_m, Int32.reduceToInt] at q; omega))).2 ?_
          refine g_aload (pc := 390) W137 at_390 rfl rfl ?_
          refine g_virtual (i := 0) (pc := 392) (Wt := 0) (argsL := []) (rest := []) (loc := [(b128, (.object "com/example/attestry/attestry/home/ByteCursor"), [.ref b1, .int (4 : Int32)])]) (rst := [(b1, (.array .byte), [.int (p5 >>> ((1 : Int32) &&& 31)).toInt8.toInt32, .int p0.toInt8.toInt32, .int p1.toInt8.toInt32, .int p2.toInt8.toInt32, .int p3.toInt8.toInt32, .int (p4 &&& (15 : Int32)).toInt8.toInt32])]) W137 (hw _ (List.mem_of_getElem? (i := 19) rfl)) (hw _ (List.mem_of_getElem? (i := 21) rfl)) (hw _ (List.mem_of_getElem? (i := 3) rfl)) (hw _ (List.mem_of_getElem? (i := 23) rfl)) (hw _ (List.mem_of_getElem? (i := 20) rfl)) (hw _ (List.mem_of_getElem? (i := 22) rfl)) rfl (by decide) (c_at l Z a0 hw b128 b1 (4 : Int32)) ⟨[0, 1], by decide, rfl⟩ rfl pd___I rfl rfl rfl (Nat.le_of_ble_eq_true rfl) (by decide) (by decide) (by decide) (by decide) at_392 ?_
          rintro T138 _ _ ⟨rfl, rfl⟩ W139
          have W140 := W139.re (os' := [(b128, (.object "com/example/attestry/attestry/home/ByteCursor"), [.ref b1, .int (4 : Int32)]), (b1, (.array .byte), [.int (p5 >>> ((1 : Int32) &&& 31)).toInt8.toInt32, .int p0.toInt8.toInt32, .int p1.toInt8.toInt32, .int p2.toInt8.toInt32, .int p3.toInt8.toInt32, .int (p4 &&& (15 : Int32)).toInt8.toInt32])]) rfl
          show Go p_ e_ bl_ _ (T138.setTop (mkF m_ 395 #[.val (.int p0), .val (.int p1), .val (.int p2), .val (.int p3), .val (.int p4), .val (.int p5), .val (.int (1 : Int32)), .val (.int (p5 >>> ((1 : Int32) &&& 31)).toInt8.toInt32), .val (.int p0.toInt8.toInt32), .val (.int p1.toInt8.toInt32), .val (.int p2.toInt8.toInt32), .val (.int p3.toInt8.toInt32), .val (.int (p4 &&& (15 : Int32)).toInt8.toInt32), .val (.ref b1), .val (.int (p0.toInt8.toInt32 &&& (255 : Int32))), .val (.int (p1.toInt8.toInt32 &&& (255 : Int32))), .val (.int (p2.toInt8.toInt32 &&& (255 : Int32))), .val (.int (p3.toInt8.toInt32 &&& (255 : Int32))), .val (.int ((p4 &&& (15 : Int32)).toInt8.toInt32 &&& (255 : Int32))), .val (.long ((((p0.toInt8.toInt32 &&& (255 : Int32)) &&& (127 : Int32)).toInt64 + (((p1.toInt8.toInt32 &&& (255 : Int32)) &&& (127 : Int32)).toInt64 * (128 : Int64))) + ((p2.toInt8.toInt32 &&& (255 : Int32)).toInt64 * (16384 : Int64)))), .second, .val (.int (3 : Int32)), .val (.int ((((p0.toInt8.toInt32 &&& (255 : Int32)) &&& (127 : Int32)).toInt64 + (((p1.toInt8.toInt32 &&& (255 : Int32)) &&& (127 : Int32)).toInt64 * (128 : Int64))) + ((p2.toInt8.toInt32 &&& (255 : Int32)).toInt64 * (16384 : Int64))).toInt32), .val (.ref b128), .val (.int ((((0 : Int32) ||| ((p0.toInt8.toInt32 &&& (127 : Int32)) <<< ((0 : Int32) &&& 31))) ||| ((p1.toInt8.toInt32 &&& (127 : Int32)) <<< ((7 : Int32) &&& 31))) ||| ((p2.toInt8.toInt32 &&& (127 : Int32)) <<< ((14 : Int32) &&& 31))))] [.int (4 : Int32)]))
          refine g_iload (pc := 395) W140 at_395 rfl ?_
          refine g_iload (pc := 397) W140 at_397 rfl ?_
          refine g_iadd (pc := 399) W140 at_399 ?_
          show Go p_ e_ bl_ _ (T138.setTop (mkF m_ 400 #[.val (.int p0), .val (.int p1), .val (.int p2), .val (.int p3), .val (.int p4), .val (.int p5), .val (.int (1 : Int32)), .val (.int (p5 >>> ((1 : Int32) &&& 31)).toInt8.toInt32), .val (.int p0.toInt8.toInt32), .val (.int p1.toInt8.toInt32), .val (.int p2.toInt8.toInt32), .val (.int p3.toInt8.toInt32), .val (.int (p4 &&& (15 : Int32)).toInt8.toInt32), .val (.ref b1), .val (.int (p0.toInt8.toInt32 &&& (255 : Int32))), .val (.int (p1.toInt8.toInt32 &&& (255 : Int32))), .val (.int (p2.toInt8.toInt32 &&& (255 : Int32))), .val (.int (p3.toInt8.toInt32 &&& (255 : Int32))), .val (.int ((p4 &&& (15 : Int32)).toInt8.toInt32 &&& (255 : Int32))), .val (.long ((((p0.toInt8.toInt32 &&& (255 : Int32)) &&& (127 : Int32)).toInt64 + (((p1.toInt8.toInt32 &&& (255 : Int32)) &&& (127 : Int32)).toInt64 * (128 : Int64))) + ((p2.toInt8.toInt32 &&& (255 : Int32)).toInt64 * (16384 : Int64)))), .second, .val (.int (3 : Int32)), .val (.int ((((p0.toInt8.toInt32 &&& (255 : Int32)) &&& (127 : Int32)).toInt64 + (((p1.toInt8.toInt32 &&& (255 : Int32)) &&& (127 : Int32)).toInt64 * (128 : Int64))) + ((p2.toInt8.toInt32 &&& (255 : Int32)).toInt64 * (16384 : Int64))).toInt32), .val (.ref b128), .val (.int ((((0 : Int32) ||| ((p0.toInt8.toInt32 &&& (127 : Int32)) <<< ((0 : Int32) &&& 31))) ||| ((p1.toInt8.toInt32 &&& (127 : Int32)) <<< ((7 : Int32) &&& 31))) ||| ((p2.toInt8.toInt32 &&& (127 : Int32)) <<< ((14 : Int32) &&& 31))))] [.int (4 : Int32), .int (4 : Int32)]))
          refine g_icmpN (pc := 400) W140 at_400 (by decide) ?_
          refine g_iconst (pc := 403) (1 : Int32) (by decide) W140 at_403 ?_
          refine g_goto 408 (pc := 404) W140 at_404 (by decide) (by decide) ?_
          exact g_zreturn (pc := 408) rfl (by decide) W140 at_408 (by decide) (by decide) rfl
      · refine g_iconst (pc := 191) (2 : Int32) (by decide) W97 at_191 ?_
        refine g_istore (pc := 192) (ls' := #[.val (.int p0), .val (.int p1), .val (.int p2), .val (.int p3), .val (.int p4), .val (.int p5), .val (.int (1 : Int32)), .val (.int (p5 >>> ((1 : Int32) &&& 31)).toInt8.toInt32), .val (.int p0.toInt8.toInt32), .val (.int p1.toInt8.toInt32), .val (.int p2.toInt8.toInt32), .val (.int p3.toInt8.toInt32), .val (.int (p4 &&& (15 : Int32)).toInt8.toInt32), .val (.ref b1), .val (.int (p0.toInt8.toInt32 &&& (255 : Int32))), .val (.int (p1.toInt8.toInt32 &&& (255 : Int32))), .val (.int (p2.toInt8.toInt32 &&& (255 : Int32))), .val (.int (p3.toInt8.toInt32 &&& (255 : Int32))), .val (.int ((p4 &&& (15 : Int32)).toInt8.toInt32 &&& (255 : Int32))), .unset, .unset, .val (.int (2 : Int32)), .unset, .unset, .unset]) W97 at_192 rfl ?_
        refine g_iload (pc := 194) W97 at_194 rfl ?_
        refine g_bipush (pc := 196) (127 : Int32) (by decide) W97 at_196 ?_
        refine g_iand (pc := 198) W97 at_198 ?_
        refine g_i2l (pc := 199) W97 at_199 ?_
        refine g_iload (pc := 200) W97 at_200 rfl ?_
        refine g_i2l (pc := 202) W97 at_202 ?_
        refine g_ldc2_long (pc := 203) (v := (128 : Int64)) W97 (hw _ (List.mem_of_getElem? (i := 24) rfl)) at_203 ?_
        refine g_lmul (pc := 206) W97 at_206 ?_
        refine g_ladd (pc := 207) W97 at_207 ?_
        refine g_lstore (pc := 208) (ls' := #[.val (.int p0), .val (.int p1), .val (.int p2), .val (.int p3), .val (.int p4), .val (.int p5), .val (.int (1 : Int32)), .val (.int (p5 >>> ((1 : Int32) &&& 31)).toInt8.toInt32), .val (.int p0.toInt8.toInt32), .val (.int p1.toInt8.toInt32), .val (.int p2.toInt8.toInt32), .val (.int p3.toInt8.toInt32), .val (.int (p4 &&& (15 : Int32)).toInt8.toInt32), .val (.ref b1), .val (.int (p0.toInt8.toInt32 &&& (255 : Int32))), .val (.int (p1.toInt8.toInt32 &&& (255 : Int32))), .val (.int (p2.toInt8.toInt32 &&& (255 : Int32))), .val (.int (p3.toInt8.toInt32 &&& (255 : Int32))), .val (.int ((p4 &&& (15 : Int32)).toInt8.toInt32 &&& (255 : Int32))), .val (.long (((p0.toInt8.toInt32 &&& (255 : Int32)) &&& (127 : Int32)).toInt64 + ((p1.toInt8.toInt32 &&& (255 : Int32)).toInt64 * (128 : Int64)))), .second, .val (.int (2 : Int32)), .unset, .unset, .unset]) W97 at_208 rfl ?_
        refine g_goto 358 (pc := 210) W97 at_210 (by decide) (by decide) ?_
        refine g_lload (pc := 358) W97 at_358 rfl ?_
        refine g_l2i (pc := 360) W97 at_360 ?_
        refine g_istore (pc := 361) (ls' := #[.val (.int p0), .val (.int p1), .val (.int p2), .val (.int p3), .val (.int p4), .val (.int p5), .val (.int (1 : Int32)), .val (.int (p5 >>> ((1 : Int32) &&& 31)).toInt8.toInt32), .val (.int p0.toInt8.toInt32), .val (.int p1.toInt8.toInt32), .val (.int p2.toInt8.toInt32), .val (.int p3.toInt8.toInt32), .val (.int (p4 &&& (15 : Int32)).toInt8.toInt32), .val (.ref b1), .val (.int (p0.toInt8.toInt32 &&& (255 : Int32))), .val (.int (p1.toInt8.toInt32 &&& (255 : Int32))), .val (.int (p2.toInt8.toInt32 &&& (255 : Int32))), .val (.int (p3.toInt8.toInt32 &&& (255 : Int32))), .val (.int ((p4 &&& (15 : Int32)).toInt8.toInt32 &&& (255 : Int32))), .val (.long (((p0.toInt8.toInt32 &&& (255 : Int32)) &&& (127 : Int32)).toInt64 + ((p1.toInt8.toInt32 &&& (255 : Int32)).toInt64 * (128 : Int64)))), .second, .val (.int (2 : Int32)), .val (.int (((p0.toInt8.toInt32 &&& (255 : Int32)) &&& (127 : Int32)).toInt64 + ((p1.toInt8.toInt32 &&& (255 : Int32)).toInt64 * (128 : Int64))).toInt32), .unset, .unset]) W97 at_361 rfl ?_
        refine g_new (pc := 363) (vs := [.null, .int (0 : Int32)]) W97 (hw _ (List.mem_of_getElem? (i := 1) rfl)) (hw _ (List.mem_of_getElem? (i := 2) rfl)) (hw _ (List.mem_of_getElem? (i := 3) rfl)) (cls_ByteCursor hw) (by decide) at_363 (by decide) (by decide) (fun T142 b141 W143 => ?_)
        have W144 := W143.re (os' := [(b1, (.array .byte), [.int (p5 >>> ((1 : Int32) &&& 31)).toInt8.toInt32, .int p0.toInt8.toInt32, .int p1.toInt8.toInt32, .int p2.toInt8.toInt32, .int p3.toInt8.toInt32, .int (p4 &&& (15 : Int32)).toInt8.toInt32]), (b141, (.object "com/example/attestry/attestry/home/ByteCursor"), [.null, .int (0 : Int32)])]) rfl
        refine g_dup (pc := 366) W144 at_366 rfl ?_
        refine g_aload (pc := 367) W144 at_367 rfl rfl ?_
        refine g_iload (pc := 369) W144 at_369 rfl ?_
        refine g_init (pc := 371) (Wt := 1) (argsL := [.ref b1, .int (1 : Int32)]) (rest := [.ref b141]) (loc := [(b141, (.object "com/example/attestry/attestry/home/ByteCursor"), [.null, .int (0 : Int32)])]) (rst := [(b1, (.array .byte), [.int (p5 >>> ((1 : Int32) &&& 31)).toInt8.toInt32, .int p0.toInt8.toInt32, .int p1.toInt8.toInt32, .int p2.toInt8.toInt32, .int p3.toInt8.toInt32, .int (p4 &&& (15 : Int32)).toInt8.toInt32])]) W144 rfl (hw _ (List.mem_of_getElem? (i := 4) rfl)) (hw _ (List.mem_of_getElem? (i := 5) rfl)) (hw _ (List.mem_of_getElem? (i := 3) rfl)) (hw _ (List.mem_of_getElem? (i := 6) rfl)) (by decide) (c_init l Z a0 hw b141 b1 (1 : Int32)) ⟨[1, 0], by decide, rfl⟩ rfl pd_ABI__V rfl rfl rfl (Nat.le_of_ble_eq_true rfl) (by decide) (by decide) (by decide) (by decide) at_371 ?_
        rintro T145 _ _ ⟨rfl, rfl⟩ W146
        have W147 := W146.re (os' := [(b141, (.object "com/example/attestry/attestry/home/ByteCursor"), [.ref b1, .int (1 : Int32)]), (b1, (.array .byte), [.int (p5 >>> ((1 : Int32) &&& 31)).toInt8.toInt32, .int p0.toInt8.toInt32, .int p1.toInt8.toInt32, .int p2.toInt8.toInt32, .int p3.toInt8.toInt32, .int (p4 &&& (15 : Int32)).toInt8.toInt32])]) rfl
        show Go p_ e_ bl_ _ (T145.setTop (mkF m_ 374 #[.val (.int p0), .val (.int p1), .val (.int p2), .val (.int p3), .val (.int p4), .val (.int p5), .val (.int (1 : Int32)), .val (.int (p5 >>> ((1 : Int32) &&& 31)).toInt8.toInt32), .val (.int p0.toInt8.toInt32), .val (.int p1.toInt8.toInt32), .val (.int p2.toInt8.toInt32), .val (.int p3.toInt8.toInt32), .val (.int (p4 &&& (15 : Int32)).toInt8.toInt32), .val (.ref b1), .val (.int (p0.toInt8.toInt32 &&& (255 : Int32))), .val (.int (p1.toInt8.toInt32 &&& (255 : Int32))), .val (.int (p2.toInt8.toInt32 &&& (255 : Int32))), .val (.int (p3.toInt8.toInt32 &&& (255 : Int32))), .val (.int ((p4 &&& (15 : Int32)).toInt8.toInt32 &&& (255 : Int32))), .val (.long (((p0.toInt8.toInt32 &&& (255 : Int32)) &&& (127 : Int32)).toInt64 + ((p1.toInt8.toInt32 &&& (255 : Int32)).toInt64 * (128 : Int64)))), .second, .val (.int (2 : Int32)), .val (.int (((p0.toInt8.toInt32 &&& (255 : Int32)) &&& (127 : Int32)).toInt64 + ((p1.toInt8.toInt32 &&& (255 : Int32)).toInt64 * (128 : Int64))).toInt32), .unset, .unset] [.ref b141]))
        refine g_astore (pc := 374) (ls' := #[.val (.int p0), .val (.int p1), .val (.int p2), .val (.int p3), .val (.int p4), .val (.int p5), .val (.int (1 : Int32)), .val (.int (p5 >>> ((1 : Int32) &&& 31)).toInt8.toInt32), .val (.int p0.toInt8.toInt32), .val (.int p1.toInt8.toInt32), .val (.int p2.toInt8.toInt32), .val (.int p3.toInt8.toInt32), .val (.int (p4 &&& (15 : Int32)).toInt8.toInt32), .val (.ref b1), .val (.int (p0.toInt8.toInt32 &&& (255 : Int32))), .val (.int (p1.toInt8.toInt32 &&& (255 : Int32))), .val (.int (p2.toInt8.toInt32 &&& (255 : Int32))), .val (.int (p3.toInt8.toInt32 &&& (255 : Int32))), .val (.int ((p4 &&& (15 : Int32)).toInt8.toInt32 &&& (255 : Int32))), .val (.long (((p0.toInt8.toInt32 &&& (255 : Int32)) &&& (127 : Int32)).toInt64 + ((p1.toInt8.toInt32 &&& (255 : Int32)).toInt64 * (128 : Int64)))), .second, .val (.int (2 : Int32)), .val (.int (((p0.toInt8.toInt32 &&& (255 : Int32)) &&& (127 : Int32)).toInt64 + ((p1.toInt8.toInt32 &&& (255 : Int32)).toInt64 * (128 : Int64))).toInt32), .val (.ref b141), .unset]) W147 at_374 rfl rfl ?_
        refine g_aload (pc := 376) W147 at_376 rfl rfl ?_
        refine g_virtual (i := 0) (pc := 378) (Wt := 0) (argsL := []) (rest := []) (loc := [(b141, (.object "com/example/attestry/attestry/home/ByteCursor"), [.ref b1, .int (1 : Int32)]), (b1, (.array .byte), [.int (p5 >>> ((1 : Int32) &&& 31)).toInt8.toInt32, .int p0.toInt8.toInt32, .int p1.toInt8.toInt32, .int p2.toInt8.toInt32, .int p3.toInt8.toInt32, .int (p4 &&& (15 : Int32)).toInt8.toInt32])]) (rst := []) W147 (hw _ (List.mem_of_getElem? (i := 14) rfl)) (hw _ (List.mem_of_getElem? (i := 16) rfl)) (hw _ (List.mem_of_getElem? (i := 3) rfl)) (hw _ (List.mem_of_getElem? (i := 18) rfl)) (hw _ (List.mem_of_getElem? (i := 15) rfl)) (hw _ (List.mem_of_getElem? (i := 17) rfl)) rfl (by decide) (c_wh12 l Z a0 hw b141 b1 (p5 >>> ((1 : Int32) &&& 31)).toInt8.toInt32 p0.toInt8.toInt32 p1.toInt8.toInt32 p2.toInt8.toInt32 p3.toInt8.toInt32 (p4 &&& (15 : Int32)).toInt8.toInt32 (own_y c98) (own_n c99)) ⟨[0, 1], by decide, rfl⟩ rfl pd___I rfl rfl rfl (Nat.le_of_ble_eq_true rfl) (by decide) (by decide) (by decide) (by decide) at_378 ?_
        rintro T148 _ _ ⟨rfl, rfl⟩ W149
        have W150 := W149.re (os' := [(b141, (.object "com/example/attestry/attestry/home/ByteCursor"), [.ref b1, .int (3 : Int32)]), (b1, (.array .byte), [.int (p5 >>> ((1 : Int32) &&& 31)).toInt8.toInt32, .int p0.toInt8.toInt32, .int p1.toInt8.toInt32, .int p2.toInt8.toInt32, .int p3.toInt8.toInt32, .int (p4 &&& (15 : Int32)).toInt8.toInt32])]) rfl
        show Go p_ e_ bl_ _ (T148.setTop (mkF m_ 381 #[.val (.int p0), .val (.int p1), .val (.int p2), .val (.int p3), .val (.int p4), .val (.int p5), .val (.int (1 : Int32)), .val (.int (p5 >>> ((1 : Int32) &&& 31)).toInt8.toInt32), .val (.int p0.toInt8.toInt32), .val (.int p1.toInt8.toInt32), .val (.int p2.toInt8.toInt32), .val (.int p3.toInt8.toInt32), .val (.int (p4 &&& (15 : Int32)).toInt8.toInt32), .val (.ref b1), .val (.int (p0.toInt8.toInt32 &&& (255 : Int32))), .val (.int (p1.toInt8.toInt32 &&& (255 : Int32))), .val (.int (p2.toInt8.toInt32 &&& (255 : Int32))), .val (.int (p3.toInt8.toInt32 &&& (255 : Int32))), .val (.int ((p4 &&& (15 : Int32)).toInt8.toInt32 &&& (255 : Int32))), .val (.long (((p0.toInt8.toInt32 &&& (255 : Int32)) &&& (127 : Int32)).toInt64 + ((p1.toInt8.toInt32 &&& (255 : Int32)).toInt64 * (128 : Int64)))), .second, .val (.int (2 : Int32)), .val (.int (((p0.toInt8.toInt32 &&& (255 : Int32)) &&& (127 : Int32)).toInt64 + ((p1.toInt8.toInt32 &&& (255 : Int32)).toInt64 * (128 : Int64))).toInt32), .val (.ref b141), .unset] [.int (((0 : Int32) ||| ((p0.toInt8.toInt32 &&& (127 : Int32)) <<< ((0 : Int32) &&& 31))) ||| ((p1.toInt8.toInt32 &&& (127 : Int32)) <<< ((7 : Int32) &&& 31)))]))
        refine g_istore (pc := 381) (ls' := #[.val (.int p0), .val (.int p1), .val (.int p2), .val (.int p3), .val (.int p4), .val (.int p5), .val (.int (1 : Int32)), .val (.int (p5 >>> ((1 : Int32) &&& 31)).toInt8.toInt32), .val (.int p0.toInt8.toInt32), .val (.int p1.toInt8.toInt32), .val (.int p2.toInt8.toInt32), .val (.int p3.toInt8.toInt32), .val (.int (p4 &&& (15 : Int32)).toInt8.toInt32), .val (.ref b1), .val (.int (p0.toInt8.toInt32 &&& (255 : Int32))), .val (.int (p1.toInt8.toInt32 &&& (255 : Int32))), .val (.int (p2.toInt8.toInt32 &&& (255 : Int32))), .val (.int (p3.toInt8.toInt32 &&& (255 : Int32))), .val (.int ((p4 &&& (15 : Int32)).toInt8.toInt32 &&& (255 : Int32))), .val (.long (((p0.toInt8.toInt32 &&& (255 : Int32)) &&& (127 : Int32)).toInt64 + ((p1.toInt8.toInt32 &&& (255 : Int32)).toInt64 * (128 : Int64)))), .second, .val (.int (2 : Int32)), .val (.int (((p0.toInt8.toInt32 &&& (255 : Int32)) &&& (127 : Int32)).toInt64 + ((p1.toInt8.toInt32 &&& (255 : Int32)).toInt64 * (128 : Int64))).toInt32), .val (.ref b141), .val (.int (((0 : Int32) ||| ((p0.toInt8.toInt32 &&& (127 : Int32)) <<< ((0 : Int32) &&& 31))) ||| ((p1.toInt8.toInt32 &&& (127 : Int32)) <<< ((7 : Int32) &&& 31))))]) W150 at_381 rfl ?_
        refine g_iload (pc := 383) W150 at_383 rfl ?_
        refine g_iload (pc := 385) W150 at_385 rfl ?_
        refine g_icmpN (pc := 387) W150 at_387 (teq (own_e2 p0.toInt8.toInt32 p1.toInt8.toInt32 (by have q := c99; simp only [Int32.lt_iff_toInt_lt, own_m, Int32.reduceToInt] at q; omega))).2 ?_
        refine g_aload (pc := 390) W150 at_390 rfl rfl ?_
        refine g_virtual (i := 0) (pc := 392) (Wt := 0) (argsL := []) (rest := []) (loc := [(b141, (.object "com/example/attestry/attestry/home/ByteCursor"), [.ref b1, .int (3 : Int32)])]) (rst := [(b1, (.array .byte), [.int (p5 >>> ((1 : Int32) &&& 31)).toInt8.toInt32, .int p0.toInt8.toInt32, .int p1.toInt8.toInt32, .int p2.toInt8.toInt32, .int p3.toInt8.toInt32, .int (p4 &&& (15 : Int32)).toInt8.toInt32])]) W150 (hw _ (List.mem_of_getElem? (i := 19) rfl)) (hw _ (List.mem_of_getElem? (i := 21) rfl)) (hw _ (List.mem_of_getElem? (i := 3) rfl)) (hw _ (List.mem_of_getElem? (i := 23) rfl)) (hw _ (List.mem_of_getElem? (i := 20) rfl)) (hw _ (List.mem_of_getElem? (i := 22) rfl)) rfl (by decide) (c_at l Z a0 hw b141 b1 (3 : Int32)) ⟨[0, 1], by decide, rfl⟩ rfl pd___I rfl rfl rfl (Nat.le_of_ble_eq_true rfl) (by decide) (by decide) (by decide) (by decide) at_392 ?_
        rintro T151 _ _ ⟨rfl, rfl⟩ W152
        have W153 := W152.re (os' := [(b141, (.object "com/example/attestry/attestry/home/ByteCursor"), [.ref b1, .int (3 : Int32)]), (b1, (.array .byte), [.int (p5 >>> ((1 : Int32) &&& 31)).toInt8.toInt32, .int p0.toInt8.toInt32, .int p1.toInt8.toInt32, .int p2.toInt8.toInt32, .int p3.toInt8.toInt32, .int (p4 &&& (15 : Int32)).toInt8.toInt32])]) rfl
        show Go p_ e_ bl_ _ (T151.setTop (mkF m_ 395 #[.val (.int p0), .val (.int p1), .val (.int p2), .val (.int p3), .val (.int p4), .val (.int p5), .val (.int (1 : Int32)), .val (.int (p5 >>> ((1 : Int32) &&& 31)).toInt8.toInt32), .val (.int p0.toInt8.toInt32), .val (.int p1.toInt8.toInt32), .val (.int p2.toInt8.toInt32), .val (.int p3.toInt8.toInt32), .val (.int (p4 &&& (15 : Int32)).toInt8.toInt32), .val (.ref b1), .val (.int (p0.toInt8.toInt32 &&& (255 : Int32))), .val (.int (p1.toInt8.toInt32 &&& (255 : Int32))), .val (.int (p2.toInt8.toInt32 &&& (255 : Int32))), .val (.int (p3.toInt8.toInt32 &&& (255 : Int32))), .val (.int ((p4 &&& (15 : Int32)).toInt8.toInt32 &&& (255 : Int32))), .val (.long (((p0.toInt8.toInt32 &&& (255 : Int32)) &&& (127 : Int32)).toInt64 + ((p1.toInt8.toInt32 &&& (255 : Int32)).toInt64 * (128 : Int64)))), .second, .val (.int (2 : Int32)), .val (.int (((p0.toInt8.toInt32 &&& (255 : Int32)) &&& (127 : Int32)).toInt64 + ((p1.toInt8.toInt32 &&& (255 : Int32)).toInt64 * (128 : Int64))).toInt32), .val (.ref b141), .val (.int (((0 : Int32) ||| ((p0.toInt8.toInt32 &&& (127 : Int32)) <<< ((0 : Int32) &&& 31))) ||| ((p1.toInt8.toInt32 &&& (127 : Int32)) <<< ((7 : Int32) &&& 31))))] [.int (3 : Int32)]))
        refine g_iload (pc := 395) W153 at_395 rfl ?_
        refine g_iload (pc := 397) W153 at_397 rfl ?_
        refine g_iadd (pc := 399) W153 at_399 ?_
        show Go p_ e_ bl_ _ (T151.setTop (mkF m_ 400 #[.val (.int p0), .val (.int p1), .val (.int p2), .val (.int p3), .val (.int p4), .val (.int p5), .val (.int (1 : Int32)), .val (.int (p5 >>> ((1 : Int32) &&& 31)).toInt8.toInt32), .val (.int p0.toInt8.toInt32), .val (.int p1.toInt8.toInt32), .val (.int p2.toInt8.toInt32), .val (.int p3.toInt8.toInt32), .val (.int (p4 &&& (15 : Int32)).toInt8.toInt32), .val (.ref b1), .val (.int (p0.toInt8.toInt32 &&& (255 : Int32))), .val (.int (p1.toInt8.toInt32 &&& (255 : Int32))), .val (.int (p2.toInt8.toInt32 &&& (255 : Int32))), .val (.int (p3.toInt8.toInt32 &&& (255 : Int32))), .val (.int ((p4 &&& (15 : Int32)).toInt8.toInt32 &&& (255 : Int32))), .val (.long (((p0.toInt8.toInt32 &&& (255 : Int32)) &&& (127 : Int32)).toInt64 + ((p1.toInt8.toInt32 &&& (255 : Int32)).toInt64 * (128 : Int64)))), .second, .val (.int (2 : Int32)), .val (.int (((p0.toInt8.toInt32 &&& (255 : Int32)) &&& (127 : Int32)).toInt64 + ((p1.toInt8.toInt32 &&& (255 : Int32)).toInt64 * (128 : Int64))).toInt32), .val (.ref b141), .val (.int (((0 : Int32) ||| ((p0.toInt8.toInt32 &&& (127 : Int32)) <<< ((0 : Int32) &&& 31))) ||| ((p1.toInt8.toInt32 &&& (127 : Int32)) <<< ((7 : Int32) &&& 31))))] [.int (3 : Int32), .int (3 : Int32)]))
        refine g_icmpN (pc := 400) W153 at_400 (by decide) ?_
        refine g_iconst (pc := 403) (1 : Int32) (by decide) W153 at_403 ?_
        refine g_goto 408 (pc := 404) W153 at_404 (by decide) (by decide) ?_
        exact g_zreturn (pc := 408) rfl (by decide) W153 at_408 (by decide) (by decide) rfl
    · refine g_iconst (pc := 172) (1 : Int32) (by decide) W97 at_172 ?_
      refine g_istore (pc := 173) (ls' := #[.val (.int p0), .val (.int p1), .val (.int p2), .val (.int p3), .val (.int p4), .val (.int p5), .val (.int (1 : Int32)), .val (.int (p5 >>> ((1 : Int32) &&& 31)).toInt8.toInt32), .val (.int p0.toInt8.toInt32), .val (.int p1.toInt8.toInt32), .val (.int p2.toInt8.toInt32), .val (.int p3.toInt8.toInt32), .val (.int (p4 &&& (15 : Int32)).toInt8.toInt32), .val (.ref b1), .val (.int (p0.toInt8.toInt32 &&& (255 : Int32))), .val (.int (p1.toInt8.toInt32 &&& (255 : Int32))), .val (.int (p2.toInt8.toInt32 &&& (255 : Int32))), .val (.int (p3.toInt8.toInt32 &&& (255 : Int32))), .val (.int ((p4 &&& (15 : Int32)).toInt8.toInt32 &&& (255 : Int32))), .unset, .unset, .val (.int (1 : Int32)), .unset, .unset, .unset]) W97 at_173 rfl ?_
      refine g_iload (pc := 175) W97 at_175 rfl ?_
      refine g_i2l (pc := 177) W97 at_177 ?_
      refine g_lstore (pc := 178) (ls' := #[.val (.int p0), .val (.int p1), .val (.int p2), .val (.int p3), .val (.int p4), .val (.int p5), .val (.int (1 : Int32)), .val (.int (p5 >>> ((1 : Int32) &&& 31)).toInt8.toInt32), .val (.int p0.toInt8.toInt32), .val (.int p1.toInt8.toInt32), .val (.int p2.toInt8.toInt32), .val (.int p3.toInt8.toInt32), .val (.int (p4 &&& (15 : Int32)).toInt8.toInt32), .val (.ref b1), .val (.int (p0.toInt8.toInt32 &&& (255 : Int32))), .val (.int (p1.toInt8.toInt32 &&& (255 : Int32))), .val (.int (p2.toInt8.toInt32 &&& (255 : Int32))), .val (.int (p3.toInt8.toInt32 &&& (255 : Int32))), .val (.int ((p4 &&& (15 : Int32)).toInt8.toInt32 &&& (255 : Int32))), .val (.long (p0.toInt8.toInt32 &&& (255 : Int32)).toInt64), .second, .val (.int (1 : Int32)), .unset, .unset, .unset]) W97 at_178 rfl ?_
      refine g_goto 358 (pc := 180) W97 at_180 (by decide) (by decide) ?_
      refine g_lload (pc := 358) W97 at_358 rfl ?_
      refine g_l2i (pc := 360) W97 at_360 ?_
      refine g_istore (pc := 361) (ls' := #[.val (.int p0), .val (.int p1), .val (.int p2), .val (.int p3), .val (.int p4), .val (.int p5), .val (.int (1 : Int32)), .val (.int (p5 >>> ((1 : Int32) &&& 31)).toInt8.toInt32), .val (.int p0.toInt8.toInt32), .val (.int p1.toInt8.toInt32), .val (.int p2.toInt8.toInt32), .val (.int p3.toInt8.toInt32), .val (.int (p4 &&& (15 : Int32)).toInt8.toInt32), .val (.ref b1), .val (.int (p0.toInt8.toInt32 &&& (255 : Int32))), .val (.int (p1.toInt8.toInt32 &&& (255 : Int32))), .val (.int (p2.toInt8.toInt32 &&& (255 : Int32))), .val (.int (p3.toInt8.toInt32 &&& (255 : Int32))), .val (.int ((p4 &&& (15 : Int32)).toInt8.toInt32 &&& (255 : Int32))), .val (.long (p0.toInt8.toInt32 &&& (255 : Int32)).toInt64), .second, .val (.int (1 : Int32)), .val (.int (p0.toInt8.toInt32 &&& (255 : Int32)).toInt64.toInt32), .unset, .unset]) W97 at_361 rfl ?_
      refine g_new (pc := 363) (vs := [.null, .int (0 : Int32)]) W97 (hw _ (List.mem_of_getElem? (i := 1) rfl)) (hw _ (List.mem_of_getElem? (i := 2) rfl)) (hw _ (List.mem_of_getElem? (i := 3) rfl)) (cls_ByteCursor hw) (by decide) at_363 (by decide) (by decide) (fun T155 b154 W156 => ?_)
      have W157 := W156.re (os' := [(b1, (.array .byte), [.int (p5 >>> ((1 : Int32) &&& 31)).toInt8.toInt32, .int p0.toInt8.toInt32, .int p1.toInt8.toInt32, .int p2.toInt8.toInt32, .int p3.toInt8.toInt32, .int (p4 &&& (15 : Int32)).toInt8.toInt32]), (b154, (.object "com/example/attestry/attestry/home/ByteCursor"), [.null, .int (0 : Int32)])]) rfl
      refine g_dup (pc := 366) W157 at_366 rfl ?_
      refine g_aload (pc := 367) W157 at_367 rfl rfl ?_
      refine g_iload (pc := 369) W157 at_369 rfl ?_
      refine g_init (pc := 371) (Wt := 1) (argsL := [.ref b1, .int (1 : Int32)]) (rest := [.ref b154]) (loc := [(b154, (.object "com/example/attestry/attestry/home/ByteCursor"), [.null, .int (0 : Int32)])]) (rst := [(b1, (.array .byte), [.int (p5 >>> ((1 : Int32) &&& 31)).toInt8.toInt32, .int p0.toInt8.toInt32, .int p1.toInt8.toInt32, .int p2.toInt8.toInt32, .int p3.toInt8.toInt32, .int (p4 &&& (15 : Int32)).toInt8.toInt32])]) W157 rfl (hw _ (List.mem_of_getElem? (i := 4) rfl)) (hw _ (List.mem_of_getElem? (i := 5) rfl)) (hw _ (List.mem_of_getElem? (i := 3) rfl)) (hw _ (List.mem_of_getElem? (i := 6) rfl)) (by decide) (c_init l Z a0 hw b154 b1 (1 : Int32)) ⟨[1, 0], by decide, rfl⟩ rfl pd_ABI__V rfl rfl rfl (Nat.le_of_ble_eq_true rfl) (by decide) (by decide) (by decide) (by decide) at_371 ?_
      rintro T158 _ _ ⟨rfl, rfl⟩ W159
      have W160 := W159.re (os' := [(b154, (.object "com/example/attestry/attestry/home/ByteCursor"), [.ref b1, .int (1 : Int32)]), (b1, (.array .byte), [.int (p5 >>> ((1 : Int32) &&& 31)).toInt8.toInt32, .int p0.toInt8.toInt32, .int p1.toInt8.toInt32, .int p2.toInt8.toInt32, .int p3.toInt8.toInt32, .int (p4 &&& (15 : Int32)).toInt8.toInt32])]) rfl
      show Go p_ e_ bl_ _ (T158.setTop (mkF m_ 374 #[.val (.int p0), .val (.int p1), .val (.int p2), .val (.int p3), .val (.int p4), .val (.int p5), .val (.int (1 : Int32)), .val (.int (p5 >>> ((1 : Int32) &&& 31)).toInt8.toInt32), .val (.int p0.toInt8.toInt32), .val (.int p1.toInt8.toInt32), .val (.int p2.toInt8.toInt32), .val (.int p3.toInt8.toInt32), .val (.int (p4 &&& (15 : Int32)).toInt8.toInt32), .val (.ref b1), .val (.int (p0.toInt8.toInt32 &&& (255 : Int32))), .val (.int (p1.toInt8.toInt32 &&& (255 : Int32))), .val (.int (p2.toInt8.toInt32 &&& (255 : Int32))), .val (.int (p3.toInt8.toInt32 &&& (255 : Int32))), .val (.int ((p4 &&& (15 : Int32)).toInt8.toInt32 &&& (255 : Int32))), .val (.long (p0.toInt8.toInt32 &&& (255 : Int32)).toInt64), .second, .val (.int (1 : Int32)), .val (.int (p0.toInt8.toInt32 &&& (255 : Int32)).toInt64.toInt32), .unset, .unset] [.ref b154]))
      refine g_astore (pc := 374) (ls' := #[.val (.int p0), .val (.int p1), .val (.int p2), .val (.int p3), .val (.int p4), .val (.int p5), .val (.int (1 : Int32)), .val (.int (p5 >>> ((1 : Int32) &&& 31)).toInt8.toInt32), .val (.int p0.toInt8.toInt32), .val (.int p1.toInt8.toInt32), .val (.int p2.toInt8.toInt32), .val (.int p3.toInt8.toInt32), .val (.int (p4 &&& (15 : Int32)).toInt8.toInt32), .val (.ref b1), .val (.int (p0.toInt8.toInt32 &&& (255 : Int32))), .val (.int (p1.toInt8.toInt32 &&& (255 : Int32))), .val (.int (p2.toInt8.toInt32 &&& (255 : Int32))), .val (.int (p3.toInt8.toInt32 &&& (255 : Int32))), .val (.int ((p4 &&& (15 : Int32)).toInt8.toInt32 &&& (255 : Int32))), .val (.long (p0.toInt8.toInt32 &&& (255 : Int32)).toInt64), .second, .val (.int (1 : Int32)), .val (.int (p0.toInt8.toInt32 &&& (255 : Int32)).toInt64.toInt32), .val (.ref b154), .unset]) W160 at_374 rfl rfl ?_
      refine g_aload (pc := 376) W160 at_376 rfl rfl ?_
      refine g_virtual (i := 0) (pc := 378) (Wt := 0) (argsL := []) (rest := []) (loc := [(b154, (.object "com/example/attestry/attestry/home/ByteCursor"), [.ref b1, .int (1 : Int32)]), (b1, (.array .byte), [.int (p5 >>> ((1 : Int32) &&& 31)).toInt8.toInt32, .int p0.toInt8.toInt32, .int p1.toInt8.toInt32, .int p2.toInt8.toInt32, .int p3.toInt8.toInt32, .int (p4 &&& (15 : Int32)).toInt8.toInt32])]) (rst := []) W160 (hw _ (List.mem_of_getElem? (i := 14) rfl)) (hw _ (List.mem_of_getElem? (i := 16) rfl)) (hw _ (List.mem_of_getElem? (i := 3) rfl)) (hw _ (List.mem_of_getElem? (i := 18) rfl)) (hw _ (List.mem_of_getElem? (i := 15) rfl)) (hw _ (List.mem_of_getElem? (i := 17) rfl)) rfl (by decide) (c_wh11 l Z a0 hw b154 b1 (p5 >>> ((1 : Int32) &&& 31)).toInt8.toInt32 p0.toInt8.toInt32 p1.toInt8.toInt32 p2.toInt8.toInt32 p3.toInt8.toInt32 (p4 &&& (15 : Int32)).toInt8.toInt32 (own_n c98)) ⟨[0, 1], by decide, rfl⟩ rfl pd___I rfl rfl rfl (Nat.le_of_ble_eq_true rfl) (by decide) (by decide) (by decide) (by decide) at_378 ?_
      rintro T161 _ _ ⟨rfl, rfl⟩ W162
      have W163 := W162.re (os' := [(b154, (.object "com/example/attestry/attestry/home/ByteCursor"), [.ref b1, .int (2 : Int32)]), (b1, (.array .byte), [.int (p5 >>> ((1 : Int32) &&& 31)).toInt8.toInt32, .int p0.toInt8.toInt32, .int p1.toInt8.toInt32, .int p2.toInt8.toInt32, .int p3.toInt8.toInt32, .int (p4 &&& (15 : Int32)).toInt8.toInt32])]) rfl
      show Go p_ e_ bl_ _ (T161.setTop (mkF m_ 381 #[.val (.int p0), .val (.int p1), .val (.int p2), .val (.int p3), .val (.int p4), .val (.int p5), .val (.int (1 : Int32)), .val (.int (p5 >>> ((1 : Int32) &&& 31)).toInt8.toInt32), .val (.int p0.toInt8.toInt32), .val (.int p1.toInt8.toInt32), .val (.int p2.toInt8.toInt32), .val (.int p3.toInt8.toInt32), .val (.int (p4 &&& (15 : Int32)).toInt8.toInt32), .val (.ref b1), .val (.int (p0.toInt8.toInt32 &&& (255 : Int32))), .val (.int (p1.toInt8.toInt32 &&& (255 : Int32))), .val (.int (p2.toInt8.toInt32 &&& (255 : Int32))), .val (.int (p3.toInt8.toInt32 &&& (255 : Int32))), .val (.int ((p4 &&& (15 : Int32)).toInt8.toInt32 &&& (255 : Int32))), .val (.long (p0.toInt8.toInt32 &&& (255 : Int32)).toInt64), .second, .val (.int (1 : Int32)), .val (.int (p0.toInt8.toInt32 &&& (255 : Int32)).toInt64.toInt32), .val (.ref b154), .unset] [.int ((0 : Int32) ||| ((p0.toInt8.toInt32 &&& (127 : Int32)) <<< ((0 : Int32) &&& 31)))]))
      refine g_istore (pc := 381) (ls' := #[.val (.int p0), .val (.int p1), .val (.int p2), .val (.int p3), .val (.int p4), .val (.int p5), .val (.int (1 : Int32)), .val (.int (p5 >>> ((1 : Int32) &&& 31)).toInt8.toInt32), .val (.int p0.toInt8.toInt32), .val (.int p1.toInt8.toInt32), .val (.int p2.toInt8.toInt32), .val (.int p3.toInt8.toInt32), .val (.int (p4 &&& (15 : Int32)).toInt8.toInt32), .val (.ref b1), .val (.int (p0.toInt8.toInt32 &&& (255 : Int32))), .val (.int (p1.toInt8.toInt32 &&& (255 : Int32))), .val (.int (p2.toInt8.toInt32 &&& (255 : Int32))), .val (.int (p3.toInt8.toInt32 &&& (255 : Int32))), .val (.int ((p4 &&& (15 : Int32)).toInt8.toInt32 &&& (255 : Int32))), .val (.long (p0.toInt8.toInt32 &&& (255 : Int32)).toInt64), .second, .val (.int (1 : Int32)), .val (.int (p0.toInt8.toInt32 &&& (255 : Int32)).toInt64.toInt32), .val (.ref b154), .val (.int ((0 : Int32) ||| ((p0.toInt8.toInt32 &&& (127 : Int32)) <<< ((0 : Int32) &&& 31))))]) W163 at_381 rfl ?_
      refine g_iload (pc := 383) W163 at_383 rfl ?_
      refine g_iload (pc := 385) W163 at_385 rfl ?_
      refine g_icmpN (pc := 387) W163 at_387 (teq (own_e1 p0.toInt8.toInt32 (by have q := c98; simp only [Int32.lt_iff_toInt_lt, own_m, Int32.reduceToInt] at q; omega))).2 ?_
      refine g_aload (pc := 390) W163 at_390 rfl rfl ?_
      refine g_virtual (i := 0) (pc := 392) (Wt := 0) (argsL := []) (rest := []) (loc := [(b154, (.object "com/example/attestry/attestry/home/ByteCursor"), [.ref b1, .int (2 : Int32)])]) (rst := [(b1, (.array .byte), [.int (p5 >>> ((1 : Int32) &&& 31)).toInt8.toInt32, .int p0.toInt8.toInt32, .int p1.toInt8.toInt32, .int p2.toInt8.toInt32, .int p3.toInt8.toInt32, .int (p4 &&& (15 : Int32)).toInt8.toInt32])]) W163 (hw _ (List.mem_of_getElem? (i := 19) rfl)) (hw _ (List.mem_of_getElem? (i := 21) rfl)) (hw _ (List.mem_of_getElem? (i := 3) rfl)) (hw _ (List.mem_of_getElem? (i := 23) rfl)) (hw _ (List.mem_of_getElem? (i := 20) rfl)) (hw _ (List.mem_of_getElem? (i := 22) rfl)) rfl (by decide) (c_at l Z a0 hw b154 b1 (2 : Int32)) ⟨[0, 1], by decide, rfl⟩ rfl pd___I rfl rfl rfl (Nat.le_of_ble_eq_true rfl) (by decide) (by decide) (by decide) (by decide) at_392 ?_
      rintro T164 _ _ ⟨rfl, rfl⟩ W165
      have W166 := W165.re (os' := [(b154, (.object "com/example/attestry/attestry/home/ByteCursor"), [.ref b1, .int (2 : Int32)]), (b1, (.array .byte), [.int (p5 >>> ((1 : Int32) &&& 31)).toInt8.toInt32, .int p0.toInt8.toInt32, .int p1.toInt8.toInt32, .int p2.toInt8.toInt32, .int p3.toInt8.toInt32, .int (p4 &&& (15 : Int32)).toInt8.toInt32])]) rfl
      show Go p_ e_ bl_ _ (T164.setTop (mkF m_ 395 #[.val (.int p0), .val (.int p1), .val (.int p2), .val (.int p3), .val (.int p4), .val (.int p5), .val (.int (1 : Int32)), .val (.int (p5 >>> ((1 : Int32) &&& 31)).toInt8.toInt32), .val (.int p0.toInt8.toInt32), .val (.int p1.toInt8.toInt32), .val (.int p2.toInt8.toInt32), .val (.int p3.toInt8.toInt32), .val (.int (p4 &&& (15 : Int32)).toInt8.toInt32), .val (.ref b1), .val (.int (p0.toInt8.toInt32 &&& (255 : Int32))), .val (.int (p1.toInt8.toInt32 &&& (255 : Int32))), .val (.int (p2.toInt8.toInt32 &&& (255 : Int32))), .val (.int (p3.toInt8.toInt32 &&& (255 : Int32))), .val (.int ((p4 &&& (15 : Int32)).toInt8.toInt32 &&& (255 : Int32))), .val (.long (p0.toInt8.toInt32 &&& (255 : Int32)).toInt64), .second, .val (.int (1 : Int32)), .val (.int (p0.toInt8.toInt32 &&& (255 : Int32)).toInt64.toInt32), .val (.ref b154), .val (.int ((0 : Int32) ||| ((p0.toInt8.toInt32 &&& (127 : Int32)) <<< ((0 : Int32) &&& 31))))] [.int (2 : Int32)]))
      refine g_iload (pc := 395) W166 at_395 rfl ?_
      refine g_iload (pc := 397) W166 at_397 rfl ?_
      refine g_iadd (pc := 399) W166 at_399 ?_
      show Go p_ e_ bl_ _ (T164.setTop (mkF m_ 400 #[.val (.int p0), .val (.int p1), .val (.int p2), .val (.int p3), .val (.int p4), .val (.int p5), .val (.int (1 : Int32)), .val (.int (p5 >>> ((1 : Int32) &&& 31)).toInt8.toInt32), .val (.int p0.toInt8.toInt32), .val (.int p1.toInt8.toInt32), .val (.int p2.toInt8.toInt32), .val (.int p3.toInt8.toInt32), .val (.int (p4 &&& (15 : Int32)).toInt8.toInt32), .val (.ref b1), .val (.int (p0.toInt8.toInt32 &&& (255 : Int32))), .val (.int (p1.toInt8.toInt32 &&& (255 : Int32))), .val (.int (p2.toInt8.toInt32 &&& (255 : Int32))), .val (.int (p3.toInt8.toInt32 &&& (255 : Int32))), .val (.int ((p4 &&& (15 : Int32)).toInt8.toInt32 &&& (255 : Int32))), .val (.long (p0.toInt8.toInt32 &&& (255 : Int32)).toInt64), .second, .val (.int (1 : Int32)), .val (.int (p0.toInt8.toInt32 &&& (255 : Int32)).toInt64.toInt32), .val (.ref b154), .val (.int ((0 : Int32) ||| ((p0.toInt8.toInt32 &&& (127 : Int32)) <<< ((0 : Int32) &&& 31))))] [.int (2 : Int32), .int (2 : Int32)]))
      refine g_icmpN (pc := 400) W166 at_400 (by decide) ?_
      refine g_iconst (pc := 403) (1 : Int32) (by decide) W166 at_403 ?_
      refine g_goto 408 (pc := 404) W166 at_404 (by decide) (by decide) ?_
      exact g_zreturn (pc := 408) rfl (by decide) W166 at_408 (by decide) (by decide) rfl
set_option maxRecDepth 65536 in
set_option maxHeartbeats 40000000 in
theorem comes_1 {Post : Tables → Env → Array Value → State → Outcome → State → Prop} (hpost : ∀ tb e args s v u, (limb_1_1.after args s (.returned v) u = true ∧ limb_1_2.after args s (.returned v) u = true ∧ True) → FrameEnd s (.returned v) u (Jvm.fieldLocs frame_1_writes args s ++ Jvm.arrayLocs frame_1_arrays args s ++ Jvm.staticLocs frame_1_statics s) 16 128 → Post tb e args s (.returned v) u) :
    ArmFor flags0 classFile x code maxLocals ret World_1 tables_1 room_1 Calls_1 rest_1 Pre_1 Post := by
  intro l hfl _ _ p e ha hc hk s m args below hf hA hF happ hP
  obtain ⟨hcalls, hrest, hpre⟩ := hP
  obtain ⟨-, -, -, hnamed, -, -, -, hat⟩ := (Spec.applies_iff hf).mp happ
  obtain ⟨hg, hn⟩ := and_e (Cond.before_iff.mp (show (Jvm.Cond.and given_1 narrow_1).before args s = true from hpre))
  obtain ⟨h1, hr0⟩ := and_e hg
  obtain ⟨w0, w1, w2, w3, w4, w5, rfl⟩ : ∃ w0 w1 w2 w3 w4 w5 : Value, args = #[w0, w1, w2, w3, w4, w5] := by
    have hs : args.size = 6 := by simpa [Cond.value, given_1] using h1
    obtain ⟨L⟩ := args
    match L, hs with
    | [w0, w1, w2, w3, w4, w5], _ => exact ⟨w0, w1, w2, w3, w4, w5, rfl⟩
  have hw := fun d (hd : d ∈ tables_1) => atoms_spec (ws := Jvm.Cond.code x code maxLocals ret :: tables_1) hat d (List.mem_cons_of_mem _ hd)
  obtain ⟨ha0, hr1⟩ := and_e hr0
  obtain ⟨i0, e0⟩ := is_v ha0
  obtain rfl : w0 = (.int i0) := Option.some.inj e0
  obtain ⟨ha1, hr2⟩ := and_e hr1
  obtain ⟨i1, e1⟩ := is_v ha1
  obtain rfl : w1 = (.int i1) := Option.some.inj e1
  obtain ⟨ha2, hr3⟩ := and_e hr2
  obtain ⟨i2, e2⟩ := is_v ha2
  obtain rfl : w2 = (.int i2) := Option.some.inj e2
  obtain ⟨ha3, hr4⟩ := and_e hr3
  obtain ⟨i3, e3⟩ := is_v ha3
  obtain rfl : w3 = (.int i3) := Option.some.inj e3
  obtain ⟨ha4, hr5⟩ := and_e hr4
  obtain ⟨i4, e4⟩ := is_v ha4
  obtain rfl : w4 = (.int i4) := Option.some.inj e4
  obtain ⟨i5, e5⟩ := is_v hr5
  obtain rfl : w5 = (.int i5) := Option.some.inj e5
  obtain ⟨n, o, h1, h2, h3, _, L, rfl, hQ, hq⟩ := c_law l s _ hw (B := s.heap.size) i0 i1 i2 i3 i4 i5 s.heap Hp.nil (fun _ q => nomatch q) (Nat.le_refl _) p e ha hc hk s m _ below hf ((Spec.applies_iff_loose hf).mp happ).1 ⟨rfl, State.Warmed39.refl s, rfl⟩ trivial
  have N := Con.frame (y := x) (as := #[]) (rm := room_1) hQ
  obtain ⟨-, os', -, rfl⟩ := hQ
  refine ⟨n, _, h1, h2, h3, hpost _ _ _ _ _ _ ⟨Cond.after_iff.mpr rfl, Cond.after_iff.mpr (eq_i res_at (Term.int_eval (1)) rfl), trivial⟩ ⟨hq.1, hq.2.1, (hq.2.2.sift fun y hy => Or.inr (N y hy)).mono (by decide) (by decide)⟩⟩
theorem main_1_1 : Claimed_1_1 := comes_1 fun _ _ _ _ _ _ h hF => ⟨h.1, hF⟩
theorem main_1_2 : Claimed_1_2 := comes_1 fun _ _ _ _ _ _ h hF => ⟨h.2.1, hF⟩
end Jvm.Pilot.@@N@@
namespace Jvm.Pilot.@@N@@
open Jvm Jvm.ClassFile Sem Op Lib Jvm.Free Jvm.Stand Jvm.Pilot.@@N@@.Jvm.D
/-! MADE BY PROGRAM (witnessworld.py) out of the Statement's table words and the real class files: 9 classes; the members and pool entries that the words name. The judged class is class 1, her method 1. -/
namespace start1
open Jvm.ClassFile
def u (s : String) : CpInfo := .utf8 (stringToUtf16 s)
/-- a pool by its gaps: so many unusable entries, then the entry; so many at the end -/
def gap : Nat → List CpInfo → List CpInfo
  | 0, r => r
  | n + 1, r => .unusable :: gap n r
def poolList (es : List (Nat × CpInfo)) (last : Nat) : List CpInfo := es.foldr (fun e r => gap e.1 (e.2 :: r)) (gap last [])
def pool (es : List (Nat × CpInfo)) (last : Nat) : Array CpInfo := ⟨poolList es last⟩
def fileOf (pool : Array CpInfo) (this : Nat) (attrs : Array Attribute := #[]) (ms : Array MethodInfo := #[]) (fl : Nat := 33) (sup : Nat := 0) (ifs : Array Nat := #[]) (fds : Array FieldInfo := #[]) : ClassFile where
  minorVersion := 0
  majorVersion := 65
  constantPool := pool
  accessFlags := fl
  thisClass := this
  superClass := sup
  interfaces := ifs
  fields := fds
  methods := ms
  attributes := attrs
def plain (name : String) (sup : Option ClassId) : Class where
  name := name
  kind := .ordinary
  loader := none
  accessFlags := 33
  super := sup
  interfaces := #[]
  cf := none
  fields := #[]
  methods := #[]
  instanceTypes := #[]
  staticTypes := #[]
  resolved := #[]
  callSites := []
  init := .initialized
  statics := none
  mirror := none

def pool0 : Array CpInfo := pool [(5, u "<init>"), (0, u "()V"), (1, .class_ 10), (1, u "java/lang/Object")] 113

def k0c0 : Code := { maxStack := 0, maxLocals := 1, code := object_method_1_code, exceptionTable := #[], attributes := #[] }
def k0m0 : Method := { name := "<init>", desc := "()V", sig := { parameters := [], returnType := none }, accessFlags := 1, code := some k0c0 }
/-- java/lang/Object -/
def k0 : Class := { plain "java/lang/Object" none with
  accessFlags := 33
  interfaces := #[]
  cf := some (fileOf pool0 8 #[] #[{ accessFlags := 1, nameIndex := 5, descriptorIndex := 6, attributes := #[] }] 33 0 #[] #[])
  fields := #[]
  methods := #[k0m0]
  instanceTypes := #[]
  staticTypes := #[]
  resolved := Array.replicate 124 none
  statics := none }

def pool1 : Array CpInfo := pool [(2, .class_ 4), (1, u "java/lang/Object"), (0, u "<init>"), (0, u "()V"), (0, .long 128), (1, .long 16384), (1, .long 2097152), (1, .long 268435456), (1, .class_ 16), (0, u "com/example/attestry/attestry/home/ByteCursor"), (0, .methodref 15 18), (0, .nameAndType 5 19), (0, u "([BI)V"), (0, .methodref 15 21), (0, .nameAndType 22 23), (0, u "whole"), (0, u "()I"), (0, .methodref 15 25), (0, .nameAndType 26 23), (0, u "at"), (0, .class_ 28), (0, u "com/example/attestry/attestry/home/ByteCursorWholePinLaw"), (2, u "law"), (0, u "(IIIIII)Z")] 5

def k1m0 : Method := { name := "<init>", desc := "()V", sig := { parameters := [], returnType := none }, accessFlags := 1, code := none }
def k1c1 : Code := { maxStack := 6, maxLocals := 25, code := code, exceptionTable := #[], attributes := #[] }
def k1m1 : Method := { name := "law", desc := "(IIIIII)Z", sig := { parameters := [.int, .int, .int, .int, .int, .int], returnType := some .boolean }, accessFlags := 9, code := some k1c1 }
/-- com/example/attestry/attestry/home/ByteCursorWholePinLaw -/
def k1 : Class := { plain "com/example/attestry/attestry/home/ByteCursorWholePinLaw" (some 0) with
  accessFlags := 49
  interfaces := #[]
  cf := some (fileOf pool1 27 #[] #[{ accessFlags := 1, nameIndex := 5, descriptorIndex := 6, attributes := #[] }, { accessFlags := 9, nameIndex := 31, descriptorIndex := 32, attributes := #[] }] 49 2 #[] #[])
  fields := #[]
  methods := #[k1m0, k1m1]
  instanceTypes := #[]
  staticTypes := #[]
  resolved := Array.replicate 38 none
  statics := none }

def pool2 : Array CpInfo := pool [(1, .methodref 2 3), (0, .class_ 4), (0, .nameAndType 5 6), (0, u "java/lang/Object"), (0, u "<init>"), (0, u "()V"), (0, .fieldref 8 9), (0, .class_ 10), (0, .nameAndType 11 12), (0, u "com/example/attestry/attestry/home/ByteCursor"), (0, u "bytes"), (0, u "[B"), (0, .fieldref 8 14), (0, .nameAndType 15 16), (0, u "at"), (0, u "I"), (0, u "LONGEST"), (2, u "([BI)V"), (3, u "()I"), (3, u "whole")] 5

def k2c0 : Code := { maxStack := 2, maxLocals := 3, code := prog_1_method_1_code, exceptionTable := #[], attributes := #[] }
def k2m0 : Method := { name := "<init>", desc := "([BI)V", sig := { parameters := [(.array .byte), .int], returnType := none }, accessFlags := 0, code := some k2c0 }
def k2c1 : Code := { maxStack := 1, maxLocals := 1, code := prog_1_method_3_code, exceptionTable := #[], attributes := #[] }
def k2m1 : Method := { name := "at", desc := "()I", sig := { parameters := [], returnType := some .int }, accessFlags := 0, code := some k2c1 }
def k2c2 : Code := { maxStack := 5, maxLocals := 4, code := prog_1_method_6_code, exceptionTable := #[], attributes := #[] }
def k2m2 : Method := { name := "whole", desc := "()I", sig := { parameters := [], returnType := some .int }, accessFlags := 0, code := some k2c2 }
/-- com/example/attestry/attestry/home/ByteCursor -/
def k2 : Class := { plain "com/example/attestry/attestry/home/ByteCursor" (some 0) with
  accessFlags := 48
  interfaces := #[]
  cf := some (fileOf pool2 8 #[] #[{ accessFlags := 0, nameIndex := 5, descriptorIndex := 20, attributes := #[] }, { accessFlags := 0, nameIndex := 15, descriptorIndex := 24, attributes := #[] }, { accessFlags := 0, nameIndex := 28, descriptorIndex := 24, attributes := #[] }] 48 2 #[] #[{ accessFlags := 24, nameIndex := 17, descriptorIndex := 16, attributes := #[] }, { accessFlags := 18, nameIndex := 11, descriptorIndex := 12, attributes := #[] }, { accessFlags := 2, nameIndex := 15, descriptorIndex := 16, attributes := #[] }])
  fields := #[{ name := "LONGEST", type := .int, accessFlags := 24, slot := 0, constantValue := 0 }, { name := "bytes", type := (.array .byte), accessFlags := 18, slot := 0, constantValue := 0 }, { name := "at", type := .int, accessFlags := 2, slot := 1, constantValue := 0 }]
  methods := #[k2m0, k2m1, k2m2]
  instanceTypes := #[(.array .byte), .int]
  staticTypes := #[.int]
  resolved := Array.replicate 34 none
  statics := none }

def pool3 : Array CpInfo := pool [(1, u "java/lang/Cloneable"), (0, .class_ 1), (0, u "java/lang/Object"), (0, .class_ 3)] 3

/-- java/lang/Cloneable -/
def k3 : Class := { plain "java/lang/Cloneable" (some 0) with
  accessFlags := 1537
  interfaces := #[]
  cf := some (fileOf pool3 2 #[] #[] 1537 4 #[] #[])
  fields := #[]
  methods := #[]
  instanceTypes := #[]
  staticTypes := #[]
  resolved := Array.replicate 8 none
  statics := none }

def pool4 : Array CpInfo := pool [(1, u "java/io/Serializable"), (0, .class_ 1), (0, u "java/lang/Object"), (0, .class_ 3)] 3

/-- java/io/Serializable -/
def k4 : Class := { plain "java/io/Serializable" (some 0) with
  accessFlags := 1537
  interfaces := #[]
  cf := some (fileOf pool4 2 #[] #[] 1537 4 #[] #[])
  fields := #[]
  methods := #[]
  instanceTypes := #[]
  staticTypes := #[]
  resolved := Array.replicate 8 none
  statics := none }

/-- the primitive byte -/
def k5 : Class := { plain "byte" none with kind := .primitive 'B', accessFlags := 0x411 }
/-- [B -/
def k6 : Class := { plain "[B" (some 0) with kind := .array 5 .byte, interfaces := #[3, 4], accessFlags := 1041 }

/-- the primitive int -/
def k7 : Class := { plain "int" none with kind := .primitive 'I', accessFlags := 0x411 }
/-- [I -/
def k8 : Class := { plain "[I" (some 0) with kind := .array 7 .int, interfaces := #[3, 4], accessFlags := 1041 }

def heap : Heap := #[]
def classes : Array Class := #[k0, k1, k2, k3, k4, k5, k6, k7, k8]
def interned : List (Array UInt16 × Addr) := []
def slotsUsed : Nat := 0
def theMethod : MethodId := ⟨1, 1⟩
def args0 : Array Value := #[.int 5, .int 7, .int 1, .int 2, .int 3, .int 4]
def aboutOver (below : List Frame) : State where
  vm := { classes := classes, interned := interned.toArray }
  heap := heap
  slotsUsed := slotsUsed
  threads := #[{ frames := .invoking theMethod args0 :: below }]
def below0 : List Frame := [.native { method := ⟨0, 0⟩, args := #[] }]
def about1 : State := aboutOver below0
def p0 : Program := .bare "" "" ""
def e0 : Env := launch0.env 0 0 0
theorem w_frames : about1.frames = Frame.invoking theMethod args0 :: below0 := rfl
set_option maxRecDepth 65536 in
theorem w_args : argsFit about1.vm theMethod args0 = true := by decide +kernel
set_option maxRecDepth 65536 in
theorem w_heap : heapFits about1 = true := by decide +kernel
set_option maxRecDepth 65536 in
theorem w_runnable : about1.curStatus? = some .runnable := by decide +kernel
set_option maxRecDepth 65536 in
theorem w_alone : about1.alone = true := by decide +kernel
set_option maxRecDepth 65536 in
theorem w_named : about1.methodNamed? x = some theMethod := by decide +kernel
set_option maxRecDepth 65536 in
theorem w_hears : about1.hears theMethod below0 = true := by decide +kernel
set_option maxRecDepth 65536 in
theorem w_ripe : about1.ripe theMethod args0 below0 = true := by decide +kernel
theorem w_running : about1.status = .running := rfl
set_option maxRecDepth 65536 in
theorem w_room : about1.hasRoom e0.platform room_1 = true :=
  launch0.hasRoom_least _ room_1 (by decide +kernel) (by decide +kernel) (by decide +kernel) (by decide +kernel) (by decide +kernel) (by decide +kernel)
theorem allAtoms_all (ts : List Jvm.Cond) (a : Array Jvm.Value) (st : Jvm.State) : (allAtoms ts).before a st = ts.all (fun c => c.before a st) := by
  induction ts with
  | nil => rfl
  | cons c t ih =>
    show (Jvm.Cond.and c (allAtoms t)).before a st = _
    rw [Jvm.Cond.before_and, ih, List.all_cons]
def words1 : List Jvm.Cond := Jvm.Cond.code x code maxLocals ret :: tables_1
/-- a 'code' word, met by the world's own term for the bytes: nothing is compared byte by byte -/
theorem code_word {y : MethodName} {bytes : ByteArray} {mx : Nat} {rt : Option FieldType} {a : Array Value} {s : State} {m : MethodId} {meth : Method} {c : Code} (h1 : s.methodNamed? y = some m) (h2 : s.vm.method? m = some meth) (h3 : meth.code = some c) (h4 : c.code = bytes)
    (h5 : (c.maxLocals == mx && c.exceptionTable.isEmpty && decide (c.maxStack ≤ mostOperands) && decide (meth.sig.returnType = rt) && !meth.locks && decide (parseMethodDescriptor y.desc = some meth.sig)) = true) : (Jvm.Cond.code y bytes mx rt).before a s = true := by
  simp only [Bool.and_eq_true, beq_iff_eq, Bool.not_eq_true', decide_eq_true_eq] at h5
  obtain ⟨⟨⟨⟨⟨g1, g2⟩, g3⟩, g4⟩, g5⟩, g6⟩ := h5
  simp [Cond.before, Cond.holds, Cond.value, h1, h2, h3, h4, g1, g2, g3, g4, g5, g6]
def isCode : Jvm.Cond → Bool
  | .code _ _ _ _ => true
  | _ => false
theorem all_split {L : List Jvm.Cond} {P : Jvm.Cond → Bool} (h1 : L.all (fun c => isCode c || P c) = true) (h2 : ∀ c ∈ L.filter isCode, P c = true) : L.all P = true := by
  refine List.all_eq_true.mpr fun c hc => ?_
  have h := List.all_eq_true.mp h1 c hc
  rcases Bool.eq_false_or_eq_true (isCode c) with hi | hi
  · exact h2 c (List.mem_filter.mpr ⟨hc, hi⟩)
  · simpa [hi] using h
set_option maxRecDepth 65536 in
theorem w_c0 : (Jvm.Cond.code x code maxLocals ret).before args0 about1 = true := code_word (m := ⟨1, 1⟩) (meth := k1m1) (c := k1c1) (by decide +kernel) rfl rfl rfl (by decide +kernel)
set_option maxRecDepth 65536 in
theorem w_c1 : (Jvm.Cond.code ({ cls := "com/example/attestry/attestry/home/ByteCursor", name := "<init>", desc := "([BI)V" } : Jvm.MethodName) prog_1_method_1_code (3 : Nat) (Option.none : Option Jvm.ClassFile.FieldType)).before args0 about1 = true := code_word (m := ⟨2, 0⟩) (meth := k2m0) (c := k2c0) (by decide +kernel) rfl rfl rfl (by decide +kernel)
set_option maxRecDepth 65536 in
theorem w_c2 : (Jvm.Cond.code ({ cls := "java/lang/Object", name := "<init>", desc := "()V" } : Jvm.MethodName) object_method_1_code (1 : Nat) (Option.none : Option Jvm.ClassFile.FieldType)).before args0 about1 = true := code_word (m := ⟨0, 0⟩) (meth := k0m0) (c := k0c0) (by decide +kernel) rfl rfl rfl (by decide +kernel)
set_option maxRecDepth 65536 in
theorem w_c3 : (Jvm.Cond.code ({ cls := "com/example/attestry/attestry/home/ByteCursor", name := "whole", desc := "()I" } : Jvm.MethodName) prog_1_method_6_code (4 : Nat) (Option.some Jvm.ClassFile.FieldType.int)).before args0 about1 = true := code_word (m := ⟨2, 2⟩) (meth := k2m2) (c := k2c2) (by decide +kernel) rfl rfl rfl (by decide +kernel)
set_option maxRecDepth 65536 in
theorem w_c4 : (Jvm.Cond.code ({ cls := "com/example/attestry/attestry/home/ByteCursor", name := "at", desc := "()I" } : Jvm.MethodName) prog_1_method_3_code (1 : Nat) (Option.some Jvm.ClassFile.FieldType.int)).before args0 about1 = true := code_word (m := ⟨2, 1⟩) (meth := k2m1) (c := k2c1) (by decide +kernel) rfl rfl rfl (by decide +kernel)
def codes1 : List Jvm.Cond := [Jvm.Cond.code x code maxLocals ret, Jvm.Cond.code ({ cls := "com/example/attestry/attestry/home/ByteCursor", name := "<init>", desc := "([BI)V" } : Jvm.MethodName) prog_1_method_1_code (3 : Nat) (Option.none : Option Jvm.ClassFile.FieldType), Jvm.Cond.code ({ cls := "java/lang/Object", name := "<init>", desc := "()V" } : Jvm.MethodName) object_method_1_code (1 : Nat) (Option.none : Option Jvm.ClassFile.FieldType), Jvm.Cond.code ({ cls := "com/example/attestry/attestry/home/ByteCursor", name := "whole", desc := "()I" } : Jvm.MethodName) prog_1_method_6_code (4 : Nat) (Option.some Jvm.ClassFile.FieldType.int), Jvm.Cond.code ({ cls := "com/example/attestry/attestry/home/ByteCursor", name := "at", desc := "()I" } : Jvm.MethodName) prog_1_method_3_code (1 : Nat) (Option.some Jvm.ClassFile.FieldType.int)]
set_option maxRecDepth 65536 in
theorem codes_eq : words1.filter isCode = codes1 := rfl
theorem w_codes : ∀ c ∈ words1.filter isCode, c.before args0 about1 = true := by
  rw [codes_eq]
  intro c hc
  simp only [codes1, List.mem_cons, List.not_mem_nil, or_false] at hc
  rcases hc with rfl | rfl | rfl | rfl | rfl
  · exact w_c0
  · exact w_c1
  · exact w_c2
  · exact w_c3
  · exact w_c4
set_option maxRecDepth 65536 in
theorem w_t1 : (words1.take 24).all (fun c => isCode c || c.before args0 about1) = true := by decide +kernel
set_option maxRecDepth 65536 in
theorem w_t2 : (words1.drop 24).all (fun c => isCode c || c.before args0 about1) = true := by decide +kernel
theorem w_tables : (allAtoms (Jvm.Cond.code x code maxLocals ret :: tables_1)).before args0 about1 = true := by
  rw [allAtoms_all]
  show words1.all (fun c => c.before args0 about1) = true
  refine all_split ?_ w_codes
  rw [← List.take_append_drop 24 words1, List.all_append, w_t1, w_t2]
  rfl
set_option maxRecDepth 65536 in
theorem w_case : (Jvm.Cond.and given_1 narrow_1).before args0 about1 = true := by decide +kernel
theorem w_applies : (headSpec (Jvm.Cond.code x code maxLocals ret :: tables_1) room_1).applies x e0.platform about1 = true :=
  (Spec.applies_iff w_frames).mpr ⟨w_running, w_runnable, w_alone, w_named, w_hears, w_ripe, w_room, w_tables⟩
theorem atStart : AtStart classFile x code maxLocals ret World_1 tables_1 room_1 Calls_1 rest_1 Pre_1 launch0 p0 e0 about1 theMethod args0 below0 :=
  ⟨lists_1, trivial, launch0.admits_env _ _ _, launch0.least_env, fairChoices_fair.cas, fairChoices_fair.clock, w_frames, w_args, w_heap, w_applies, trivial, trivial, w_case⟩
end start1
theorem witness_1 : WitnessClaimed_1 := ⟨start1.p0, start1.e0, start1.about1, start1.theMethod, start1.args0, start1.below0, start1.atStart⟩
end Jvm.Pilot.@@N@@
