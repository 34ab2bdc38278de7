import JvmDerived
import JvmDerived.Pilot.@@N@@Statement
import JvmDerived.Pilot.@@N@@Code
set_option linter.unusedVariables false
set_option linter.unusedSimpArgs false
@@BLOCK:NumsL.lean.txt@@
namespace Jvm.Pilot.@@N@@
open Jvm Jvm.ClassFile Sem Op Lib Jvm.Free Jvm.Stand Jvm.LawKit Jvm.RoadKit Bundle Jvm.Pilot.@@N@@.Jvm.D
/-! ## own base: a heap as a list of objects; a body by its contract; one lemma an instruction -/
section Own
abbrev Ob : Type := Addr × FieldType × List Value
abbrev Fm : Type := String → List (String × String)
/-- what the cell at a holds -/
def Oat (F : Fm) (Z : State) (h : Heap) (a : Addr) (t : FieldType) (vs : List Value) : Prop :=
  match t with
  | .array ty => Exa Z h a ("[" ++ ty.toString) ∧ (∀ v ∈ vs, fits ty v = true) ∧ ∃ c : Cell, Arr Z h a c ty ∧ c.slots = vs.toArray
  | .object C => Exa Z h a C ∧ vs.length = (F C).length ∧ ∀ (i : Nat) (n d : String) (v : Value), (F C)[i]? = some (n, d) → vs[i]? = some v → Fld Z h a C n d v
  | _ => False
def Hp (F : Fm) (Z : State) (h : Heap) (os : List Ob) : Prop := (os.map (·.1)).Nodup ∧ ∀ o ∈ os, Oat F Z h o.1 o.2.1 o.2.2
/-- an address that the body may write: one of A, or a new one -/
def Okk (A : List Addr) (N : Nat) (a : Addr) : Prop := a ∈ A ∨ N ≤ a
def Hin (F : Fm) (Z : State) (h0 : Heap) (A : List Addr) (h : Heap) (os : List Ob) : Prop := Keep h0 h A ∧ Hp F Z h os ∧ ∀ o ∈ os, Okk A h0.size o.1
def Qc (F : Fm) (Z : State) (B : Nat) (loc : List Ob) (h0 : Heap) (P : Option Value → List Ob → Prop) (v : Option Value) (h : Heap) (L : List Loc) : Prop :=
  (∀ y ∈ L, B ≤ y.base) ∧ ∃ os', Hin F Z h0 (loc.map (·.1)) h os' ∧ P v os'
/-- a body's contract: over the objects loc, with the arguments as, it returns v and leaves os', and P v os' -/
def Con (l : Launch) (Z : State) (F : Fm) (B : Nat) (y : MethodName) (bytes : ByteArray) (mL : Nat) (ret : Option FieldType) (rm : Room) (ws : List Jvm.Cond) (as : Array Value) (loc : List Ob) (P : Option Value → List Ob → Prop) : Prop :=
  ∀ h0, Hp F Z h0 loc → (∀ a ∈ loc.map (·.1), B ≤ a) → B ≤ h0.size → MetFree l y (head1 (Jvm.Cond.code y bytes mL ret :: ws) rm) (fun a U => a = as ∧ Z.Warmed39 U.vm ∧ U.heap = h0) (fun _ _ _ _ _ => True) (fun _ U o U' => ∃ v L, o = .returned v ∧ Qc F Z B loc h0 P v U'.heap L ∧ FrameEnd U o U' L rm.cells rm.slots)
/-- the run stands in the body of y; the objects are os -/
def Here (p : Program) (l : Launch) (e : Env) (R : Room) (s : State) (m : MethodId) (args : Array Value) (below : List Frame) (meth : Method) (c : Code) (Z : State) (F : Fm) (B : Nat) (h0 : Heap) (A : List Addr) (y : MethodName) (bytes : ByteArray) (mL : Nat) (ret : Option FieldType) (T : State) (k n : Nat) (os : List Ob) : Prop :=
  (p.tables.exec = Jvm.exec ∧ Z.Warmed39 s.vm ∧ c.code = bytes ∧ c.maxLocals = mL ∧ s.vm.findClass y.cls = some m.cls ∧ meth.sig.returnType = ret ∧ meth.locks = false ∧ meth.name = y.name) ∧
  ∃ locs, Stand p l e R s m args below meth c T locs k n ∧ ((∀ y ∈ locs, B ≤ y.base) ∧ (∀ a ∈ A, B ≤ a) ∧ B ≤ h0.size) ∧ Hin F Z h0 A T.heap os
def Fin1 (below : List Frame) (s : State) (Z : State) (F : Fm) (B : Nat) (h0 : Heap) (A : List Addr) (kc ks : Nat) (P : Option Value → List Ob → Prop) (t : State) : Prop :=
  t.status = .running ∧ ∃ v L, Ended t below (.returned v) ∧ ((∀ y ∈ L, B ≤ y.base) ∧ ∃ os', Hin F Z h0 A t.heap os' ∧ P v os') ∧ FrameEnd s (.returned v) t L kc ks
def Go (p : Program) (e : Env) (below : List Frame) (G : State → Prop) (S : State) : Prop := ∃ t, Steps p.tables e below S t ∧ G t

variable {p : Program} {l : Launch} {e : Env} {R : Room} {s : State} {m : MethodId} {args : Array Value} {below : List Frame} {meth : Method} {c : Code} {Z : State} {F : Fm} {B : Nat} {h0 : Heap} {A : List Addr} {y : MethodName} {bytes : ByteArray} {mL : Nat} {ret : Option FieldType} {T : State} {k n : Nat} {os : List Ob} {G : State → Prop} {pc : Nat} {ls : Array Slot} {st : List Value} {a0 : Array Value}
theorem Go.by {S S' : State} (k : ∀ t, Steps p.tables e below S' t → Steps p.tables e below S t) (g : Go p e below G S') : Go p e below G S := by
  obtain ⟨t, h, g⟩ := g; exact ⟨t, k t h, g⟩
theorem Go.join {α : Type} {T : State} {fr : α → JFrame} (tree : α) {S : State} (K : ∀ z, z = tree → Go p e below G (T.setTop (fr z))) (M : (∀ z, z = tree → Go p e below G (T.setTop (fr z))) → Go p e below G S) : Go p e below G S := M K
theorem Go.cut {α : Type} {T : State} {fr : α → JFrame} (Q : α → Prop) {S : State} (K : ∀ z, Q z → Go p e below G (T.setTop (fr z))) (M : (∀ z, Q z → Go p e below G (T.setTop (fr z))) → Go p e below G S) : Go p e below G S := M K
theorem Go.cast {S S' : State} (q : S' = S) (g : Go p e below G S') : Go p e below G S := q ▸ g
theorem Oat.keep {h h' : Heap} {ws : List Addr} {a : Addr} {t : FieldType} {vs : List Value} (O : Oat F Z h a t vs) (K : Keep h h' ws) (q : a ∉ ws) : Oat F Z h' a t vs := by
  unfold Oat at O ⊢
  split at O
  · obtain ⟨E, f, cl, Ar, S⟩ := O; exact ⟨E.keep K, f, cl, ⟨K.2.1 a cl Ar.1 q, Ar.2⟩, S⟩
  · obtain ⟨E, hl, f⟩ := O; exact ⟨E.keep K, hl, fun i n d v h1 h2 => (f i n d v h1 h2).keep K q⟩
  · exact O
theorem Oat.lt {h : Heap} {a : Addr} {t : FieldType} {vs : List Value} (O : Oat F Z h a t vs) : a < h.size := by
  unfold Oat at O
  split at O
  · exact O.1.lt
  · exact O.1.lt
  · exact O.elim
theorem Okk.ge {A : List Addr} {N B : Nat} {a : Addr} (h : Okk A N a) (h1 : ∀ a ∈ A, B ≤ a) (h2 : B ≤ N) : B ≤ a := h.elim (h1 a) fun q => Nat.le_trans h2 q
theorem Keep.self (h : Heap) : Keep h h [] := Keep.refl h []
theorem Hp.nil {h : Heap} : Hp F Z h [] := ⟨List.nodup_nil, fun o q => nomatch q⟩
theorem Hp.get {h : Heap} {i : Nat} {o : Ob} (H : Hp F Z h os) (hi : os[i]? = some o) : Oat F Z h o.1 o.2.1 o.2.2 := H.2 o (List.mem_of_getElem? hi)
theorem nodup_at {L : List Addr} (hn : L.Nodup) {i j : Nat} {a : Addr} (hi : L[i]? = some a) (hj : L[j]? = some a) : i = j := by
  obtain ⟨h1, e1⟩ := List.getElem?_eq_some_iff.mp hi
  obtain ⟨h2, e2⟩ := List.getElem?_eq_some_iff.mp hj
  exact (List.getElem_inj hn).mp (e1.trans e2.symm)
theorem Hp.ext {h h' : Heap} (H : Hp F Z h os) (E : Ext h h') : Hp F Z h' os :=
  ⟨H.1, fun o ho => (H.2 o ho).keep ((Keep.refl h []).ext E) (fun q => nomatch q)⟩
theorem Hp.push {h h' : Heap} {t : FieldType} {vs : List Value} (H : Hp F Z h os) (E : Ext h h') (O : Oat F Z h' h.size t vs) : Hp F Z h' (os ++ [(h.size, t, vs)]) := by
  refine ⟨?_, fun o ho => ?_⟩
  · rw [List.map_append, List.nodup_append]
    refine ⟨H.1, by simp, fun a ha b hb => ?_⟩
    obtain ⟨o, ho, rfl⟩ := List.mem_map.mp ha
    have := (H.2 o ho).lt
    simp only [List.map_cons, List.map_nil, List.mem_singleton] at hb
    subst hb
    exact Nat.ne_of_lt this
  · rcases List.mem_append.mp ho with q | q
    · exact (H.ext E).2 o q
    · cases List.mem_singleton.mp q; exact O
/-- one object is written -/
theorem Hp.set {h h' : Heap} {i : Nat} {a : Addr} {t : FieldType} {vs vs' : List Value} (H : Hp F Z h os) (hi : os[i]? = some (a, t, vs)) (K : Keep h h' [a]) (O : Oat F Z h' a t vs') : Hp F Z h' (os.set i (a, t, vs')) := by
  obtain ⟨hlt, he⟩ := List.getElem?_eq_some_iff.mp hi
  have em : (os.set i (a, t, vs')).map (·.1) = os.map (·.1) := by
    rw [List.map_set]
    refine List.ext_getElem? fun j => ?_
    rw [List.getElem?_set]
    split
    · rename_i e; subst e; simp [he, hlt]
    · rfl
  refine ⟨em ▸ H.1, fun o ho => ?_⟩
  obtain ⟨j, hj⟩ := List.mem_iff_getElem?.mp ho
  rw [List.getElem?_set] at hj
  split at hj
  · simp [hlt] at hj; subst hj; exact O
  · rename_i ne
    refine (H.get hj).keep K (fun q => ne ?_)
    have q' : o.1 = a := List.mem_singleton.mp q
    exact (nodup_at H.1 (i := j) (j := i) (a := a) (by rw [List.getElem?_map, hj, ← q']; rfl) (by rw [List.getElem?_map, hi]; rfl)).symm
theorem Hin.mem {h : Heap} {i : Nat} {o : Ob} (H : Hin F Z h0 A h os) (hi : os[i]? = some o) : Okk A h0.size o.1 := H.2.2 o (List.mem_of_getElem? hi)
theorem Hin.push {h h' : Heap} {t : FieldType} {vs : List Value} (H : Hin F Z h0 A h os) (E : Ext h h') (O : Oat F Z h' h.size t vs) : Hin F Z h0 A h' (os ++ [(h.size, t, vs)]) :=
  ⟨H.1.ext E, H.2.1.push E O, fun o ho => (List.mem_append.mp ho).elim (H.2.2 o) fun q => by cases List.mem_singleton.mp q; exact Or.inr H.1.1⟩
theorem Hin.set {h h' : Heap} {i : Nat} {a : Addr} {t : FieldType} {vs vs' : List Value} (H : Hin F Z h0 A h os) (hi : os[i]? = some (a, t, vs)) (K : Keep h h' [a]) (O : Oat F Z h' a t vs') : Hin F Z h0 A h' (os.set i (a, t, vs')) := by
  refine ⟨H.1.trans K fun x hx => by cases List.mem_singleton.mp hx; exact H.mem hi, H.2.1.set hi K O, fun o ho => ?_⟩
  rcases List.mem_or_eq_of_mem_set ho with q | q
  · exact H.2.2 o q
  · subst q; have z := H.mem hi; exact z

/-- the body, entered -/
theorem Con.of {as : Array Value} {loc : List Ob} {P : Option Value → List Ob → Prop} {rm : Room} {ws : List Jvm.Cond} {ls : Array Slot} (hpl : plainFor y = true) (hef : ∀ m, entryFrame m as mL = mkF m 0 ls [])
    (body : ∀ p e h0 s m below meth c T, Here p l e rm s m as below meth c Z F B h0 (loc.map (·.1)) y bytes mL ret T 0 0 loc → Go p e below (Fin1 below s Z F B h0 (loc.map (·.1)) rm.cells rm.slots P) (T.setTop (mkF m 0 ls []))) :
    Con l Z F B y bytes mL ret rm ws as loc P := by
  intro h0 H hA hB
  refine MetFree.of_bodySF hpl hisR ?_
  intro p e s m args below meth c s₁ Bd hml0 hP hK
  obtain ⟨rfl, hZ, hh⟩ := hP
  have X0 : Stand p l e rm s m args below meth c s₁ [] 0 0 := Stand.of_body Bd
  have e0 : s₁.heap = h0 := by rw [← hh, Bd.state]; rfl
  obtain ⟨t, st, hr, v, L, hE, ⟨hL, os', hI, hp⟩, hF⟩ := body p e h0 s m below meth c s₁ ⟨⟨Bd.exec, hZ, Bd.bytes, hml0, findClass_of_methodNamed Bd.named, Bd.returns, Bd.notSynchronized, (name_of_methodNamed Bd.named Bd.method).1⟩, [], X0, ⟨fun y q => (nomatch q), hA, hB⟩, by rw [e0]; exact ⟨Keep.refl _ _, H, fun o ho => Or.inl (List.mem_map.mpr ⟨o, ho, rfl⟩)⟩⟩
  exact ⟨t, _, castTop (hef m) st, hr, hE, v, L, rfl, ⟨hL, os', hI, hp⟩, hF⟩

theorem g_iload_n {j : Fin 4} {v : Int32} (W : Here p l e R s m args below meth c Z F B h0 A y bytes mL ret T k n os) (hd : decode bytes pc = .ok (.iload_n j, 1)) (hl : ls[j.val]? = some (.val (.int v))) (K : Go p e below G (T.setTop (mkF m (pc + 1) ls (.int v :: st)))) : Go p e below G (T.setTop (mkF m pc ls (st))) := by
  obtain ⟨⟨hx, hZ, hby, -⟩, locs, X, -⟩ := W
  exact K.by fun t q => XS.iloadN X.here hx rfl (hb hby hd) hl q
theorem g_iload {j : Nat} {v : Int32} (W : Here p l e R s m args below meth c Z F B h0 A y bytes mL ret T k n os) (hd : decode bytes pc = .ok (.iload j, 2)) (hl : ls[j]? = some (.val (.int v))) (K : Go p e below G (T.setTop (mkF m (pc + 2) ls (.int v :: st)))) : Go p e below G (T.setTop (mkF m pc ls (st))) := by
  obtain ⟨⟨hx, hZ, hby, -⟩, locs, X, -⟩ := W
  exact K.by fun t q => XS.iload X.here hx rfl (hb hby hd) hl q
theorem g_lload_n {j : Fin 4} {v : Int64} (W : Here p l e R s m args below meth c Z F B h0 A y bytes mL ret T k n os) (hd : decode bytes pc = .ok (.lload_n j, 1)) (hl : ls[j.val]? = some (.val (.long v))) (K : Go p e below G (T.setTop (mkF m (pc + 1) ls (.long v :: st)))) : Go p e below G (T.setTop (mkF m pc ls (st))) := by
  obtain ⟨⟨hx, hZ, hby, -⟩, locs, X, -⟩ := W
  exact K.by fun t q => XT.lloadN X.here hx rfl (hb hby hd) hl q
theorem g_lload {j : Nat} {v : Int64} (W : Here p l e R s m args below meth c Z F B h0 A y bytes mL ret T k n os) (hd : decode bytes pc = .ok (.lload j, 2)) (hl : ls[j]? = some (.val (.long v))) (K : Go p e below G (T.setTop (mkF m (pc + 2) ls (.long v :: st)))) : Go p e below G (T.setTop (mkF m pc ls (st))) := by
  obtain ⟨⟨hx, hZ, hby, -⟩, locs, X, -⟩ := W
  exact K.by fun t q => XT.lload X.here hx rfl (hb hby hd) hl q
theorem g_aload_n {j : Fin 4} {v : Value} (W : Here p l e R s m args below meth c Z F B h0 A y bytes mL ret T k n os) (hd : decode bytes pc = .ok (.aload_n j, 1)) (hl : ls[j.val]? = some (.val v)) (hv : v.isRef = true) (K : Go p e below G (T.setTop (mkF m (pc + 1) ls (v :: st)))) : Go p e below G (T.setTop (mkF m pc ls (st))) := by
  obtain ⟨⟨hx, hZ, hby, -⟩, locs, X, -⟩ := W
  exact K.by fun t q => XS.aloadN X.here hx rfl (hb hby hd) hl hv q
theorem g_aload {j : Nat} {v : Value} (W : Here p l e R s m args below meth c Z F B h0 A y bytes mL ret T k n os) (hd : decode bytes pc = .ok (.aload j, 2)) (hl : ls[j]? = some (.val v)) (hv : v.isRef = true) (K : Go p e below G (T.setTop (mkF m (pc + 2) ls (v :: st)))) : Go p e below G (T.setTop (mkF m pc ls (st))) := by
  obtain ⟨⟨hx, hZ, hby, -⟩, locs, X, -⟩ := W
  exact K.by fun t q => XS.aload X.here hx rfl (hb hby hd) hl hv q
theorem g_istore_n {j : Fin 4} {v : Int32} {ls' : Array Slot} (W : Here p l e R s m args below meth c Z F B h0 A y bytes mL ret T k n os) (hd : decode bytes pc = .ok (.istore_n j, 1)) (hl : storeLocals ls j.val (.int v) = some ls') (K : Go p e below G (T.setTop (mkF m (pc + 1) ls' (st)))) : Go p e below G (T.setTop (mkF m pc ls (.int v :: st))) := by
  obtain ⟨⟨hx, hZ, hby, -⟩, locs, X, -⟩ := W
  exact K.by fun t q => XS.istoreN X.here hx rfl (hb hby hd) rfl hl q
theorem g_istore {j : Nat} {v : Int32} {ls' : Array Slot} (W : Here p l e R s m args below meth c Z F B h0 A y bytes mL ret T k n os) (hd : decode bytes pc = .ok (.istore j, 2)) (hl : storeLocals ls j (.int v) = some ls') (K : Go p e below G (T.setTop (mkF m (pc + 2) ls' (st)))) : Go p e below G (T.setTop (mkF m pc ls (.int v :: st))) := by
  obtain ⟨⟨hx, hZ, hby, -⟩, locs, X, -⟩ := W
  exact K.by fun t q => XS.istore X.here hx rfl (hb hby hd) rfl hl q
theorem g_lstore_n {j : Fin 4} {v : Int64} {ls' : Array Slot} (W : Here p l e R s m args below meth c Z F B h0 A y bytes mL ret T k n os) (hd : decode bytes pc = .ok (.lstore_n j, 1)) (hl : storeLocals ls j.val (.long v) = some ls') (K : Go p e below G (T.setTop (mkF m (pc + 1) ls' (st)))) : Go p e below G (T.setTop (mkF m pc ls (.long v :: st))) := by
  obtain ⟨⟨hx, hZ, hby, -⟩, locs, X, -⟩ := W
  exact K.by fun t q => XT.lstoreN X.here hx rfl (hb hby hd) rfl hl q
theorem g_lstore {j : Nat} {v : Int64} {ls' : Array Slot} (W : Here p l e R s m args below meth c Z F B h0 A y bytes mL ret T k n os) (hd : decode bytes pc = .ok (.lstore j, 2)) (hl : storeLocals ls j (.long v) = some ls') (K : Go p e below G (T.setTop (mkF m (pc + 2) ls' (st)))) : Go p e below G (T.setTop (mkF m pc ls (.long v :: st))) := by
  obtain ⟨⟨hx, hZ, hby, -⟩, locs, X, -⟩ := W
  exact K.by fun t q => XT.lstore X.here hx rfl (hb hby hd) rfl hl q
theorem g_astore_n {j : Fin 4} {v : Value} {ls' : Array Slot} (W : Here p l e R s m args below meth c Z F B h0 A y bytes mL ret T k n os) (hd : decode bytes pc = .ok (.astore_n j, 1)) (hv : v.isRef = true) (hl : storeLocals ls j.val v = some ls') (K : Go p e below G (T.setTop (mkF m (pc + 1) ls' (st)))) : Go p e below G (T.setTop (mkF m pc ls (v :: st))) := by
  obtain ⟨⟨hx, hZ, hby, -⟩, locs, X, -⟩ := W
  exact K.by fun t q => XS.astoreN X.here hx rfl (hb hby hd) rfl hv hl q
theorem g_astore {j : Nat} {v : Value} {ls' : Array Slot} (W : Here p l e R s m args below meth c Z F B h0 A y bytes mL ret T k n os) (hd : decode bytes pc = .ok (.astore j, 2)) (hv : v.isRef = true) (hl : storeLocals ls j v = some ls') (K : Go p e below G (T.setTop (mkF m (pc + 2) ls' (st)))) : Go p e below G (T.setTop (mkF m pc ls (v :: st))) := by
  obtain ⟨⟨hx, hZ, hby, -⟩, locs, X, -⟩ := W
  exact K.by fun t q => XS.astore X.here hx rfl (hb hby hd) rfl hv hl q
theorem g_iconst {i : Int} (v : Int32) (hv : Int32.ofInt i = v) (W : Here p l e R s m args below meth c Z F B h0 A y bytes mL ret T k n os) (hd : decode bytes pc = .ok (.iconst i, 1)) (K : Go p e below G (T.setTop (mkF m (pc + 1) ls (.int v :: st)))) : Go p e below G (T.setTop (mkF m pc ls st)) := by
  obtain ⟨⟨hx, hZ, hby, -⟩, locs, X, -⟩ := W
  subst hv
  exact K.by fun t q => XS.iconst X.here hx rfl (hb hby hd) q
theorem g_bipush {i : Int} (v : Int32) (hv : (Int8.ofInt i).toInt32 = v) (W : Here p l e R s m args below meth c Z F B h0 A y bytes mL ret T k n os) (hd : decode bytes pc = .ok (.bipush i, 2)) (K : Go p e below G (T.setTop (mkF m (pc + 2) ls (.int v :: st)))) : Go p e below G (T.setTop (mkF m pc ls st)) := by
  obtain ⟨⟨hx, hZ, hby, -⟩, locs, X, -⟩ := W
  subst hv
  exact K.by fun t q => XS.bipush X.here hx rfl (hb hby hd) q
theorem g_sipush {i : Int} (v : Int32) (hv : (Int16.ofInt i).toInt32 = v) (W : Here p l e R s m args below meth c Z F B h0 A y bytes mL ret T k n os) (hd : decode bytes pc = .ok (.sipush i, 3)) (K : Go p e below G (T.setTop (mkF m (pc + 3) ls (.int v :: st)))) : Go p e below G (T.setTop (mkF m pc ls st)) := by
  obtain ⟨⟨hx, hZ, hby, -⟩, locs, X, -⟩ := W
  subst hv
  exact K.by fun t q => XS.sipush X.here hx rfl (hb hby hd) q
theorem g_lconst {i : Fin 2} (v : Int64) (hv : Int64.ofNat i = v) (W : Here p l e R s m args below meth c Z F B h0 A y bytes mL ret T k n os) (hd : decode bytes pc = .ok (.lconst i, 1)) (K : Go p e below G (T.setTop (mkF m (pc + 1) ls (.long v :: st)))) : Go p e below G (T.setTop (mkF m pc ls st)) := by
  obtain ⟨⟨hx, hZ, hby, -⟩, locs, X, -⟩ := W
  subst hv
  exact K.by fun t q => XT.lconst X.here hx rfl (hb hby hd) q
theorem g_aconst_null  (W : Here p l e R s m args below meth c Z F B h0 A y bytes mL ret T k n os) (hd : decode bytes pc = .ok (.aconst_null, 1)) (K : Go p e below G (T.setTop (mkF m (pc + 1) ls (.null :: st)))) : Go p e below G (T.setTop (mkF m pc ls (st))) := by
  obtain ⟨⟨hx, hZ, hby, -⟩, locs, X, -⟩ := W
  exact K.by fun t q => XS.aconstNull X.here hx rfl (hb hby hd)  q
theorem g_iadd {x z : Int32} (W : Here p l e R s m args below meth c Z F B h0 A y bytes mL ret T k n os) (hd : decode bytes pc = .ok (.iadd, 1)) (K : Go p e below G (T.setTop (mkF m (pc + 1) ls (.int (x + z) :: st)))) : Go p e below G (T.setTop (mkF m pc ls (.int z :: .int x :: st))) := by
  obtain ⟨⟨hx, hZ, hby, -⟩, locs, X, -⟩ := W
  exact K.by fun t q => XS.iadd X.here hx rfl (hb hby hd) rfl q
theorem g_isub {x z : Int32} (W : Here p l e R s m args below meth c Z F B h0 A y bytes mL ret T k n os) (hd : decode bytes pc = .ok (.isub, 1)) (K : Go p e below G (T.setTop (mkF m (pc + 1) ls (.int (x - z) :: st)))) : Go p e below G (T.setTop (mkF m pc ls (.int z :: .int x :: st))) := by
  obtain ⟨⟨hx, hZ, hby, -⟩, locs, X, -⟩ := W
  exact K.by fun t q => XS.isub X.here hx rfl (hb hby hd) rfl q
theorem g_iand {x z : Int32} (W : Here p l e R s m args below meth c Z F B h0 A y bytes mL ret T k n os) (hd : decode bytes pc = .ok (.iand, 1)) (K : Go p e below G (T.setTop (mkF m (pc + 1) ls (.int (x &&& z) :: st)))) : Go p e below G (T.setTop (mkF m pc ls (.int z :: .int x :: st))) := by
  obtain ⟨⟨hx, hZ, hby, -⟩, locs, X, -⟩ := W
  exact K.by fun t q => XS.iand X.here hx rfl (hb hby hd) rfl q
theorem g_imul {x z : Int32} (W : Here p l e R s m args below meth c Z F B h0 A y bytes mL ret T k n os) (hd : decode bytes pc = .ok (.imul, 1)) (K : Go p e below G (T.setTop (mkF m (pc + 1) ls (.int (x * z) :: st)))) : Go p e below G (T.setTop (mkF m pc ls (.int z :: .int x :: st))) := by
  obtain ⟨⟨hx, hZ, hby, -⟩, locs, X, -⟩ := W
  exact K.by fun t q => XS.imul X.here hx rfl (hb hby hd) rfl q
theorem g_ior {x z : Int32} (W : Here p l e R s m args below meth c Z F B h0 A y bytes mL ret T k n os) (hd : decode bytes pc = .ok (.ior, 1)) (K : Go p e below G (T.setTop (mkF m (pc + 1) ls (.int (x ||| z) :: st)))) : Go p e below G (T.setTop (mkF m pc ls (.int z :: .int x :: st))) := by
  obtain ⟨⟨hx, hZ, hby, -⟩, locs, X, -⟩ := W
  exact K.by fun t q => XT.ior X.here hx rfl (hb hby hd) rfl q
theorem g_ixor {x z : Int32} (W : Here p l e R s m args below meth c Z F B h0 A y bytes mL ret T k n os) (hd : decode bytes pc = .ok (.ixor, 1)) (K : Go p e below G (T.setTop (mkF m (pc + 1) ls (.int (x ^^^ z) :: st)))) : Go p e below G (T.setTop (mkF m pc ls (.int z :: .int x :: st))) := by
  obtain ⟨⟨hx, hZ, hby, -⟩, locs, X, -⟩ := W
  exact K.by fun t q => XT.ixor X.here hx rfl (hb hby hd) rfl q
theorem g_ishl {x z : Int32} (W : Here p l e R s m args below meth c Z F B h0 A y bytes mL ret T k n os) (hd : decode bytes pc = .ok (.ishl, 1)) (K : Go p e below G (T.setTop (mkF m (pc + 1) ls (.int (x <<< (z &&& 31)) :: st)))) : Go p e below G (T.setTop (mkF m pc ls (.int z :: .int x :: st))) := by
  obtain ⟨⟨hx, hZ, hby, -⟩, locs, X, -⟩ := W
  exact K.by fun t q => XT.ishl X.here hx rfl (hb hby hd) rfl q
theorem g_ishr {x z : Int32} (W : Here p l e R s m args below meth c Z F B h0 A y bytes mL ret T k n os) (hd : decode bytes pc = .ok (.ishr, 1)) (K : Go p e below G (T.setTop (mkF m (pc + 1) ls (.int (x >>> (z &&& 31)) :: st)))) : Go p e below G (T.setTop (mkF m pc ls (.int z :: .int x :: st))) := by
  obtain ⟨⟨hx, hZ, hby, -⟩, locs, X, -⟩ := W
  exact K.by fun t q => XT.ishr X.here hx rfl (hb hby hd) rfl q
theorem g_iushr {x z : Int32} (W : Here p l e R s m args below meth c Z F B h0 A y bytes mL ret T k n os) (hd : decode bytes pc = .ok (.iushr, 1)) (K : Go p e below G (T.setTop (mkF m (pc + 1) ls (.int (XT.ushr x z) :: st)))) : Go p e below G (T.setTop (mkF m pc ls (.int z :: .int x :: st))) := by
  obtain ⟨⟨hx, hZ, hby, -⟩, locs, X, -⟩ := W
  exact K.by fun t q => XT.iushr X.here hx rfl (hb hby hd) rfl q
theorem g_ladd {x z : Int64} (W : Here p l e R s m args below meth c Z F B h0 A y bytes mL ret T k n os) (hd : decode bytes pc = .ok (.ladd, 1)) (K : Go p e below G (T.setTop (mkF m (pc + 1) ls (.long (x + z) :: st)))) : Go p e below G (T.setTop (mkF m pc ls (.long z :: .long x :: st))) := by
  obtain ⟨⟨hx, hZ, hby, -⟩, locs, X, -⟩ := W
  exact K.by fun t q => XT.ladd X.here hx rfl (hb hby hd) rfl q
theorem g_lsub {x z : Int64} (W : Here p l e R s m args below meth c Z F B h0 A y bytes mL ret T k n os) (hd : decode bytes pc = .ok (.lsub, 1)) (K : Go p e below G (T.setTop (mkF m (pc + 1) ls (.long (x - z) :: st)))) : Go p e below G (T.setTop (mkF m pc ls (.long z :: .long x :: st))) := by
  obtain ⟨⟨hx, hZ, hby, -⟩, locs, X, -⟩ := W
  exact K.by fun t q => XT.lsub X.here hx rfl (hb hby hd) rfl q
theorem g_lmul {x z : Int64} (W : Here p l e R s m args below meth c Z F B h0 A y bytes mL ret T k n os) (hd : decode bytes pc = .ok (.lmul, 1)) (K : Go p e below G (T.setTop (mkF m (pc + 1) ls (.long (x * z) :: st)))) : Go p e below G (T.setTop (mkF m pc ls (.long z :: .long x :: st))) := by
  obtain ⟨⟨hx, hZ, hby, -⟩, locs, X, -⟩ := W
  exact K.by fun t q => XT.lmul X.here hx rfl (hb hby hd) rfl q
theorem g_land {x z : Int64} (W : Here p l e R s m args below meth c Z F B h0 A y bytes mL ret T k n os) (hd : decode bytes pc = .ok (.land, 1)) (K : Go p e below G (T.setTop (mkF m (pc + 1) ls (.long (x &&& z) :: st)))) : Go p e below G (T.setTop (mkF m pc ls (.long z :: .long x :: st))) := by
  obtain ⟨⟨hx, hZ, hby, -⟩, locs, X, -⟩ := W
  exact K.by fun t q => XT.land X.here hx rfl (hb hby hd) rfl q
theorem g_lor {x z : Int64} (W : Here p l e R s m args below meth c Z F B h0 A y bytes mL ret T k n os) (hd : decode bytes pc = .ok (.lor, 1)) (K : Go p e below G (T.setTop (mkF m (pc + 1) ls (.long (x ||| z) :: st)))) : Go p e below G (T.setTop (mkF m pc ls (.long z :: .long x :: st))) := by
  obtain ⟨⟨hx, hZ, hby, -⟩, locs, X, -⟩ := W
  exact K.by fun t q => XT.lor X.here hx rfl (hb hby hd) rfl q
theorem g_lxor {x z : Int64} (W : Here p l e R s m args below meth c Z F B h0 A y bytes mL ret T k n os) (hd : decode bytes pc = .ok (.lxor, 1)) (K : Go p e below G (T.setTop (mkF m (pc + 1) ls (.long (x ^^^ z) :: st)))) : Go p e below G (T.setTop (mkF m pc ls (.long z :: .long x :: st))) := by
  obtain ⟨⟨hx, hZ, hby, -⟩, locs, X, -⟩ := W
  exact K.by fun t q => XT.lxor X.here hx rfl (hb hby hd) rfl q
theorem g_idiv {x z : Int32} (W : Here p l e R s m args below meth c Z F B h0 A y bytes mL ret T k n os) (hd : decode bytes pc = .ok (.idiv, 1)) (hz : z ≠ 0) (K : Go p e below G (T.setTop (mkF m (pc + 1) ls (.int (x / z) :: st)))) : Go p e below G (T.setTop (mkF m pc ls (.int z :: .int x :: st))) := by
  obtain ⟨⟨hx, hZ, hby, -⟩, locs, X, -⟩ := W
  exact K.by fun t q => XS.idiv X.here hx rfl (hb hby hd) rfl hz q
theorem g_irem {x z : Int32} (W : Here p l e R s m args below meth c Z F B h0 A y bytes mL ret T k n os) (hd : decode bytes pc = .ok (.irem, 1)) (hz : z ≠ 0) (K : Go p e below G (T.setTop (mkF m (pc + 1) ls (.int (x % z) :: st)))) : Go p e below G (T.setTop (mkF m pc ls (.int z :: .int x :: st))) := by
  obtain ⟨⟨hx, hZ, hby, -⟩, locs, X, -⟩ := W
  exact K.by fun t q => iremM X hx rfl (hb hby hd) rfl hz q
theorem g_ineg {x : Int32} (W : Here p l e R s m args below meth c Z F B h0 A y bytes mL ret T k n os) (hd : decode bytes pc = .ok (.ineg, 1)) (K : Go p e below G (T.setTop (mkF m (pc + 1) ls (.int (-x) :: st)))) : Go p e below G (T.setTop (mkF m pc ls (.int x :: st))) := by
  obtain ⟨⟨hx, hZ, hby, -⟩, locs, X, -⟩ := W
  exact K.by fun t q => XS.ineg X.here hx rfl (hb hby hd) rfl q
theorem g_lneg {x : Int64} (W : Here p l e R s m args below meth c Z F B h0 A y bytes mL ret T k n os) (hd : decode bytes pc = .ok (.lneg, 1)) (K : Go p e below G (T.setTop (mkF m (pc + 1) ls (.long (-x) :: st)))) : Go p e below G (T.setTop (mkF m pc ls (.long x :: st))) := by
  obtain ⟨⟨hx, hZ, hby, -⟩, locs, X, -⟩ := W
  exact K.by fun t q => XT.lneg X.here hx rfl (hb hby hd) rfl q
theorem g_i2l {x : Int32} (W : Here p l e R s m args below meth c Z F B h0 A y bytes mL ret T k n os) (hd : decode bytes pc = .ok (.i2l, 1)) (K : Go p e below G (T.setTop (mkF m (pc + 1) ls (.long x.toInt64 :: st)))) : Go p e below G (T.setTop (mkF m pc ls (.int x :: st))) := by
  obtain ⟨⟨hx, hZ, hby, -⟩, locs, X, -⟩ := W
  exact K.by fun t q => XT.i2l X.here hx rfl (hb hby hd) rfl q
theorem g_l2i {x : Int64} (W : Here p l e R s m args below meth c Z F B h0 A y bytes mL ret T k n os) (hd : decode bytes pc = .ok (.l2i, 1)) (K : Go p e below G (T.setTop (mkF m (pc + 1) ls (.int x.toInt32 :: st)))) : Go p e below G (T.setTop (mkF m pc ls (.long x :: st))) := by
  obtain ⟨⟨hx, hZ, hby, -⟩, locs, X, -⟩ := W
  exact K.by fun t q => XT.l2i X.here hx rfl (hb hby hd) rfl q
theorem g_i2b {x : Int32} (W : Here p l e R s m args below meth c Z F B h0 A y bytes mL ret T k n os) (hd : decode bytes pc = .ok (.i2b, 1)) (K : Go p e below G (T.setTop (mkF m (pc + 1) ls (.int x.toInt8.toInt32 :: st)))) : Go p e below G (T.setTop (mkF m pc ls (.int x :: st))) := by
  obtain ⟨⟨hx, hZ, hby, -⟩, locs, X, -⟩ := W
  exact K.by fun t q => XT.i2b X.here hx rfl (hb hby hd) rfl q
theorem g_i2c {x : Int32} (W : Here p l e R s m args below meth c Z F B h0 A y bytes mL ret T k n os) (hd : decode bytes pc = .ok (.i2c, 1)) (K : Go p e below G (T.setTop (mkF m (pc + 1) ls (.int x.toUInt32.toUInt16.toUInt32.toInt32 :: st)))) : Go p e below G (T.setTop (mkF m pc ls (.int x :: st))) := by
  obtain ⟨⟨hx, hZ, hby, -⟩, locs, X, -⟩ := W
  exact K.by fun t q => XT.i2c X.here hx rfl (hb hby hd) rfl q
theorem g_i2s {x : Int32} (W : Here p l e R s m args below meth c Z F B h0 A y bytes mL ret T k n os) (hd : decode bytes pc = .ok (.i2s, 1)) (K : Go p e below G (T.setTop (mkF m (pc + 1) ls (.int x.toInt16.toInt32 :: st)))) : Go p e below G (T.setTop (mkF m pc ls (.int x :: st))) := by
  obtain ⟨⟨hx, hZ, hby, -⟩, locs, X, -⟩ := W
  exact K.by fun t q => XT.i2s X.here hx rfl (hb hby hd) rfl q
theorem g_lcmp {x z : Int64} (W : Here p l e R s m args below meth c Z F B h0 A y bytes mL ret T k n os) (hd : decode bytes pc = .ok (.lcmp, 1)) (K : Go p e below G (T.setTop (mkF m (pc + 1) ls (.int (XT.cmpL x z) :: st)))) : Go p e below G (T.setTop (mkF m pc ls (.long z :: .long x :: st))) := by
  obtain ⟨⟨hx, hZ, hby, -⟩, locs, X, -⟩ := W
  exact K.by fun t q => XT.lcmp X.here hx rfl (hb hby hd) rfl q
theorem g_dup {v : Value} (W : Here p l e R s m args below meth c Z F B h0 A y bytes mL ret T k n os) (hd : decode bytes pc = .ok (.dup, 1)) (hv : v.category = 1) (K : Go p e below G (T.setTop (mkF m (pc + 1) ls (v :: v :: st)))) : Go p e below G (T.setTop (mkF m pc ls (v :: st))) := by
  obtain ⟨⟨hx, hZ, hby, -⟩, locs, X, -⟩ := W
  exact K.by fun t q => XS.dup X.here hx rfl (hb hby hd) rfl hv q
theorem g_pop {v : Value} (W : Here p l e R s m args below meth c Z F B h0 A y bytes mL ret T k n os) (hd : decode bytes pc = .ok (.pop, 1)) (hv : v.category = 1) (K : Go p e below G (T.setTop (mkF m (pc + 1) ls (st)))) : Go p e below G (T.setTop (mkF m pc ls (v :: st))) := by
  obtain ⟨⟨hx, hZ, hby, -⟩, locs, X, -⟩ := W
  exact K.by fun t q => XT.pop X.here hx rfl (hb hby hd) rfl hv q
theorem g_dup_x1 {v w : Value} (W : Here p l e R s m args below meth c Z F B h0 A y bytes mL ret T k n os) (hd : decode bytes pc = .ok (.dup_x1, 1)) (hv : v.category = 1) (hw : w.category = 1) (K : Go p e below G (T.setTop (mkF m (pc + 1) ls (v :: w :: v :: st)))) : Go p e below G (T.setTop (mkF m pc ls (v :: w :: st))) := by
  obtain ⟨⟨hx, hZ, hby, -⟩, locs, X, -⟩ := W
  exact K.by fun t q => XT.dupX1 X.here hx rfl (hb hby hd) rfl hv hw q
theorem g_dup2 {v w : Value} (W : Here p l e R s m args below meth c Z F B h0 A y bytes mL ret T k n os) (hd : decode bytes pc = .ok (.dup2, 1)) (hv : v.category = 1) (hw : w.category = 1) (K : Go p e below G (T.setTop (mkF m (pc + 1) ls (v :: w :: v :: w :: st)))) : Go p e below G (T.setTop (mkF m pc ls (v :: w :: st))) := by
  obtain ⟨⟨hx, hZ, hby, -⟩, locs, X, -⟩ := W
  exact K.by fun t q => XT.dup2 X.here hx rfl (hb hby hd) rfl hv hw q
theorem g_iinc {j : Nat} {i : Int} {x : Int32} (v : Int32) (hv : Int32.ofInt i = v) {ls' : Array Slot} (W : Here p l e R s m args below meth c Z F B h0 A y bytes mL ret T k n os) (hd : decode bytes pc = .ok (.iinc j i, 3)) (hl : ls[j]? = some (.val (.int x))) (hl' : storeLocals ls j (.int (x + v)) = some ls') (K : Go p e below G (T.setTop (mkF m (pc + 3) ls' st))) : Go p e below G (T.setTop (mkF m pc ls st)) := by
  obtain ⟨⟨hx, hZ, hby, -⟩, locs, X, -⟩ := W
  subst hv
  exact K.by fun t q => XS.iinc X.here hx rfl (hb hby hd) hl hl' q
theorem g_goto {o : Int} (pc' : Nat) (W : Here p l e R s m args below meth c Z F B h0 A y bytes mL ret T k n os) (hd : decode bytes pc = .ok (.goto o, 3)) (ho : 0 ≤ (pc : Int) + o) (hp : ((pc : Int) + o).toNat = pc') (K : Go p e below G (T.setTop (mkF m pc' ls st))) : Go p e below G (T.setTop (mkF m pc ls st)) := by
  obtain ⟨⟨hx, hZ, hby, -⟩, locs, X, -⟩ := W
  exact K.by fun t q => XS.goto X.here hx rfl rfl (hb hby hd) ho hp q
theorem g_icmpY {cd : ClassFile.Cond} {o : Int} {x z : Int32} (pc' : Nat) (W : Here p l e R s m args below meth c Z F B h0 A y bytes mL ret T k n os) (hd : decode bytes pc = .ok (.if_icmp cd o, 3)) (ho : 0 ≤ (pc : Int) + o) (hp : ((pc : Int) + o).toNat = pc') (hc : if_icmp.holds cd x z = true) (K : Go p e below G (T.setTop (mkF m pc' ls st))) : Go p e below G (T.setTop (mkF m pc ls (.int z :: .int x :: st))) := by
  obtain ⟨⟨hx, hZ, hby, -⟩, locs, X, -⟩ := W
  exact K.by fun t q => XS.icmpYes X.here hx rfl rfl (hb hby hd) rfl hc ho hp q
theorem g_icmpN {cd : ClassFile.Cond} {o : Int} {x z : Int32} (W : Here p l e R s m args below meth c Z F B h0 A y bytes mL ret T k n os) (hd : decode bytes pc = .ok (.if_icmp cd o, 3)) (hc : if_icmp.holds cd x z = false) (K : Go p e below G (T.setTop (mkF m (pc + 3) ls st))) : Go p e below G (T.setTop (mkF m pc ls (.int z :: .int x :: st))) := by
  obtain ⟨⟨hx, hZ, hby, -⟩, locs, X, -⟩ := W
  exact K.by fun t q => XS.icmpNo X.here hx rfl (hb hby hd) rfl hc q
theorem g_ifY {cd : ClassFile.Cond} {o : Int} {x : Int32} (pc' : Nat) (W : Here p l e R s m args below meth c Z F B h0 A y bytes mL ret T k n os) (hd : decode bytes pc = .ok (.ifCond cd o, 3)) (ho : 0 ≤ (pc : Int) + o) (hp : ((pc : Int) + o).toNat = pc') (hc : if_icmp.holds cd x 0 = true) (K : Go p e below G (T.setTop (mkF m pc' ls st))) : Go p e below G (T.setTop (mkF m pc ls (.int x :: st))) := by
  obtain ⟨⟨hx, hZ, hby, -⟩, locs, X, -⟩ := W
  exact K.by fun t q => XS.ifYes X.here hx rfl rfl (hb hby hd) rfl ((if0 _ _).trans hc) ho hp q
theorem g_ifN {cd : ClassFile.Cond} {o : Int} {x : Int32} (W : Here p l e R s m args below meth c Z F B h0 A y bytes mL ret T k n os) (hd : decode bytes pc = .ok (.ifCond cd o, 3)) (hc : if_icmp.holds cd x 0 = false) (K : Go p e below G (T.setTop (mkF m (pc + 3) ls st))) : Go p e below G (T.setTop (mkF m pc ls (.int x :: st))) := by
  obtain ⟨⟨hx, hZ, hby, -⟩, locs, X, -⟩ := W
  exact K.by fun t q => XS.ifNo X.here hx rfl (hb hby hd) rfl ((if0 _ _).trans hc) q
theorem g_icmp_lt {o : Int} {x z : Int32} (pc' : Nat) (W : Here p l e R s m args below meth c Z F B h0 A y bytes mL ret T k n os) (hd : decode bytes pc = .ok (.if_icmp .lt o, 3)) (ho : 0 ≤ (pc : Int) + o) (hp : ((pc : Int) + o).toNat = pc') (Y : x < z → Go p e below G (T.setTop (mkF m pc' ls st))) (N : ¬ (x < z) → Go p e below G (T.setTop (mkF m (pc + 3) ls st))) : Go p e below G (T.setTop (mkF m pc ls (.int z :: .int x :: st))) := by
  by_cases q : x < z
  · exact g_icmpY pc' W hd ho hp (tlt q).1 (Y q)
  · exact g_icmpN W hd (flt q).1 (N q)
theorem g_if_lt {o : Int} {x : Int32} (pc' : Nat) (W : Here p l e R s m args below meth c Z F B h0 A y bytes mL ret T k n os) (hd : decode bytes pc = .ok (.ifCond .lt o, 3)) (ho : 0 ≤ (pc : Int) + o) (hp : ((pc : Int) + o).toNat = pc') (Y : x < 0 → Go p e below G (T.setTop (mkF m pc' ls st))) (N : ¬ (x < 0) → Go p e below G (T.setTop (mkF m (pc + 3) ls st))) : Go p e below G (T.setTop (mkF m pc ls (.int x :: st))) := by
  by_cases q : x < 0
  · exact g_ifY pc' W hd ho hp (tlt q).1 (Y q)
  · exact g_ifN W hd (flt q).1 (N q)
theorem g_icmp_ge {o : Int} {x z : Int32} (pc' : Nat) (W : Here p l e R s m args below meth c Z F B h0 A y bytes mL ret T k n os) (hd : decode bytes pc = .ok (.if_icmp .ge o, 3)) (ho : 0 ≤ (pc : Int) + o) (hp : ((pc : Int) + o).toNat = pc') (Y : ¬ (x < z) → Go p e below G (T.setTop (mkF m pc' ls st))) (N : x < z → Go p e below G (T.setTop (mkF m (pc + 3) ls st))) : Go p e below G (T.setTop (mkF m pc ls (.int z :: .int x :: st))) := by
  by_cases q : x < z
  · exact g_icmpN W hd (tlt q).2.1 (N q)
  · exact g_icmpY pc' W hd ho hp (flt q).2.1 (Y q)
theorem g_if_ge {o : Int} {x : Int32} (pc' : Nat) (W : Here p l e R s m args below meth c Z F B h0 A y bytes mL ret T k n os) (hd : decode bytes pc = .ok (.ifCond .ge o, 3)) (ho : 0 ≤ (pc : Int) + o) (hp : ((pc : Int) + o).toNat = pc') (Y : ¬ (x < 0) → Go p e below G (T.setTop (mkF m pc' ls st))) (N : x < 0 → Go p e below G (T.setTop (mkF m (pc + 3) ls st))) : Go p e below G (T.setTop (mkF m pc ls (.int x :: st))) := by
  by_cases q : x < 0
  · exact g_ifN W hd (tlt q).2.1 (N q)
  · exact g_ifY pc' W hd ho hp (flt q).2.1 (Y q)
theorem g_icmp_gt {o : Int} {x z : Int32} (pc' : Nat) (W : Here p l e R s m args below meth c Z F B h0 A y bytes mL ret T k n os) (hd : decode bytes pc = .ok (.if_icmp .gt o, 3)) (ho : 0 ≤ (pc : Int) + o) (hp : ((pc : Int) + o).toNat = pc') (Y : z < x → Go p e below G (T.setTop (mkF m pc' ls st))) (N : ¬ (z < x) → Go p e below G (T.setTop (mkF m (pc + 3) ls st))) : Go p e below G (T.setTop (mkF m pc ls (.int z :: .int x :: st))) := by
  by_cases q : z < x
  · exact g_icmpY pc' W hd ho hp (tlt q).2.2.1 (Y q)
  · exact g_icmpN W hd (flt q).2.2.1 (N q)
theorem g_if_gt {o : Int} {x : Int32} (pc' : Nat) (W : Here p l e R s m args below meth c Z F B h0 A y bytes mL ret T k n os) (hd : decode bytes pc = .ok (.ifCond .gt o, 3)) (ho : 0 ≤ (pc : Int) + o) (hp : ((pc : Int) + o).toNat = pc') (Y : 0 < x → Go p e below G (T.setTop (mkF m pc' ls st))) (N : ¬ (0 < x) → Go p e below G (T.setTop (mkF m (pc + 3) ls st))) : Go p e below G (T.setTop (mkF m pc ls (.int x :: st))) := by
  by_cases q : 0 < x
  · exact g_ifY pc' W hd ho hp (tlt q).2.2.1 (Y q)
  · exact g_ifN W hd (flt q).2.2.1 (N q)
theorem g_icmp_le {o : Int} {x z : Int32} (pc' : Nat) (W : Here p l e R s m args below meth c Z F B h0 A y bytes mL ret T k n os) (hd : decode bytes pc = .ok (.if_icmp .le o, 3)) (ho : 0 ≤ (pc : Int) + o) (hp : ((pc : Int) + o).toNat = pc') (Y : ¬ (z < x) → Go p e below G (T.setTop (mkF m pc' ls st))) (N : z < x → Go p e below G (T.setTop (mkF m (pc + 3) ls st))) : Go p e below G (T.setTop (mkF m pc ls (.int z :: .int x :: st))) := by
  by_cases q : z < x
  · exact g_icmpN W hd (tlt q).2.2.2 (N q)
  · exact g_icmpY pc' W hd ho hp (flt q).2.2.2 (Y q)
theorem g_if_le {o : Int} {x : Int32} (pc' : Nat) (W : Here p l e R s m args below meth c Z F B h0 A y bytes mL ret T k n os) (hd : decode bytes pc = .ok (.ifCond .le o, 3)) (ho : 0 ≤ (pc : Int) + o) (hp : ((pc : Int) + o).toNat = pc') (Y : ¬ (0 < x) → Go p e below G (T.setTop (mkF m pc' ls st))) (N : 0 < x → Go p e below G (T.setTop (mkF m (pc + 3) ls st))) : Go p e below G (T.setTop (mkF m pc ls (.int x :: st))) := by
  by_cases q : 0 < x
  · exact g_ifN W hd (tlt q).2.2.2 (N q)
  · exact g_ifY pc' W hd ho hp (flt q).2.2.2 (Y q)
theorem g_icmp_eq {o : Int} {x z : Int32} (pc' : Nat) (W : Here p l e R s m args below meth c Z F B h0 A y bytes mL ret T k n os) (hd : decode bytes pc = .ok (.if_icmp .eq o, 3)) (ho : 0 ≤ (pc : Int) + o) (hp : ((pc : Int) + o).toNat = pc') (Y : x = z → Go p e below G (T.setTop (mkF m pc' ls st))) (N : ¬ (x = z) → Go p e below G (T.setTop (mkF m (pc + 3) ls st))) : Go p e below G (T.setTop (mkF m pc ls (.int z :: .int x :: st))) := by
  by_cases q : x = z
  · exact g_icmpY pc' W hd ho hp (teq q).1 (Y q)
  · exact g_icmpN W hd (feq q).1 (N q)
theorem g_if_eq {o : Int} {x : Int32} (pc' : Nat) (W : Here p l e R s m args below meth c Z F B h0 A y bytes mL ret T k n os) (hd : decode bytes pc = .ok (.ifCond .eq o, 3)) (ho : 0 ≤ (pc : Int) + o) (hp : ((pc : Int) + o).toNat = pc') (Y : x = 0 → Go p e below G (T.setTop (mkF m pc' ls st))) (N : ¬ (x = 0) → Go p e below G (T.setTop (mkF m (pc + 3) ls st))) : Go p e below G (T.setTop (mkF m pc ls (.int x :: st))) := by
  by_cases q : x = 0
  · exact g_ifY pc' W hd ho hp (teq q).1 (Y q)
  · exact g_ifN W hd (feq q).1 (N q)
theorem g_icmp_ne {o : Int} {x z : Int32} (pc' : Nat) (W : Here p l e R s m args below meth c Z F B h0 A y bytes mL ret T k n os) (hd : decode bytes pc = .ok (.if_icmp .ne o, 3)) (ho : 0 ≤ (pc : Int) + o) (hp : ((pc : Int) + o).toNat = pc') (Y : ¬ (x = z) → Go p e below G (T.setTop (mkF m pc' ls st))) (N : x = z → Go p e below G (T.setTop (mkF m (pc + 3) ls st))) : Go p e below G (T.setTop (mkF m pc ls (.int z :: .int x :: st))) := by
  by_cases q : x = z
  · exact g_icmpN W hd (teq q).2 (N q)
  · exact g_icmpY pc' W hd ho hp (feq q).2 (Y q)
theorem g_if_ne {o : Int} {x : Int32} (pc' : Nat) (W : Here p l e R s m args below meth c Z F B h0 A y bytes mL ret T k n os) (hd : decode bytes pc = .ok (.ifCond .ne o, 3)) (ho : 0 ≤ (pc : Int) + o) (hp : ((pc : Int) + o).toNat = pc') (Y : ¬ (x = 0) → Go p e below G (T.setTop (mkF m pc' ls st))) (N : x = 0 → Go p e below G (T.setTop (mkF m (pc + 3) ls st))) : Go p e below G (T.setTop (mkF m pc ls (.int x :: st))) := by
  by_cases q : x = 0
  · exact g_ifN W hd (teq q).2 (N q)
  · exact g_ifY pc' W hd ho hp (feq q).2 (Y q)
theorem g_lookup {dfl : Int} {pairs : Array (Int × Int)} {len : Nat} {x : Int32} (W : Here p l e R s m args below meth c Z F B h0 A y bytes mL ret T k n os) (hd : decode bytes pc = .ok (.lookupswitch dfl pairs, len)) (hs : (pairs.toList.zip (pairs.toList.drop 1)).all (fun (a, next) => a.1 < next.1) = true) (ho : ∀ q ∈ pairs.toList, 0 ≤ (pc : Int) + q.2) (ho' : 0 ≤ (pc : Int) + dfl)
    (Y : ∀ a off, (a, off) ∈ pairs.toList → x.toInt = a → Go p e below G (T.setTop (mkF m ((pc : Int) + off).toNat ls st))) (N : (∀ q ∈ pairs.toList, q.1 ≠ x.toInt) → Go p e below G (T.setTop (mkF m ((pc : Int) + dfl).toNat ls st))) : Go p e below G (T.setTop (mkF m pc ls (.int x :: st))) := by
  obtain ⟨⟨hx, hZ, hby, -⟩, locs, X, -⟩ := W
  cases hf : pairs.find? (·.1 == x.toInt) with
  | none =>
    have K := N fun q hq e => by
      rw [Array.find?_eq_none] at hf
      exact hf q (Array.mem_toList_iff.mp hq) (by simp [e])
    exact K.by fun t q => X.lookupswitchMiss hx (g := mkF m pc ls (.int x :: st)) rfl rfl (hb hby hd) hs hf ho' t q
  | some q =>
    obtain ⟨a, off⟩ := q
    have h1 := Array.find?_some hf
    have h2 := Array.mem_toList_iff.mpr (Array.mem_of_find?_eq_some hf)
    have K := Y a off h2 (by simpa using (beq_iff_eq.mp h1).symm)
    exact K.by fun t q => X.lookupswitchHit hx (g := mkF m pc ls (.int x :: st)) rfl rfl (hb hby hd) hs hf (ho _ h2) t q
theorem g_ldc_int {i : Nat} {v : Int32} (W : Here p l e R s m args below meth c Z F B h0 A y bytes mL ret T k n os) (w : (Jvm.Cond.constant y.cls i v).before a0 Z = true) (hd : decode bytes pc = .ok (.ldc i, 2)) (K : Go p e below G (T.setTop (mkF m (pc + 2) ls (.int v :: st)))) : Go p e below G (T.setTop (mkF m pc ls st)) := by
  obtain ⟨⟨hx, hZ, hby, -, hown, -⟩, locs, X, -⟩ := W
  exact K.by fun t q => X.ldcInt hx hown (mvT hZ w) (g := mkF m pc ls st) rfl (hb hby hd) t q
theorem g_ldc2_long {i : Nat} {v : Int64} (W : Here p l e R s m args below meth c Z F B h0 A y bytes mL ret T k n os) (w : (Jvm.Cond.constantLong y.cls i v).before a0 Z = true) (hd : decode bytes pc = .ok (.ldc2_w i, 3)) (K : Go p e below G (T.setTop (mkF m (pc + 3) ls (.long v :: st)))) : Go p e below G (T.setTop (mkF m pc ls st)) := by
  obtain ⟨⟨hx, hZ, hby, -, hown, -⟩, locs, X, -⟩ := W
  exact K.by fun t q => X.ldc2Long hx hown (mvT hZ w) (g := mkF m pc ls st) rfl (hb hby hd) t q
theorem g_ireturn {z : Int32} (hT : ret = some .int) {kc ks : Nat} {P : Option Value → List Ob → Prop} (W : Here p l e R s m args below meth c Z F B h0 A y bytes mL ret T k n os) (hd : decode bytes pc = .ok (.ireturn, 1)) (hk : k ≤ kc) (hn : n ≤ ks) (hp : P (some (.int z)) os) : Go p e below (Fin1 below s Z F B h0 A kc ks P) (T.setTop (mkF m pc ls (.int z :: st))) := by
  obtain ⟨⟨hx, hZ, hby, -, hown, hret, hlk, -⟩, locs, X, hL, hI⟩ := W
  obtain ⟨fs, hr, hrun, hended, hW, hsame⟩ := X.leave (v := some (.int z)) (fun h => by rw [hret, hT] at h; cases h) hlk
  exact ⟨_, retOut X hx (hret.trans hT) rfl (Or.inl ⟨rfl, Or.inl rfl, z, rfl⟩) (hb hby hd) hr, hrun, _, locs, hended, ⟨hL.1, os, hI, hp⟩, ⟨_, rfl⟩, hW, hsame.mono hk hn⟩
theorem g_zreturn {z : Int32} (hT : ret = some .boolean) (hz : z &&& 1 = z) {kc ks : Nat} {P : Option Value → List Ob → Prop} (W : Here p l e R s m args below meth c Z F B h0 A y bytes mL ret T k n os) (hd : decode bytes pc = .ok (.ireturn, 1)) (hk : k ≤ kc) (hn : n ≤ ks) (hp : P (some (.int z)) os) : Go p e below (Fin1 below s Z F B h0 A kc ks P) (T.setTop (mkF m pc ls (.int z :: st))) := by
  obtain ⟨⟨hx, hZ, hby, -, hown, hret, hlk, -⟩, locs, X, hL, hI⟩ := W
  obtain ⟨fs, hr, hrun, hended, hW, hsame⟩ := X.leave (v := some (.int z)) (fun h => by rw [hret, hT] at h; cases h) hlk
  exact ⟨_, retOut (t := .boolean) (w := .int z) X hx (hret.trans hT) (show Value.int (z &&& 1) = .int z by rw [hz]) (Or.inl ⟨rfl, Or.inr (Or.inl rfl), z, rfl⟩) (hb hby hd) hr, hrun, _, locs, hended, ⟨hL.1, os, hI, hp⟩, ⟨_, rfl⟩, hW, hsame.mono hk hn⟩
theorem g_lreturn {z : Int64} (hT : ret = some .long) {kc ks : Nat} {P : Option Value → List Ob → Prop} (W : Here p l e R s m args below meth c Z F B h0 A y bytes mL ret T k n os) (hd : decode bytes pc = .ok (.lreturn, 1)) (hk : k ≤ kc) (hn : n ≤ ks) (hp : P (some (.long z)) os) : Go p e below (Fin1 below s Z F B h0 A kc ks P) (T.setTop (mkF m pc ls (.long z :: st))) := by
  obtain ⟨⟨hx, hZ, hby, -, hown, hret, hlk, -⟩, locs, X, hL, hI⟩ := W
  obtain ⟨fs, hr, hrun, hended, hW, hsame⟩ := X.leave (v := some (.long z)) (fun h => by rw [hret, hT] at h; cases h) hlk
  exact ⟨_, retOut X hx (hret.trans hT) rfl (Or.inr (Or.inl ⟨rfl, rfl, z, rfl⟩)) (hb hby hd) hr, hrun, _, locs, hended, ⟨hL.1, os, hI, hp⟩, ⟨_, rfl⟩, hW, hsame.mono hk hn⟩
theorem g_areturn {z : Addr} {t : FieldType} (hT : ret = some t) (ht : t.isReference = true) {kc ks : Nat} {P : Option Value → List Ob → Prop} (W : Here p l e R s m args below meth c Z F B h0 A y bytes mL ret T k n os) (hd : decode bytes pc = .ok (.areturn, 1)) (hk : k ≤ kc) (hn : n ≤ ks) (hp : P (some (.ref z)) os) : Go p e below (Fin1 below s Z F B h0 A kc ks P) (T.setTop (mkF m pc ls (.ref z :: st))) := by
  obtain ⟨⟨hx, hZ, hby, -, hown, hret, hlk, -⟩, locs, X, hL, hI⟩ := W
  obtain ⟨fs, hr, hrun, hended, hW, hsame⟩ := X.leave (v := some (.ref z)) (fun h => by rw [hret, hT] at h; cases h) hlk
  exact ⟨_, retOut X hx (hret.trans hT) (by cases t <;> first | rfl | simp [FieldType.isReference] at ht) (Or.inr (Or.inr (Or.inr (Or.inr ⟨rfl, ht, rfl⟩)))) (hb hby hd) hr, hrun, _, locs, hended, ⟨hL.1, os, hI, hp⟩, ⟨_, rfl⟩, hW, hsame.mono hk hn⟩
theorem g_return (hT : ret = none) {kc ks : Nat} {P : Option Value → List Ob → Prop} (W : Here p l e R s m args below meth c Z F B h0 A y bytes mL ret T k n os) (hd : decode bytes pc = .ok (.return_, 1)) (hk : k ≤ kc) (hn : n ≤ ks) (hp : P (none) os) : Go p e below (Fin1 below s Z F B h0 A kc ks P) (T.setTop (mkF m pc ls ([]))) := by
  obtain ⟨⟨hx, hZ, hby, -, hown, hret, hlk, -⟩, locs, X, hL, hI⟩ := W
  obtain ⟨fs, hr, hrun, hended, hW, hsame⟩ := X.leave (v := none) (fun _ => rfl) hlk
  exact ⟨_, X.returnOut hx (hret.trans hT) (hb hby hd) hr, hrun, _, locs, hended, ⟨hL.1, os, hI, hp⟩, ⟨_, rfl⟩, hW, hsame.mono hk hn⟩
theorem own_bb (v : Int32) : v.toInt8.toInt32.toInt8.toInt32 = v.toInt8.toInt32 := by rw [Int8.toInt8_toInt32]
theorem g_acmp {cd : ACond} {o : Int} {v w : Value} (pc' : Nat) (same : Bool) (W : Here p l e R s m args below meth c Z F B h0 A y bytes mL ret T k n os) (hd : decode bytes pc = .ok (.if_acmp cd o, 3)) (h1 : v.isRef = true) (h2 : w.isRef = true) (hq : decide (v = w) = same) (ho : 0 ≤ (pc : Int) + o) (hp : pc' = if acV cd same = true then ((pc : Int) + o).toNat else pc + 3) (K : Go p e below G (T.setTop (mkF m pc' ls st))) : Go p e below G (T.setTop (mkF m pc ls (w :: v :: st))) := by
  obtain ⟨⟨hx, hZ, hby, -⟩, locs, X, -⟩ := W
  exact K.by fun t q => Jvm.RoadKit.acmp (g := mkF m pc ls (w :: v :: st)) X hx rfl h1 h2 rfl (hb hby hd) rfl hq ho hp q
theorem Here.re {os' : List Ob} (W : Here p l e R s m args below meth c Z F B h0 A y bytes mL ret T k n os) (h : os = os') : Here p l e R s m args below meth c Z F B h0 A y bytes mL ret T k n os' := h ▸ W
theorem Here.kn {k' n' : Nat} (W : Here p l e R s m args below meth c Z F B h0 A y bytes mL ret T k n os) (h : k = k') (h' : n = n') : Here p l e R s m args below meth c Z F B h0 A y bytes mL ret T k' n' os := by subst h h'; exact W
/-- what the sheet says of a class: its fields are laid, under names of their own -/
def Cls (Z : State) (a0 : Array Value) (F : Fm) (C : String) : Prop := (∀ x ∈ F C, Laid Z a0 C C x.1 x.2 ∧ ∃ t, parseFieldDescriptor x.2 = some t) ∧ ((F C).map (·.1)).Nodup
theorem Cls.ne {C : String} (H : Cls Z a0 F C) {i j : Nat} {x x' : String × String} (hi : (F C)[i]? = some x) (hj : (F C)[j]? = some x') (ne : i ≠ j) : Jvm.RoadKit.slotOf Z C x.1 x.2 ≠ Jvm.RoadKit.slotOf Z C x'.1 x'.2 := by
  obtain ⟨L, t, ht⟩ := H.1 x (List.mem_of_getElem? hi)
  obtain ⟨L', t', ht'⟩ := H.1 x' (List.mem_of_getElem? hj)
  refine slot_ne L L' (fun e => ne ?_) ht ht'
  obtain ⟨h1, e1⟩ := List.getElem?_eq_some_iff.mp hi
  obtain ⟨h2, e2⟩ := List.getElem?_eq_some_iff.mp hj
  refine (List.getElem_inj (xs := (F C).map (·.1)) (h₀ := by simpa using h1) (h₁ := by simpa using h2) H.2).mp ?_
  simp [e1, e2, e]
def dflt (d : String) : Value := ((parseFieldDescriptor d).map defaultValue).getD .null
theorem g_getfield {i index j : Nat} {a : Addr} {C nm d host : String} {vs : List Value} {v : Value} (W : Here p l e R s m args below meth c Z F B h0 A y bytes mL ret T k n os) (w : (Jvm.Cond.fieldLink y.cls index C nm d).before a0 Z = true ∨ (Jvm.Cond.fieldLinkNest y.cls index C nm d host).before a0 Z = true)
    (hi : os[i]? = some (a, .object C, vs)) (hf : (F C)[j]? = some (nm, d)) (hv : vs[j]? = some v) (hd : decode bytes pc = .ok (.getfield index, 3)) (K : ∀ T', Here p l e R s m args below meth c Z F B h0 A y bytes mL ret T' k n os → Go p e below G (T'.setTop (mkF m (pc + 3) ls (v :: st)))) : Go p e below G (T.setTop (mkF m pc ls (.ref a :: st))) := by
  obtain ⟨H0, locs, X, hL, hI⟩ := W
  have O : Oat F Z T.heap a (.object C) vs := hI.2.1.get hi
  obtain ⟨T', X', e', stp⟩ := getF X H0.1 H0.2.1 H0.2.2.2.2.1 w Via.refl rfl (O.2.2 j nm d v hf hv) (g := mkF m pc ls (.ref a :: st)) rfl rfl (hb H0.2.2.1 hd)
  exact (K T' ⟨H0, locs, X', hL, by rw [e']; exact hI⟩).by stp
theorem g_putfield {i index j kk : Nat} {a : Addr} {C nm d host : String} {vs : List Value} {v old : Value} {ty : FieldType} {os' : List Ob} (W : Here p l e R s m args below meth c Z F B h0 A y bytes mL ret T k n os) (w : (Jvm.Cond.fieldLink y.cls index C nm d).before a0 Z = true ∨ (Jvm.Cond.fieldLinkNest y.cls index C nm d host).before a0 Z = true)
    (hC : Cls Z a0 F C) (L : (Jvm.Cond.lays C C nm d).before a0 Z = true ∨ ((Jvm.Cond.laysFinal C C nm d).before a0 Z = true ∧ y.cls = C ∧ y.name = "<init>")) (wi : (Jvm.Cond.instantiable C kk).before a0 Z = true)
    (hi : os[i]? = some (a, .object C, vs)) (hf : (F C)[j]? = some (nm, d)) (hv : vs[j]? = some old) (hty : parseFieldDescriptor d = some ty) (hn : narrow ty v = v) (hfit : fits ty v = true) (ho : os.set i (a, .object C, vs.set j v) = os')
    (hd : decode bytes pc = .ok (.putfield index, 3)) (K : ∀ T', Here p l e R s m args below meth c Z F B h0 A y bytes mL ret T' k n os' → Go p e below G (T'.setTop (mkF m (pc + 3) ls (st)))) : Go p e below G (T.setTop (mkF m pc ls (v :: .ref a :: st))) := by
  obtain ⟨H0, locs, X, hL, hI⟩ := W
  have O : Oat F Z T.heap a (.object C) vs := hI.2.1.get hi
  obtain ⟨E, hlen, hF⟩ := O
  obtain ⟨T', h', X', e', Wr', stp⟩ := putF X H0.1 H0.2.1 H0.2.2.2.2.1 w Via.refl rfl (hF j nm d old hf hv) E (L.imp id fun q => ⟨q.1, q.2.1, H0.2.2.2.2.2.2.2.trans q.2.2⟩) wi hty hn hfit (g := mkF m pc ls (v :: .ref a :: st)) rfl rfl (hb H0.2.2.1 hd)
  refine (K T' ⟨H0, _, X', ⟨fun z hz => ?_, hL.2⟩, ?_⟩).by stp
  · rcases List.mem_append.mp hz with q | q
    · exact hL.1 z q
    · cases List.mem_singleton.mp q; exact (hI.mem hi).ge hL.2.1 hL.2.2
  · rw [e', ← ho]
    refine hI.set hi (Keep.of_wr Wr') ⟨E.wr Wr', by simpa using hlen, fun i' n' d' v' h1 h2 => ?_⟩
    rw [List.getElem?_set] at h2
    split at h2
    · rename_i e1; subst e1
      have : v' = v := by split at h2 <;> simp_all
      cases hf.symm.trans h1
      subst this
      exact (hF j nm d old hf hv).same Wr'
    · rename_i ne
      have q : Jvm.RoadKit.slotOf Z C n' d' ≠ Jvm.RoadKit.slotOf Z C nm d := hC.ne (x := (n', d')) (x' := (nm, d)) h1 hf (Ne.symm ne)
      exact (hF i' n' d' v' h1 h2).other Wr' (Or.inr q)
theorem g_new {index nsl : Nat} {C : String} {vs : List Value} (W : Here p l e R s m args below meth c Z F B h0 A y bytes mL ret T k n os) (w : (Jvm.Cond.classLink y.cls index C).before a0 Z = true) (wi : (Jvm.Cond.instantiable C nsl).before a0 Z = true) (wz : (Jvm.Cond.initialized C).before a0 Z = true) (hC : Cls Z a0 F C) (hvs : (F C).map (fun x => dflt x.2) = vs)
    (hd : decode bytes pc = .ok (.new index, 3)) (hc : k + 1 ≤ R.cells) (hs : n + nsl ≤ R.slots)
    (K : ∀ T' a, Here p l e R s m args below meth c Z F B h0 A y bytes mL ret T' (k + 1) (n + nsl) (os ++ [(a, .object C, vs)]) → Go p e below G (T'.setTop (mkF m (pc + 3) ls (.ref a :: st)))) : Go p e below G (T.setTop (mkF m pc ls st)) := by
  obtain ⟨H0, locs, X, hL, hI⟩ := W
  obtain ⟨T', h', X', e', E', A', D', -, stp⟩ := newO X H0.1 H0.2.1 H0.2.2.2.2.1 w wi wz rfl (g := mkF m pc ls st) rfl (hb H0.2.2.1 hd) hc hs
  refine (K T' T.heap.size ⟨H0, locs, X', hL, ?_⟩).by stp
  rw [e']
  refine hI.push E' ⟨A', by rw [← hvs]; simp, fun i nm d v h1 h2 => ?_⟩
  obtain ⟨La, t, ht⟩ := hC.1 _ (List.mem_of_getElem? h1)
  have q := D' La ht
  rw [← hvs, List.getElem?_map, h1] at h2
  simp only [Option.map_some, dflt, ht, Option.getD_some, Option.some.injEq] at h2
  rw [← h2]; exact q
theorem fits_dflt (aty : ArrayType) : fits (newarray.typeOf aty) (defaultValue (newarray.typeOf aty)) = true := by cases aty <;> rfl
theorem g_newarray {aty : ArrayType} {z : Int32} {ty : FieldType} {vs : List Value} (cap : Nat) (W : Here p l e R s m args below meth c Z F B h0 A y bytes mL ret T k n os) (w : (Jvm.Cond.arrayClass ty).before a0 Z = true) (hty : newarray.typeOf aty = ty) (hz : ¬ z < 0) (hcap : z.toNatClampNeg ≤ cap) (hb8 : cap * 8 ≤ 536870912) (hvs : List.replicate z.toNatClampNeg (defaultValue ty) = vs)
    (hd : decode bytes pc = .ok (.newarray aty, 2)) (hc : k + 1 ≤ R.cells) (hs : n + cap ≤ R.slots)
    (K : ∀ T' a, Here p l e R s m args below meth c Z F B h0 A y bytes mL ret T' (k + 1) (n + cap) (os ++ [(a, .array ty, vs)]) → Go p e below G (T'.setTop (mkF m (pc + 2) ls (.ref a :: st)))) : Go p e below G (T.setTop (mkF m pc ls (.int z :: st))) := by
  obtain ⟨H0, locs, X, hL, hI⟩ := W
  subst hty hvs
  obtain ⟨T', h', cA, X', e', E', A', Ex, stp⟩ := newPE X H0.1 H0.2.1 w rfl (g := mkF m pc ls (.int z :: st)) rfl (hb H0.2.2.1 hd) rfl hz hcap hb8 hc hs rfl
  refine (K T' T.heap.size ⟨H0, locs, X', hL, ?_⟩).by stp
  rw [e']
  refine hI.push E' ⟨Ex, fun v hv => ?_, _, A', by simp [newA]⟩
  rw [(List.mem_replicate.mp hv).2]; exact fits_dflt aty
theorem g_anewarray {index : Nat} {z : Int32} {C : String} {vs : List Value} (cap : Nat) (W : Here p l e R s m args below meth c Z F B h0 A y bytes mL ret T k n os) (w : (Jvm.Cond.classLink y.cls index C).before a0 Z = true) (w2 : (Jvm.Cond.arrayOver (.object C)).before a0 Z = true) (hz : ¬ z < 0) (hcap : z.toNatClampNeg ≤ cap) (hb8 : cap * 8 ≤ 536870912) (hvs : List.replicate z.toNatClampNeg .null = vs)
    (hd : decode bytes pc = .ok (.anewarray index, 3)) (hc : k + 1 ≤ R.cells) (hs : n + cap ≤ R.slots)
    (K : ∀ T' a, Here p l e R s m args below meth c Z F B h0 A y bytes mL ret T' (k + 1) (n + cap) (os ++ [(a, .array (.object C), vs)]) → Go p e below G (T'.setTop (mkF m (pc + 3) ls (.ref a :: st)))) : Go p e below G (T.setTop (mkF m pc ls (.int z :: st))) := by
  obtain ⟨H0, locs, X, hL, hI⟩ := W
  subst hvs
  obtain ⟨T', h', cA, X', e', E', A', Ex, -, stp⟩ := newRE X H0.1 H0.2.1 H0.2.2.2.2.1 w w2 rfl (g := mkF m pc ls (.int z :: st)) rfl (hb H0.2.2.1 hd) rfl hz hcap hb8 hc hs rfl
  refine (K T' T.heap.size ⟨H0, locs, X', hL, ?_⟩).by stp
  rw [e']
  refine hI.push E' ⟨Ex, fun v hv => ?_, _, A', by simp [newA, defaultValue]⟩
  rw [(List.mem_replicate.mp hv).2]; rfl
theorem inb_list {cl : Cell} {vs : List Value} {z : Int32} {v : Value} (S : cl.slots = vs.toArray) (hz : ¬ z < 0) (hv : vs[z.toNatClampNeg]? = some v) : ¬ (z < 0 ∨ cl.slots.size ≤ z.toNatClampNeg) ∧ cl.slots[z.toNatClampNeg]? = some v := by
  have h1 := (List.getElem?_eq_some_iff.mp hv).1
  refine ⟨fun q => q.elim hz fun q => ?_, by rw [S]; simpa using hv⟩
  rw [S] at q; simp at q; omega
theorem g_iaload {i : Nat} {a : Addr} {z : Int32} {vs : List Value} {v : Value} (W : Here p l e R s m args below meth c Z F B h0 A y bytes mL ret T k n os) (hi : os[i]? = some (a, .array .int, vs)) (hz : ¬ z < 0) (hv : vs[z.toNatClampNeg]? = some v) (hd : decode bytes pc = .ok (.iaload, 1)) (K : Go p e below G (T.setTop (mkF m (pc + 1) ls (v :: st)))) : Go p e below G (T.setTop (mkF m pc ls (.int z :: .ref a :: st))) := by
  obtain ⟨H0, locs, X, hL, hI⟩ := W
  have O : Oat F Z T.heap a (.array .int) vs := hI.2.1.get hi
  obtain ⟨E, -, cl, Ar, S⟩ := O
  obtain ⟨h1, h2⟩ := inb_list S hz hv
  exact K.by fun t q => X.iaload H0.1 (j := z) (v := v) Ar.1 (State.isArrayOf_alike H0.2.1.alike Ar.2.1) Ar.2.2 h1 h2 (g := mkF m pc ls (.int z :: .ref a :: st)) rfl rfl (hb H0.2.2.1 hd) t q
theorem g_laload {i : Nat} {a : Addr} {z : Int32} {vs : List Value} {v : Value} (W : Here p l e R s m args below meth c Z F B h0 A y bytes mL ret T k n os) (hi : os[i]? = some (a, .array .long, vs)) (hz : ¬ z < 0) (hv : vs[z.toNatClampNeg]? = some v) (hd : decode bytes pc = .ok (.laload, 1)) (K : Go p e below G (T.setTop (mkF m (pc + 1) ls (v :: st)))) : Go p e below G (T.setTop (mkF m pc ls (.int z :: .ref a :: st))) := by
  obtain ⟨H0, locs, X, hL, hI⟩ := W
  have O : Oat F Z T.heap a (.array .long) vs := hI.2.1.get hi
  obtain ⟨E, -, cl, Ar, S⟩ := O
  obtain ⟨h1, h2⟩ := inb_list S hz hv
  exact K.by fun t q => X.laload H0.1 (j := z) (v := v) Ar.1 (State.isArrayOf_alike H0.2.1.alike Ar.2.1) Ar.2.2 h1 h2 (g := mkF m pc ls (.int z :: .ref a :: st)) rfl rfl (hb H0.2.2.1 hd) t q
theorem g_baload {i : Nat} {a : Addr} {z : Int32} {vs : List Value} {v : Value} (W : Here p l e R s m args below meth c Z F B h0 A y bytes mL ret T k n os) (hi : os[i]? = some (a, .array .byte, vs)) (hz : ¬ z < 0) (hv : vs[z.toNatClampNeg]? = some v) (hd : decode bytes pc = .ok (.baload, 1)) (K : Go p e below G (T.setTop (mkF m (pc + 1) ls (v :: st)))) : Go p e below G (T.setTop (mkF m pc ls (.int z :: .ref a :: st))) := by
  obtain ⟨H0, locs, X, hL, hI⟩ := W
  have O : Oat F Z T.heap a (.array .byte) vs := hI.2.1.get hi
  obtain ⟨E, -, cl, Ar, S⟩ := O
  obtain ⟨h1, h2⟩ := inb_list S hz hv
  exact K.by fun t q => X.baloadBytes H0.1 (j := z) (v := v) Ar.1 (State.isArrayOf_alike H0.2.1.alike Ar.2.1) Ar.2.2 h1 h2 (g := mkF m pc ls (.int z :: .ref a :: st)) rfl rfl (hb H0.2.2.1 hd) t q
theorem g_arraylength {i : Nat} {a : Addr} {ty : FieldType} {vs : List Value} (N : Int32) (W : Here p l e R s m args below meth c Z F B h0 A y bytes mL ret T k n os) (hi : os[i]? = some (a, .array ty, vs)) (hN : vs.length.toInt32 = N) (hd : decode bytes pc = .ok (.arraylength, 1)) (K : Go p e below G (T.setTop (mkF m (pc + 1) ls (.int N :: st)))) : Go p e below G (T.setTop (mkF m pc ls (.ref a :: st))) := by
  obtain ⟨H0, locs, X, hL, hI⟩ := W
  have O : Oat F Z T.heap a (.array ty) vs := hI.2.1.get hi
  obtain ⟨E, -, cl, Ar, S⟩ := O
  have q2 : cl.slots.size.toInt32 = N := by rw [S, ← hN]; simp
  subst q2
  exact K.by fun t q => X.arraylength H0.1 Ar.1 (State.isArrayOf_alike H0.2.1.alike Ar.2.1) (g := mkF m pc ls (.ref a :: st)) rfl rfl (hb H0.2.2.1 hd) t q
theorem Oat.put {h h' : Heap} {a : Addr} {ty : FieldType} {vs : List Value} {cl : Cell} {v : Value} {j : Nat} (O : Oat F Z h a (.array ty) vs) (Ar : Arr Z h a cl ty) (S : cl.slots = vs.toArray) (hf : fits ty v = true) (Wr' : Wr h h' a j v) : Oat F Z h' a (.array ty) (vs.set j v) := by
  obtain ⟨E, f, -⟩ := O
  refine ⟨E.wr Wr', fun u hu => ?_, cl.setSlot j v, Ar.same Wr', by simp [Cell.setSlot, S]⟩
  rcases List.mem_or_eq_of_mem_set hu with q | q
  · exact f u q
  · rw [q]; exact hf
theorem g_iastore {i : Nat} {a : Addr} {z : Int32} {x : Int32} {vs : List Value} {os' : List Ob} (j : Nat) (W : Here p l e R s m args below meth c Z F B h0 A y bytes mL ret T k n os) (hi : os[i]? = some (a, .array .int, vs)) (hz : ¬ z < 0) (hj : z.toNatClampNeg = j) (hlt : j < vs.length) (ho : os.set i (a, .array .int, vs.set j (.int x)) = os')
    (hd : decode bytes pc = .ok (.iastore, 1)) (K : ∀ T', Here p l e R s m args below meth c Z F B h0 A y bytes mL ret T' k n os' → Go p e below G (T'.setTop (mkF m (pc + 1) ls (st)))) : Go p e below G (T.setTop (mkF m pc ls (.int x :: .int z :: .ref a :: st))) := by
  obtain ⟨H0, locs, X, hL, hI⟩ := W
  have O : Oat F Z T.heap a (.array .int) vs := hI.2.1.get hi
  obtain ⟨E, -, cl, Ar, S⟩ := id O
  have hin : ¬ (z < 0 ∨ cl.slots.size ≤ z.toNatClampNeg) := fun q => q.elim hz fun q => by rw [S] at q; simp at q; omega
  obtain ⟨T', h', X', e', Wr', stp⟩ := stI X H0.1 H0.2.1 rfl Ar (j := z) hin (g := mkF m pc ls (.int x :: .int z :: .ref a :: st)) rfl rfl (hb H0.2.2.1 hd)
  subst hj
  refine (K T' ⟨H0, _, X', ⟨fun z hz => ?_, hL.2⟩, ?_⟩).by stp
  · rcases List.mem_append.mp hz with q | q
    · exact hL.1 z q
    · cases List.mem_singleton.mp q; exact (hI.mem hi).ge hL.2.1 hL.2.2
  · rw [e', ← ho]
    exact hI.set hi (Keep.of_wr Wr') (O.put Ar S rfl Wr')
theorem g_lastore {i : Nat} {a : Addr} {z : Int32} {x : Int64} {vs : List Value} {os' : List Ob} (j : Nat) (W : Here p l e R s m args below meth c Z F B h0 A y bytes mL ret T k n os) (hi : os[i]? = some (a, .array .long, vs)) (hz : ¬ z < 0) (hj : z.toNatClampNeg = j) (hlt : j < vs.length) (ho : os.set i (a, .array .long, vs.set j (.long x)) = os')
    (hd : decode bytes pc = .ok (.lastore, 1)) (K : ∀ T', Here p l e R s m args below meth c Z F B h0 A y bytes mL ret T' k n os' → Go p e below G (T'.setTop (mkF m (pc + 1) ls (st)))) : Go p e below G (T.setTop (mkF m pc ls (.long x :: .int z :: .ref a :: st))) := by
  obtain ⟨H0, locs, X, hL, hI⟩ := W
  have O : Oat F Z T.heap a (.array .long) vs := hI.2.1.get hi
  obtain ⟨E, -, cl, Ar, S⟩ := id O
  have hin : ¬ (z < 0 ∨ cl.slots.size ≤ z.toNatClampNeg) := fun q => q.elim hz fun q => by rw [S] at q; simp at q; omega
  obtain ⟨T', h', X', e', Wr', stp⟩ := stJ X H0.1 H0.2.1 rfl Ar (j := z) hin (g := mkF m pc ls (.long x :: .int z :: .ref a :: st)) rfl rfl (hb H0.2.2.1 hd)
  subst hj
  refine (K T' ⟨H0, _, X', ⟨fun z hz => ?_, hL.2⟩, ?_⟩).by stp
  · rcases List.mem_append.mp hz with q | q
    · exact hL.1 z q
    · cases List.mem_singleton.mp q; exact (hI.mem hi).ge hL.2.1 hL.2.2
  · rw [e', ← ho]
    exact hI.set hi (Keep.of_wr Wr') (O.put Ar S rfl Wr')
theorem g_bastore {i : Nat} {a : Addr} {z : Int32} {x : Int32} {x' : Int32} (hx' : x.toInt8.toInt32 = x') {vs : List Value} {os' : List Ob} (j : Nat) (W : Here p l e R s m args below meth c Z F B h0 A y bytes mL ret T k n os) (hi : os[i]? = some (a, .array .byte, vs)) (hz : ¬ z < 0) (hj : z.toNatClampNeg = j) (hlt : j < vs.length) (ho : os.set i (a, .array .byte, vs.set j (.int x')) = os')
    (hd : decode bytes pc = .ok (.bastore, 1)) (K : ∀ T', Here p l e R s m args below meth c Z F B h0 A y bytes mL ret T' k n os' → Go p e below G (T'.setTop (mkF m (pc + 1) ls (st)))) : Go p e below G (T.setTop (mkF m pc ls (.int x :: .int z :: .ref a :: st))) := by
  obtain ⟨H0, locs, X, hL, hI⟩ := W
  have O : Oat F Z T.heap a (.array .byte) vs := hI.2.1.get hi
  obtain ⟨E, -, cl, Ar, S⟩ := id O
  have hin : ¬ (z < 0 ∨ cl.slots.size ≤ z.toNatClampNeg) := fun q => q.elim hz fun q => by rw [S] at q; simp at q; omega
  obtain ⟨T', h', X', e', Wr', stp⟩ := stB X H0.1 H0.2.1 rfl Ar (j := z) hin (g := mkF m pc ls (.int x :: .int z :: .ref a :: st)) rfl rfl (hb H0.2.2.1 hd)
  subst hj
  subst hx'
  refine (K T' ⟨H0, _, X', ⟨fun z hz => ?_, hL.2⟩, ?_⟩).by stp
  · rcases List.mem_append.mp hz with q | q
    · exact hL.1 z q
    · cases List.mem_singleton.mp q; exact (hI.mem hi).ge hL.2.1 hL.2.2
  · rw [e', ← ho]
    exact hI.set hi (Keep.of_wr Wr') (O.put Ar S (fits_nar_byte x) Wr')
theorem g_zastore {i : Nat} {a : Addr} {z : Int32} {x : Int32} {x' : Int32} (hx' : x &&& 1 = x') {vs : List Value} {os' : List Ob} (j : Nat) (W : Here p l e R s m args below meth c Z F B h0 A y bytes mL ret T k n os) (hi : os[i]? = some (a, .array .boolean, vs)) (hz : ¬ z < 0) (hj : z.toNatClampNeg = j) (hlt : j < vs.length) (ho : os.set i (a, .array .boolean, vs.set j (.int x')) = os')
    (hd : decode bytes pc = .ok (.bastore, 1)) (K : ∀ T', Here p l e R s m args below meth c Z F B h0 A y bytes mL ret T' k n os' → Go p e below G (T'.setTop (mkF m (pc + 1) ls (st)))) : Go p e below G (T.setTop (mkF m pc ls (.int x :: .int z :: .ref a :: st))) := by
  obtain ⟨H0, locs, X, hL, hI⟩ := W
  have O : Oat F Z T.heap a (.array .boolean) vs := hI.2.1.get hi
  obtain ⟨E, -, cl, Ar, S⟩ := id O
  have hin : ¬ (z < 0 ∨ cl.slots.size ≤ z.toNatClampNeg) := fun q => q.elim hz fun q => by rw [S] at q; simp at q; omega
  obtain ⟨T', h', X', e', Wr', stp⟩ := stZ X H0.1 H0.2.1 rfl Ar (j := z) hin (g := mkF m pc ls (.int x :: .int z :: .ref a :: st)) rfl rfl (hb H0.2.2.1 hd)
  subst hj
  subst hx'
  refine (K T' ⟨H0, _, X', ⟨fun z hz => ?_, hL.2⟩, ?_⟩).by stp
  · rcases List.mem_append.mp hz with q | q
    · exact hL.1 z q
    · cases List.mem_singleton.mp q; exact (hI.mem hi).ge hL.2.1 hL.2.2
  · rw [e', ← ho]
    exact hI.set hi (Keep.of_wr Wr') (O.put Ar S (fits_nar_bool x) Wr')
/-- os is loc and rst, in another order -/
def Spl (os loc rst : List Ob) : Prop := ∃ pm : List Nat, pm.Nodup ∧ (loc ++ rst).map some = pm.map (fun i => os[i]?)
theorem Spl.none : Spl os [] os := ⟨List.range os.length, List.nodup_range, by
  refine List.ext_getElem? fun i => ?_
  simp only [List.nil_append, List.getElem?_map]
  by_cases h : i < os.length
  · simp [h]
  · simp [h]⟩
theorem Spl.all : Spl os os [] := by obtain ⟨pm, h1, h2⟩ := Spl.none (os := os); exact ⟨pm, h1, by simpa using h2⟩
theorem Spl.mem {loc rst : List Ob} (S : Spl os loc rst) {o : Ob} (ho : o ∈ loc ++ rst) : o ∈ os := by
  obtain ⟨pm, -, h2⟩ := S
  have q : some o ∈ pm.map (fun i => os[i]?) := h2 ▸ List.mem_map.mpr ⟨o, ho, rfl⟩
  obtain ⟨i, -, hi⟩ := List.mem_map.mp q
  exact List.mem_of_getElem? hi
theorem Spl.nodup {loc rst : List Ob} (S : Spl os loc rst) (hn : (os.map (·.1)).Nodup) : ((loc ++ rst).map (·.1)).Nodup := by
  obtain ⟨pm, h1, h2⟩ := S
  generalize loc ++ rst = L at h2
  have key : ∀ i, (L[i]?).map some = (pm[i]?).map (fun j => os[j]?) := fun i => by rw [← List.getElem?_map, h2, List.getElem?_map]
  have key2 : ∀ i o, L[i]? = some o → ∃ j, pm[i]? = some j ∧ os[j]? = some o := fun i o ho => by
    have q := key i
    rw [ho] at q
    cases hp : pm[i]? with
    | none => simp [hp] at q
    | some j => simp [hp] at q; exact ⟨j, hp, q.symm⟩
  rw [List.nodup_iff_pairwise_ne, List.pairwise_iff_getElem]
  intro i j hi hj hij e
  simp only [List.length_map] at hi hj
  obtain ⟨oj, hoj⟩ : ∃ o, L[j]? = some o := ⟨L[j], List.getElem?_eq_getElem hj⟩
  obtain ⟨oi, hoi⟩ : ∃ o, L[i]? = some o := ⟨L[i], List.getElem?_eq_getElem hi⟩
  have e : oi.1 = oj.1 := by
    simp only [List.getElem_map] at e
    rw [List.getElem?_eq_getElem hi] at hoi
    rw [List.getElem?_eq_getElem hj] at hoj
    rw [← Option.some.inj hoi, ← Option.some.inj hoj]; exact e
  obtain ⟨i', p1, q1⟩ := key2 i oi hoi
  obtain ⟨j', p2, q2⟩ := key2 j oj hoj
  have e2 := nodup_at hn (i := i') (j := j') (a := oi.1) (by rw [List.getElem?_map, q1]; rfl) (by rw [List.getElem?_map, q2, e]; rfl)
  subst e2
  obtain ⟨u1, u2⟩ := List.getElem?_eq_some_iff.mp p1
  obtain ⟨u3, u4⟩ := List.getElem?_eq_some_iff.mp p2
  exact absurd ((List.getElem_inj h1).mp (u2.trans u4.symm)) (Nat.ne_of_lt hij)
theorem Spl.loc {loc rst : List Ob} {h : Heap} (S : Spl os loc rst) (H : Hp F Z h os) : Hp F Z h loc :=
  ⟨by have q := S.nodup H.1; rw [List.map_append] at q; exact (List.nodup_append.mp q).1, fun o ho => H.2 o (S.mem (List.mem_append_left _ ho))⟩
theorem Spl.after {loc rst os' : List Ob} {h h' : Heap} (S : Spl os loc rst) (I : Hin F Z h0 A h os) (I' : Hin F Z h (loc.map (·.1)) h' os') : Hin F Z h0 A h' (os' ++ rst) := by
  have nd := S.nodup I.2.1.1
  rw [List.map_append] at nd
  obtain ⟨n1, n2, n3⟩ := List.nodup_append.mp nd
  have hloc : ∀ x ∈ loc.map (·.1), Okk A h0.size x := fun x hx => by
    obtain ⟨o, ho, rfl⟩ := List.mem_map.mp hx
    exact I.2.2 o (S.mem (List.mem_append_left _ ho))
  refine ⟨I.1.trans I'.1 hloc, ⟨?_, fun o ho => ?_⟩, fun o ho => ?_⟩
  · rw [List.map_append, List.nodup_append]
    refine ⟨I'.2.1.1, n2, fun a ha b hb e => ?_⟩
    subst e
    obtain ⟨o, ho, rfl⟩ := List.mem_map.mp ha
    rcases I'.2.2 o ho with q | q
    · exact n3 _ q _ hb rfl
    · obtain ⟨o2, ho2, e2⟩ := List.mem_map.mp hb
      have := (I.2.1.2 o2 (S.mem (List.mem_append_right _ ho2))).lt
      rw [e2] at this
      exact absurd this (Nat.not_lt.mpr q)
  · rcases List.mem_append.mp ho with q | q
    · exact I'.2.1.2 o q
    · exact (I.2.1.2 o (S.mem (List.mem_append_right _ q))).keep I'.1 (fun z => n3 _ z _ (List.mem_map.mpr ⟨o, q, rfl⟩) rfl)
  · rcases List.mem_append.mp ho with q | q
    · rcases I'.2.2 o q with z | z
      · exact hloc _ z
      · exact Or.inr (Nat.le_trans I.1.1 z)
    · exact I.2.2 o (S.mem (List.mem_append_right _ q))
theorem Spl.locs {locs L : List Loc} (hL : (∀ y ∈ locs, B ≤ y.base) ∧ (∀ a ∈ A, B ≤ a) ∧ B ≤ h0.size) (hL' : ∀ y ∈ L, B ≤ y.base) : (∀ y ∈ locs ++ L, B ≤ y.base) ∧ (∀ a ∈ A, B ≤ a) ∧ B ≤ h0.size :=
  ⟨fun y hy => (List.mem_append.mp hy).elim (hL.1 y) (hL' y), hL.2⟩
theorem Spl.ge {loc rst : List Ob} {h : Heap} {locs : List Loc} (S : Spl os loc rst) (I : Hin F Z h0 A h os) (hL : (∀ y ∈ locs, B ≤ y.base) ∧ (∀ a ∈ A, B ≤ a) ∧ B ≤ h0.size) : ∀ a ∈ loc.map (·.1), B ≤ a := fun a ha => by
  obtain ⟨o, ho, e⟩ := List.mem_map.mp ha
  rw [← e]; exact (I.2.2 o (S.mem (List.mem_append_left _ ho))).ge hL.2.1 hL.2.2
theorem g_static {index Wt : Nat} {y' : MethodName} {bytes' : ByteArray} {mL' : Nat} {ret' : Option FieldType} {rm : Room} {as : Array Value} {loc rst : List Ob} {P : Option Value → List Ob → Prop} {argsL rest : List Value} {ps : List FieldType} {r : Option FieldType} (W : Here p l e R s m args below meth c Z F B h0 A y bytes mL ret T k n os) (w1 : (Jvm.Cond.methodLink y.cls index y').before a0 Z = true) (w2 : (Jvm.Cond.static y').before a0 Z = true) (w3 : (Jvm.Cond.initialized y'.cls).before a0 Z = true) (w4 : (Jvm.Cond.code y' bytes' mL' ret').before a0 Z = true)
    (hy : y'.cls ≠ "java/lang/invoke/MethodHandle" ∧ y'.cls ≠ "java/lang/invoke/VarHandle") (C : Con l Z F B y' bytes' mL' ret' rm [] as loc P) (S : Spl os loc rst) (has : as = argsL.toArray) (hpd : parseMethodDescriptor y'.desc = some ⟨ps, r⟩) (hpl : argsL.length = ps.length)
    (hst : st = argsL.reverse ++ rest) (hsz : ls.size = mL) (hW : (rest.map fun v => v.category).sum ≤ Wt) (hfr : rm.frames + 1 ≤ R.frames) (hlo : Wt + (mL' + 11) + rm.locals ≤ R.locals) (hc : k + rm.cells ≤ R.cells) (hs : n + rm.slots ≤ R.slots) (hd : decode bytes pc = .ok (.invokestatic index, 3)) (K : ∀ T' v os', P v os' → Here p l e R s m args below meth c Z F B h0 A y bytes mL ret T' (k + rm.cells) (n + rm.slots) (os' ++ rst) → Go p e below G (T'.setTop (mkF m (pc + 3) ls (v.toList ++ rest)))) : Go p e below G (T.setTop (mkF m pc ls st)) := by
  obtain ⟨H0, locs, X, hL, hI⟩ := W
  subst has hst
  obtain ⟨v, _, ⟨T', L', k', n'⟩, -, X', ⟨Lc, hQ, l1, y1, z1⟩, stp⟩ := Jvm.LawKit.callS X H0.1 (y := y') H0.2.2.2.2.1 (mvT H0.2.1 w1) (mvT H0.2.1 w2) (mvT H0.2.1 w3) (mvT H0.2.1 w4) hy (backOf (W := Wt) (C T.heap (S.loc hI.2.1) (S.ge hI hL) (Nat.le_trans hL.2.2 hI.1.1)) H0.2.1 w4 w3 hfr hlo) (g := mkF m pc ls (argsL.reverse ++ rest)) rfl (hsz.trans H0.2.2.2.1.symm) (argsL := argsL) (rest := rest) (lenOf hpd hpl) rfl (by show 2 * 0 + _ ≤ _; omega) (hb H0.2.2.1 hd) (fun _ _ => ⟨rfl, rfl, hc, hs⟩)
  dsimp only [Pt.U, Pt.locs, Pt.cells, Pt.slots] at X' l1 y1 z1 stp hQ
  subst l1 y1 z1
  obtain ⟨hLc, os', hI', hp⟩ := hQ
  exact (K T' v os' hp ⟨H0, _, X', Spl.locs hL hLc, S.after hI hI'⟩).by stp
theorem Go.to {S S' : State} (h : Steps p.tables e below S S') (g : Go p e below G S') : Go p e below G S := by
  obtain ⟨t, h', g⟩ := g; exact ⟨t, h.trans h', g⟩
theorem g_init {index Wt : Nat} {y' : MethodName} {bytes' : ByteArray} {mL' : Nat} {rm : Room} {as : Array Value} {loc rst : List Ob} {P : Option Value → List Ob → Prop} {argsL rest : List Value} {ps : List FieldType} {r : Option FieldType} {a : Addr} (W : Here p l e R s m args below meth c Z F B h0 A y bytes mL ret T k n os) (hy1 : y'.name = "<init>") (w1 : (Jvm.Cond.methodLink y.cls index y').before a0 Z = true) (w2 : (Jvm.Cond.instanceMethod y').before a0 Z = true) (w3 : (Jvm.Cond.initialized y'.cls).before a0 Z = true) (w4 : (Jvm.Cond.code y' bytes' mL' none).before a0 Z = true)
    (hy : y'.cls ≠ "java/lang/invoke/MethodHandle" ∧ y'.cls ≠ "java/lang/invoke/VarHandle") (C : Con l Z F B y' bytes' mL' none rm [] as loc P) (S : Spl os loc rst) (has : as = (.ref a :: argsL).toArray) (hpd : parseMethodDescriptor y'.desc = some ⟨ps, r⟩) (hpl : argsL.length = ps.length)
    (hst : st = argsL.reverse ++ .ref a :: rest) (hsz : ls.size = mL) (hW : (rest.map fun v => v.category).sum ≤ Wt) (hfr : rm.frames + 1 ≤ R.frames) (hlo : Wt + (mL' + 11) + rm.locals ≤ R.locals) (hc : k + rm.cells ≤ R.cells) (hs : n + rm.slots ≤ R.slots) (hd : decode bytes pc = .ok (.invokespecial index, 3)) (K : ∀ T' v os', P v os' → Here p l e R s m args below meth c Z F B h0 A y bytes mL ret T' (k + rm.cells) (n + rm.slots) (os' ++ rst) → Go p e below G (T'.setTop (mkF m (pc + 3) ls (v.toList ++ rest)))) : Go p e below G (T.setTop (mkF m pc ls st)) := by
  obtain ⟨H0, locs, X, hL, hI⟩ := W
  subst has hst
  obtain ⟨v, _, ⟨T', L', k', n'⟩, -, X', ⟨Lc, hQ, l1, y1, z1⟩, stp⟩ := X.specialBack H0.1 (y := y') hy1 H0.2.2.2.2.1 (mvT H0.2.1 w1) (mvT H0.2.1 w2) (mvT H0.2.1 w4) hy (backOf (W := Wt) (C T.heap (S.loc hI.2.1) (S.ge hI hL) (Nat.le_trans hL.2.2 hI.1.1)) H0.2.1 w4 w3 hfr hlo) (g := mkF m pc ls (argsL.reverse ++ .ref a :: rest)) rfl (hsz.trans H0.2.2.2.1.symm) (Steps.refl _) (a := a) (argsL := argsL) (rest := rest) (lenOf hpd hpl) rfl (by show 2 * 0 + _ ≤ _; omega) (hb H0.2.2.1 hd) (fun _ _ => ⟨rfl, rfl, hc, hs⟩)
  dsimp only [Pt.U, Pt.locs, Pt.cells, Pt.slots] at X' l1 y1 z1 stp hQ
  subst l1 y1 z1
  obtain ⟨hLc, os', hI', hp⟩ := hQ
  exact (K T' v os' hp ⟨H0, _, X', Spl.locs hL hLc, S.after hI hI'⟩).to stp
theorem g_virtual {index Wt : Nat} {y' : MethodName} {bytes' : ByteArray} {mL' : Nat} {ret' : Option FieldType} {rm : Room} {as : Array Value} {loc rst : List Ob} {P : Option Value → List Ob → Prop} {argsL rest : List Value} {ps : List FieldType} {r : Option FieldType} {a : Addr} {i : Nat} {vs : List Value} (W : Here p l e R s m args below meth c Z F B h0 A y bytes mL ret T k n os) (w1 : (Jvm.Cond.methodLink y.cls index y').before a0 Z = true) (w2 : (Jvm.Cond.instanceMethod y').before a0 Z = true) (w3 : (Jvm.Cond.initialized y'.cls).before a0 Z = true) (w4 : (Jvm.Cond.code y' bytes' mL' ret').before a0 Z = true)
    (w5 : (Jvm.Cond.declares y').before a0 Z = true) (w6 : (Jvm.Cond.selects y'.cls y' y').before a0 Z = true) (hi : os[i]? = some (a, .object y'.cls, vs))
    (hy : y'.cls ≠ "java/lang/invoke/MethodHandle" ∧ y'.cls ≠ "java/lang/invoke/VarHandle") (C : Con l Z F B y' bytes' mL' ret' rm [] as loc P) (S : Spl os loc rst) (has : as = (.ref a :: argsL).toArray) (hpd : parseMethodDescriptor y'.desc = some ⟨ps, r⟩) (hpl : argsL.length = ps.length)
    (hst : st = argsL.reverse ++ .ref a :: rest) (hsz : ls.size = mL) (hW : (rest.map fun v => v.category).sum ≤ Wt) (hfr : rm.frames + 1 ≤ R.frames) (hlo : Wt + (mL' + 11) + rm.locals ≤ R.locals) (hc : k + rm.cells ≤ R.cells) (hs : n + rm.slots ≤ R.slots) (hd : decode bytes pc = .ok (.invokevirtual index, 3)) (K : ∀ T' v os', P v os' → Here p l e R s m args below meth c Z F B h0 A y bytes mL ret T' (k + rm.cells) (n + rm.slots) (os' ++ rst) → Go p e below G (T'.setTop (mkF m (pc + 3) ls (v.toList ++ rest)))) : Go p e below G (T.setTop (mkF m pc ls st)) := by
  obtain ⟨H0, locs, X, hL, hI⟩ := W
  subst has hst
  have O : Oat F Z T.heap a (.object y'.cls) vs := hI.2.1.get hi
  obtain ⟨cq, kq, qa, qb, qc⟩ := isOf H0.2.1 rfl O.1
  obtain ⟨v, _, ⟨T', L', k', n'⟩, -, X', ⟨Lc, hQ, l1, y1, z1⟩, stp⟩ := X.virtualBack H0.1 (y := y') (z := y') H0.2.2.2.2.1 (mvT H0.2.1 w1) (mvT H0.2.1 w5) (notFace_of_selects (args := #[]) (mvT H0.2.1 w6)) (mvT H0.2.1 w6) (mvT H0.2.1 w2) hy (backOf (W := Wt) (C T.heap (S.loc hI.2.1) (S.ge hI hL) (Nat.le_trans hL.2.2 hI.1.1)) H0.2.1 w4 w3 hfr hlo) qa qc (g := mkF m pc ls (argsL.reverse ++ .ref a :: rest)) rfl (hsz.trans H0.2.2.2.1.symm) (Steps.refl _) (argsL := argsL) (rest := rest) (lenOf hpd hpl) rfl (by show 2 * 0 + _ ≤ _; omega) (hb H0.2.2.1 hd) (fun _ _ => ⟨rfl, rfl, hc, hs⟩)
  dsimp only [Pt.U, Pt.locs, Pt.cells, Pt.slots] at X' l1 y1 z1 stp hQ
  subst l1 y1 z1
  obtain ⟨hLc, os', hI', hp⟩ := hQ
  exact (K T' v os' hp ⟨H0, _, X', Spl.locs hL hLc, S.after hI hI'⟩).to stp
theorem g_object {index : Nat} {a : Addr} (Wt : Nat) (W : Here p l e R s m args below meth c Z F B h0 A y bytes mL ret T k n os) (w1 : (Jvm.Cond.methodLink y.cls index Lib.objectInit).before a0 Z = true) (w2 : (Jvm.Cond.instanceMethod Lib.objectInit).before a0 Z = true) (w3 : (Jvm.Cond.code Lib.objectInit ⟨#[0xb1]⟩ 1 none).before a0 Z = true)
    (hsz : ls.size = mL) (hW : (st.map fun v => v.category).sum ≤ Wt) (hfr : 1 ≤ R.frames) (hlo : Wt + 12 ≤ R.locals) (hd : decode bytes pc = .ok (.invokespecial index, 3)) (K : ∀ T', Here p l e R s m args below meth c Z F B h0 A y bytes mL ret T' k n os → Go p e below G (T'.setTop (mkF m (pc + 3) ls (st)))) : Go p e below G (T.setTop (mkF m pc ls (.ref a :: st))) := by
  obtain ⟨H0, locs, X, hL, hI⟩ := W
  obtain ⟨T', X', e', stp⟩ := initO X H0.1 H0.2.1 H0.2.2.2.2.1 w1 w2 w3 rfl (g := mkF m pc ls (.ref a :: st)) rfl (hsz.trans H0.2.2.2.1.symm) rfl (hb H0.2.2.1 hd) hfr (W := Wt) (by show 2 * 0 + _ ≤ _; omega) hlo
  exact (K T' ⟨H0, locs, X', hL, by rw [e']; exact hI⟩).by stp
theorem g_clone {index i Wt : Nat} {a : Addr} {ty : FieldType} {vs : List Value} {ad : String} (cap : Nat) (W : Here p l e R s m args below meth c Z F B h0 A y bytes mL ret T k n os) (w1 : (Jvm.Cond.methodLink y.cls index ⟨ad, "clone", "()Ljava/lang/Object;"⟩).before a0 Z = true) (w2 : (Jvm.Cond.sameMethod ad "java/lang/Object" "clone" "()Ljava/lang/Object;").before a0 Z = true) (w3 : (Jvm.Cond.native ⟨"java/lang/Object", "clone", "()Ljava/lang/Object;"⟩).before a0 Z = true)
    (w4 : (Jvm.Cond.instanceMethod ⟨"java/lang/Object", "clone", "()Ljava/lang/Object;"⟩).before a0 Z = true) (w5 : (Jvm.Cond.selects ad ⟨ad, "clone", "()Ljava/lang/Object;"⟩ ⟨"java/lang/Object", "clone", "()Ljava/lang/Object;"⟩).before a0 Z = true) (w6 : (Jvm.Cond.castable ad "java/lang/Cloneable").before a0 Z = true)
    (had : "[" ++ ty.toString = ad) (hi : os[i]? = some (a, .array ty, vs)) (hsz : ls.size = mL) (hW : (st.map fun v => v.category).sum ≤ Wt) (hfr : 1 ≤ R.frames) (hlo : Wt + 14 ≤ R.locals) (hcap : vs.length ≤ cap) (hc : k + 1 ≤ R.cells) (hs : n + cap ≤ R.slots) (hd : decode bytes pc = .ok (.invokevirtual index, 3))
    (K : ∀ T' b, Here p l e R s m args below meth c Z F B h0 A y bytes mL ret T' (k + 1) (n + cap) (os ++ [(b, .array ty, vs)]) → Go p e below G (T'.setTop (mkF m (pc + 3) ls (.ref b :: st)))) : Go p e below G (T.setTop (mkF m pc ls (.ref a :: st))) := by
  obtain ⟨H0, locs, X, hL, hI⟩ := W
  subst had
  have O : Oat F Z T.heap a (.array ty) vs := hI.2.1.get hi
  obtain ⟨E, f, cl, Ar, S⟩ := O
  have FC : FitC Z cl := fitC_of Ar fun i hi v hv => f v (by rw [S] at hv; exact List.mem_of_getElem? (by simpa using hv))
  obtain ⟨T', h', X', e', E', A', Ex, stp⟩ := cloneA X H0.1 H0.2.1 H0.2.2.2.2.1 w1 w2 w3 w4 w5 w6 rfl Ar E FC (g := mkF m pc ls (.ref a :: st)) rfl (hsz.trans H0.2.2.2.1.symm) rfl (hb H0.2.2.1 hd) hfr (W := Wt) (cap := cap) (by show 2 * 0 + _ ≤ _; omega) hlo (by rw [S]; simpa using hcap) hc hs
  refine (K T' T.heap.size ⟨H0, locs, X', hL, ?_⟩).by stp
  rw [e']
  exact hI.push E' ⟨Ex, f, _, A', S⟩
theorem g_castarr {index i : Nat} {a : Addr} {ty : FieldType} {vs : List Value} {ad : String} (W : Here p l e R s m args below meth c Z F B h0 A y bytes mL ret T k n os) (w : (Jvm.Cond.classLink y.cls index ad).before a0 Z = true) (had : "[" ++ ty.toString = ad) (hi : os[i]? = some (a, .array ty, vs)) (hd : decode bytes pc = .ok (.checkcast index, 3)) (K : ∀ T', Here p l e R s m args below meth c Z F B h0 A y bytes mL ret T' k n os → Go p e below G (T'.setTop (mkF m (pc + 3) ls (.ref a :: st)))) : Go p e below G (T.setTop (mkF m pc ls (.ref a :: st))) := by
  obtain ⟨H0, locs, X, hL, hI⟩ := W
  subst had
  have O : Oat F Z T.heap a (.array ty) vs := hI.2.1.get hi
  obtain ⟨T', X', e', stp⟩ := castY X H0.1 H0.2.1 H0.2.2.2.2.1 w rfl (Ins.self O.1) (g := mkF m pc ls (.ref a :: st)) rfl rfl (hb H0.2.2.1 hd)
  exact (K T' ⟨H0, locs, X', hL, by rw [e']; exact hI⟩).by stp
theorem Oat.arv {h : Heap} {a : Addr} {ty : FieldType} {vs : List Value} (O : Oat F Z h a (.array ty) vs) (hl : vs.length < 2 ^ 31) (d : Value) : ∃ kk, Arv Z h a kk ty vs.length.toInt32 vs d := by
  obtain ⟨E, f, cl, Ar, S⟩ := O
  have e1 : vs.length.toInt32.toInt = vs.length := len_toInt hl
  have e2 : vs.length.toInt32.toNatClampNeg = vs.length := by simp only [Int32.toNatClampNeg, e1]; omega
  have sz : cl.slots.size = vs.length := by rw [S]; simp
  have gd : ∀ i, i < vs.length → vs.getD i d = vs.getD i d ∧ vs[i]? = some (vs.getD i d) := fun i hi => ⟨rfl, by simp [List.getD_eq_getElem?_getD, List.getElem?_eq_getElem hi]⟩
  refine ⟨cl.cls, cl, Ar, rfl, by rw [e2, sz], by rw [Int32.lt_iff_toInt_lt, e1]; simp only [Int32.reduceToInt]; omega, fun i hi => ?_, fun i hi => ?_⟩
  · rw [S]; simpa using (gd i (sz ▸ hi)).2
  · exact f _ (List.mem_of_getElem? (gd i (sz ▸ hi)).2)
theorem Oat.of_arv {h h' : Heap} {a : Addr} {ty : FieldType} {vs vs' : List Value} {kk : ClassId} {z : Int32} {d : Value} (O : Oat F Z h a (.array ty) vs) {ws : List Addr} (K : Keep h h' ws) (V : Arv Z h' a kk ty z vs' d) (hz : z.toNatClampNeg = vs'.length) : Oat F Z h' a (.array ty) vs' := by
  obtain ⟨E, f, -⟩ := O
  obtain ⟨cl, Ar, -, S, -, H, G⟩ := V
  have key : ∀ i, i < vs'.length → vs'[i]? = some (vs'.getD i d) := fun i hi => by simp [List.getD_eq_getElem?_getD, List.getElem?_eq_getElem hi]
  refine ⟨E.keep K, fun v hv => ?_, cl, Ar, ?_⟩
  · obtain ⟨i, hi⟩ := List.mem_iff_getElem?.mp hv
    have hlt := (List.getElem?_eq_some_iff.mp hi).1
    have q := G i (by rw [S, hz]; exact hlt)
    rw [key i hlt] at hi
    rw [← Option.some.inj hi]; exact q
  · refine Array.ext_getElem? fun i => ?_
    by_cases hi : i < vs'.length
    · rw [H i (by rw [S, hz]; exact hi)]; simpa using (key i hi).symm
    · rw [Array.getElem?_eq_none (by rw [S, hz]; omega), Array.getElem?_eq_none (by simpa using hi)]
theorem g_arraycopy {index i j Wt : Nat} {a b : Addr} {ty : FieldType} {vs vd vd' : List Value} {sp dp nn : Int32} {os' : List Ob} (W : Here p l e R s m args below meth c Z F B h0 A y bytes mL ret T k n os) (w1 : (Jvm.Cond.methodLink y.cls index Jvm.Stand.acN).before a0 Z = true) (w2 : (Jvm.Cond.native Jvm.Stand.acN).before a0 Z = true) (w3 : (Jvm.Cond.static Jvm.Stand.acN).before a0 Z = true) (w4 : (Jvm.Cond.initialized "java/lang/System").before a0 Z = true)
    (hi : os[i]? = some (a, .array ty, vs)) (hj : os[j]? = some (b, .array ty, vd)) (hr : refKind ty = false) (h1 : ¬ sp < 0) (h2 : ¬ dp < 0) (h3 : ¬ nn < 0) (l1 : vs.length < 2 ^ 31) (l2 : vd.length < 2 ^ 31) (h4 : sp.toNatClampNeg + nn.toNatClampNeg ≤ vs.length) (h5 : dp.toNatClampNeg + nn.toNatClampNeg ≤ vd.length)
    (hv : vd.take dp.toNatClampNeg ++ ((List.range nn.toNatClampNeg).map fun i => vs.getD (sp.toNatClampNeg + i) .null) ++ vd.drop (dp.toNatClampNeg + nn.toNatClampNeg) = vd') (ho : os.set j (b, .array ty, vd') = os')
    (hsz : ls.size = mL) (hW : (st.map fun v => v.category).sum ≤ Wt) (hfr : 1 ≤ R.frames) (hlo : Wt + (nativeFrameWords "java/lang/System" "arraycopy" 5 + 11) ≤ R.locals) (hd : decode bytes pc = .ok (.invokestatic index, 3)) (K : ∀ T', Here p l e R s m args below meth c Z F B h0 A y bytes mL ret T' k n os' → Go p e below G (T'.setTop (mkF m (pc + 3) ls (st)))) : Go p e below G (T.setTop (mkF m pc ls (.int nn :: .int dp :: .ref b :: .int sp :: .ref a :: st))) := by
  obtain ⟨H0, locs, X, hL, hI⟩ := W
  have Oa : Oat F Z T.heap a (.array ty) vs := hI.2.1.get hi
  have Ob' : Oat F Z T.heap b (.array ty) vd := hI.2.1.get hj
  obtain ⟨ka, Va⟩ := Oa.arv l1 .null
  obtain ⟨kb, Vb⟩ := Ob'.arv l2 .null
  have ez : ∀ (L : List Value), L.length < 2 ^ 31 → L.length.toInt32.toNatClampNeg = L.length := fun L hl => by
    have e1 : L.length.toInt32.toInt = L.length := len_toInt hl
    simp only [Int32.toNatClampNeg, e1]; omega
  obtain ⟨T', h', L', X', e', N', Kp, V', stp⟩ := cpA X H0.1 H0.2.1 H0.2.2.2.2.1 w1 w2 w3 w4 rfl Va Vb (Or.inl ⟨rfl, hr⟩) h1 h2 h3 (by rw [ez _ l1]; exact h4) (by rw [ez _ l2]; exact h5) rfl h5 (n0 := B) hL.1 ((hI.mem hj).ge hL.2.1 hL.2.2) (g := mkF m pc ls (.int nn :: .int dp :: .ref b :: .int sp :: .ref a :: st)) rfl (hsz.trans H0.2.2.2.1.symm) rfl (hb H0.2.2.1 hd) hfr (W := Wt) (by show 2 * 0 + _ ≤ _; omega) hlo
  refine (K T' ⟨H0, L', X', ⟨N', hL.2⟩, ?_⟩).by stp
  rw [e', ← ho]
  rw [hv] at V'
  refine hI.set hj Kp (Ob'.of_arv Kp V' ?_)
  rw [ez _ l2, ← hv]
  simp only [List.length_append, List.length_take, List.length_map, List.length_range, List.length_drop]
  omega
/-- the end: what a law's own contract gives -/
theorem Con.frame {y : MethodName} {as : Array Value} {P : Option Value → List Ob → Prop} {rm : Room} {h : Heap} {v : Option Value} {hh : Heap} {L : List Loc} (Q : Qc F Z B [] h P v hh L) : ∀ y ∈ L, B ≤ y.base := Q.1
end Own
def FM : Fm := fun c => if c = "com/example/attestry/attestry/home/ByteCursor" then [("bytes", "[B"), ("at", "I")] else []
theorem cls_ByteCursor {Z : State} {a0 : Array Value} (hw : ∀ d ∈ tables_1, d.before a0 Z = true) : Cls Z a0 FM "com/example/attestry/attestry/home/ByteCursor" := by
  have e : FM "com/example/attestry/attestry/home/ByteCursor" = [("bytes", "[B"), ("at", "I")] := by decide
  refine ⟨fun x hx => ?_, by rw [e]; decide⟩
  rw [e] at hx
  simp only [List.mem_cons, List.not_mem_nil, or_false] at hx
  rcases hx with rfl | rfl
  · exact ⟨Or.inr (hw _ (List.mem_of_getElem? (i := 22) rfl)), (.array .byte), by decide⟩
  · exact ⟨Or.inl (hw _ (List.mem_of_getElem? (i := 24) rfl)), .int, by decide⟩
theorem pd___I : parseMethodDescriptor "()I" = some ⟨[], some .int⟩ := by decide +kernel
theorem pd___V : parseMethodDescriptor "()V" = some ⟨[], none⟩ := by decide +kernel
theorem pd_I__I : parseMethodDescriptor "(I)I" = some ⟨[.int], some .int⟩ := by decide +kernel
theorem pd_IIII__Z : parseMethodDescriptor "(IIII)Z" = some ⟨[.int, .int, .int, .int], some .boolean⟩ := by decide +kernel
theorem pd_IABI__I : parseMethodDescriptor "(I[BI)I" = some ⟨[.int, (.array .byte), .int], some .int⟩ := by decide +kernel
theorem pd_ABI__V : parseMethodDescriptor "([BI)V" = some ⟨[(.array .byte), .int], none⟩ := by decide +kernel
theorem pd_ABIIIIB__Z : parseMethodDescriptor "([BIIIIB)Z" = some ⟨[(.array .byte), .int, .int, .int, .int, .byte], some .boolean⟩ := by decide +kernel
theorem d_init_0 : decode prog_1_method_1_code 0 = .ok (.aload_n 0, 1) := by decide +kernel
theorem d_init_1 : decode prog_1_method_1_code 1 = .ok (.invokespecial 1, 3) := by decide +kernel
theorem d_init_4 : decode prog_1_method_1_code 4 = .ok (.aload_n 0, 1) := by decide +kernel
theorem d_init_5 : decode prog_1_method_1_code 5 = .ok (.aload_n 1, 1) := by decide +kernel
theorem d_init_6 : decode prog_1_method_1_code 6 = .ok (.putfield 7, 3) := by decide +kernel
theorem d_init_9 : decode prog_1_method_1_code 9 = .ok (.aload_n 0, 1) := by decide +kernel
theorem d_init_10 : decode prog_1_method_1_code 10 = .ok (.iload_n 2, 1) := by decide +kernel
theorem d_init_11 : decode prog_1_method_1_code 11 = .ok (.putfield 13, 3) := by decide +kernel
theorem d_init_14 : decode prog_1_method_1_code 14 = .ok (.return_, 1) := by decide +kernel
set_option maxRecDepth 65536 in
set_option maxHeartbeats 40000000 in
theorem c_init (l : Launch) (Z : State) (a0 : Array Value) (hw : ∀ d ∈ tables_1, d.before a0 Z = true) {B : Nat} (a b : Addr) (k : Int32) :
    Con l Z FM B (⟨"com/example/attestry/attestry/home/ByteCursor", "<init>", "([BI)V"⟩ : MethodName) prog_1_method_1_code 3 none ({ frames := 1, cells := 0, slots := 0, locals := 12 } : Room) [] #[.ref a, .ref b, .int k] [(a, (.object "com/example/attestry/attestry/home/ByteCursor"), [.null, .int (0 : Int32)])] (fun v os => v = none ∧ os = [(a, (.object "com/example/attestry/attestry/home/ByteCursor"), [.ref b, .int k])]) := by
  refine Con.of (plainFor_of_name (by first | (simp [plainName, overriddenIn]; done) | decide +kernel)) (ls := #[.val (.ref a), .val (.ref b), .val (.int k)]) (fun m => by first | (simp [entryFrame, mkF, argsToLocals, Value.category]; done) | rfl) ?_
  intro p_ e_ h_ s_ m_ bl_ me_ c_ T0 W0
  refine g_aload_n (pc := 0) W0 d_init_0 rfl rfl ?_
  refine g_object (pc := 1) 0 W0 (hw _ (List.mem_of_getElem? (i := 18) rfl)) (hw _ (List.mem_of_getElem? (i := 19) rfl)) (hw _ (List.mem_of_getElem? (i := 20) rfl)) rfl (Nat.le_of_ble_eq_true rfl) (by decide) (by decide) d_init_1 (fun T1 W2 => ?_)
  refine g_aload_n (pc := 4) W2 d_init_4 rfl rfl ?_
  refine g_aload_n (pc := 5) W2 d_init_5 rfl rfl ?_
  refine g_putfield (pc := 6) (i := 0) (j := 0) (ty := (.array .byte)) (os' := [(a, (.object "com/example/attestry/attestry/home/ByteCursor"), [.ref b, .int (0 : Int32)])]) (host := "") W2 (Or.inl (hw _ (List.mem_of_getElem? (i := 21) rfl))) (cls_ByteCursor hw) (Or.inr ⟨(hw _ (List.mem_of_getElem? (i := 22) rfl)), rfl, rfl⟩) (hw _ (List.mem_of_getElem? (i := 14) rfl)) rfl rfl rfl (by decide) rfl rfl rfl d_init_6 (fun T3 W4 => ?_)
  refine g_aload_n (pc := 9) W4 d_init_9 rfl rfl ?_
  refine g_iload_n (pc := 10) W4 d_init_10 rfl ?_
  refine g_putfield (pc := 11) (i := 0) (j := 1) (ty := .int) (os' := [(a, (.object "com/example/attestry/attestry/home/ByteCursor"), [.ref b, .int k])]) (host := "") W4 (Or.inl (hw _ (List.mem_of_getElem? (i := 23) rfl))) (cls_ByteCursor hw) (Or.inl (hw _ (List.mem_of_getElem? (i := 24) rfl))) (hw _ (List.mem_of_getElem? (i := 14) rfl)) rfl rfl rfl (by decide) rfl rfl rfl d_init_11 (fun T5 W6 => ?_)
  exact g_return (pc := 14) rfl W6 d_init_14 (by decide) (by decide) ⟨rfl, rfl⟩
theorem d_at_0 : decode prog_1_method_3_code 0 = .ok (.aload_n 0, 1) := by decide +kernel
theorem d_at_1 : decode prog_1_method_3_code 1 = .ok (.getfield 13, 3) := by decide +kernel
theorem d_at_4 : decode prog_1_method_3_code 4 = .ok (.ireturn, 1) := by decide +kernel
set_option maxRecDepth 65536 in
set_option maxHeartbeats 40000000 in
theorem c_at (l : Launch) (Z : State) (a0 : Array Value) (hw : ∀ d ∈ tables_1, d.before a0 Z = true) {B : Nat} (a b : Addr) (k : Int32) :
    Con l Z FM B (⟨"com/example/attestry/attestry/home/ByteCursor", "at", "()I"⟩ : MethodName) prog_1_method_3_code 1 (some .int) ({ frames := 0, cells := 0, slots := 0, locals := 0 } : Room) [] #[.ref a] [(a, (.object "com/example/attestry/attestry/home/ByteCursor"), [.ref b, .int k])] (fun v os => v = some (.int k) ∧ os = [(a, (.object "com/example/attestry/attestry/home/ByteCursor"), [.ref b, .int k])]) := by
  refine Con.of (plainFor_of_name (by first | (simp [plainName, overriddenIn]; done) | decide +kernel)) (ls := #[.val (.ref a)]) (fun m => by first | (simp [entryFrame, mkF, argsToLocals, Value.category]; done) | rfl) ?_
  intro p_ e_ h_ s_ m_ bl_ me_ c_ T0 W0
  refine g_aload_n (pc := 0) W0 d_at_0 rfl rfl ?_
  refine g_getfield (pc := 1) (i := 0) (j := 1) (host := "") W0 (Or.inl (hw _ (List.mem_of_getElem? (i := 23) rfl))) rfl rfl rfl d_at_1 (fun T1 W2 => ?_)
  exact g_ireturn (pc := 4) rfl W2 d_at_4 (by decide) (by decide) ⟨rfl, rfl⟩
def elen (v : Int32) : Int32 := if v < 128 then 1 else if v < 16384 then 2 else if v < 2097152 then 3 else if v < 268435456 then 4 else 5
def okb (v k n : Int32) : Int32 := if k < n - 1 then ((XT.ushr v (7 * k) &&& 127) ||| 128).toInt8.toInt32 else (XT.ushr v (7 * k) &&& 127).toInt8.toInt32
theorem own_is {x y : Int32} {k : Int} (h : x.toInt = k) (e : y.toInt = k) : x = y := Int32.toInt_inj.mp (h.trans e.symm)
theorem own_n0 (v : Int32) (h : 0 ≤ v.toInt) : (v.toBitVec.toNat : Int) = v.toInt := by
  have d : v.toInt = if 2 * v.toBitVec.toNat < 2 ^ 32 then (v.toBitVec.toNat : Int) else (v.toBitVec.toNat : Int) - (2 ^ 32 : Nat) := BitVec.toInt_eq_toNat_cond _
  have l1 := v.toBitVec.isLt
  split at d <;> omega
theorem own_n1 (v : Int32) (h : v.toBitVec.toNat < 2 ^ 31) : v.toInt = (v.toBitVec.toNat : Int) := by
  have d : v.toInt = if 2 * v.toBitVec.toNat < 2 ^ 32 then (v.toBitVec.toNat : Int) else (v.toBitVec.toNat : Int) - (2 ^ 32 : Nat) := BitVec.toInt_eq_toNat_cond _
  split at d <;> omega
theorem own_ushr {v y : Int32} {k : Nat} (hk : ((y &&& 31).toUInt32.toNat) % 32 = k) (h : 0 ≤ v.toInt) : (XT.ushr v y).toInt = v.toInt / 2 ^ k ∧ 0 ≤ (XT.ushr v y).toInt := by
  have e : (XT.ushr v y).toBitVec.toNat = v.toBitVec.toNat / 2 ^ k := by
    show (v.toUInt32 >>> (y &&& 31).toUInt32).toNat = _
    rw [UInt32.toNat_shiftRight, Nat.shiftRight_eq_div_pow, hk]
    rfl
  have n0 := own_n0 v h
  have r := rng32 v
  have hle : v.toBitVec.toNat / 2 ^ k ≤ v.toBitVec.toNat := Nat.div_le_self _ _
  have q := own_n1 (XT.ushr v y) (by rw [e]; omega)
  rw [e] at q
  rw [q, ← n0]
  exact ⟨by simp, by omega⟩
theorem own_v (a b : Int32) : 0 ≤ (XT.ushr (a &&& 2147483647) (b &&& 31)).toInt := by
  have e : (a &&& 2147483647).toInt = a.toInt % 2 ^ 31 := Jvm.Kit.i32_mask a 2147483647 (k := 31) (by decide) (by decide)
  exact (own_ushr rfl (by omega)).2
theorem own_K (a : Int32) : 0 ≤ (a &&& 7).toInt ∧ (a &&& 7).toInt ≤ 7 := by
  have e : (a &&& 7).toInt = a.toInt % 2 ^ 3 := Jvm.Kit.i32_mask a 7 (k := 3) (by decide) (by decide)
  omega
theorem own_el {v : Int32} (hv : 0 ≤ v.toInt) : (elen v = 1 ∧ v.toInt < 128) ∨ (elen v = 2 ∧ 128 ≤ v.toInt ∧ v.toInt < 16384) ∨ (elen v = 3 ∧ 16384 ≤ v.toInt ∧ v.toInt < 2097152) ∨ (elen v = 4 ∧ 2097152 ≤ v.toInt ∧ v.toInt < 268435456) ∨ (elen v = 5 ∧ 268435456 ≤ v.toInt) := by
  unfold elen
  simp only [Int32.lt_iff_toInt_lt, Int32.reduceToInt]
  repeat' split
  all_goals simp
  all_goals omega
theorem own_k0 {K : Int32} (h : 0 ≤ K.toInt ∧ K.toInt ≤ 7) : ¬ K < 0 ∧ K.toNatClampNeg = K.toNatClampNeg + 0 ∧ K.toInt = K.toInt + 0 := by
  refine ⟨?_, rfl, by omega⟩
  rw [Int32.lt_iff_toInt_lt, show (0 : Int32).toInt = 0 from by decide]; omega
theorem own_kn {K L : Int32} {t : Nat} (h : 0 ≤ K.toInt ∧ K.toInt ≤ 7) (ht : t < 6) (hL : L.toInt = K.toInt + t) : ¬ (L + (1 : Int32)) < 0 ∧ (L + (1 : Int32)).toNatClampNeg = K.toNatClampNeg + (t + 1) ∧ (L + (1 : Int32)).toInt = K.toInt + (t + 1 : Nat) := by
  have s := c_iadd L 1
  have r := rng32 (L + 1)
  have e1 : (1 : Int32).toInt = 1 := by decide
  rw [e1] at s
  have q : (L + 1).toInt = K.toInt + (t + 1 : Nat) := by omega
  refine ⟨?_, ?_, q⟩
  · rw [Int32.lt_iff_toInt_lt, show (0 : Int32).toInt = 0 from by decide]; omega
  · simp only [Int32.toNatClampNeg, q]; omega
theorem own_m7 (z : Int32) : (z &&& 127).toInt = z.toInt % 128 := Jvm.Kit.i32_mask z 127 (k := 7) (by decide) (by decide)
theorem own_split (v : Int32) : v = (v &&& 127) ||| (v &&& (-128)) := by
  apply Int32.toBitVec_inj.mp
  show v.toBitVec = (v.toBitVec &&& 127#32) ||| (v.toBitVec &&& 4294967168#32)
  rw [← BitVec.and_or_distrib_left]
  have : (127#32 ||| 4294967168#32) = BitVec.allOnes 32 := by decide
  rw [this, BitVec.and_allOnes]
theorem own_hz {v : Int32} (hv : 0 ≤ v.toInt) : (v &&& (-128 : Int32)) = (0 : Int32) ↔ v.toInt < 128 := by
  constructor
  · intro h
    have s := own_split v
    rw [h, Int32.or_zero] at s
    have m := own_m7 v
    rw [← s] at m
    omega
  · intro h
    have e : v &&& 127 = v := by apply Int32.toInt_inj.mp; rw [own_m7]; omega
    rw [← e, Int32.and_assoc, show ((127 : Int32) &&& (-128)) = 0 from by decide, Int32.and_zero]
/-- the bytes -/
theorem own_or128 {x : Int32} (h : 0 ≤ x.toInt ∧ x.toInt < 128) : (x ||| 128).toInt8.toInt32.toInt = x.toInt - 128 := by
  have n0 := own_n0 x h.1
  have e : (x ||| 128).toBitVec.toNat = x.toBitVec.toNat + 128 := by
    show (x.toBitVec ||| 128#32).toNat = _
    rw [BitVec.toNat_or]
    have q := Nat.two_pow_add_eq_or_of_lt (i := 7) (b := x.toBitVec.toNat) (by omega) 1
    rw [Nat.or_comm]
    show 128 ||| _ = _
    have q' : 128 + x.toBitVec.toNat = 128 ||| x.toBitVec.toNat := by simpa using q
    omega
  have q := own_n1 (x ||| 128) (by omega)
  rw [Int8.toInt_toInt32, Int32.toInt_toInt8, q, e]
  rw [Int.bmod_def]
  omega
theorem own_b {v : Int32} : (((v &&& 127) ||| 128).toInt8.toInt32).toInt = v.toInt % 128 - 128 := by
  have m := own_m7 v
  rw [own_or128 (by omega), m]
theorem own_l {v : Int32} (h : 0 ≤ v.toInt ∧ v.toInt < 128) : v.toInt8.toInt32.toInt = v.toInt := by
  rw [Int8.toInt_toInt32, Int32.toInt_toInt8, Int.bmod_eq_of_le (by omega) (by omega)]
theorem own_bv (v u : BitVec 32) (k : Nat) (hv : v.toNat < 2 ^ k) (hu : u.toNat * 2 ^ k < 2 ^ 32) : (v ||| (u <<< k)).toNat = v.toNat + u.toNat * 2 ^ k := by
  rw [BitVec.toNat_or, BitVec.toNat_shiftLeft, Nat.shiftLeft_eq, Nat.mod_eq_of_lt hu, Nat.or_comm, ← Nat.shiftLeft_eq, ← Nat.shiftLeft_add_eq_or_of_lt hv, Nat.shiftLeft_eq, Nat.add_comm]
theorem own_u (x : Int32) : ((x &&& 127).toBitVec.toNat : Int) = x.toInt % 128 := by
  rw [own_n0 _ (by rw [own_m7]; omega), own_m7]
def rd (j : Nat) (bs : List Int32) (f : Int32) (i : Nat) : Int32 := if i < j then f else bs.getD (i - j) f
theorem rd_A {j : Nat} {bs : List Int32} {f : Int32} {i : Nat} (h : i < j ∨ j + bs.length ≤ i) : rd j bs f i = f := by
  unfold rd
  split
  · rfl
  · rw [List.getD_eq_getElem?_getD, List.getElem?_eq_none (by omega)]; rfl
theorem rd_B {j : Nat} {bs : List Int32} {f : Int32} {i t : Nat} (h : i = j + t) : rd j bs f i = bs.getD t f := by
  unfold rd
  rw [if_neg (by omega), show i - j = t from by omega]
theorem d_expectedLength_0 : decode method_2_code 0 = .ok (.iload_n 0, 1) := by decide +kernel
theorem d_expectedLength_1 : decode method_2_code 1 = .ok (.sipush 128, 3) := by decide +kernel
theorem d_expectedLength_4 : decode method_2_code 4 = .ok (.if_icmp .ge 5, 3) := by decide +kernel
theorem d_expectedLength_7 : decode method_2_code 7 = .ok (.iconst 1, 1) := by decide +kernel
theorem d_expectedLength_8 : decode method_2_code 8 = .ok (.ireturn, 1) := by decide +kernel
theorem d_expectedLength_9 : decode method_2_code 9 = .ok (.iload_n 0, 1) := by decide +kernel
theorem d_expectedLength_10 : decode method_2_code 10 = .ok (.sipush 16384, 3) := by decide +kernel
theorem d_expectedLength_13 : decode method_2_code 13 = .ok (.if_icmp .ge 5, 3) := by decide +kernel
theorem d_expectedLength_16 : decode method_2_code 16 = .ok (.iconst 2, 1) := by decide +kernel
theorem d_expectedLength_17 : decode method_2_code 17 = .ok (.ireturn, 1) := by decide +kernel
theorem d_expectedLength_18 : decode method_2_code 18 = .ok (.iload_n 0, 1) := by decide +kernel
theorem d_expectedLength_19 : decode method_2_code 19 = .ok (.ldc 7, 2) := by decide +kernel
theorem d_expectedLength_21 : decode method_2_code 21 = .ok (.if_icmp .ge 5, 3) := by decide +kernel
theorem d_expectedLength_24 : decode method_2_code 24 = .ok (.iconst 3, 1) := by decide +kernel
theorem d_expectedLength_25 : decode method_2_code 25 = .ok (.ireturn, 1) := by decide +kernel
theorem d_expectedLength_26 : decode method_2_code 26 = .ok (.iload_n 0, 1) := by decide +kernel
theorem d_expectedLength_27 : decode method_2_code 27 = .ok (.ldc 8, 2) := by decide +kernel
theorem d_expectedLength_29 : decode method_2_code 29 = .ok (.if_icmp .ge 5, 3) := by decide +kernel
theorem d_expectedLength_32 : decode method_2_code 32 = .ok (.iconst 4, 1) := by decide +kernel
theorem d_expectedLength_33 : decode method_2_code 33 = .ok (.ireturn, 1) := by decide +kernel
theorem d_expectedLength_34 : decode method_2_code 34 = .ok (.iconst 5, 1) := by decide +kernel
theorem d_expectedLength_35 : decode method_2_code 35 = .ok (.ireturn, 1) := by decide +kernel
set_option maxRecDepth 65536 in
set_option maxHeartbeats 40000000 in
theorem c_elen (l : Launch) (Z : State) (a0 : Array Value) (hw : ∀ d ∈ tables_1, d.before a0 Z = true) {B : Nat} (v : Int32) :
    Con l Z FM B (⟨"com/example/attestry/attestry/home/ByteCursorWritePinLaw", "expectedLength", "(I)I"⟩ : MethodName) method_2_code 1 (some .int) ({ frames := 0, cells := 0, slots := 0, locals := 0 } : Room) [] #[.int v] [] (fun v' os => v' = some (.int (elen v)) ∧ os = []) := by
  refine Con.of (plainFor_of_name (by first | (simp [plainName, overriddenIn]; done) | decide +kernel)) (ls := #[.val (.int v)]) (fun m => by first | (simp [entryFrame, mkF, argsToLocals, Value.category]; done) | rfl) ?_
  intro p_ e_ h_ s_ m_ bl_ me_ c_ T0 W0
  refine g_iload_n (pc := 0) W0 d_expectedLength_0 rfl ?_
  refine g_sipush (pc := 1) (128 : Int32) (by decide) W0 d_expectedLength_1 ?_
  refine g_icmp_ge 9 (pc := 4) W0 d_expectedLength_4 (by decide) (by decide) (fun c1 => ?_) (fun c1 => ?_)
  · refine g_iload_n (pc := 9) W0 d_expectedLength_9 rfl ?_
    refine g_sipush (pc := 10) (16384 : Int32) (by decide) W0 d_expectedLength_10 ?_
    refine g_icmp_ge 18 (pc := 13) W0 d_expectedLength_13 (by decide) (by decide) (fun c2 => ?_) (fun c2 => ?_)
    · refine g_iload_n (pc := 18) W0 d_expectedLength_18 rfl ?_
      refine g_ldc_int (pc := 19) (v := (2097152 : Int32)) W0 (hw _ (List.mem_of_getElem? (i := 35) rfl)) d_expectedLength_19 ?_
      refine g_icmp_ge 26 (pc := 21) W0 d_expectedLength_21 (by decide) (by decide) (fun c3 => ?_) (fun c3 => ?_)
      · refine g_iload_n (pc := 26) W0 d_expectedLength_26 rfl ?_
        refine g_ldc_int (pc := 27) (v := (268435456 : Int32)) W0 (hw _ (List.mem_of_getElem? (i := 36) rfl)) d_expectedLength_27 ?_
        refine g_icmp_ge 34 (pc := 29) W0 d_expectedLength_29 (by decide) (by decide) (fun c4 => ?_) (fun c4 => ?_)
        · refine g_iconst (pc := 34) (5 : Int32) (by decide) W0 d_expectedLength_34 ?_
          exact g_ireturn (pc := 35) rfl W0 d_expectedLength_35 (by decide) (by decide) ⟨by simp only [elen, if_neg c1, if_neg c2, if_neg c3, if_neg c4], rfl⟩
        · refine g_iconst (pc := 32) (4 : Int32) (by decide) W0 d_expectedLength_32 ?_
          exact g_ireturn (pc := 33) rfl W0 d_expectedLength_33 (by decide) (by decide) ⟨by simp only [elen, if_neg c1, if_neg c2, if_neg c3, if_pos c4], rfl⟩
      · refine g_iconst (pc := 24) (3 : Int32) (by decide) W0 d_expectedLength_24 ?_
        exact g_ireturn (pc := 25) rfl W0 d_expectedLength_25 (by decide) (by decide) ⟨by simp only [elen, if_neg c1, if_neg c2, if_pos c3], rfl⟩
    · refine g_iconst (pc := 16) (2 : Int32) (by decide) W0 d_expectedLength_16 ?_
      exact g_ireturn (pc := 17) rfl W0 d_expectedLength_17 (by decide) (by decide) ⟨by simp only [elen, if_neg c1, if_pos c2], rfl⟩
  · refine g_iconst (pc := 7) (1 : Int32) (by decide) W0 d_expectedLength_7 ?_
    exact g_ireturn (pc := 8) rfl W0 d_expectedLength_8 (by decide) (by decide) ⟨by simp only [elen, if_pos c1], rfl⟩
theorem d_c_wr1_0 : decode prog_1_method_7_code 0 = .ok (.iload_n 0, 1) := by decide +kernel
theorem d_c_wr1_1 : decode prog_1_method_7_code 1 = .ok (.bipush (-128), 2) := by decide +kernel
theorem d_c_wr1_3 : decode prog_1_method_7_code 3 = .ok (.iand, 1) := by decide +kernel
theorem d_c_wr1_4 : decode prog_1_method_7_code 4 = .ok (.ifCond .eq 26, 3) := by decide +kernel
theorem d_c_wr1_30 : decode prog_1_method_7_code 30 = .ok (.aload_n 1, 1) := by decide +kernel
theorem d_c_wr1_31 : decode prog_1_method_7_code 31 = .ok (.iload_n 2, 1) := by decide +kernel
theorem d_c_wr1_32 : decode prog_1_method_7_code 32 = .ok (.iinc 2 1, 3) := by decide +kernel
theorem d_c_wr1_35 : decode prog_1_method_7_code 35 = .ok (.iload_n 0, 1) := by decide +kernel
theorem d_c_wr1_36 : decode prog_1_method_7_code 36 = .ok (.i2b, 1) := by decide +kernel
theorem d_c_wr1_37 : decode prog_1_method_7_code 37 = .ok (.bastore, 1) := by decide +kernel
theorem d_c_wr1_38 : decode prog_1_method_7_code 38 = .ok (.iload_n 2, 1) := by decide +kernel
theorem d_c_wr1_39 : decode prog_1_method_7_code 39 = .ok (.ireturn, 1) := by decide +kernel
set_option maxRecDepth 65536 in
set_option maxHeartbeats 40000000 in
theorem c_wr1 (l : Launch) (Z : State) (a0 : Array Value) (hw : ∀ d ∈ tables_1, d.before a0 Z = true) {B : Nat} (b : Addr) (v K : Int32) (vs : List Value) (j : Nat) (hlen : vs.length = 12) (hj : j + 1 ≤ 12) (hi0 : ¬ K < 0) (hn0 : (K).toNatClampNeg = j + 0) (hz0 : (v &&& (-128 : Int32)) = (0 : Int32)) :
    Con l Z FM B (⟨"com/example/attestry/attestry/home/ByteCursor", "write", "(I[BI)I"⟩ : MethodName) prog_1_method_7_code 3 (some .int) ({ frames := 0, cells := 0, slots := 0, locals := 0 } : Room) [] #[.int v, .ref b, .int K] [(b, (.array .byte), vs)] (fun rv_ ro_ => rv_ = some (.int (K + (1 : Int32))) ∧ ro_ = [(b, (.array .byte), (vs.set (j + 0) (.int v.toInt8.toInt32)))]) := by
  refine Con.of (plainFor_of_name (by first | (simp [plainName, overriddenIn]; done) | decide +kernel)) (ls := #[.val (.int v), .val (.ref b), .val (.int K)]) (fun m => by first | (simp [entryFrame, mkF, argsToLocals, Value.category]; done) | rfl) ?_
  intro p_ e_ h_ s_ m_ bl_ me_ c_ T0 W0
  refine g_iload_n (pc := 0) W0 d_c_wr1_0 rfl ?_
  refine g_bipush (pc := 1) (-128 : Int32) (by decide) W0 d_c_wr1_1 ?_
  refine g_iand (pc := 3) W0 d_c_wr1_3 ?_
  refine g_ifY 30 (pc := 4) W0 d_c_wr1_4 (by decide) (by decide) (teq hz0).1 ?_
  refine g_aload_n (pc := 30) W0 d_c_wr1_30 rfl rfl ?_
  refine g_iload_n (pc := 31) W0 d_c_wr1_31 rfl ?_
  refine g_iinc (pc := 32) (ls' := #[.val (.int v), .val (.ref b), .val (.int (K + (1 : Int32)))]) (1 : Int32) (by decide) W0 d_c_wr1_32 rfl rfl ?_
  refine g_iload_n (pc := 35) W0 d_c_wr1_35 rfl ?_
  refine g_i2b (pc := 36) W0 d_c_wr1_36 ?_
  refine g_bastore (pc := 37) (i := 0) (os' := [(b, (.array .byte), (vs.set (j + 0) (.int v.toInt8.toInt32)))]) (x' := v.toInt8.toInt32) (own_bb _) (j + 0) W0 rfl hi0 hn0 (by simp only [List.length_set, hlen]; omega) rfl d_c_wr1_37 (fun T1 W2 => ?_)
  refine g_iload_n (pc := 38) W2 d_c_wr1_38 rfl ?_
  exact g_ireturn (pc := 39) rfl W2 d_c_wr1_39 (by decide) (by decide) ⟨rfl, rfl⟩
theorem d_c_wh1_0 : decode prog_1_method_6_code 0 = .ok (.iconst 0, 1) := by decide +kernel
theorem d_c_wh1_1 : decode prog_1_method_6_code 1 = .ok (.istore_n 1, 1) := by decide +kernel
theorem d_c_wh1_2 : decode prog_1_method_6_code 2 = .ok (.iconst 0, 1) := by decide +kernel
theorem d_c_wh1_3 : decode prog_1_method_6_code 3 = .ok (.istore_n 2, 1) := by decide +kernel
theorem d_c_wh1_4 : decode prog_1_method_6_code 4 = .ok (.aload_n 0, 1) := by decide +kernel
theorem d_c_wh1_5 : decode prog_1_method_6_code 5 = .ok (.getfield 7, 3) := by decide +kernel
theorem d_c_wh1_8 : decode prog_1_method_6_code 8 = .ok (.aload_n 0, 1) := by decide +kernel
theorem d_c_wh1_9 : decode prog_1_method_6_code 9 = .ok (.dup, 1) := by decide +kernel
theorem d_c_wh1_10 : decode prog_1_method_6_code 10 = .ok (.getfield 13, 3) := by decide +kernel
theorem d_c_wh1_13 : decode prog_1_method_6_code 13 = .ok (.dup_x1, 1) := by decide +kernel
theorem d_c_wh1_14 : decode prog_1_method_6_code 14 = .ok (.iconst 1, 1) := by decide +kernel
theorem d_c_wh1_15 : decode prog_1_method_6_code 15 = .ok (.iadd, 1) := by decide +kernel
theorem d_c_wh1_16 : decode prog_1_method_6_code 16 = .ok (.putfield 13, 3) := by decide +kernel
theorem d_c_wh1_19 : decode prog_1_method_6_code 19 = .ok (.baload, 1) := by decide +kernel
theorem d_c_wh1_20 : decode prog_1_method_6_code 20 = .ok (.istore_n 3, 1) := by decide +kernel
theorem d_c_wh1_21 : decode prog_1_method_6_code 21 = .ok (.iload_n 1, 1) := by decide +kernel
theorem d_c_wh1_22 : decode prog_1_method_6_code 22 = .ok (.iload_n 3, 1) := by decide +kernel
theorem d_c_wh1_23 : decode prog_1_method_6_code 23 = .ok (.bipush 127, 2) := by decide +kernel
theorem d_c_wh1_25 : decode prog_1_method_6_code 25 = .ok (.iand, 1) := by decide +kernel
theorem d_c_wh1_26 : decode prog_1_method_6_code 26 = .ok (.iload_n 2, 1) := by decide +kernel
theorem d_c_wh1_27 : decode prog_1_method_6_code 27 = .ok (.ishl, 1) := by decide +kernel
theorem d_c_wh1_28 : decode prog_1_method_6_code 28 = .ok (.ior, 1) := by decide +kernel
theorem d_c_wh1_29 : decode prog_1_method_6_code 29 = .ok (.istore_n 1, 1) := by decide +kernel
theorem d_c_wh1_30 : decode prog_1_method_6_code 30 = .ok (.iload_n 3, 1) := by decide +kernel
theorem d_c_wh1_31 : decode prog_1_method_6_code 31 = .ok (.ifCond .lt 5, 3) := by decide +kernel
theorem d_c_wh1_34 : decode prog_1_method_6_code 34 = .ok (.iload_n 1, 1) := by decide +kernel
theorem d_c_wh1_35 : decode prog_1_method_6_code 35 = .ok (.ireturn, 1) := by decide +kernel
set_option maxRecDepth 65536 in
set_option maxHeartbeats 40000000 in
theorem c_wh1 (l : Launch) (Z : State) (a0 : Array Value) (hw : ∀ d ∈ tables_1, d.before a0 Z = true) {B : Nat} (a b : Addr) (K : Int32) (vs : List Value) (r0 : Int32) (hi0 : ¬ K < 0) (hr0 : vs[(K).toNatClampNeg]? = some (.int r0)) (hz0 : ¬ r0 < 0) :
    Con l Z FM B (⟨"com/example/attestry/attestry/home/ByteCursor", "whole", "()I"⟩ : MethodName) prog_1_method_6_code 4 (some .int) ({ frames := 0, cells := 0, slots := 0, locals := 0 } : Room) [] #[.ref a] [(a, (.object "com/example/attestry/attestry/home/ByteCursor"), [.ref b, .int K]), (b, (.array .byte), vs)] (fun rv_ ro_ => rv_ = some (.int ((0 : Int32) ||| ((r0 &&& (127 : Int32)) <<< ((0 : Int32) &&& 31)))) ∧ ro_ = [(a, (.object "com/example/attestry/attestry/home/ByteCursor"), [.ref b, .int (K + (1 : Int32))]), (b, (.array .byte), vs)]) := by
  refine Con.of (plainFor_of_name (by first | (simp [plainName, overriddenIn]; done) | decide +kernel)) (ls := #[.val (.ref a), .unset, .unset, .unset]) (fun m => by first | (simp [entryFrame, mkF, argsToLocals, Value.category]; done) | rfl) ?_
  intro p_ e_ h_ s_ m_ bl_ me_ c_ T0 W0
  refine g_iconst (pc := 0) (0 : Int32) (by decide) W0 d_c_wh1_0 ?_
  refine g_istore_n (pc := 1) (ls' := #[.val (.ref a), .val (.int (0 : Int32)), .unset, .unset]) W0 d_c_wh1_1 rfl ?_
  refine g_iconst (pc := 2) (0 : Int32) (by decide) W0 d_c_wh1_2 ?_
  refine g_istore_n (pc := 3) (ls' := #[.val (.ref a), .val (.int (0 : Int32)), .val (.int (0 : Int32)), .unset]) W0 d_c_wh1_3 rfl ?_
  refine g_aload_n (pc := 4) W0 d_c_wh1_4 rfl rfl ?_
  refine g_getfield (pc := 5) (i := 0) (j := 0) (host := "") W0 (Or.inl (hw _ (List.mem_of_getElem? (i := 21) rfl))) rfl rfl rfl d_c_wh1_5 (fun T1 W2 => ?_)
  refine g_aload_n (pc := 8) W2 d_c_wh1_8 rfl rfl ?_
  refine g_dup (pc := 9) W2 d_c_wh1_9 rfl ?_
  refine g_getfield (pc := 10) (i := 0) (j := 1) (host := "") W2 (Or.inl (hw _ (List.mem_of_getElem? (i := 23) rfl))) rfl rfl rfl d_c_wh1_10 (fun T3 W4 => ?_)
  refine g_dup_x1 (pc := 13) W4 d_c_wh1_13 rfl rfl ?_
  refine g_iconst (pc := 14) (1 : Int32) (by decide) W4 d_c_wh1_14 ?_
  refine g_iadd (pc := 15) W4 d_c_wh1_15 ?_
  refine g_putfield (pc := 16) (i := 0) (j := 1) (ty := .int) (os' := [(a, (.object "com/example/attestry/attestry/home/ByteCursor"), [.ref b, .int (K + (1 : Int32))]), (b, (.array .byte), vs)]) (host := "") W4 (Or.inl (hw _ (List.mem_of_getElem? (i := 23) rfl))) (cls_ByteCursor hw) (Or.inl (hw _ (List.mem_of_getElem? (i := 24) rfl))) (hw _ (List.mem_of_getElem? (i := 14) rfl)) rfl rfl rfl (by decide) rfl rfl rfl d_c_wh1_16 (fun T5 W6 => ?_)
  refine g_baload (pc := 19) (i := 1) (v := .int r0) W6 rfl hi0 hr0 d_c_wh1_19 ?_
  refine g_istore_n (pc := 20) (ls' := #[.val (.ref a), .val (.int (0 : Int32)), .val (.int (0 : Int32)), .val (.int r0)]) W6 d_c_wh1_20 rfl ?_
  refine g_iload_n (pc := 21) W6 d_c_wh1_21 rfl ?_
  refine g_iload_n (pc := 22) W6 d_c_wh1_22 rfl ?_
  refine g_bipush (pc := 23) (127 : Int32) (by decide) W6 d_c_wh1_23 ?_
  refine g_iand (pc := 25) W6 d_c_wh1_25 ?_
  refine g_iload_n (pc := 26) W6 d_c_wh1_26 rfl ?_
  refine g_ishl (pc := 27) W6 d_c_wh1_27 ?_
  refine g_ior (pc := 28) W6 d_c_wh1_28 ?_
  refine g_istore_n (pc := 29) (ls' := #[.val (.ref a), .val (.int ((0 : Int32) ||| ((r0 &&& (127 : Int32)) <<< ((0 : Int32) &&& 31)))), .val (.int (0 : Int32)), .val (.int r0)]) W6 d_c_wh1_29 rfl ?_
  refine g_iload_n (pc := 30) W6 d_c_wh1_30 rfl ?_
  refine g_ifN (pc := 31) W6 d_c_wh1_31 (flt hz0).1 ?_
  refine g_iload_n (pc := 34) W6 d_c_wh1_34 rfl ?_
  exact g_ireturn (pc := 35) rfl W6 d_c_wh1_35 (by decide) (by decide) ⟨rfl, rfl⟩
theorem d_c_wr2_0 : decode prog_1_method_7_code 0 = .ok (.iload_n 0, 1) := by decide +kernel
theorem d_c_wr2_1 : decode prog_1_method_7_code 1 = .ok (.bipush (-128), 2) := by decide +kernel
theorem d_c_wr2_3 : decode prog_1_method_7_code 3 = .ok (.iand, 1) := by decide +kernel
theorem d_c_wr2_4 : decode prog_1_method_7_code 4 = .ok (.ifCond .eq 26, 3) := by decide +kernel
theorem d_c_wr2_7 : decode prog_1_method_7_code 7 = .ok (.aload_n 1, 1) := by decide +kernel
theorem d_c_wr2_8 : decode prog_1_method_7_code 8 = .ok (.iload_n 2, 1) := by decide +kernel
theorem d_c_wr2_9 : decode prog_1_method_7_code 9 = .ok (.iinc 2 1, 3) := by decide +kernel
theorem d_c_wr2_12 : decode prog_1_method_7_code 12 = .ok (.iload_n 0, 1) := by decide +kernel
theorem d_c_wr2_13 : decode prog_1_method_7_code 13 = .ok (.bipush 127, 2) := by decide +kernel
theorem d_c_wr2_15 : decode prog_1_method_7_code 15 = .ok (.iand, 1) := by decide +kernel
theorem d_c_wr2_16 : decode prog_1_method_7_code 16 = .ok (.sipush 128, 3) := by decide +kernel
theorem d_c_wr2_19 : decode prog_1_method_7_code 19 = .ok (.ior, 1) := by decide +kernel
theorem d_c_wr2_20 : decode prog_1_method_7_code 20 = .ok (.i2b, 1) := by decide +kernel
theorem d_c_wr2_21 : decode prog_1_method_7_code 21 = .ok (.bastore, 1) := by decide +kernel
theorem d_c_wr2_22 : decode prog_1_method_7_code 22 = .ok (.iload_n 0, 1) := by decide +kernel
theorem d_c_wr2_23 : decode prog_1_method_7_code 23 = .ok (.bipush 7, 2) := by decide +kernel
theorem d_c_wr2_25 : decode prog_1_method_7_code 25 = .ok (.iushr, 1) := by decide +kernel
theorem d_c_wr2_26 : decode prog_1_method_7_code 26 = .ok (.istore_n 0, 1) := by decide +kernel
theorem d_c_wr2_27 : decode prog_1_method_7_code 27 = .ok (.goto (-27), 3) := by decide +kernel
theorem d_c_wr2_30 : decode prog_1_method_7_code 30 = .ok (.aload_n 1, 1) := by decide +kernel
theorem d_c_wr2_31 : decode prog_1_method_7_code 31 = .ok (.iload_n 2, 1) := by decide +kernel
theorem d_c_wr2_32 : decode prog_1_method_7_code 32 = .ok (.iinc 2 1, 3) := by decide +kernel
theorem d_c_wr2_35 : decode prog_1_method_7_code 35 = .ok (.iload_n 0, 1) := by decide +kernel
theorem d_c_wr2_36 : decode prog_1_method_7_code 36 = .ok (.i2b, 1) := by decide +kernel
theorem d_c_wr2_37 : decode prog_1_method_7_code 37 = .ok (.bastore, 1) := by decide +kernel
theorem d_c_wr2_38 : decode prog_1_method_7_code 38 = .ok (.iload_n 2, 1) := by decide +kernel
theorem d_c_wr2_39 : decode prog_1_method_7_code 39 = .ok (.ireturn, 1) := by decide +kernel
set_option maxRecDepth 65536 in
set_option maxHeartbeats 40000000 in
theorem c_wr2 (l : Launch) (Z : State) (a0 : Array Value) (hw : ∀ d ∈ tables_1, d.before a0 Z = true) {B : Nat} (b : Addr) (v K : Int32) (vs : List Value) (j : Nat) (hlen : vs.length = 12) (hj : j + 2 ≤ 12) (hi0 : ¬ K < 0) (hn0 : (K).toNatClampNeg = j + 0) (hi1 : ¬ (K + (1 : Int32)) < 0) (hn1 : ((K + (1 : Int32))).toNatClampNeg = j + 1) (hz0 : ¬ (v &&& (-128 : Int32)) = (0 : Int32)) (hz1 : ((XT.ushr v (7 : Int32)) &&& (-128 : Int32)) = (0 : Int32)) :
    Con l Z FM B (⟨"com/example/attestry/attestry/home/ByteCursor", "write", "(I[BI)I"⟩ : MethodName) prog_1_method_7_code 3 (some .int) ({ frames := 0, cells := 0, slots := 0, locals := 0 } : Room) [] #[.int v, .ref b, .int K] [(b, (.array .byte), vs)] (fun rv_ ro_ => rv_ = some (.int ((K + (1 : Int32)) + (1 : Int32))) ∧ ro_ = [(b, (.array .byte), ((vs.set (j + 0) (.int ((v &&& (127 : Int32)) ||| (128 : Int32)).toInt8.toInt32)).set (j + 1) (.int (XT.ushr v (7 : Int32)).toInt8.toInt32)))]) := by
  refine Con.of (plainFor_of_name (by first | (simp [plainName, overriddenIn]; done) | decide +kernel)) (ls := #[.val (.int v), .val (.ref b), .val (.int K)]) (fun m => by first | (simp [entryFrame, mkF, argsToLocals, Value.category]; done) | rfl) ?_
  intro p_ e_ h_ s_ m_ bl_ me_ c_ T0 W0
  refine g_iload_n (pc := 0) W0 d_c_wr2_0 rfl ?_
  refine g_bipush (pc := 1) (-128 : Int32) (by decide) W0 d_c_wr2_1 ?_
  refine g_iand (pc := 3) W0 d_c_wr2_3 ?_
  refine g_ifN (pc := 4) W0 d_c_wr2_4 (feq hz0).1 ?_
  refine g_aload_n (pc := 7) W0 d_c_wr2_7 rfl rfl ?_
  refine g_iload_n (pc := 8) W0 d_c_wr2_8 rfl ?_
  refine g_iinc (pc := 9) (ls' := #[.val (.int v), .val (.ref b), .val (.int (K + (1 : Int32)))]) (1 : Int32) (by decide) W0 d_c_wr2_9 rfl rfl ?_
  refine g_iload_n (pc := 12) W0 d_c_wr2_12 rfl ?_
  refine g_bipush (pc := 13) (127 : Int32) (by decide) W0 d_c_wr2_13 ?_
  refine g_iand (pc := 15) W0 d_c_wr2_15 ?_
  refine g_sipush (pc := 16) (128 : Int32) (by decide) W0 d_c_wr2_16 ?_
  refine g_ior (pc := 19) W0 d_c_wr2_19 ?_
  refine g_i2b (pc := 20) W0 d_c_wr2_20 ?_
  refine g_bastore (pc := 21) (i := 0) (os' := [(b, (.array .byte), (vs.set (j + 0) (.int ((v &&& (127 : Int32)) ||| (128 : Int32)).toInt8.toInt32)))]) (x' := ((v &&& (127 : Int32)) ||| (128 : Int32)).toInt8.toInt32) (own_bb _) (j + 0) W0 rfl hi0 hn0 (by simp only [List.length_set, hlen]; omega) rfl d_c_wr2_21 (fun T1 W2 => ?_)
  refine g_iload_n (pc := 22) W2 d_c_wr2_22 rfl ?_
  refine g_bipush (pc := 23) (7 : Int32) (by decide) W2 d_c_wr2_23 ?_
  refine g_iushr (pc := 25) W2 d_c_wr2_25 ?_
  refine g_istore_n (pc := 26) (ls' := #[.val (.int (XT.ushr v (7 : Int32))), .val (.ref b), .val (.int (K + (1 : Int32)))]) W2 d_c_wr2_26 rfl ?_
  refine g_goto 0 (pc := 27) W2 d_c_wr2_27 (by decide) (by decide) ?_
  refine g_iload_n (pc := 0) W2 d_c_wr2_0 rfl ?_
  refine g_bipush (pc := 1) (-128 : Int32) (by decide) W2 d_c_wr2_1 ?_
  refine g_iand (pc := 3) W2 d_c_wr2_3 ?_
  refine g_ifY 30 (pc := 4) W2 d_c_wr2_4 (by decide) (by decide) (teq hz1).1 ?_
  refine g_aload_n (pc := 30) W2 d_c_wr2_30 rfl rfl ?_
  refine g_iload_n (pc := 31) W2 d_c_wr2_31 rfl ?_
  refine g_iinc (pc := 32) (ls' := #[.val (.int (XT.ushr v (7 : Int32))), .val (.ref b), .val (.int ((K + (1 : Int32)) + (1 : Int32)))]) (1 : Int32) (by decide) W2 d_c_wr2_32 rfl rfl ?_
  refine g_iload_n (pc := 35) W2 d_c_wr2_35 rfl ?_
  refine g_i2b (pc := 36) W2 d_c_wr2_36 ?_
  refine g_bastore (pc := 37) (i := 0) (os' := [(b, (.array .byte), ((vs.set (j + 0) (.int ((v &&& (127 : Int32)) ||| (128 : Int32)).toInt8.toInt32)).set (j + 1) (.int (XT.ushr v (7 : Int32)).toInt8.toInt32)))]) (x' := (XT.ushr v (7 : Int32)).toInt8.toInt32) (own_bb _) (j + 1) W2 rfl hi1 hn1 (by simp only [List.length_set, hlen]; omega) rfl d_c_wr2_37 (fun T3 W4 => ?_)
  refine g_iload_n (pc := 38) W4 d_c_wr2_38 rfl ?_
  exact g_ireturn (pc := 39) rfl W4 d_c_wr2_39 (by decide) (by decide) ⟨rfl, rfl⟩
theorem d_c_wh2_0 : decode prog_1_method_6_code 0 = .ok (.iconst 0, 1) := by decide +kernel
theorem d_c_wh2_1 : decode prog_1_method_6_code 1 = .ok (.istore_n 1, 1) := by decide +kernel
theorem d_c_wh2_2 : decode prog_1_method_6_code 2 = .ok (.iconst 0, 1) := by decide +kernel
theorem d_c_wh2_3 : decode prog_1_method_6_code 3 = .ok (.istore_n 2, 1) := by decide +kernel
theorem d_c_wh2_4 : decode prog_1_method_6_code 4 = .ok (.aload_n 0, 1) := by decide +kernel
theorem d_c_wh2_5 : decode prog_1_method_6_code 5 = .ok (.getfield 7, 3) := by decide +kernel
theorem d_c_wh2_8 : decode prog_1_method_6_code 8 = .ok (.aload_n 0, 1) := by decide +kernel
theorem d_c_wh2_9 : decode prog_1_method_6_code 9 = .ok (.dup, 1) := by decide +kernel
theorem d_c_wh2_10 : decode prog_1_method_6_code 10 = .ok (.getfield 13, 3) := by decide +kernel
theorem d_c_wh2_13 : decode prog_1_method_6_code 13 = .ok (.dup_x1, 1) := by decide +kernel
theorem d_c_wh2_14 : decode prog_1_method_6_code 14 = .ok (.iconst 1, 1) := by decide +kernel
theorem d_c_wh2_15 : decode prog_1_method_6_code 15 = .ok (.iadd, 1) := by decide +kernel
theorem d_c_wh2_16 : decode prog_1_method_6_code 16 = .ok (.putfield 13, 3) := by decide +kernel
theorem d_c_wh2_19 : decode prog_1_method_6_code 19 = .ok (.baload, 1) := by decide +kernel
theorem d_c_wh2_20 : decode prog_1_method_6_code 20 = .ok (.istore_n 3, 1) := by decide +kernel
theorem d_c_wh2_21 : decode prog_1_method_6_code 21 = .ok (.iload_n 1, 1) := by decide +kernel
theorem d_c_wh2_22 : decode prog_1_method_6_code 22 = .ok (.iload_n 3, 1) := by decide +kernel
theorem d_c_wh2_23 : decode prog_1_method_6_code 23 = .ok (.bipush 127, 2) := by decide +kernel
theorem d_c_wh2_25 : decode prog_1_method_6_code 25 = .ok (.iand, 1) := by decide +kernel
theorem d_c_wh2_26 : decode prog_1_method_6_code 26 = .ok (.iload_n 2, 1) := by decide +kernel
theorem d_c_wh2_27 : decode prog_1_method_6_code 27 = .ok (.ishl, 1) := by decide +kernel
theorem d_c_wh2_28 : decode prog_1_method_6_code 28 = .ok (.ior, 1) := by decide +kernel
theorem d_c_wh2_29 : decode prog_1_method_6_code 29 = .ok (.istore_n 1, 1) := by decide +kernel
theorem d_c_wh2_30 : decode prog_1_method_6_code 30 = .ok (.iload_n 3, 1) := by decide +kernel
theorem d_c_wh2_31 : decode prog_1_method_6_code 31 = .ok (.ifCond .lt 5, 3) := by decide +kernel
theorem d_c_wh2_34 : decode prog_1_method_6_code 34 = .ok (.iload_n 1, 1) := by decide +kernel
theorem d_c_wh2_35 : decode prog_1_method_6_code 35 = .ok (.ireturn, 1) := by decide +kernel
theorem d_c_wh2_36 : decode prog_1_method_6_code 36 = .ok (.iinc 2 7, 3) := by decide +kernel
theorem d_c_wh2_39 : decode prog_1_method_6_code 39 = .ok (.goto (-35), 3) := by decide +kernel
set_option maxRecDepth 65536 in
set_option maxHeartbeats 40000000 in
theorem c_wh2 (l : Launch) (Z : State) (a0 : Array Value) (hw : ∀ d ∈ tables_1, d.before a0 Z = true) {B : Nat} (a b : Addr) (K : Int32) (vs : List Value) (r0 r1 : Int32) (hi0 : ¬ K < 0) (hr0 : vs[(K).toNatClampNeg]? = some (.int r0)) (hi1 : ¬ (K + (1 : Int32)) < 0) (hr1 : vs[((K + (1 : Int32))).toNatClampNeg]? = some (.int r1)) (hz0 : r0 < 0) (hz1 : ¬ r1 < 0) :
    Con l Z FM B (⟨"com/example/attestry/attestry/home/ByteCursor", "whole", "()I"⟩ : MethodName) prog_1_method_6_code 4 (some .int) ({ frames := 0, cells := 0, slots := 0, locals := 0 } : Room) [] #[.ref a] [(a, (.object "com/example/attestry/attestry/home/ByteCursor"), [.ref b, .int K]), (b, (.array .byte), vs)] (fun rv_ ro_ => rv_ = some (.int (((0 : Int32) ||| ((r0 &&& (127 : Int32)) <<< ((0 : Int32) &&& 31))) ||| ((r1 &&& (127 : Int32)) <<< ((7 : Int32) &&& 31)))) ∧ ro_ = [(a, (.object "com/example/attestry/attestry/home/ByteCursor"), [.ref b, .int ((K + (1 : Int32)) + (1 : Int32))]), (b, (.array .byte), vs)]) := by
  refine Con.of (plainFor_of_name (by first | (simp [plainName, overriddenIn]; done) | decide +kernel)) (ls := #[.val (.ref a), .unset, .unset, .unset]) (fun m => by first | (simp [entryFrame, mkF, argsToLocals, Value.category]; done) | rfl) ?_
  intro p_ e_ h_ s_ m_ bl_ me_ c_ T0 W0
  refine g_iconst (pc := 0) (0 : Int32) (by decide) W0 d_c_wh2_0 ?_
  refine g_istore_n (pc := 1) (ls' := #[.val (.ref a), .val (.int (0 : Int32)), .unset, .unset]) W0 d_c_wh2_1 rfl ?_
  refine g_iconst (pc := 2) (0 : Int32) (by decide) W0 d_c_wh2_2 ?_
  refine g_istore_n (pc := 3) (ls' := #[.val (.ref a), .val (.int (0 : Int32)), .val (.int (0 : Int32)), .unset]) W0 d_c_wh2_3 rfl ?_
  refine g_aload_n (pc := 4) W0 d_c_wh2_4 rfl rfl ?_
  refine g_getfield (pc := 5) (i := 0) (j := 0) (host := "") W0 (Or.inl (hw _ (List.mem_of_getElem? (i := 21) rfl))) rfl rfl rfl d_c_wh2_5 (fun T1 W2 => ?_)
  refine g_aload_n (pc := 8) W2 d_c_wh2_8 rfl rfl ?_
  refine g_dup (pc := 9) W2 d_c_wh2_9 rfl ?_
  refine g_getfield (pc := 10) (i := 0) (j := 1) (host := "") W2 (Or.inl (hw _ (List.mem_of_getElem? (i := 23) rfl))) rfl rfl rfl d_c_wh2_10 (fun T3 W4 => ?_)
  refine g_dup_x1 (pc := 13) W4 d_c_wh2_13 rfl rfl ?_
  refine g_iconst (pc := 14) (1 : Int32) (by decide) W4 d_c_wh2_14 ?_
  refine g_iadd (pc := 15) W4 d_c_wh2_15 ?_
  refine g_putfield (pc := 16) (i := 0) (j := 1) (ty := .int) (os' := [(a, (.object "com/example/attestry/attestry/home/ByteCursor"), [.ref b, .int (K + (1 : Int32))]), (b, (.array .byte), vs)]) (host := "") W4 (Or.inl (hw _ (List.mem_of_getElem? (i := 23) rfl))) (cls_ByteCursor hw) (Or.inl (hw _ (List.mem_of_getElem? (i := 24) rfl))) (hw _ (List.mem_of_getElem? (i := 14) rfl)) rfl rfl rfl (by decide) rfl rfl rfl d_c_wh2_16 (fun T5 W6 => ?_)
  refine g_baload (pc := 19) (i := 1) (v := .int r0) W6 rfl hi0 hr0 d_c_wh2_19 ?_
  refine g_istore_n (pc := 20) (ls' := #[.val (.ref a), .val (.int (0 : Int32)), .val (.int (0 : Int32)), .val (.int r0)]) W6 d_c_wh2_20 rfl ?_
  refine g_iload_n (pc := 21) W6 d_c_wh2_21 rfl ?_
  refine g_iload_n (pc := 22) W6 d_c_wh2_22 rfl ?_
  refine g_bipush (pc := 23) (127 : Int32) (by decide) W6 d_c_wh2_23 ?_
  refine g_iand (pc := 25) W6 d_c_wh2_25 ?_
  refine g_iload_n (pc := 26) W6 d_c_wh2_26 rfl ?_
  refine g_ishl (pc := 27) W6 d_c_wh2_27 ?_
  refine g_ior (pc := 28) W6 d_c_wh2_28 ?_
  refine g_istore_n (pc := 29) (ls' := #[.val (.ref a), .val (.int ((0 : Int32) ||| ((r0 &&& (127 : Int32)) <<< ((0 : Int32) &&& 31)))), .val (.int (0 : Int32)), .val (.int r0)]) W6 d_c_wh2_29 rfl ?_
  refine g_iload_n (pc := 30) W6 d_c_wh2_30 rfl ?_
  refine g_ifY 36 (pc := 31) W6 d_c_wh2_31 (by decide) (by decide) (tlt hz0).1 ?_
  refine g_iinc (pc := 36) (ls' := #[.val (.ref a), .val (.int ((0 : Int32) ||| ((r0 &&& (127 : Int32)) <<< ((0 : Int32) &&& 31)))), .val (.int (7 : Int32)), .val (.int r0)]) (7 : Int32) (by decide) W6 d_c_wh2_36 rfl rfl ?_
  refine g_goto 4 (pc := 39) W6 d_c_wh2_39 (by decide) (by decide) ?_
  refine g_aload_n (pc := 4) W6 d_c_wh2_4 rfl rfl ?_
  refine g_getfield (pc := 5) (i := 0) (j := 0) (host := "") W6 (Or.inl (hw _ (List.mem_of_getElem? (i := 21) rfl))) rfl rfl rfl d_c_wh2_5 (fun T7 W8 => ?_)
  refine g_aload_n (pc := 8) W8 d_c_wh2_8 rfl rfl ?_
  refine g_dup (pc := 9) W8 d_c_wh2_9 rfl ?_
  refine g_getfield (pc := 10) (i := 0) (j := 1) (host := "") W8 (Or.inl (hw _ (List.mem_of_getElem? (i := 23) rfl))) rfl rfl rfl d_c_wh2_10 (fun T9 W10 => ?_)
  refine g_dup_x1 (pc := 13) W10 d_c_wh2_13 rfl rfl ?_
  refine g_iconst (pc := 14) (1 : Int32) (by decide) W10 d_c_wh2_14 ?_
  refine g_iadd (pc := 15) W10 d_c_wh2_15 ?_
  refine g_putfield (pc := 16) (i := 0) (j := 1) (ty := .int) (os' := [(a, (.object "com/example/attestry/attestry/home/ByteCursor"), [.ref b, .int ((K + (1 : Int32)) + (1 : Int32))]), (b, (.array .byte), vs)]) (host := "") W10 (Or.inl (hw _ (List.mem_of_getElem? (i := 23) rfl))) (cls_ByteCursor hw) (Or.inl (hw _ (List.mem_of_getElem? (i := 24) rfl))) (hw _ (List.mem_of_getElem? (i := 14) rfl)) rfl rfl rfl (by decide) rfl rfl rfl d_c_wh2_16 (fun T11 W12 => ?_)
  refine g_baload (pc := 19) (i := 1) (v := .int r1) W12 rfl hi1 hr1 d_c_wh2_19 ?_
  refine g_istore_n (pc := 20) (ls' := #[.val (.ref a), .val (.int ((0 : Int32) ||| ((r0 &&& (127 : Int32)) <<< ((0 : Int32) &&& 31)))), .val (.int (7 : Int32)), .val (.int r1)]) W12 d_c_wh2_20 rfl ?_
  refine g_iload_n (pc := 21) W12 d_c_wh2_21 rfl ?_
  refine g_iload_n (pc := 22) W12 d_c_wh2_22 rfl ?_
  refine g_bipush (pc := 23) (127 : Int32) (by decide) W12 d_c_wh2_23 ?_
  refine g_iand (pc := 25) W12 d_c_wh2_25 ?_
  refine g_iload_n (pc := 26) W12 d_c_wh2_26 rfl ?_
  refine g_ishl (pc := 27) W12 d_c_wh2_27 ?_
  refine g_ior (pc := 28) W12 d_c_wh2_28 ?_
  refine g_istore_n (pc := 29) (ls' := #[.val (.ref a), .val (.int (((0 : Int32) ||| ((r0 &&& (127 : Int32)) <<< ((0 : Int32) &&& 31))) ||| ((r1 &&& (127 : Int32)) <<< ((7 : Int32) &&& 31)))), .val (.int (7 : Int32)), .val (.int r1)]) W12 d_c_wh2_29 rfl ?_
  refine g_iload_n (pc := 30) W12 d_c_wh2_30 rfl ?_
  refine g_ifN (pc := 31) W12 d_c_wh2_31 (flt hz1).1 ?_
  refine g_iload_n (pc := 34) W12 d_c_wh2_34 rfl ?_
  exact g_ireturn (pc := 35) rfl W12 d_c_wh2_35 (by decide) (by decide) ⟨rfl, rfl⟩
theorem d_c_wr3_0 : decode prog_1_method_7_code 0 = .ok (.iload_n 0, 1) := by decide +kernel
theorem d_c_wr3_1 : decode prog_1_method_7_code 1 = .ok (.bipush (-128), 2) := by decide +kernel
theorem d_c_wr3_3 : decode prog_1_method_7_code 3 = .ok (.iand, 1) := by decide +kernel
theorem d_c_wr3_4 : decode prog_1_method_7_code 4 = .ok (.ifCond .eq 26, 3) := by decide +kernel
theorem d_c_wr3_7 : decode prog_1_method_7_code 7 = .ok (.aload_n 1, 1) := by decide +kernel
theorem d_c_wr3_8 : decode prog_1_method_7_code 8 = .ok (.iload_n 2, 1) := by decide +kernel
theorem d_c_wr3_9 : decode prog_1_method_7_code 9 = .ok (.iinc 2 1, 3) := by decide +kernel
theorem d_c_wr3_12 : decode prog_1_method_7_code 12 = .ok (.iload_n 0, 1) := by decide +kernel
theorem d_c_wr3_13 : decode prog_1_method_7_code 13 = .ok (.bipush 127, 2) := by decide +kernel
theorem d_c_wr3_15 : decode prog_1_method_7_code 15 = .ok (.iand, 1) := by decide +kernel
theorem d_c_wr3_16 : decode prog_1_method_7_code 16 = .ok (.sipush 128, 3) := by decide +kernel
theorem d_c_wr3_19 : decode prog_1_method_7_code 19 = .ok (.ior, 1) := by decide +kernel
theorem d_c_wr3_20 : decode prog_1_method_7_code 20 = .ok (.i2b, 1) := by decide +kernel
theorem d_c_wr3_21 : decode prog_1_method_7_code 21 = .ok (.bastore, 1) := by decide +kernel
theorem d_c_wr3_22 : decode prog_1_method_7_code 22 = .ok (.iload_n 0, 1) := by decide +kernel
theorem d_c_wr3_23 : decode prog_1_method_7_code 23 = .ok (.bipush 7, 2) := by decide +kernel
theorem d_c_wr3_25 : decode prog_1_method_7_code 25 = .ok (.iushr, 1) := by decide +kernel
theorem d_c_wr3_26 : decode prog_1_method_7_code 26 = .ok (.istore_n 0, 1) := by decide +kernel
theorem d_c_wr3_27 : decode prog_1_method_7_code 27 = .ok (.goto (-27), 3) := by decide +kernel
theorem d_c_wr3_30 : decode prog_1_method_7_code 30 = .ok (.aload_n 1, 1) := by decide +kernel
theorem d_c_wr3_31 : decode prog_1_method_7_code 31 = .ok (.iload_n 2, 1) := by decide +kernel
theorem d_c_wr3_32 : decode prog_1_method_7_code 32 = .ok (.iinc 2 1, 3) := by decide +kernel
theorem d_c_wr3_35 : decode prog_1_method_7_code 35 = .ok (.iload_n 0, 1) := by decide +kernel
theorem d_c_wr3_36 : decode prog_1_method_7_code 36 = .ok (.i2b, 1) := by decide +kernel
theorem d_c_wr3_37 : decode prog_1_method_7_code 37 = .ok (.bastore, 1) := by decide +kernel
theorem d_c_wr3_38 : decode prog_1_method_7_code 38 = .ok (.iload_n 2, 1) := by decide +kernel
theorem d_c_wr3_39 : decode prog_1_method_7_code 39 = .ok (.ireturn, 1) := by decide +kernel
set_option maxRecDepth 65536 in
set_option maxHeartbeats 40000000 in
theorem c_wr3 (l : Launch) (Z : State) (a0 : Array Value) (hw : ∀ d ∈ tables_1, d.before a0 Z = true) {B : Nat} (b : Addr) (v K : Int32) (vs : List Value) (j : Nat) (hlen : vs.length = 12) (hj : j + 3 ≤ 12) (hi0 : ¬ K < 0) (hn0 : (K).toNatClampNeg = j + 0) (hi1 : ¬ (K + (1 : Int32)) < 0) (hn1 : ((K + (1 : Int32))).toNatClampNeg = j + 1) (hi2 : ¬ ((K + (1 : Int32)) + (1 : Int32)) < 0) (hn2 : (((K + (1 : Int32)) + (1 : Int32))).toNatClampNeg = j + 2) (hz0 : ¬ (v &&& (-128 : Int32)) = (0 : Int32)) (hz1 : ¬ ((XT.ushr v (7 : Int32)) &&& (-128 : Int32)) = (0 : Int32)) (hz2 : ((XT.ushr (XT.ushr v (7 : Int32)) (7 : Int32)) &&& (-128 : Int32)) = (0 : Int32)) :
    Con l Z FM B (⟨"com/example/attestry/attestry/home/ByteCursor", "write", "(I[BI)I"⟩ : MethodName) prog_1_method_7_code 3 (some .int) ({ frames := 0, cells := 0, slots := 0, locals := 0 } : Room) [] #[.int v, .ref b, .int K] [(b, (.array .byte), vs)] (fun rv_ ro_ => rv_ = some (.int (((K + (1 : Int32)) + (1 : Int32)) + (1 : Int32))) ∧ ro_ = [(b, (.array .byte), (((vs.set (j + 0) (.int ((v &&& (127 : Int32)) ||| (128 : Int32)).toInt8.toInt32)).set (j + 1) (.int (((XT.ushr v (7 : Int32)) &&& (127 : Int32)) ||| (128 : Int32)).toInt8.toInt32)).set (j + 2) (.int (XT.ushr (XT.ushr v (7 : Int32)) (7 : Int32)).toInt8.toInt32)))]) := by
  refine Con.of (plainFor_of_name (by first | (simp [plainName, overriddenIn]; done) | decide +kernel)) (ls := #[.val (.int v), .val (.ref b), .val (.int K)]) (fun m => by first | (simp [entryFrame, mkF, argsToLocals, Value.category]; done) | rfl) ?_
  intro p_ e_ h_ s_ m_ bl_ me_ c_ T0 W0
  refine g_iload_n (pc := 0) W0 d_c_wr3_0 rfl ?_
  refine g_bipush (pc := 1) (-128 : Int32) (by decide) W0 d_c_wr3_1 ?_
  refine g_iand (pc := 3) W0 d_c_wr3_3 ?_
  refine g_ifN (pc := 4) W0 d_c_wr3_4 (feq hz0).1 ?_
  refine g_aload_n (pc := 7) W0 d_c_wr3_7 rfl rfl ?_
  refine g_iload_n (pc := 8) W0 d_c_wr3_8 rfl ?_
  refine g_iinc (pc := 9) (ls' := #[.val (.int v), .val (.ref b), .val (.int (K + (1 : Int32)))]) (1 : Int32) (by decide) W0 d_c_wr3_9 rfl rfl ?_
  refine g_iload_n (pc := 12) W0 d_c_wr3_12 rfl ?_
  refine g_bipush (pc := 13) (127 : Int32) (by decide) W0 d_c_wr3_13 ?_
  refine g_iand (pc := 15) W0 d_c_wr3_15 ?_
  refine g_sipush (pc := 16) (128 : Int32) (by decide) W0 d_c_wr3_16 ?_
  refine g_ior (pc := 19) W0 d_c_wr3_19 ?_
  refine g_i2b (pc := 20) W0 d_c_wr3_20 ?_
  refine g_bastore (pc := 21) (i := 0) (os' := [(b, (.array .byte), (vs.set (j + 0) (.int ((v &&& (127 : Int32)) ||| (128 : Int32)).toInt8.toInt32)))]) (x' := ((v &&& (127 : Int32)) ||| (128 : Int32)).toInt8.toInt32) (own_bb _) (j + 0) W0 rfl hi0 hn0 (by simp only [List.length_set, hlen]; omega) rfl d_c_wr3_21 (fun T1 W2 => ?_)
  refine g_iload_n (pc := 22) W2 d_c_wr3_22 rfl ?_
  refine g_bipush (pc := 23) (7 : Int32) (by decide) W2 d_c_wr3_23 ?_
  refine g_iushr (pc := 25) W2 d_c_wr3_25 ?_
  refine g_istore_n (pc := 26) (ls' := #[.val (.int (XT.ushr v (7 : Int32))), .val (.ref b), .val (.int (K + (1 : Int32)))]) W2 d_c_wr3_26 rfl ?_
  refine g_goto 0 (pc := 27) W2 d_c_wr3_27 (by decide) (by decide) ?_
  refine g_iload_n (pc := 0) W2 d_c_wr3_0 rfl ?_
  refine g_bipush (pc := 1) (-128 : Int32) (by decide) W2 d_c_wr3_1 ?_
  refine g_iand (pc := 3) W2 d_c_wr3_3 ?_
  refine g_ifN (pc := 4) W2 d_c_wr3_4 (feq hz1).1 ?_
  refine g_aload_n (pc := 7) W2 d_c_wr3_7 rfl rfl ?_
  refine g_iload_n (pc := 8) W2 d_c_wr3_8 rfl ?_
  refine g_iinc (pc := 9) (ls' := #[.val (.int (XT.ushr v (7 : Int32))), .val (.ref b), .val (.int ((K + (1 : Int32)) + (1 : Int32)))]) (1 : Int32) (by decide) W2 d_c_wr3_9 rfl rfl ?_
  refine g_iload_n (pc := 12) W2 d_c_wr3_12 rfl ?_
  refine g_bipush (pc := 13) (127 : Int32) (by decide) W2 d_c_wr3_13 ?_
  refine g_iand (pc := 15) W2 d_c_wr3_15 ?_
  refine g_sipush (pc := 16) (128 : Int32) (by decide) W2 d_c_wr3_16 ?_
  refine g_ior (pc := 19) W2 d_c_wr3_19 ?_
  refine g_i2b (pc := 20) W2 d_c_wr3_20 ?_
  refine g_bastore (pc := 21) (i := 0) (os' := [(b, (.array .byte), ((vs.set (j + 0) (.int ((v &&& (127 : Int32)) ||| (128 : Int32)).toInt8.toInt32)).set (j + 1) (.int (((XT.ushr v (7 : Int32)) &&& (127 : Int32)) ||| (128 : Int32)).toInt8.toInt32)))]) (x' := (((XT.ushr v (7 : Int32)) &&& (127 : Int32)) ||| (128 : Int32)).toInt8.toInt32) (own_bb _) (j + 1) W2 rfl hi1 hn1 (by simp only [List.length_set, hlen]; omega) rfl d_c_wr3_21 (fun T3 W4 => ?_)
  refine g_iload_n (pc := 22) W4 d_c_wr3_22 rfl ?_
  refine g_bipush (pc := 23) (7 : Int32) (by decide) W4 d_c_wr3_23 ?_
  refine g_iushr (pc := 25) W4 d_c_wr3_25 ?_
  refine g_istore_n (pc := 26) (ls' := #[.val (.int (XT.ushr (XT.ushr v (7 : Int32)) (7 : Int32))), .val (.ref b), .val (.int ((K + (1 : Int32)) + (1 : Int32)))]) W4 d_c_wr3_26 rfl ?_
  refine g_goto 0 (pc := 27) W4 d_c_wr3_27 (by decide) (by decide) ?_
  refine g_iload_n (pc := 0) W4 d_c_wr3_0 rfl ?_
  refine g_bipush (pc := 1) (-128 : Int32) (by decide) W4 d_c_wr3_1 ?_
  refine g_iand (pc := 3) W4 d_c_wr3_3 ?_
  refine g_ifY 30 (pc := 4) W4 d_c_wr3_4 (by decide) (by decide) (teq hz2).1 ?_
  refine g_aload_n (pc := 30) W4 d_c_wr3_30 rfl rfl ?_
  refine g_iload_n (pc := 31) W4 d_c_wr3_31 rfl ?_
  refine g_iinc (pc := 32) (ls' := #[.val (.int (XT.ushr (XT.ushr v (7 : Int32)) (7 : Int32))), .val (.ref b), .val (.int (((K + (1 : Int32)) + (1 : Int32)) + (1 : Int32)))]) (1 : Int32) (by decide) W4 d_c_wr3_32 rfl rfl ?_
  refine g_iload_n (pc := 35) W4 d_c_wr3_35 rfl ?_
  refine g_i2b (pc := 36) W4 d_c_wr3_36 ?_
  refine g_bastore (pc := 37) (i := 0) (os' := [(b, (.array .byte), (((vs.set (j + 0) (.int ((v &&& (127 : Int32)) ||| (128 : Int32)).toInt8.toInt32)).set (j + 1) (.int (((XT.ushr v (7 : Int32)) &&& (127 : Int32)) ||| (128 : Int32)).toInt8.toInt32)).set (j + 2) (.int (XT.ushr (XT.ushr v (7 : Int32)) (7 : Int32)).toInt8.toInt32)))]) (x' := (XT.ushr (XT.ushr v (7 : Int32)) (7 : Int32)).toInt8.toInt32) (own_bb _) (j + 2) W4 rfl hi2 hn2 (by simp only [List.length_set, hlen]; omega) rfl d_c_wr3_37 (fun T5 W6 => ?_)
  refine g_iload_n (pc := 38) W6 d_c_wr3_38 rfl ?_
  exact g_ireturn (pc := 39) rfl W6 d_c_wr3_39 (by decide) (by decide) ⟨rfl, rfl⟩
theorem d_c_wh3_0 : decode prog_1_method_6_code 0 = .ok (.iconst 0, 1) := by decide +kernel
theorem d_c_wh3_1 : decode prog_1_method_6_code 1 = .ok (.istore_n 1, 1) := by decide +kernel
theorem d_c_wh3_2 : decode prog_1_method_6_code 2 = .ok (.iconst 0, 1) := by decide +kernel
theorem d_c_wh3_3 : decode prog_1_method_6_code 3 = .ok (.istore_n 2, 1) := by decide +kernel
theorem d_c_wh3_4 : decode prog_1_method_6_code 4 = .ok (.aload_n 0, 1) := by decide +kernel
theorem d_c_wh3_5 : decode prog_1_method_6_code 5 = .ok (.getfield 7, 3) := by decide +kernel
theorem d_c_wh3_8 : decode prog_1_method_6_code 8 = .ok (.aload_n 0, 1) := by decide +kernel
theorem d_c_wh3_9 : decode prog_1_method_6_code 9 = .ok (.dup, 1) := by decide +kernel
theorem d_c_wh3_10 : decode prog_1_method_6_code 10 = .ok (.getfield 13, 3) := by decide +kernel
theorem d_c_wh3_13 : decode prog_1_method_6_code 13 = .ok (.dup_x1, 1) := by decide +kernel
theorem d_c_wh3_14 : decode prog_1_method_6_code 14 = .ok (.iconst 1, 1) := by decide +kernel
theorem d_c_wh3_15 : decode prog_1_method_6_code 15 = .ok (.iadd, 1) := by decide +kernel
theorem d_c_wh3_16 : decode prog_1_method_6_code 16 = .ok (.putfield 13, 3) := by decide +kernel
theorem d_c_wh3_19 : decode prog_1_method_6_code 19 = .ok (.baload, 1) := by decide +kernel
theorem d_c_wh3_20 : decode prog_1_method_6_code 20 = .ok (.istore_n 3, 1) := by decide +kernel
theorem d_c_wh3_21 : decode prog_1_method_6_code 21 = .ok (.iload_n 1, 1) := by decide +kernel
theorem d_c_wh3_22 : decode prog_1_method_6_code 22 = .ok (.iload_n 3, 1) := by decide +kernel
theorem d_c_wh3_23 : decode prog_1_method_6_code 23 = .ok (.bipush 127, 2) := by decide +kernel
theorem d_c_wh3_25 : decode prog_1_method_6_code 25 = .ok (.iand, 1) := by decide +kernel
theorem d_c_wh3_26 : decode prog_1_method_6_code 26 = .ok (.iload_n 2, 1) := by decide +kernel
theorem d_c_wh3_27 : decode prog_1_method_6_code 27 = .ok (.ishl, 1) := by decide +kernel
theorem d_c_wh3_28 : decode prog_1_method_6_code 28 = .ok (.ior, 1) := by decide +kernel
theorem d_c_wh3_29 : decode prog_1_method_6_code 29 = .ok (.istore_n 1, 1) := by decide +kernel
theorem d_c_wh3_30 : decode prog_1_method_6_code 30 = .ok (.iload_n 3, 1) := by decide +kernel
theorem d_c_wh3_31 : decode prog_1_method_6_code 31 = .ok (.ifCond .lt 5, 3) := by decide +kernel
theorem d_c_wh3_34 : decode prog_1_method_6_code 34 = .ok (.iload_n 1, 1) := by decide +kernel
theorem d_c_wh3_35 : decode prog_1_method_6_code 35 = .ok (.ireturn, 1) := by decide +kernel
theorem d_c_wh3_36 : decode prog_1_method_6_code 36 = .ok (.iinc 2 7, 3) := by decide +kernel
theorem d_c_wh3_39 : decode prog_1_method_6_code 39 = .ok (.goto (-35), 3) := by decide +kernel
set_option maxRecDepth 65536 in
set_option maxHeartbeats 40000000 in
theorem c_wh3 (l : Launch) (Z : State) (a0 : Array Value) (hw : ∀ d ∈ tables_1, d.before a0 Z = true) {B : Nat} (a b : Addr) (K : Int32) (vs : List Value) (r0 r1 r2 : Int32) (hi0 : ¬ K < 0) (hr0 : vs[(K).toNatClampNeg]? = some (.int r0)) (hi1 : ¬ (K + (1 : Int32)) < 0) (hr1 : vs[((K + (1 : Int32))).toNatClampNeg]? = some (.int r1)) (hi2 : ¬ ((K + (1 : Int32)) + (1 : Int32)) < 0) (hr2 : vs[(((K + (1 : Int32)) + (1 : Int32))).toNatClampNeg]? = some (.int r2)) (hz0 : r0 < 0) (hz1 : r1 < 0) (hz2 : ¬ r2 < 0) :
    Con l Z FM B (⟨"com/example/attestry/attestry/home/ByteCursor", "whole", "()I"⟩ : MethodName) prog_1_method_6_code 4 (some .int) ({ frames := 0, cells := 0, slots := 0, locals := 0 } : Room) [] #[.ref a] [(a, (.object "com/example/attestry/attestry/home/ByteCursor"), [.ref b, .int K]), (b, (.array .byte), vs)] (fun rv_ ro_ => rv_ = some (.int ((((0 : Int32) ||| ((r0 &&& (127 : Int32)) <<< ((0 : Int32) &&& 31))) ||| ((r1 &&& (127 : Int32)) <<< ((7 : Int32) &&& 31))) ||| ((r2 &&& (127 : Int32)) <<< ((14 : Int32) &&& 31)))) ∧ ro_ = [(a, (.object "com/example/attestry/attestry/home/ByteCursor"), [.ref b, .int (((K + (1 : Int32)) + (1 : Int32)) + (1 : Int32))]), (b, (.array .byte), vs)]) := by
  refine Con.of (plainFor_of_name (by first | (simp [plainName, overriddenIn]; done) | decide +kernel)) (ls := #[.val (.ref a), .unset, .unset, .unset]) (fun m => by first | (simp [entryFrame, mkF, argsToLocals, Value.category]; done) | rfl) ?_
  intro p_ e_ h_ s_ m_ bl_ me_ c_ T0 W0
  refine g_iconst (pc := 0) (0 : Int32) (by decide) W0 d_c_wh3_0 ?_
  refine g_istore_n (pc := 1) (ls' := #[.val (.ref a), .val (.int (0 : Int32)), .unset, .unset]) W0 d_c_wh3_1 rfl ?_
  refine g_iconst (pc := 2) (0 : Int32) (by decide) W0 d_c_wh3_2 ?_
  refine g_istore_n (pc := 3) (ls' := #[.val (.ref a), .val (.int (0 : Int32)), .val (.int (0 : Int32)), .unset]) W0 d_c_wh3_3 rfl ?_
  refine g_aload_n (pc := 4) W0 d_c_wh3_4 rfl rfl ?_
  refine g_getfield (pc := 5) (i := 0) (j := 0) (host := "") W0 (Or.inl (hw _ (List.mem_of_getElem? (i := 21) rfl))) rfl rfl rfl d_c_wh3_5 (fun T1 W2 => ?_)
  refine g_aload_n (pc := 8) W2 d_c_wh3_8 rfl rfl ?_
  refine g_dup (pc := 9) W2 d_c_wh3_9 rfl ?_
  refine g_getfield (pc := 10) (i := 0) (j := 1) (host := "") W2 (Or.inl (hw _ (List.mem_of_getElem? (i := 23) rfl))) rfl rfl rfl d_c_wh3_10 (fun T3 W4 => ?_)
  refine g_dup_x1 (pc := 13) W4 d_c_wh3_13 rfl rfl ?_
  refine g_iconst (pc := 14) (1 : Int32) (by decide) W4 d_c_wh3_14 ?_
  refine g_iadd (pc := 15) W4 d_c_wh3_15 ?_
  refine g_putfield (pc := 16) (i := 0) (j := 1) (ty := .int) (os' := [(a, (.object "com/example/attestry/attestry/home/ByteCursor"), [.ref b, .int (K + (1 : Int32))]), (b, (.array .byte), vs)]) (host := "") W4 (Or.inl (hw _ (List.mem_of_getElem? (i := 23) rfl))) (cls_ByteCursor hw) (Or.inl (hw _ (List.mem_of_getElem? (i := 24) rfl))) (hw _ (List.mem_of_getElem? (i := 14) rfl)) rfl rfl rfl (by decide) rfl rfl rfl d_c_wh3_16 (fun T5 W6 => ?_)
  refine g_baload (pc := 19) (i := 1) (v := .int r0) W6 rfl hi0 hr0 d_c_wh3_19 ?_
  refine g_istore_n (pc := 20) (ls' := #[.val (.ref a), .val (.int (0 : Int32)), .val (.int (0 : Int32)), .val (.int r0)]) W6 d_c_wh3_20 rfl ?_
  refine g_iload_n (pc := 21) W6 d_c_wh3_21 rfl ?_
  refine g_iload_n (pc := 22) W6 d_c_wh3_22 rfl ?_
  refine g_bipush (pc := 23) (127 : Int32) (by decide) W6 d_c_wh3_23 ?_
  refine g_iand (pc := 25) W6 d_c_wh3_25 ?_
  refine g_iload_n (pc := 26) W6 d_c_wh3_26 rfl ?_
  refine g_ishl (pc := 27) W6 d_c_wh3_27 ?_
  refine g_ior (pc := 28) W6 d_c_wh3_28 ?_
  refine g_istore_n (pc := 29) (ls' := #[.val (.ref a), .val (.int ((0 : Int32) ||| ((r0 &&& (127 : Int32)) <<< ((0 : Int32) &&& 31)))), .val (.int (0 : Int32)), .val (.int r0)]) W6 d_c_wh3_29 rfl ?_
  refine g_iload_n (pc := 30) W6 d_c_wh3_30 rfl ?_
  refine g_ifY 36 (pc := 31) W6 d_c_wh3_31 (by decide) (by decide) (tlt hz0).1 ?_
  refine g_iinc (pc := 36) (ls' := #[.val (.ref a), .val (.int ((0 : Int32) ||| ((r0 &&& (127 : Int32)) <<< ((0 : Int32) &&& 31)))), .val (.int (7 : Int32)), .val (.int r0)]) (7 : Int32) (by decide) W6 d_c_wh3_36 rfl rfl ?_
  refine g_goto 4 (pc := 39) W6 d_c_wh3_39 (by decide) (by decide) ?_
  refine g_aload_n (pc := 4) W6 d_c_wh3_4 rfl rfl ?_
  refine g_getfield (pc := 5) (i := 0) (j := 0) (host := "") W6 (Or.inl (hw _ (List.mem_of_getElem? (i := 21) rfl))) rfl rfl rfl d_c_wh3_5 (fun T7 W8 => ?_)
  refine g_aload_n (pc := 8) W8 d_c_wh3_8 rfl rfl ?_
  refine g_dup (pc := 9) W8 d_c_wh3_9 rfl ?_
  refine g_getfield (pc := 10) (i := 0) (j := 1) (host := "") W8 (Or.inl (hw _ (List.mem_of_getElem? (i := 23) rfl))) rfl rfl rfl d_c_wh3_10 (fun T9 W10 => ?_)
  refine g_dup_x1 (pc := 13) W10 d_c_wh3_13 rfl rfl ?_
  refine g_iconst (pc := 14) (1 : Int32) (by decide) W10 d_c_wh3_14 ?_
  refine g_iadd (pc := 15) W10 d_c_wh3_15 ?_
  refine g_putfield (pc := 16) (i := 0) (j := 1) (ty := .int) (os' := [(a, (.object "com/example/attestry/attestry/home/ByteCursor"), [.ref b, .int ((K + (1 : Int32)) + (1 : Int32))]), (b, (.array .byte), vs)]) (host := "") W10 (Or.inl (hw _ (List.mem_of_getElem? (i := 23) rfl))) (cls_ByteCursor hw) (Or.inl (hw _ (List.mem_of_getElem? (i := 24) rfl))) (hw _ (List.mem_of_getElem? (i := 14) rfl)) rfl rfl rfl (by decide) rfl rfl rfl d_c_wh3_16 (fun T11 W12 => ?_)
  refine g_baload (pc := 19) (i := 1) (v := .int r1) W12 rfl hi1 hr1 d_c_wh3_19 ?_
  refine g_istore_n (pc := 20) (ls' := #[.val (.ref a), .val (.int ((0 : Int32) ||| ((r0 &&& (127 : Int32)) <<< ((0 : Int32) &&& 31)))), .val (.int (7 : Int32)), .val (.int r1)]) W12 d_c_wh3_20 rfl ?_
  refine g_iload_n (pc := 21) W12 d_c_wh3_21 rfl ?_
  refine g_iload_n (pc := 22) W12 d_c_wh3_22 rfl ?_
  refine g_bipush (pc := 23) (127 : Int32) (by decide) W12 d_c_wh3_23 ?_
  refine g_iand (pc := 25) W12 d_c_wh3_25 ?_
  refine g_iload_n (pc := 26) W12 d_c_wh3_26 rfl ?_
  refine g_ishl (pc := 27) W12 d_c_wh3_27 ?_
  refine g_ior (pc := 28) W12 d_c_wh3_28 ?_
  refine g_istore_n (pc := 29) (ls' := #[.val (.ref a), .val (.int (((0 : Int32) ||| ((r0 &&& (127 : Int32)) <<< ((0 : Int32) &&& 31))) ||| ((r1 &&& (127 : Int32)) <<< ((7 : Int32) &&& 31)))), .val (.int (7 : Int32)), .val (.int r1)]) W12 d_c_wh3_29 rfl ?_
  refine g_iload_n (pc := 30) W12 d_c_wh3_30 rfl ?_
  refine g_ifY 36 (pc := 31) W12 d_c_wh3_31 (by decide) (by decide) (tlt hz1).1 ?_
  refine g_iinc (pc := 36) (ls' := #[.val (.ref a), .val (.int (((0 : Int32) ||| ((r0 &&& (127 : Int32)) <<< ((0 : Int32) &&& 31))) ||| ((r1 &&& (127 : Int32)) <<< ((7 : Int32) &&& 31)))), .val (.int (14 : Int32)), .val (.int r1)]) (7 : Int32) (by decide) W12 d_c_wh3_36 rfl rfl ?_
  refine g_goto 4 (pc := 39) W12 d_c_wh3_39 (by decide) (by decide) ?_
  refine g_aload_n (pc := 4) W12 d_c_wh3_4 rfl rfl ?_
  refine g_getfield (pc := 5) (i := 0) (j := 0) (host := "") W12 (Or.inl (hw _ (List.mem_of_getElem? (i := 21) rfl))) rfl rfl rfl d_c_wh3_5 (fun T13 W14 => ?_)
  refine g_aload_n (pc := 8) W14 d_c_wh3_8 rfl rfl ?_
  refine g_dup (pc := 9) W14 d_c_wh3_9 rfl ?_
  refine g_getfield (pc := 10) (i := 0) (j := 1) (host := "") W14 (Or.inl (hw _ (List.mem_of_getElem? (i := 23) rfl))) rfl rfl rfl d_c_wh3_10 (fun T15 W16 => ?_)
  refine g_dup_x1 (pc := 13) W16 d_c_wh3_13 rfl rfl ?_
  refine g_iconst (pc := 14) (1 : Int32) (by decide) W16 d_c_wh3_14 ?_
  refine g_iadd (pc := 15) W16 d_c_wh3_15 ?_
  refine g_putfield (pc := 16) (i := 0) (j := 1) (ty := .int) (os' := [(a, (.object "com/example/attestry/attestry/home/ByteCursor"), [.ref b, .int (((K + (1 : Int32)) + (1 : Int32)) + (1 : Int32))]), (b, (.array .byte), vs)]) (host := "") W16 (Or.inl (hw _ (List.mem_of_getElem? (i := 23) rfl))) (cls_ByteCursor hw) (Or.inl (hw _ (List.mem_of_getElem? (i := 24) rfl))) (hw _ (List.mem_of_getElem? (i := 14) rfl)) rfl rfl rfl (by decide) rfl rfl rfl d_c_wh3_16 (fun T17 W18 => ?_)
  refine g_baload (pc := 19) (i := 1) (v := .int r2) W18 rfl hi2 hr2 d_c_wh3_19 ?_
  refine g_istore_n (pc := 20) (ls' := #[.val (.ref a), .val (.int (((0 : Int32) ||| ((r0 &&& (127 : Int32)) <<< ((0 : Int32) &&& 31))) ||| ((r1 &&& (127 : Int32)) <<< ((7 : Int32) &&& 31)))), .val (.int (14 : Int32)), .val (.int r2)]) W18 d_c_wh3_20 rfl ?_
  refine g_iload_n (pc := 21) W18 d_c_wh3_21 rfl ?_
  refine g_iload_n (pc := 22) W18 d_c_wh3_22 rfl ?_
  refine g_bipush (pc := 23) (127 : Int32) (by decide) W18 d_c_wh3_23 ?_
  refine g_iand (pc := 25) W18 d_c_wh3_25 ?_
  refine g_iload_n (pc := 26) W18 d_c_wh3_26 rfl ?_
  refine g_ishl (pc := 27) W18 d_c_wh3_27 ?_
  refine g_ior (pc := 28) W18 d_c_wh3_28 ?_
  refine g_istore_n (pc := 29) (ls' := #[.val (.ref a), .val (.int ((((0 : Int32) ||| ((r0 &&& (127 : Int32)) <<< ((0 : Int32) &&& 31))) ||| ((r1 &&& (127 : Int32)) <<< ((7 : Int32) &&& 31))) ||| ((r2 &&& (127 : Int32)) <<< ((14 : Int32) &&& 31)))), .val (.int (14 : Int32)), .val (.int r2)]) W18 d_c_wh3_29 rfl ?_
  refine g_iload_n (pc := 30) W18 d_c_wh3_30 rfl ?_
  refine g_ifN (pc := 31) W18 d_c_wh3_31 (flt hz2).1 ?_
  refine g_iload_n (pc := 34) W18 d_c_wh3_34 rfl ?_
  exact g_ireturn (pc := 35) rfl W18 d_c_wh3_35 (by decide) (by decide) ⟨rfl, rfl⟩
theorem d_c_wr4_0 : decode prog_1_method_7_code 0 = .ok (.iload_n 0, 1) := by decide +kernel
theorem d_c_wr4_1 : decode prog_1_method_7_code 1 = .ok (.bipush (-128), 2) := by decide +kernel
theorem d_c_wr4_3 : decode prog_1_method_7_code 3 = .ok (.iand, 1) := by decide +kernel
theorem d_c_wr4_4 : decode prog_1_method_7_code 4 = .ok (.ifCond .eq 26, 3) := by decide +kernel
theorem d_c_wr4_7 : decode prog_1_method_7_code 7 = .ok (.aload_n 1, 1) := by decide +kernel
theorem d_c_wr4_8 : decode prog_1_method_7_code 8 = .ok (.iload_n 2, 1) := by decide +kernel
theorem d_c_wr4_9 : decode prog_1_method_7_code 9 = .ok (.iinc 2 1, 3) := by decide +kernel
theorem d_c_wr4_12 : decode prog_1_method_7_code 12 = .ok (.iload_n 0, 1) := by decide +kernel
theorem d_c_wr4_13 : decode prog_1_method_7_code 13 = .ok (.bipush 127, 2) := by decide +kernel
theorem d_c_wr4_15 : decode prog_1_method_7_code 15 = .ok (.iand, 1) := by decide +kernel
theorem d_c_wr4_16 : decode prog_1_method_7_code 16 = .ok (.sipush 128, 3) := by decide +kernel
theorem d_c_wr4_19 : decode prog_1_method_7_code 19 = .ok (.ior, 1) := by decide +kernel
theorem d_c_wr4_20 : decode prog_1_method_7_code 20 = .ok (.i2b, 1) := by decide +kernel
theorem d_c_wr4_21 : decode prog_1_method_7_code 21 = .ok (.bastore, 1) := by decide +kernel
theorem d_c_wr4_22 : decode prog_1_method_7_code 22 = .ok (.iload_n 0, 1) := by decide +kernel
theorem d_c_wr4_23 : decode prog_1_method_7_code 23 = .ok (.bipush 7, 2) := by decide +kernel
theorem d_c_wr4_25 : decode prog_1_method_7_code 25 = .ok (.iushr, 1) := by decide +kernel
theorem d_c_wr4_26 : decode prog_1_method_7_code 26 = .ok (.istore_n 0, 1) := by decide +kernel
theorem d_c_wr4_27 : decode prog_1_method_7_code 27 = .ok (.goto (-27), 3) := by decide +kernel
theorem d_c_wr4_30 : decode prog_1_method_7_code 30 = .ok (.aload_n 1, 1) := by decide +kernel
theorem d_c_wr4_31 : decode prog_1_method_7_code 31 = .ok (.iload_n 2, 1) := by decide +kernel
theorem d_c_wr4_32 : decode prog_1_method_7_code 32 = .ok (.iinc 2 1, 3) := by decide +kernel
theorem d_c_wr4_35 : decode prog_1_method_7_code 35 = .ok (.iload_n 0, 1) := by decide +kernel
theorem d_c_wr4_36 : decode prog_1_method_7_code 36 = .ok (.i2b, 1) := by decide +kernel
theorem d_c_wr4_37 : decode prog_1_method_7_code 37 = .ok (.bastore, 1) := by decide +kernel
theorem d_c_wr4_38 : decode prog_1_method_7_code 38 = .ok (.iload_n 2, 1) := by decide +kernel
theorem d_c_wr4_39 : decode prog_1_method_7_code 39 = .ok (.ireturn, 1) := by decide +kernel
set_option maxRecDepth 65536 in
set_option maxHeartbeats 40000000 in
theorem c_wr4 (l : Launch) (Z : State) (a0 : Array Value) (hw : ∀ d ∈ tables_1, d.before a0 Z = true) {B : Nat} (b : Addr) (v K : Int32) (vs : List Value) (j : Nat) (hlen : vs.length = 12) (hj : j + 4 ≤ 12) (hi0 : ¬ K < 0) (hn0 : (K).toNatClampNeg = j + 0) (hi1 : ¬ (K + (1 : Int32)) < 0) (hn1 : ((K + (1 : Int32))).toNatClampNeg = j + 1) (hi2 : ¬ ((K + (1 : Int32)) + (1 : Int32)) < 0) (hn2 : (((K + (1 : Int32)) + (1 : Int32))).toNatClampNeg = j + 2) (hi3 : ¬ (((K + (1 : Int32)) + (1 : Int32)) + (1 : Int32)) < 0) (hn3 : ((((K + (1 : Int32)) + (1 : Int32)) + (1 : Int32))).toNatClampNeg = j + 3) (hz0 : ¬ (v &&& (-128 : Int32)) = (0 : Int32)) (hz1 : ¬ ((XT.ushr v (7 : Int32)) &&& (-128 : Int32)) = (0 : Int32)) (hz2 : ¬ ((XT.ushr (XT.ushr v (7 : Int32)) (7 : Int32)) &&& (-128 : Int32)) = (0 : Int32)) (hz3 : ((XT.ushr (XT.ushr (XT.ushr v (7 : Int32)) (7 : Int32)) (7 : Int32)) &&& (-128 : Int32)) = (0 : Int32)) :
    Con l Z FM B (⟨"com/example/attestry/attestry/home/ByteCursor", "write", "(I[BI)I"⟩ : MethodName) prog_1_method_7_code 3 (some .int) ({ frames := 0, cells := 0, slots := 0, locals := 0 } : Room) [] #[.int v, .ref b, .int K] [(b, (.array .byte), vs)] (fun rv_ ro_ => rv_ = some (.int ((((K + (1 : Int32)) + (1 : Int32)) + (1 : Int32)) + (1 : Int32))) ∧ ro_ = [(b, (.array .byte), ((((vs.set (j + 0) (.int ((v &&& (127 : Int32)) ||| (128 : Int32)).toInt8.toInt32)).set (j + 1) (.int (((XT.ushr v (7 : Int32)) &&& (127 : Int32)) ||| (128 : Int32)).toInt8.toInt32)).set (j + 2) (.int (((XT.ushr (XT.ushr v (7 : Int32)) (7 : Int32)) &&& (127 : Int32)) ||| (128 : Int32)).toInt8.toInt32)).set (j + 3) (.int (XT.ushr (XT.ushr (XT.ushr v (7 : Int32)) (7 : Int32)) (7 : Int32)).toInt8.toInt32)))]) := by
  refine Con.of (plainFor_of_name (by first | (simp [plainName, overriddenIn]; done) | decide +kernel)) (ls := #[.val (.int v), .val (.ref b), .val (.int K)]) (fun m => by first | (simp [entryFrame, mkF, argsToLocals, Value.category]; done) | rfl) ?_
  intro p_ e_ h_ s_ m_ bl_ me_ c_ T0 W0
  refine g_iload_n (pc := 0) W0 d_c_wr4_0 rfl ?_
  refine g_bipush (pc := 1) (-128 : Int32) (by decide) W0 d_c_wr4_1 ?_
  refine g_iand (pc := 3) W0 d_c_wr4_3 ?_
  refine g_ifN (pc := 4) W0 d_c_wr4_4 (feq hz0).1 ?_
  refine g_aload_n (pc := 7) W0 d_c_wr4_7 rfl rfl ?_
  refine g_iload_n (pc := 8) W0 d_c_wr4_8 rfl ?_
  refine g_iinc (pc := 9) (ls' := #[.val (.int v), .val (.ref b), .val (.int (K + (1 : Int32)))]) (1 : Int32) (by decide) W0 d_c_wr4_9 rfl rfl ?_
  refine g_iload_n (pc := 12) W0 d_c_wr4_12 rfl ?_
  refine g_bipush (pc := 13) (127 : Int32) (by decide) W0 d_c_wr4_13 ?_
  refine g_iand (pc := 15) W0 d_c_wr4_15 ?_
  refine g_sipush (pc := 16) (128 : Int32) (by decide) W0 d_c_wr4_16 ?_
  refine g_ior (pc := 19) W0 d_c_wr4_19 ?_
  refine g_i2b (pc := 20) W0 d_c_wr4_20 ?_
  refine g_bastore (pc := 21) (i := 0) (os' := [(b, (.array .byte), (vs.set (j + 0) (.int ((v &&& (127 : Int32)) ||| (128 : Int32)).toInt8.toInt32)))]) (x' := ((v &&& (127 : Int32)) ||| (128 : Int32)).toInt8.toInt32) (own_bb _) (j + 0) W0 rfl hi0 hn0 (by simp only [List.length_set, hlen]; omega) rfl d_c_wr4_21 (fun T1 W2 => ?_)
  refine g_iload_n (pc := 22) W2 d_c_wr4_22 rfl ?_
  refine g_bipush (pc := 23) (7 : Int32) (by decide) W2 d_c_wr4_23 ?_
  refine g_iushr (pc := 25) W2 d_c_wr4_25 ?_
  refine g_istore_n (pc := 26) (ls' := #[.val (.int (XT.ushr v (7 : Int32))), .val (.ref b), .val (.int (K + (1 : Int32)))]) W2 d_c_wr4_26 rfl ?_
  refine g_goto 0 (pc := 27) W2 d_c_wr4_27 (by decide) (by decide) ?_
  refine g_iload_n (pc := 0) W2 d_c_wr4_0 rfl ?_
  refine g_bipush (pc := 1) (-128 : Int32) (by decide) W2 d_c_wr4_1 ?_
  refine g_iand (pc := 3) W2 d_c_wr4_3 ?_
  refine g_ifN (pc := 4) W2 d_c_wr4_4 (feq hz1).1 ?_
  refine g_aload_n (pc := 7) W2 d_c_wr4_7 rfl rfl ?_
  refine g_iload_n (pc := 8) W2 d_c_wr4_8 rfl ?_
  refine g_iinc (pc := 9) (ls' := #[.val (.int (XT.ushr v (7 : Int32))), .val (.ref b), .val (.int ((K + (1 : Int32)) + (1 : Int32)))]) (1 : Int32) (by decide) W2 d_c_wr4_9 rfl rfl ?_
  refine g_iload_n (pc := 12) W2 d_c_wr4_12 rfl ?_
  refine g_bipush (pc := 13) (127 : Int32) (by decide) W2 d_c_wr4_13 ?_
  refine g_iand (pc := 15) W2 d_c_wr4_15 ?_
  refine g_sipush (pc := 16) (128 : Int32) (by decide) W2 d_c_wr4_16 ?_
  refine g_ior (pc := 19) W2 d_c_wr4_19 ?_
  refine g_i2b (pc := 20) W2 d_c_wr4_20 ?_
  refine g_bastore (pc := 21) (i := 0) (os' := [(b, (.array .byte), ((vs.set (j + 0) (.int ((v &&& (127 : Int32)) ||| (128 : Int32)).toInt8.toInt32)).set (j + 1) (.int (((XT.ushr v (7 : Int32)) &&& (127 : Int32)) ||| (128 : Int32)).toInt8.toInt32)))]) (x' := (((XT.ushr v (7 : Int32)) &&& (127 : Int32)) ||| (128 : Int32)).toInt8.toInt32) (own_bb _) (j + 1) W2 rfl hi1 hn1 (by simp only [List.length_set, hlen]; omega) rfl d_c_wr4_21 (fun T3 W4 => ?_)
  refine g_iload_n (pc := 22) W4 d_c_wr4_22 rfl ?_
  refine g_bipush (pc := 23) (7 : Int32) (by decide) W4 d_c_wr4_23 ?_
  refine g_iushr (pc := 25) W4 d_c_wr4_25 ?_
  refine g_istore_n (pc := 26) (ls' := #[.val (.int (XT.ushr (XT.ushr v (7 : Int32)) (7 : Int32))), .val (.ref b), .val (.int ((K + (1 : Int32)) + (1 : Int32)))]) W4 d_c_wr4_26 rfl ?_
  refine g_goto 0 (pc := 27) W4 d_c_wr4_27 (by decide) (by decide) ?_
  refine g_iload_n (pc := 0) W4 d_c_wr4_0 rfl ?_
  refine g_bipush (pc := 1) (-128 : Int32) (by decide) W4 d_c_wr4_1 ?_
  refine g_iand (pc := 3) W4 d_c_wr4_3 ?_
  refine g_ifN (pc := 4) W4 d_c_wr4_4 (feq hz2).1 ?_
  refine g_aload_n (pc := 7) W4 d_c_wr4_7 rfl rfl ?_
  refine g_iload_n (pc := 8) W4 d_c_wr4_8 rfl ?_
  refine g_iinc (pc := 9) (ls' := #[.val (.int (XT.ushr (XT.ushr v (7 : Int32)) (7 : Int32))), .val (.ref b), .val (.int (((K + (1 : Int32)) + (1 : Int32)) + (1 : Int32)))]) (1 : Int32) (by decide) W4 d_c_wr4_9 rfl rfl ?_
  refine g_iload_n (pc := 12) W4 d_c_wr4_12 rfl ?_
  refine g_bipush (pc := 13) (127 : Int32) (by decide) W4 d_c_wr4_13 ?_
  refine g_iand (pc := 15) W4 d_c_wr4_15 ?_
  refine g_sipush (pc := 16) (128 : Int32) (by decide) W4 d_c_wr4_16 ?_
  refine g_ior (pc := 19) W4 d_c_wr4_19 ?_
  refine g_i2b (pc := 20) W4 d_c_wr4_20 ?_
  refine g_bastore (pc := 21) (i := 0) (os' := [(b, (.array .byte), (((vs.set (j + 0) (.int ((v &&& (127 : Int32)) ||| (128 : Int32)).toInt8.toInt32)).set (j + 1) (.int (((XT.ushr v (7 : Int32)) &&& (127 : Int32)) ||| (128 : Int32)).toInt8.toInt32)).set (j + 2) (.int (((XT.ushr (XT.ushr v (7 : Int32)) (7 : Int32)) &&& (127 : Int32)) ||| (128 : Int32)).toInt8.toInt32)))]) (x' := (((XT.ushr (XT.ushr v (7 : Int32)) (7 : Int32)) &&& (127 : Int32)) ||| (128 : Int32)).toInt8.toInt32) (own_bb _) (j + 2) W4 rfl hi2 hn2 (by simp only [List.length_set, hlen]; omega) rfl d_c_wr4_21 (fun T5 W6 => ?_)
  refine g_iload_n (pc := 22) W6 d_c_wr4_22 rfl ?_
  refine g_bipush (pc := 23) (7 : Int32) (by decide) W6 d_c_wr4_23 ?_
  refine g_iushr (pc := 25) W6 d_c_wr4_25 ?_
  refine g_istore_n (pc := 26) (ls' := #[.val (.int (XT.ushr (XT.ushr (XT.ushr v (7 : Int32)) (7 : Int32)) (7 : Int32))), .val (.ref b), .val (.int (((K + (1 : Int32)) + (1 : Int32)) + (1 : Int32)))]) W6 d_c_wr4_26 rfl ?_
  refine g_goto 0 (pc := 27) W6 d_c_wr4_27 (by decide) (by decide) ?_
  refine g_iload_n (pc := 0) W6 d_c_wr4_0 rfl ?_
  refine g_bipush (pc := 1) (-128 : Int32) (by decide) W6 d_c_wr4_1 ?_
  refine g_iand (pc := 3) W6 d_c_wr4_3 ?_
  refine g_ifY 30 (pc := 4) W6 d_c_wr4_4 (by decide) (by decide) (teq hz3).1 ?_
  refine g_aload_n (pc := 30) W6 d_c_wr4_30 rfl rfl ?_
  refine g_iload_n (pc := 31) W6 d_c_wr4_31 rfl ?_
  refine g_iinc (pc := 32) (ls' := #[.val (.int (XT.ushr (XT.ushr (XT.ushr v (7 : Int32)) (7 : Int32)) (7 : Int32))), .val (.ref b), .val (.int ((((K + (1 : Int32)) + (1 : Int32)) + (1 : Int32)) + (1 : Int32)))]) (1 : Int32) (by decide) W6 d_c_wr4_32 rfl rfl ?_
  refine g_iload_n (pc := 35) W6 d_c_wr4_35 rfl ?_
  refine g_i2b (pc := 36) W6 d_c_wr4_36 ?_
  refine g_bastore (pc := 37) (i := 0) (os' := [(b, (.array .byte), ((((vs.set (j + 0) (.int ((v &&& (127 : Int32)) ||| (128 : Int32)).toInt8.toInt32)).set (j + 1) (.int (((XT.ushr v (7 : Int32)) &&& (127 : Int32)) ||| (128 : Int32)).toInt8.toInt32)).set (j + 2) (.int (((XT.ushr (XT.ushr v (7 : Int32)) (7 : Int32)) &&& (127 : Int32)) ||| (128 : Int32)).toInt8.toInt32)).set (j + 3) (.int (XT.ushr (XT.ushr (XT.ushr v (7 : Int32)) (7 : Int32)) (7 : Int32)).toInt8.toInt32)))]) (x' := (XT.ushr (XT.ushr (XT.ushr v (7 : Int32)) (7 : Int32)) (7 : Int32)).toInt8.toInt32) (own_bb _) (j + 3) W6 rfl hi3 hn3 (by simp only [List.length_set, hlen]; omega) rfl d_c_wr4_37 (fun T7 W8 => ?_)
  refine g_iload_n (pc := 38) W8 d_c_wr4_38 rfl ?_
  exact g_ireturn (pc := 39) rfl W8 d_c_wr4_39 (by decide) (by decide) ⟨rfl, rfl⟩
theorem d_c_wh4_0 : decode prog_1_method_6_code 0 = .ok (.iconst 0, 1) := by decide +kernel
theorem d_c_wh4_1 : decode prog_1_method_6_code 1 = .ok (.istore_n 1, 1) := by decide +kernel
theorem d_c_wh4_2 : decode prog_1_method_6_code 2 = .ok (.iconst 0, 1) := by decide +kernel
theorem d_c_wh4_3 : decode prog_1_method_6_code 3 = .ok (.istore_n 2, 1) := by decide +kernel
theorem d_c_wh4_4 : decode prog_1_method_6_code 4 = .ok (.aload_n 0, 1) := by decide +kernel
theorem d_c_wh4_5 : decode prog_1_method_6_code 5 = .ok (.getfield 7, 3) := by decide +kernel
theorem d_c_wh4_8 : decode prog_1_method_6_code 8 = .ok (.aload_n 0, 1) := by decide +kernel
theorem d_c_wh4_9 : decode prog_1_method_6_code 9 = .ok (.dup, 1) := by decide +kernel
theorem d_c_wh4_10 : decode prog_1_method_6_code 10 = .ok (.getfield 13, 3) := by decide +kernel
theorem d_c_wh4_13 : decode prog_1_method_6_code 13 = .ok (.dup_x1, 1) := by decide +kernel
theorem d_c_wh4_14 : decode prog_1_method_6_code 14 = .ok (.iconst 1, 1) := by decide +kernel
theorem d_c_wh4_15 : decode prog_1_method_6_code 15 = .ok (.iadd, 1) := by decide +kernel
theorem d_c_wh4_16 : decode prog_1_method_6_code 16 = .ok (.putfield 13, 3) := by decide +kernel
theorem d_c_wh4_19 : decode prog_1_method_6_code 19 = .ok (.baload, 1) := by decide +kernel
theorem d_c_wh4_20 : decode prog_1_method_6_code 20 = .ok (.istore_n 3, 1) := by decide +kernel
theorem d_c_wh4_21 : decode prog_1_method_6_code 21 = .ok (.iload_n 1, 1) := by decide +kernel
theorem d_c_wh4_22 : decode prog_1_method_6_code 22 = .ok (.iload_n 3, 1) := by decide +kernel
theorem d_c_wh4_23 : decode prog_1_method_6_code 23 = .ok (.bipush 127, 2) := by decide +kernel
theorem d_c_wh4_25 : decode prog_1_method_6_code 25 = .ok (.iand, 1) := by decide +kernel
theorem d_c_wh4_26 : decode prog_1_method_6_code 26 = .ok (.iload_n 2, 1) := by decide +kernel
theorem d_c_wh4_27 : decode prog_1_method_6_code 27 = .ok (.ishl, 1) := by decide +kernel
theorem d_c_wh4_28 : decode prog_1_method_6_code 28 = .ok (.ior, 1) := by decide +kernel
theorem d_c_wh4_29 : decode prog_1_method_6_code 29 = .ok (.istore_n 1, 1) := by decide +kernel
theorem d_c_wh4_30 : decode prog_1_method_6_code 30 = .ok (.iload_n 3, 1) := by decide +kernel
theorem d_c_wh4_31 : decode prog_1_method_6_code 31 = .ok (.ifCond .lt 5, 3) := by decide +kernel
theorem d_c_wh4_34 : decode prog_1_method_6_code 34 = .ok (.iload_n 1, 1) := by decide +kernel
theorem d_c_wh4_35 : decode prog_1_method_6_code 35 = .ok (.ireturn, 1) := by decide +kernel
theorem d_c_wh4_36 : decode prog_1_method_6_code 36 = .ok (.iinc 2 7, 3) := by decide +kernel
theorem d_c_wh4_39 : decode prog_1_method_6_code 39 = .ok (.goto (-35), 3) := by decide +kernel
set_option maxRecDepth 65536 in
set_option maxHeartbeats 40000000 in
theorem c_wh4 (l : Launch) (Z : State) (a0 : Array Value) (hw : ∀ d ∈ tables_1, d.before a0 Z = true) {B : Nat} (a b : Addr) (K : Int32) (vs : List Value) (r0 r1 r2 r3 : Int32) (hi0 : ¬ K < 0) (hr0 : vs[(K).toNatClampNeg]? = some (.int r0)) (hi1 : ¬ (K + (1 : Int32)) < 0) (hr1 : vs[((K + (1 : Int32))).toNatClampNeg]? = some (.int r1)) (hi2 : ¬ ((K + (1 : Int32)) + (1 : Int32)) < 0) (hr2 : vs[(((K + (1 : Int32)) + (1 : Int32))).toNatClampNeg]? = some (.int r2)) (hi3 : ¬ (((K + (1 : Int32)) + (1 : Int32)) + (1 : Int32)) < 0) (hr3 : vs[((((K + (1 : Int32)) + (1 : Int32)) + (1 : Int32))).toNatClampNeg]? = some (.int r3)) (hz0 : r0 < 0) (hz1 : r1 < 0) (hz2 : r2 < 0) (hz3 : ¬ r3 < 0) :
    Con l Z FM B (⟨"com/example/attestry/attestry/home/ByteCursor", "whole", "()I"⟩ : MethodName) prog_1_method_6_code 4 (some .int) ({ frames := 0, cells := 0, slots := 0, locals := 0 } : Room) [] #[.ref a] [(a, (.object "com/example/attestry/attestry/home/ByteCursor"), [.ref b, .int K]), (b, (.array .byte), vs)] (fun rv_ ro_ => rv_ = some (.int (((((0 : Int32) ||| ((r0 &&& (127 : Int32)) <<< ((0 : Int32) &&& 31))) ||| ((r1 &&& (127 : Int32)) <<< ((7 : Int32) &&& 31))) ||| ((r2 &&& (127 : Int32)) <<< ((14 : Int32) &&& 31))) ||| ((r3 &&& (127 : Int32)) <<< ((21 : Int32) &&& 31)))) ∧ ro_ = [(a, (.object "com/example/attestry/attestry/home/ByteCursor"), [.ref b, .int ((((K + (1 : Int32)) + (1 : Int32)) + (1 : Int32)) + (1 : Int32))]), (b, (.array .byte), vs)]) := by
  refine Con.of (plainFor_of_name (by first | (simp [plainName, overriddenIn]; done) | decide +kernel)) (ls := #[.val (.ref a), .unset, .unset, .unset]) (fun m => by first | (simp [entryFrame, mkF, argsToLocals, Value.category]; done) | rfl) ?_
  intro p_ e_ h_ s_ m_ bl_ me_ c_ T0 W0
  refine g_iconst (pc := 0) (0 : Int32) (by decide) W0 d_c_wh4_0 ?_
  refine g_istore_n (pc := 1) (ls' := #[.val (.ref a), .val (.int (0 : Int32)), .unset, .unset]) W0 d_c_wh4_1 rfl ?_
  refine g_iconst (pc := 2) (0 : Int32) (by decide) W0 d_c_wh4_2 ?_
  refine g_istore_n (pc := 3) (ls' := #[.val (.ref a), .val (.int (0 : Int32)), .val (.int (0 : Int32)), .unset]) W0 d_c_wh4_3 rfl ?_
  refine g_aload_n (pc := 4) W0 d_c_wh4_4 rfl rfl ?_
  refine g_getfield (pc := 5) (i := 0) (j := 0) (host := "") W0 (Or.inl (hw _ (List.mem_of_getElem? (i := 21) rfl))) rfl rfl rfl d_c_wh4_5 (fun T1 W2 => ?_)
  refine g_aload_n (pc := 8) W2 d_c_wh4_8 rfl rfl ?_
  refine g_dup (pc := 9) W2 d_c_wh4_9 rfl ?_
  refine g_getfield (pc := 10) (i := 0) (j := 1) (host := "") W2 (Or.inl (hw _ (List.mem_of_getElem? (i := 23) rfl))) rfl rfl rfl d_c_wh4_10 (fun T3 W4 => ?_)
  refine g_dup_x1 (pc := 13) W4 d_c_wh4_13 rfl rfl ?_
  refine g_iconst (pc := 14) (1 : Int32) (by decide) W4 d_c_wh4_14 ?_
  refine g_iadd (pc := 15) W4 d_c_wh4_15 ?_
  refine g_putfield (pc := 16) (i := 0) (j := 1) (ty := .int) (os' := [(a, (.object "com/example/attestry/attestry/home/ByteCursor"), [.ref b, .int (K + (1 : Int32))]), (b, (.array .byte), vs)]) (host := "") W4 (Or.inl (hw _ (List.mem_of_getElem? (i := 23) rfl))) (cls_ByteCursor hw) (Or.inl (hw _ (List.mem_of_getElem? (i := 24) rfl))) (hw _ (List.mem_of_getElem? (i := 14) rfl)) rfl rfl rfl (by decide) rfl rfl rfl d_c_wh4_16 (fun T5 W6 => ?_)
  refine g_baload (pc := 19) (i := 1) (v := .int r0) W6 rfl hi0 hr0 d_c_wh4_19 ?_
  refine g_istore_n (pc := 20) (ls' := #[.val (.ref a), .val (.int (0 : Int32)), .val (.int (0 : Int32)), .val (.int r0)]) W6 d_c_wh4_20 rfl ?_
  refine g_iload_n (pc := 21) W6 d_c_wh4_21 rfl ?_
  refine g_iload_n (pc := 22) W6 d_c_wh4_22 rfl ?_
  refine g_bipush (pc := 23) (127 : Int32) (by decide) W6 d_c_wh4_23 ?_
  refine g_iand (pc := 25) W6 d_c_wh4_25 ?_
  refine g_iload_n (pc := 26) W6 d_c_wh4_26 rfl ?_
  refine g_ishl (pc := 27) W6 d_c_wh4_27 ?_
  refine g_ior (pc := 28) W6 d_c_wh4_28 ?_
  refine g_istore_n (pc := 29) (ls' := #[.val (.ref a), .val (.int ((0 : Int32) ||| ((r0 &&& (127 : Int32)) <<< ((0 : Int32) &&& 31)))), .val (.int (0 : Int32)), .val (.int r0)]) W6 d_c_wh4_29 rfl ?_
  refine g_iload_n (pc := 30) W6 d_c_wh4_30 rfl ?_
  refine g_ifY 36 (pc := 31) W6 d_c_wh4_31 (by decide) (by decide) (tlt hz0).1 ?_
  refine g_iinc (pc := 36) (ls' := #[.val (.ref a), .val (.int ((0 : Int32) ||| ((r0 &&& (127 : Int32)) <<< ((0 : Int32) &&& 31)))), .val (.int (7 : Int32)), .val (.int r0)]) (7 : Int32) (by decide) W6 d_c_wh4_36 rfl rfl ?_
  refine g_goto 4 (pc := 39) W6 d_c_wh4_39 (by decide) (by decide) ?_
  refine g_aload_n (pc := 4) W6 d_c_wh4_4 rfl rfl ?_
  refine g_getfield (pc := 5) (i := 0) (j := 0) (host := "") W6 (Or.inl (hw _ (List.mem_of_getElem? (i := 21) rfl))) rfl rfl rfl d_c_wh4_5 (fun T7 W8 => ?_)
  refine g_aload_n (pc := 8) W8 d_c_wh4_8 rfl rfl ?_
  refine g_dup (pc := 9) W8 d_c_wh4_9 rfl ?_
  refine g_getfield (pc := 10) (i := 0) (j := 1) (host := "") W8 (Or.inl (hw _ (List.mem_of_getElem? (i := 23) rfl))) rfl rfl rfl d_c_wh4_10 (fun T9 W10 => ?_)
  refine g_dup_x1 (pc := 13) W10 d_c_wh4_13 rfl rfl ?_
  refine g_iconst (pc := 14) (1 : Int32) (by decide) W10 d_c_wh4_14 ?_
  refine g_iadd (pc := 15) W10 d_c_wh4_15 ?_
  refine g_putfield (pc := 16) (i := 0) (j := 1) (ty := .int) (os' := [(a, (.object "com/example/attestry/attestry/home/ByteCursor"), [.ref b, .int ((K + (1 : Int32)) + (1 : Int32))]), (b, (.array .byte), vs)]) (host := "") W10 (Or.inl (hw _ (List.mem_of_getElem? (i := 23) rfl))) (cls_ByteCursor hw) (Or.inl (hw _ (List.mem_of_getElem? (i := 24) rfl))) (hw _ (List.mem_of_getElem? (i := 14) rfl)) rfl rfl rfl (by decide) rfl rfl rfl d_c_wh4_16 (fun T11 W12 => ?_)
  refine g_baload (pc := 19) (i := 1) (v := .int r1) W12 rfl hi1 hr1 d_c_wh4_19 ?_
  refine g_istore_n (pc := 20) (ls' := #[.val (.ref a), .val (.int ((0 : Int32) ||| ((r0 &&& (127 : Int32)) <<< ((0 : Int32) &&& 31)))), .val (.int (7 : Int32)), .val (.int r1)]) W12 d_c_wh4_20 rfl ?_
  refine g_iload_n (pc := 21) W12 d_c_wh4_21 rfl ?_
  refine g_iload_n (pc := 22) W12 d_c_wh4_22 rfl ?_
  refine g_bipush (pc := 23) (127 : Int32) (by decide) W12 d_c_wh4_23 ?_
  refine g_iand (pc := 25) W12 d_c_wh4_25 ?_
  refine g_iload_n (pc := 26) W12 d_c_wh4_26 rfl ?_
  refine g_ishl (pc := 27) W12 d_c_wh4_27 ?_
  refine g_ior (pc := 28) W12 d_c_wh4_28 ?_
  refine g_istore_n (pc := 29) (ls' := #[.val (.ref a), .val (.int (((0 : Int32) ||| ((r0 &&& (127 : Int32)) <<< ((0 : Int32) &&& 31))) ||| ((r1 &&& (127 : Int32)) <<< ((7 : Int32) &&& 31)))), .val (.int (7 : Int32)), .val (.int r1)]) W12 d_c_wh4_29 rfl ?_
  refine g_iload_n (pc := 30) W12 d_c_wh4_30 rfl ?_
  refine g_ifY 36 (pc := 31) W12 d_c_wh4_31 (by decide) (by decide) (tlt hz1).1 ?_
  refine g_iinc (pc := 36) (ls' := #[.val (.ref a), .val (.int (((0 : Int32) ||| ((r0 &&& (127 : Int32)) <<< ((0 : Int32) &&& 31))) ||| ((r1 &&& (127 : Int32)) <<< ((7 : Int32) &&& 31)))), .val (.int (14 : Int32)), .val (.int r1)]) (7 : Int32) (by decide) W12 d_c_wh4_36 rfl rfl ?_
  refine g_goto 4 (pc := 39) W12 d_c_wh4_39 (by decide) (by decide) ?_
  refine g_aload_n (pc := 4) W12 d_c_wh4_4 rfl rfl ?_
  refine g_getfield (pc := 5) (i := 0) (j := 0) (host := "") W12 (Or.inl (hw _ (List.mem_of_getElem? (i := 21) rfl))) rfl rfl rfl d_c_wh4_5 (fun T13 W14 => ?_)
  refine g_aload_n (pc := 8) W14 d_c_wh4_8 rfl rfl ?_
  refine g_dup (pc := 9) W14 d_c_wh4_9 rfl ?_
  refine g_getfield (pc := 10) (i := 0) (j := 1) (host := "") W14 (Or.inl (hw _ (List.mem_of_getElem? (i := 23) rfl))) rfl rfl rfl d_c_wh4_10 (fun T15 W16 => ?_)
  refine g_dup_x1 (pc := 13) W16 d_c_wh4_13 rfl rfl ?_
  refine g_iconst (pc := 14) (1 : Int32) (by decide) W16 d_c_wh4_14 ?_
  refine g_iadd (pc := 15) W16 d_c_wh4_15 ?_
  refine g_putfield (pc := 16) (i := 0) (j := 1) (ty := .int) (os' := [(a, (.object "com/example/attestry/attestry/home/ByteCursor"), [.ref b, .int (((K + (1 : Int32)) + (1 : Int32)) + (1 : Int32))]), (b, (.array .byte), vs)]) (host := "") W16 (Or.inl (hw _ (List.mem_of_getElem? (i := 23) rfl))) (cls_ByteCursor hw) (Or.inl (hw _ (List.mem_of_getElem? (i := 24) rfl))) (hw _ (List.mem_of_getElem? (i := 14) rfl)) rfl rfl rfl (by decide) rfl rfl rfl d_c_wh4_16 (fun T17 W18 => ?_)
  refine g_baload (pc := 19) (i := 1) (v := .int r2) W18 rfl hi2 hr2 d_c_wh4_19 ?_
  refine g_istore_n (pc := 20) (ls' := #[.val (.ref a), .val (.int (((0 : Int32) ||| ((r0 &&& (127 : Int32)) <<< ((0 : Int32) &&& 31))) ||| ((r1 &&& (127 : Int32)) <<< ((7 : Int32) &&& 31)))), .val (.int (14 : Int32)), .val (.int r2)]) W18 d_c_wh4_20 rfl ?_
  refine g_iload_n (pc := 21) W18 d_c_wh4_21 rfl ?_
  refine g_iload_n (pc := 22) W18 d_c_wh4_22 rfl ?_
  refine g_bipush (pc := 23) (127 : Int32) (by decide) W18 d_c_wh4_23 ?_
  refine g_iand (pc := 25) W18 d_c_wh4_25 ?_
  refine g_iload_n (pc := 26) W18 d_c_wh4_26 rfl ?_
  refine g_ishl (pc := 27) W18 d_c_wh4_27 ?_
  refine g_ior (pc := 28) W18 d_c_wh4_28 ?_
  refine g_istore_n (pc := 29) (ls' := #[.val (.ref a), .val (.int ((((0 : Int32) ||| ((r0 &&& (127 : Int32)) <<< ((0 : Int32) &&& 31))) ||| ((r1 &&& (127 : Int32)) <<< ((7 : Int32) &&& 31))) ||| ((r2 &&& (127 : Int32)) <<< ((14 : Int32) &&& 31)))), .val (.int (14 : Int32)), .val (.int r2)]) W18 d_c_wh4_29 rfl ?_
  refine g_iload_n (pc := 30) W18 d_c_wh4_30 rfl ?_
  refine g_ifY 36 (pc := 31) W18 d_c_wh4_31 (by decide) (by decide) (tlt hz2).1 ?_
  refine g_iinc (pc := 36) (ls' := #[.val (.ref a), .val (.int ((((0 : Int32) ||| ((r0 &&& (127 : Int32)) <<< ((0 : Int32) &&& 31))) ||| ((r1 &&& (127 : Int32)) <<< ((7 : Int32) &&& 31))) ||| ((r2 &&& (127 : Int32)) <<< ((14 : Int32) &&& 31)))), .val (.int (21 : Int32)), .val (.int r2)]) (7 : Int32) (by decide) W18 d_c_wh4_36 rfl rfl ?_
  refine g_goto 4 (pc := 39) W18 d_c_wh4_39 (by decide) (by decide) ?_
  refine g_aload_n (pc := 4) W18 d_c_wh4_4 rfl rfl ?_
  refine g_getfield (pc := 5) (i := 0) (j := 0) (host := "") W18 (Or.inl (hw _ (List.mem_of_getElem? (i := 21) rfl))) rfl rfl rfl d_c_wh4_5 (fun T19 W20 => ?_)
  refine g_aload_n (pc := 8) W20 d_c_wh4_8 rfl rfl ?_
  refine g_dup (pc := 9) W20 d_c_wh4_9 rfl ?_
  refine g_getfield (pc := 10) (i := 0) (j := 1) (host := "") W20 (Or.inl (hw _ (List.mem_of_getElem? (i := 23) rfl))) rfl rfl rfl d_c_wh4_10 (fun T21 W22 => ?_)
  refine g_dup_x1 (pc := 13) W22 d_c_wh4_13 rfl rfl ?_
  refine g_iconst (pc := 14) (1 : Int32) (by decide) W22 d_c_wh4_14 ?_
  refine g_iadd (pc := 15) W22 d_c_wh4_15 ?_
  refine g_putfield (pc := 16) (i := 0) (j := 1) (ty := .int) (os' := [(a, (.object "com/example/attestry/attestry/home/ByteCursor"), [.ref b, .int ((((K + (1 : Int32)) + (1 : Int32)) + (1 : Int32)) + (1 : Int32))]), (b, (.array .byte), vs)]) (host := "") W22 (Or.inl (hw _ (List.mem_of_getElem? (i := 23) rfl))) (cls_ByteCursor hw) (Or.inl (hw _ (List.mem_of_getElem? (i := 24) rfl))) (hw _ (List.mem_of_getElem? (i := 14) rfl)) rfl rfl rfl (by decide) rfl rfl rfl d_c_wh4_16 (fun T23 W24 => ?_)
  refine g_baload (pc := 19) (i := 1) (v := .int r3) W24 rfl hi3 hr3 d_c_wh4_19 ?_
  refine g_istore_n (pc := 20) (ls' := #[.val (.ref a), .val (.int ((((0 : Int32) ||| ((r0 &&& (127 : Int32)) <<< ((0 : Int32) &&& 31))) ||| ((r1 &&& (127 : Int32)) <<< ((7 : Int32) &&& 31))) ||| ((r2 &&& (127 : Int32)) <<< ((14 : Int32) &&& 31)))), .val (.int (21 : Int32)), .val (.int r3)]) W24 d_c_wh4_20 rfl ?_
  refine g_iload_n (pc := 21) W24 d_c_wh4_21 rfl ?_
  refine g_iload_n (pc := 22) W24 d_c_wh4_22 rfl ?_
  refine g_bipush (pc := 23) (127 : Int32) (by decide) W24 d_c_wh4_23 ?_
  refine g_iand (pc := 25) W24 d_c_wh4_25 ?_
  refine g_iload_n (pc := 26) W24 d_c_wh4_26 rfl ?_
  refine g_ishl (pc := 27) W24 d_c_wh4_27 ?_
  refine g_ior (pc := 28) W24 d_c_wh4_28 ?_
  refine g_istore_n (pc := 29) (ls' := #[.val (.ref a), .val (.int (((((0 : Int32) ||| ((r0 &&& (127 : Int32)) <<< ((0 : Int32) &&& 31))) ||| ((r1 &&& (127 : Int32)) <<< ((7 : Int32) &&& 31))) ||| ((r2 &&& (127 : Int32)) <<< ((14 : Int32) &&& 31))) ||| ((r3 &&& (127 : Int32)) <<< ((21 : Int32) &&& 31)))), .val (.int (21 : Int32)), .val (.int r3)]) W24 d_c_wh4_29 rfl ?_
  refine g_iload_n (pc := 30) W24 d_c_wh4_30 rfl ?_
  refine g_ifN (pc := 31) W24 d_c_wh4_31 (flt hz3).1 ?_
  refine g_iload_n (pc := 34) W24 d_c_wh4_34 rfl ?_
  exact g_ireturn (pc := 35) rfl W24 d_c_wh4_35 (by decide) (by decide) ⟨rfl, rfl⟩
theorem d_c_wr5_0 : decode prog_1_method_7_code 0 = .ok (.iload_n 0, 1) := by decide +kernel
theorem d_c_wr5_1 : decode prog_1_method_7_code 1 = .ok (.bipush (-128), 2) := by decide +kernel
theorem d_c_wr5_3 : decode prog_1_method_7_code 3 = .ok (.iand, 1) := by decide +kernel
theorem d_c_wr5_4 : decode prog_1_method_7_code 4 = .ok (.ifCond .eq 26, 3) := by decide +kernel
theorem d_c_wr5_7 : decode prog_1_method_7_code 7 = .ok (.aload_n 1, 1) := by decide +kernel
theorem d_c_wr5_8 : decode prog_1_method_7_code 8 = .ok (.iload_n 2, 1) := by decide +kernel
theorem d_c_wr5_9 : decode prog_1_method_7_code 9 = .ok (.iinc 2 1, 3) := by decide +kernel
theorem d_c_wr5_12 : decode prog_1_method_7_code 12 = .ok (.iload_n 0, 1) := by decide +kernel
theorem d_c_wr5_13 : decode prog_1_method_7_code 13 = .ok (.bipush 127, 2) := by decide +kernel
theorem d_c_wr5_15 : decode prog_1_method_7_code 15 = .ok (.iand, 1) := by decide +kernel
theorem d_c_wr5_16 : decode prog_1_method_7_code 16 = .ok (.sipush 128, 3) := by decide +kernel
theorem d_c_wr5_19 : decode prog_1_method_7_code 19 = .ok (.ior, 1) := by decide +kernel
theorem d_c_wr5_20 : decode prog_1_method_7_code 20 = .ok (.i2b, 1) := by decide +kernel
theorem d_c_wr5_21 : decode prog_1_method_7_code 21 = .ok (.bastore, 1) := by decide +kernel
theorem d_c_wr5_22 : decode prog_1_method_7_code 22 = .ok (.iload_n 0, 1) := by decide +kernel
theorem d_c_wr5_23 : decode prog_1_method_7_code 23 = .ok (.bipush 7, 2) := by decide +kernel
theorem d_c_wr5_25 : decode prog_1_method_7_code 25 = .ok (.iushr, 1) := by decide +kernel
theorem d_c_wr5_26 : decode prog_1_method_7_code 26 = .ok (.istore_n 0, 1) := by decide +kernel
theorem d_c_wr5_27 : decode prog_1_method_7_code 27 = .ok (.goto (-27), 3) := by decide +kernel
theorem d_c_wr5_30 : decode prog_1_method_7_code 30 = .ok (.aload_n 1, 1) := by decide +kernel
theorem d_c_wr5_31 : decode prog_1_method_7_code 31 = .ok (.iload_n 2, 1) := by decide +kernel
theorem d_c_wr5_32 : decode prog_1_method_7_code 32 = .ok (.iinc 2 1, 3) := by decide +kernel
theorem d_c_wr5_35 : decode prog_1_method_7_code 35 = .ok (.iload_n 0, 1) := by decide +kernel
theorem d_c_wr5_36 : decode prog_1_method_7_code 36 = .ok (.i2b, 1) := by decide +kernel
theorem d_c_wr5_37 : decode prog_1_method_7_code 37 = .ok (.bastore, 1) := by decide +kernel
theorem d_c_wr5_38 : decode prog_1_method_7_code 38 = .ok (.iload_n 2, 1) := by decide +kernel
theorem d_c_wr5_39 : decode prog_1_method_7_code 39 = .ok (.ireturn, 1) := by decide +kernel
set_option maxRecDepth 65536 in
set_option maxHeartbeats 40000000 in
theorem c_wr5 (l : Launch) (Z : State) (a0 : Array Value) (hw : ∀ d ∈ tables_1, d.before a0 Z = true) {B : Nat} (b : Addr) (v K : Int32) (vs : List Value) (j : Nat) (hlen : vs.length = 12) (hj : j + 5 ≤ 12) (hi0 : ¬ K < 0) (hn0 : (K).toNatClampNeg = j + 0) (hi1 : ¬ (K + (1 : Int32)) < 0) (hn1 : ((K + (1 : Int32))).toNatClampNeg = j + 1) (hi2 : ¬ ((K + (1 : Int32)) + (1 : Int32)) < 0) (hn2 : (((K + (1 : Int32)) + (1 : Int32))).toNatClampNeg = j + 2) (hi3 : ¬ (((K + (1 : Int32)) + (1 : Int32)) + (1 : Int32)) < 0) (hn3 : ((((K + (1 : Int32)) + (1 : Int32)) + (1 : Int32))).toNatClampNeg = j + 3) (hi4 : ¬ ((((K + (1 : Int32)) + (1 : Int32)) + (1 : Int32)) + (1 : Int32)) < 0) (hn4 : (((((K + (1 : Int32)) + (1 : Int32)) + (1 : Int32)) + (1 : Int32))).toNatClampNeg = j + 4) (hz0 : ¬ (v &&& (-128 : Int32)) = (0 : Int32)) (hz1 : ¬ ((XT.ushr v (7 : Int32)) &&& (-128 : Int32)) = (0 : Int32)) (hz2 : ¬ ((XT.ushr (XT.ushr v (7 : Int32)) (7 : Int32)) &&& (-128 : Int32)) = (0 : Int32)) (hz3 : ¬ ((XT.ushr (XT.ushr (XT.ushr v (7 : Int32)) (7 : Int32)) (7 : Int32)) &&& (-128 : Int32)) = (0 : Int32)) (hz4 : ((XT.ushr (XT.ushr (XT.ushr (XT.ushr v (7 : Int32)) (7 : Int32)) (7 : Int32)) (7 : Int32)) &&& (-128 : Int32)) = (0 : Int32)) :
    Con l Z FM B (⟨"com/example/attestry/attestry/home/ByteCursor", "write", "(I[BI)I"⟩ : MethodName) prog_1_method_7_code 3 (some .int) ({ frames := 0, cells := 0, slots := 0, locals := 0 } : Room) [] #[.int v, .ref b, .int K] [(b, (.array .byte), vs)] (fun rv_ ro_ => rv_ = some (.int (((((K + (1 : Int32)) + (1 : Int32)) + (1 : Int32)) + (1 : Int32)) + (1 : Int32))) ∧ ro_ = [(b, (.array .byte), (((((vs.set (j + 0) (.int ((v &&& (127 : Int32)) ||| (128 : Int32)).toInt8.toInt32)).set (j + 1) (.int (((XT.ushr v (7 : Int32)) &&& (127 : Int32)) ||| (128 : Int32)).toInt8.toInt32)).set (j + 2) (.int (((XT.ushr (XT.ushr v (7 : Int32)) (7 : Int32)) &&& (127 : Int32)) ||| (128 : Int32)).toInt8.toInt32)).set (j + 3) (.int (((XT.ushr (XT.ushr (XT.ushr v (7 : Int32)) (7 : Int32)) (7 : Int32)) &&& (127 : Int32)) ||| (128 : Int32)).toInt8.toInt32)).set (j + 4) (.int (XT.ushr (XT.ushr (XT.ushr (XT.ushr v (7 : Int32)) (7 : Int32)) (7 : Int32)) (7 : Int32)).toInt8.toInt32)))]) := by
  refine Con.of (plainFor_of_name (by first | (simp [plainName, overriddenIn]; done) | decide +kernel)) (ls := #[.val (.int v), .val (.ref b), .val (.int K)]) (fun m => by first | (simp [entryFrame, mkF, argsToLocals, Value.category]; done) | rfl) ?_
  intro p_ e_ h_ s_ m_ bl_ me_ c_ T0 W0
  refine g_iload_n (pc := 0) W0 d_c_wr5_0 rfl ?_
  refine g_bipush (pc := 1) (-128 : Int32) (by decide) W0 d_c_wr5_1 ?_
  refine g_iand (pc := 3) W0 d_c_wr5_3 ?_
  refine g_ifN (pc := 4) W0 d_c_wr5_4 (feq hz0).1 ?_
  refine g_aload_n (pc := 7) W0 d_c_wr5_7 rfl rfl ?_
  refine g_iload_n (pc := 8) W0 d_c_wr5_8 rfl ?_
  refine g_iinc (pc := 9) (ls' := #[.val (.int v), .val (.ref b), .val (.int (K + (1 : Int32)))]) (1 : Int32) (by decide) W0 d_c_wr5_9 rfl rfl ?_
  refine g_iload_n (pc := 12) W0 d_c_wr5_12 rfl ?_
  refine g_bipush (pc := 13) (127 : Int32) (by decide) W0 d_c_wr5_13 ?_
  refine g_iand (pc := 15) W0 d_c_wr5_15 ?_
  refine g_sipush (pc := 16) (128 : Int32) (by decide) W0 d_c_wr5_16 ?_
  refine g_ior (pc := 19) W0 d_c_wr5_19 ?_
  refine g_i2b (pc := 20) W0 d_c_wr5_20 ?_
  refine g_bastore (pc := 21) (i := 0) (os' := [(b, (.array .byte), (vs.set (j + 0) (.int ((v &&& (127 : Int32)) ||| (128 : Int32)).toInt8.toInt32)))]) (x' := ((v &&& (127 : Int32)) ||| (128 : Int32)).toInt8.toInt32) (own_bb _) (j + 0) W0 rfl hi0 hn0 (by simp only [List.length_set, hlen]; omega) rfl d_c_wr5_21 (fun T1 W2 => ?_)
  refine g_iload_n (pc := 22) W2 d_c_wr5_22 rfl ?_
  refine g_bipush (pc := 23) (7 : Int32) (by decide) W2 d_c_wr5_23 ?_
  refine g_iushr (pc := 25) W2 d_c_wr5_25 ?_
  refine g_istore_n (pc := 26) (ls' := #[.val (.int (XT.ushr v (7 : Int32))), .val (.ref b), .val (.int (K + (1 : Int32)))]) W2 d_c_wr5_26 rfl ?_
  refine g_goto 0 (pc := 27) W2 d_c_wr5_27 (by decide) (by decide) ?_
  refine g_iload_n (pc := 0) W2 d_c_wr5_0 rfl ?_
  refine g_bipush (pc := 1) (-128 : Int32) (by decide) W2 d_c_wr5_1 ?_
  refine g_iand (pc := 3) W2 d_c_wr5_3 ?_
  refine g_ifN (pc := 4) W2 d_c_wr5_4 (feq hz1).1 ?_
  refine g_aload_n (pc := 7) W2 d_c_wr5_7 rfl rfl ?_
  refine g_iload_n (pc := 8) W2 d_c_wr5_8 rfl ?_
  refine g_iinc (pc := 9) (ls' := #[.val (.int (XT.ushr v (7 : Int32))), .val (.ref b), .val (.int ((K + (1 : Int32)) + (1 : Int32)))]) (1 : Int32) (by decide) W2 d_c_wr5_9 rfl rfl ?_
  refine g_iload_n (pc := 12) W2 d_c_wr5_12 rfl ?_
  refine g_bipush (pc := 13) (127 : Int32) (by decide) W2 d_c_wr5_13 ?_
  refine g_iand (pc := 15) W2 d_c_wr5_15 ?_
  refine g_sipush (pc := 16) (128 : Int32) (by decide) W2 d_c_wr5_16 ?_
  refine g_ior (pc := 19) W2 d_c_wr5_19 ?_
  refine g_i2b (pc := 20) W2 d_c_wr5_20 ?_
  refine g_bastore (pc := 21) (i := 0) (os' := [(b, (.array .byte), ((vs.set (j + 0) (.int ((v &&& (127 : Int32)) ||| (128 : Int32)).toInt8.toInt32)).set (j + 1) (.int (((XT.ushr v (7 : Int32)) &&& (127 : Int32)) ||| (128 : Int32)).toInt8.toInt32)))]) (x' := (((XT.ushr v (7 : Int32)) &&& (127 : Int32)) ||| (128 : Int32)).toInt8.toInt32) (own_bb _) (j + 1) W2 rfl hi1 hn1 (by simp only [List.length_set, hlen]; omega) rfl d_c_wr5_21 (fun T3 W4 => ?_)
  refine g_iload_n (pc := 22) W4 d_c_wr5_22 rfl ?_
  refine g_bipush (pc := 23) (7 : Int32) (by decide) W4 d_c_wr5_23 ?_
  refine g_iushr (pc := 25) W4 d_c_wr5_25 ?_
  refine g_istore_n (pc := 26) (ls' := #[.val (.int (XT.ushr (XT.ushr v (7 : Int32)) (7 : Int32))), .val (.ref b), .val (.int ((K + (1 : Int32)) + (1 : Int32)))]) W4 d_c_wr5_26 rfl ?_
  refine g_goto 0 (pc := 27) W4 d_c_wr5_27 (by decide) (by decide) ?_
  refine g_iload_n (pc := 0) W4 d_c_wr5_0 rfl ?_
  refine g_bipush (pc := 1) (-128 : Int32) (by decide) W4 d_c_wr5_1 ?_
  refine g_iand (pc := 3) W4 d_c_wr5_3 ?_
  refine g_ifN (pc := 4) W4 d_c_wr5_4 (feq hz2).1 ?_
  refine g_aload_n (pc := 7) W4 d_c_wr5_7 rfl rfl ?_
  refine g_iload_n (pc := 8) W4 d_c_wr5_8 rfl ?_
  refine g_iinc (pc := 9) (ls' := #[.val (.int (XT.ushr (XT.ushr v (7 : Int32)) (7 : Int32))), .val (.ref b), .val (.int (((K + (1 : Int32)) + (1 : Int32)) + (1 : Int32)))]) (1 : Int32) (by decide) W4 d_c_wr5_9 rfl rfl ?_
  refine g_iload_n (pc := 12) W4 d_c_wr5_12 rfl ?_
  refine g_bipush (pc := 13) (127 : Int32) (by decide) W4 d_c_wr5_13 ?_
  refine g_iand (pc := 15) W4 d_c_wr5_15 ?_
  refine g_sipush (pc := 16) (128 : Int32) (by decide) W4 d_c_wr5_16 ?_
  refine g_ior (pc := 19) W4 d_c_wr5_19 ?_
  refine g_i2b (pc := 20) W4 d_c_wr5_20 ?_
  refine g_bastore (pc := 21) (i := 0) (os' := [(b, (.array .byte), (((vs.set (j + 0) (.int ((v &&& (127 : Int32)) ||| (128 : Int32)).toInt8.toInt32)).set (j + 1) (.int (((XT.ushr v (7 : Int32)) &&& (127 : Int32)) ||| (128 : Int32)).toInt8.toInt32)).set (j + 2) (.int (((XT.ushr (XT.ushr v (7 : Int32)) (7 : Int32)) &&& (127 : Int32)) ||| (128 : Int32)).toInt8.toInt32)))]) (x' := (((XT.ushr (XT.ushr v (7 : Int32)) (7 : Int32)) &&& (127 : Int32)) ||| (128 : Int32)).toInt8.toInt32) (own_bb _) (j + 2) W4 rfl hi2 hn2 (by simp only [List.length_set, hlen]; omega) rfl d_c_wr5_21 (fun T5 W6 => ?_)
  refine g_iload_n (pc := 22) W6 d_c_wr5_22 rfl ?_
  refine g_bipush (pc := 23) (7 : Int32) (by decide) W6 d_c_wr5_23 ?_
  refine g_iushr (pc := 25) W6 d_c_wr5_25 ?_
  refine g_istore_n (pc := 26) (ls' := #[.val (.int (XT.ushr (XT.ushr (XT.ushr v (7 : Int32)) (7 : Int32)) (7 : Int32))), .val (.ref b), .val (.int (((K + (1 : Int32)) + (1 : Int32)) + (1 : Int32)))]) W6 d_c_wr5_26 rfl ?_
  refine g_goto 0 (pc := 27) W6 d_c_wr5_27 (by decide) (by decide) ?_
  refine g_iload_n (pc := 0) W6 d_c_wr5_0 rfl ?_
  refine g_bipush (pc := 1) (-128 : Int32) (by decide) W6 d_c_wr5_1 ?_
  refine g_iand (pc := 3) W6 d_c_wr5_3 ?_
  refine g_ifN (pc := 4) W6 d_c_wr5_4 (feq hz3).1 ?_
  refine g_aload_n (pc := 7) W6 d_c_wr5_7 rfl rfl ?_
  refine g_iload_n (pc := 8) W6 d_c_wr5_8 rfl ?_
  refine g_iinc (pc := 9) (ls' := #[.val (.int (XT.ushr (XT.ushr (XT.ushr v (7 : Int32)) (7 : Int32)) (7 : Int32))), .val (.ref b), .val (.int ((((K + (1 : Int32)) + (1 : Int32)) + (1 : Int32)) + (1 : Int32)))]) (1 : Int32) (by decide) W6 d_c_wr5_9 rfl rfl ?_
  refine g_iload_n (pc := 12) W6 d_c_wr5_12 rfl ?_
  refine g_bipush (pc := 13) (127 : Int32) (by decide) W6 d_c_wr5_13 ?_
  refine g_iand (pc := 15) W6 d_c_wr5_15 ?_
  refine g_sipush (pc := 16) (128 : Int32) (by decide) W6 d_c_wr5_16 ?_
  refine g_ior (pc := 19) W6 d_c_wr5_19 ?_
  refine g_i2b (pc := 20) W6 d_c_wr5_20 ?_
  refine g_bastore (pc := 21) (i := 0) (os' := [(b, (.array .byte), ((((vs.set (j + 0) (.int ((v &&& (127 : Int32)) ||| (128 : Int32)).toInt8.toInt32)).set (j + 1) (.int (((XT.ushr v (7 : Int32)) &&& (127 : Int32)) ||| (128 : Int32)).toInt8.toInt32)).set (j + 2) (.int (((XT.ushr (XT.ushr v (7 : Int32)) (7 : Int32)) &&& (127 : Int32)) ||| (128 : Int32)).toInt8.toInt32)).set (j + 3) (.int (((XT.ushr (XT.ushr (XT.ushr v (7 : Int32)) (7 : Int32)) (7 : Int32)) &&& (127 : Int32)) ||| (128 : Int32)).toInt8.toInt32)))]) (x' := (((XT.ushr (XT.ushr (XT.ushr v (7 : Int32)) (7 : Int32)) (7 : Int32)) &&& (127 : Int32)) ||| (128 : Int32)).toInt8.toInt32) (own_bb _) (j + 3) W6 rfl hi3 hn3 (by simp only [List.length_set, hlen]; omega) rfl d_c_wr5_21 (fun T7 W8 => ?_)
  refine g_iload_n (pc := 22) W8 d_c_wr5_22 rfl ?_
  refine g_bipush (pc := 23) (7 : Int32) (by decide) W8 d_c_wr5_23 ?_
  refine g_iushr (pc := 25) W8 d_c_wr5_25 ?_
  refine g_istore_n (pc := 26) (ls' := #[.val (.int (XT.ushr (XT.ushr (XT.ushr (XT.ushr v (7 : Int32)) (7 : Int32)) (7 : Int32)) (7 : Int32))), .val (.ref b), .val (.int ((((K + (1 : Int32)) + (1 : Int32)) + (1 : Int32)) + (1 : Int32)))]) W8 d_c_wr5_26 rfl ?_
  refine g_goto 0 (pc := 27) W8 d_c_wr5_27 (by decide) (by decide) ?_
  refine g_iload_n (pc := 0) W8 d_c_wr5_0 rfl ?_
  refine g_bipush (pc := 1) (-128 : Int32) (by decide) W8 d_c_wr5_1 ?_
  refine g_iand (pc := 3) W8 d_c_wr5_3 ?_
  refine g_ifY 30 (pc := 4) W8 d_c_wr5_4 (by decide) (by decide) (teq hz4).1 ?_
  refine g_aload_n (pc := 30) W8 d_c_wr5_30 rfl rfl ?_
  refine g_iload_n (pc := 31) W8 d_c_wr5_31 rfl ?_
  refine g_iinc (pc := 32) (ls' := #[.val (.int (XT.ushr (XT.ushr (XT.ushr (XT.ushr v (7 : Int32)) (7 : Int32)) (7 : Int32)) (7 : Int32))), .val (.ref b), .val (.int (((((K + (1 : Int32)) + (1 : Int32)) + (1 : Int32)) + (1 : Int32)) + (1 : Int32)))]) (1 : Int32) (by decide) W8 d_c_wr5_32 rfl rfl ?_
  refine g_iload_n (pc := 35) W8 d_c_wr5_35 rfl ?_
  refine g_i2b (pc := 36) W8 d_c_wr5_36 ?_
  refine g_bastore (pc := 37) (i := 0) (os' := [(b, (.array .byte), (((((vs.set (j + 0) (.int ((v &&& (127 : Int32)) ||| (128 : Int32)).toInt8.toInt32)).set (j + 1) (.int (((XT.ushr v (7 : Int32)) &&& (127 : Int32)) ||| (128 : Int32)).toInt8.toInt32)).set (j + 2) (.int (((XT.ushr (XT.ushr v (7 : Int32)) (7 : Int32)) &&& (127 : Int32)) ||| (128 : Int32)).toInt8.toInt32)).set (j + 3) (.int (((XT.ushr (XT.ushr (XT.ushr v (7 : Int32)) (7 : Int32)) (7 : Int32)) &&& (127 : Int32)) ||| (128 : Int32)).toInt8.toInt32)).set (j + 4) (.int (XT.ushr (XT.ushr (XT.ushr (XT.ushr v (7 : Int32)) (7 : Int32)) (7 : Int32)) (7 : Int32)).toInt8.toInt32)))]) (x' := (XT.ushr (XT.ushr (XT.ushr (XT.ushr v (7 : Int32)) (7 : Int32)) (7 : Int32)) (7 : Int32)).toInt8.toInt32) (own_bb _) (j + 4) W8 rfl hi4 hn4 (by simp only [List.length_set, hlen]; omega) rfl d_c_wr5_37 (fun T9 W10 => ?_)
  refine g_iload_n (pc := 38) W10 d_c_wr5_38 rfl ?_
  exact g_ireturn (pc := 39) rfl W10 d_c_wr5_39 (by decide) (by decide) ⟨rfl, rfl⟩
theorem d_c_wh5_0 : decode prog_1_method_6_code 0 = .ok (.iconst 0, 1) := by decide +kernel
theorem d_c_wh5_1 : decode prog_1_method_6_code 1 = .ok (.istore_n 1, 1) := by decide +kernel
theorem d_c_wh5_2 : decode prog_1_method_6_code 2 = .ok (.iconst 0, 1) := by decide +kernel
theorem d_c_wh5_3 : decode prog_1_method_6_code 3 = .ok (.istore_n 2, 1) := by decide +kernel
theorem d_c_wh5_4 : decode prog_1_method_6_code 4 = .ok (.aload_n 0, 1) := by decide +kernel
theorem d_c_wh5_5 : decode prog_1_method_6_code 5 = .ok (.getfield 7, 3) := by decide +kernel
theorem d_c_wh5_8 : decode prog_1_method_6_code 8 = .ok (.aload_n 0, 1) := by decide +kernel
theorem d_c_wh5_9 : decode prog_1_method_6_code 9 = .ok (.dup, 1) := by decide +kernel
theorem d_c_wh5_10 : decode prog_1_method_6_code 10 = .ok (.getfield 13, 3) := by decide +kernel
theorem d_c_wh5_13 : decode prog_1_method_6_code 13 = .ok (.dup_x1, 1) := by decide +kernel
theorem d_c_wh5_14 : decode prog_1_method_6_code 14 = .ok (.iconst 1, 1) := by decide +kernel
theorem d_c_wh5_15 : decode prog_1_method_6_code 15 = .ok (.iadd, 1) := by decide +kernel
theorem d_c_wh5_16 : decode prog_1_method_6_code 16 = .ok (.putfield 13, 3) := by decide +kernel
theorem d_c_wh5_19 : decode prog_1_method_6_code 19 = .ok (.baload, 1) := by decide +kernel
theorem d_c_wh5_20 : decode prog_1_method_6_code 20 = .ok (.istore_n 3, 1) := by decide +kernel
theorem d_c_wh5_21 : decode prog_1_method_6_code 21 = .ok (.iload_n 1, 1) := by decide +kernel
theorem d_c_wh5_22 : decode prog_1_method_6_code 22 = .ok (.iload_n 3, 1) := by decide +kernel
theorem d_c_wh5_23 : decode prog_1_method_6_code 23 = .ok (.bipush 127, 2) := by decide +kernel
theorem d_c_wh5_25 : decode prog_1_method_6_code 25 = .ok (.iand, 1) := by decide +kernel
theorem d_c_wh5_26 : decode prog_1_method_6_code 26 = .ok (.iload_n 2, 1) := by decide +kernel
theorem d_c_wh5_27 : decode prog_1_method_6_code 27 = .ok (.ishl, 1) := by decide +kernel
theorem d_c_wh5_28 : decode prog_1_method_6_code 28 = .ok (.ior, 1) := by decide +kernel
theorem d_c_wh5_29 : decode prog_1_method_6_code 29 = .ok (.istore_n 1, 1) := by decide +kernel
theorem d_c_wh5_30 : decode prog_1_method_6_code 30 = .ok (.iload_n 3, 1) := by decide +kernel
theorem d_c_wh5_31 : decode prog_1_method_6_code 31 = .ok (.ifCond .lt 5, 3) := by decide +kernel
theorem d_c_wh5_34 : decode prog_1_method_6_code 34 = .ok (.iload_n 1, 1) := by decide +kernel
theorem d_c_wh5_35 : decode prog_1_method_6_code 35 = .ok (.ireturn, 1) := by decide +kernel
theorem d_c_wh5_36 : decode prog_1_method_6_code 36 = .ok (.iinc 2 7, 3) := by decide +kernel
theorem d_c_wh5_39 : decode prog_1_method_6_code 39 = .ok (.goto (-35), 3) := by decide +kernel
set_option maxRecDepth 65536 in
set_option maxHeartbeats 40000000 in
theorem c_wh5 (l : Launch) (Z : State) (a0 : Array Value) (hw : ∀ d ∈ tables_1, d.before a0 Z = true) {B : Nat} (a b : Addr) (K : Int32) (vs : List Value) (r0 r1 r2 r3 r4 : Int32) (hi0 : ¬ K < 0) (hr0 : vs[(K).toNatClampNeg]? = some (.int r0)) (hi1 : ¬ (K + (1 : Int32)) < 0) (hr1 : vs[((K + (1 : Int32))).toNatClampNeg]? = some (.int r1)) (hi2 : ¬ ((K + (1 : Int32)) + (1 : Int32)) < 0) (hr2 : vs[(((K + (1 : Int32)) + (1 : Int32))).toNatClampNeg]? = some (.int r2)) (hi3 : ¬ (((K + (1 : Int32)) + (1 : Int32)) + (1 : Int32)) < 0) (hr3 : vs[((((K + (1 : Int32)) + (1 : Int32)) + (1 : Int32))).toNatClampNeg]? = some (.int r3)) (hi4 : ¬ ((((K + (1 : Int32)) + (1 : Int32)) + (1 : Int32)) + (1 : Int32)) < 0) (hr4 : vs[(((((K + (1 : Int32)) + (1 : Int32)) + (1 : Int32)) + (1 : Int32))).toNatClampNeg]? = some (.int r4)) (hz0 : r0 < 0) (hz1 : r1 < 0) (hz2 : r2 < 0) (hz3 : r3 < 0) (hz4 : ¬ r4 < 0) :
    Con l Z FM B (⟨"com/example/attestry/attestry/home/ByteCursor", "whole", "()I"⟩ : MethodName) prog_1_method_6_code 4 (some .int) ({ frames := 0, cells := 0, slots := 0, locals := 0 } : Room) [] #[.ref a] [(a, (.object "com/example/attestry/attestry/home/ByteCursor"), [.ref b, .int K]), (b, (.array .byte), vs)] (fun rv_ ro_ => rv_ = some (.int ((((((0 : Int32) ||| ((r0 &&& (127 : Int32)) <<< ((0 : Int32) &&& 31))) ||| ((r1 &&& (127 : Int32)) <<< ((7 : Int32) &&& 31))) ||| ((r2 &&& (127 : Int32)) <<< ((14 : Int32) &&& 31))) ||| ((r3 &&& (127 : Int32)) <<< ((21 : Int32) &&& 31))) ||| ((r4 &&& (127 : Int32)) <<< ((28 : Int32) &&& 31)))) ∧ ro_ = [(a, (.object "com/example/attestry/attestry/home/ByteCursor"), [.ref b, .int (((((K + (1 : Int32)) + (1 : Int32)) + (1 : Int32)) + (1 : Int32)) + (1 : Int32))]), (b, (.array .byte), vs)]) := by
  refine Con.of (plainFor_of_name (by first | (simp [plainName, overriddenIn]; done) | decide +kernel)) (ls := #[.val (.ref a), .unset, .unset, .unset]) (fun m => by first | (simp [entryFrame, mkF, argsToLocals, Value.category]; done) | rfl) ?_
  intro p_ e_ h_ s_ m_ bl_ me_ c_ T0 W0
  refine g_iconst (pc := 0) (0 : Int32) (by decide) W0 d_c_wh5_0 ?_
  refine g_istore_n (pc := 1) (ls' := #[.val (.ref a), .val (.int (0 : Int32)), .unset, .unset]) W0 d_c_wh5_1 rfl ?_
  refine g_iconst (pc := 2) (0 : Int32) (by decide) W0 d_c_wh5_2 ?_
  refine g_istore_n (pc := 3) (ls' := #[.val (.ref a), .val (.int (0 : Int32)), .val (.int (0 : Int32)), .unset]) W0 d_c_wh5_3 rfl ?_
  refine g_aload_n (pc := 4) W0 d_c_wh5_4 rfl rfl ?_
  refine g_getfield (pc := 5) (i := 0) (j := 0) (host := "") W0 (Or.inl (hw _ (List.mem_of_getElem? (i := 21) rfl))) rfl rfl rfl d_c_wh5_5 (fun T1 W2 => ?_)
  refine g_aload_n (pc := 8) W2 d_c_wh5_8 rfl rfl ?_
  refine g_dup (pc := 9) W2 d_c_wh5_9 rfl ?_
  refine g_getfield (pc := 10) (i := 0) (j := 1) (host := "") W2 (Or.inl (hw _ (List.mem_of_getElem? (i := 23) rfl))) rfl rfl rfl d_c_wh5_10 (fun T3 W4 => ?_)
  refine g_dup_x1 (pc := 13) W4 d_c_wh5_13 rfl rfl ?_
  refine g_iconst (pc := 14) (1 : Int32) (by decide) W4 d_c_wh5_14 ?_
  refine g_iadd (pc := 15) W4 d_c_wh5_15 ?_
  refine g_putfield (pc := 16) (i := 0) (j := 1) (ty := .int) (os' := [(a, (.object "com/example/attestry/attestry/home/ByteCursor"), [.ref b, .int (K + (1 : Int32))]), (b, (.array .byte), vs)]) (host := "") W4 (Or.inl (hw _ (List.mem_of_getElem? (i := 23) rfl))) (cls_ByteCursor hw) (Or.inl (hw _ (List.mem_of_getElem? (i := 24) rfl))) (hw _ (List.mem_of_getElem? (i := 14) rfl)) rfl rfl rfl (by decide) rfl rfl rfl d_c_wh5_16 (fun T5 W6 => ?_)
  refine g_baload (pc := 19) (i := 1) (v := .int r0) W6 rfl hi0 hr0 d_c_wh5_19 ?_
  refine g_istore_n (pc := 20) (ls' := #[.val (.ref a), .val (.int (0 : Int32)), .val (.int (0 : Int32)), .val (.int r0)]) W6 d_c_wh5_20 rfl ?_
  refine g_iload_n (pc := 21) W6 d_c_wh5_21 rfl ?_
  refine g_iload_n (pc := 22) W6 d_c_wh5_22 rfl ?_
  refine g_bipush (pc := 23) (127 : Int32) (by decide) W6 d_c_wh5_23 ?_
  refine g_iand (pc := 25) W6 d_c_wh5_25 ?_
  refine g_iload_n (pc := 26) W6 d_c_wh5_26 rfl ?_
  refine g_ishl (pc := 27) W6 d_c_wh5_27 ?_
  refine g_ior (pc := 28) W6 d_c_wh5_28 ?_
  refine g_istore_n (pc := 29) (ls' := #[.val (.ref a), .val (.int ((0 : Int32) ||| ((r0 &&& (127 : Int32)) <<< ((0 : Int32) &&& 31)))), .val (.int (0 : Int32)), .val (.int r0)]) W6 d_c_wh5_29 rfl ?_
  refine g_iload_n (pc := 30) W6 d_c_wh5_30 rfl ?_
  refine g_ifY 36 (pc := 31) W6 d_c_wh5_31 (by decide) (by decide) (tlt hz0).1 ?_
  refine g_iinc (pc := 36) (ls' := #[.val (.ref a), .val (.int ((0 : Int32) ||| ((r0 &&& (127 : Int32)) <<< ((0 : Int32) &&& 31)))), .val (.int (7 : Int32)), .val (.int r0)]) (7 : Int32) (by decide) W6 d_c_wh5_36 rfl rfl ?_
  refine g_goto 4 (pc := 39) W6 d_c_wh5_39 (by decide) (by decide) ?_
  refine g_aload_n (pc := 4) W6 d_c_wh5_4 rfl rfl ?_
  refine g_getfield (pc := 5) (i := 0) (j := 0) (host := "") W6 (Or.inl (hw _ (List.mem_of_getElem? (i := 21) rfl))) rfl rfl rfl d_c_wh5_5 (fun T7 W8 => ?_)
  refine g_aload_n (pc := 8) W8 d_c_wh5_8 rfl rfl ?_
  refine g_dup (pc := 9) W8 d_c_wh5_9 rfl ?_
  refine g_getfield (pc := 10) (i := 0) (j := 1) (host := "") W8 (Or.inl (hw _ (List.mem_of_getElem? (i := 23) rfl))) rfl rfl rfl d_c_wh5_10 (fun T9 W10 => ?_)
  refine g_dup_x1 (pc := 13) W10 d_c_wh5_13 rfl rfl ?_
  refine g_iconst (pc := 14) (1 : Int32) (by decide) W10 d_c_wh5_14 ?_
  refine g_iadd (pc := 15) W10 d_c_wh5_15 ?_
  refine g_putfield (pc := 16) (i := 0) (j := 1) (ty := .int) (os' := [(a, (.object "com/example/attestry/attestry/home/ByteCursor"), [.ref b, .int ((K + (1 : Int32)) + (1 : Int32))]), (b, (.array .byte), vs)]) (host := "") W10 (Or.inl (hw _ (List.mem_of_getElem? (i := 23) rfl))) (cls_ByteCursor hw) (Or.inl (hw _ (List.mem_of_getElem? (i := 24) rfl))) (hw _ (List.mem_of_getElem? (i := 14) rfl)) rfl rfl rfl (by decide) rfl rfl rfl d_c_wh5_16 (fun T11 W12 => ?_)
  refine g_baload (pc := 19) (i := 1) (v := .int r1) W12 rfl hi1 hr1 d_c_wh5_19 ?_
  refine g_istore_n (pc := 20) (ls' := #[.val (.ref a), .val (.int ((0 : Int32) ||| ((r0 &&& (127 : Int32)) <<< ((0 : Int32) &&& 31)))), .val (.int (7 : Int32)), .val (.int r1)]) W12 d_c_wh5_20 rfl ?_
  refine g_iload_n (pc := 21) W12 d_c_wh5_21 rfl ?_
  refine g_iload_n (pc := 22) W12 d_c_wh5_22 rfl ?_
  refine g_bipush (pc := 23) (127 : Int32) (by decide) W12 d_c_wh5_23 ?_
  refine g_iand (pc := 25) W12 d_c_wh5_25 ?_
  refine g_iload_n (pc := 26) W12 d_c_wh5_26 rfl ?_
  refine g_ishl (pc := 27) W12 d_c_wh5_27 ?_
  refine g_ior (pc := 28) W12 d_c_wh5_28 ?_
  refine g_istore_n (pc := 29) (ls' := #[.val (.ref a), .val (.int (((0 : Int32) ||| ((r0 &&& (127 : Int32)) <<< ((0 : Int32) &&& 31))) ||| ((r1 &&& (127 : Int32)) <<< ((7 : Int32) &&& 31)))), .val (.int (7 : Int32)), .val (.int r1)]) W12 d_c_wh5_29 rfl ?_
  refine g_iload_n (pc := 30) W12 d_c_wh5_30 rfl ?_
  refine g_ifY 36 (pc := 31) W12 d_c_wh5_31 (by decide) (by decide) (tlt hz1).1 ?_
  refine g_iinc (pc := 36) (ls' := #[.val (.ref a), .val (.int (((0 : Int32) ||| ((r0 &&& (127 : Int32)) <<< ((0 : Int32) &&& 31))) ||| ((r1 &&& (127 : Int32)) <<< ((7 : Int32) &&& 31)))), .val (.int (14 : Int32)), .val (.int r1)]) (7 : Int32) (by decide) W12 d_c_wh5_36 rfl rfl ?_
  refine g_goto 4 (pc := 39) W12 d_c_wh5_39 (by decide) (by decide) ?_
  refine g_aload_n (pc := 4) W12 d_c_wh5_4 rfl rfl ?_
  refine g_getfield (pc := 5) (i := 0) (j := 0) (host := "") W12 (Or.inl (hw _ (List.mem_of_getElem? (i := 21) rfl))) rfl rfl rfl d_c_wh5_5 (fun T13 W14 => ?_)
  refine g_aload_n (pc := 8) W14 d_c_wh5_8 rfl rfl ?_
  refine g_dup (pc := 9) W14 d_c_wh5_9 rfl ?_
  refine g_getfield (pc := 10) (i := 0) (j := 1) (host := "") W14 (Or.inl (hw _ (List.mem_of_getElem? (i := 23) rfl))) rfl rfl rfl d_c_wh5_10 (fun T15 W16 => ?_)
  refine g_dup_x1 (pc := 13) W16 d_c_wh5_13 rfl rfl ?_
  refine g_iconst (pc := 14) (1 : Int32) (by decide) W16 d_c_wh5_14 ?_
  refine g_iadd (pc := 15) W16 d_c_wh5_15 ?_
  refine g_putfield (pc := 16) (i := 0) (j := 1) (ty := .int) (os' := [(a, (.object "com/example/attestry/attestry/home/ByteCursor"), [.ref b, .int (((K + (1 : Int32)) + (1 : Int32)) + (1 : Int32))]), (b, (.array .byte), vs)]) (host := "") W16 (Or.inl (hw _ (List.mem_of_getElem? (i := 23) rfl))) (cls_ByteCursor hw) (Or.inl (hw _ (List.mem_of_getElem? (i := 24) rfl))) (hw _ (List.mem_of_getElem? (i := 14) rfl)) rfl rfl rfl (by decide) rfl rfl rfl d_c_wh5_16 (fun T17 W18 => ?_)
  refine g_baload (pc := 19) (i := 1) (v := .int r2) W18 rfl hi2 hr2 d_c_wh5_19 ?_
  refine g_istore_n (pc := 20) (ls' := #[.val (.ref a), .val (.int (((0 : Int32) ||| ((r0 &&& (127 : Int32)) <<< ((0 : Int32) &&& 31))) ||| ((r1 &&& (127 : Int32)) <<< ((7 : Int32) &&& 31)))), .val (.int (14 : Int32)), .val (.int r2)]) W18 d_c_wh5_20 rfl ?_
  refine g_iload_n (pc := 21) W18 d_c_wh5_21 rfl ?_
  refine g_iload_n (pc := 22) W18 d_c_wh5_22 rfl ?_
  refine g_bipush (pc := 23) (127 : Int32) (by decide) W18 d_c_wh5_23 ?_
  refine g_iand (pc := 25) W18 d_c_wh5_25 ?_
  refine g_iload_n (pc := 26) W18 d_c_wh5_26 rfl ?_
  refine g_ishl (pc := 27) W18 d_c_wh5_27 ?_
  refine g_ior (pc := 28) W18 d_c_wh5_28 ?_
  refine g_istore_n (pc := 29) (ls' := #[.val (.ref a), .val (.int ((((0 : Int32) ||| ((r0 &&& (127 : Int32)) <<< ((0 : Int32) &&& 31))) ||| ((r1 &&& (127 : Int32)) <<< ((7 : Int32) &&& 31))) ||| ((r2 &&& (127 : Int32)) <<< ((14 : Int32) &&& 31)))), .val (.int (14 : Int32)), .val (.int r2)]) W18 d_c_wh5_29 rfl ?_
  refine g_iload_n (pc := 30) W18 d_c_wh5_30 rfl ?_
  refine g_ifY 36 (pc := 31) W18 d_c_wh5_31 (by decide) (by decide) (tlt hz2).1 ?_
  refine g_iinc (pc := 36) (ls' := #[.val (.ref a), .val (.int ((((0 : Int32) ||| ((r0 &&& (127 : Int32)) <<< ((0 : Int32) &&& 31))) ||| ((r1 &&& (127 : Int32)) <<< ((7 : Int32) &&& 31))) ||| ((r2 &&& (127 : Int32)) <<< ((14 : Int32) &&& 31)))), .val (.int (21 : Int32)), .val (.int r2)]) (7 : Int32) (by decide) W18 d_c_wh5_36 rfl rfl ?_
  refine g_goto 4 (pc := 39) W18 d_c_wh5_39 (by decide) (by decide) ?_
  refine g_aload_n (pc := 4) W18 d_c_wh5_4 rfl rfl ?_
  refine g_getfield (pc := 5) (i := 0) (j := 0) (host := "") W18 (Or.inl (hw _ (List.mem_of_getElem? (i := 21) rfl))) rfl rfl rfl d_c_wh5_5 (fun T19 W20 => ?_)
  refine g_aload_n (pc := 8) W20 d_c_wh5_8 rfl rfl ?_
  refine g_dup (pc := 9) W20 d_c_wh5_9 rfl ?_
  refine g_getfield (pc := 10) (i := 0) (j := 1) (host := "") W20 (Or.inl (hw _ (List.mem_of_getElem? (i := 23) rfl))) rfl rfl rfl d_c_wh5_10 (fun T21 W22 => ?_)
  refine g_dup_x1 (pc := 13) W22 d_c_wh5_13 rfl rfl ?_
  refine g_iconst (pc := 14) (1 : Int32) (by decide) W22 d_c_wh5_14 ?_
  refine g_iadd (pc := 15) W22 d_c_wh5_15 ?_
  refine g_putfield (pc := 16) (i := 0) (j := 1) (ty := .int) (os' := [(a, (.object "com/example/attestry/attestry/home/ByteCursor"), [.ref b, .int ((((K + (1 : Int32)) + (1 : Int32)) + (1 : Int32)) + (1 : Int32))]), (b, (.array .byte), vs)]) (host := "") W22 (Or.inl (hw _ (List.mem_of_getElem? (i := 23) rfl))) (cls_ByteCursor hw) (Or.inl (hw _ (List.mem_of_getElem? (i := 24) rfl))) (hw _ (List.mem_of_getElem? (i := 14) rfl)) rfl rfl rfl (by decide) rfl rfl rfl d_c_wh5_16 (fun T23 W24 => ?_)
  refine g_baload (pc := 19) (i := 1) (v := .int r3) W24 rfl hi3 hr3 d_c_wh5_19 ?_
  refine g_istore_n (pc := 20) (ls' := #[.val (.ref a), .val (.int ((((0 : Int32) ||| ((r0 &&& (127 : Int32)) <<< ((0 : Int32) &&& 31))) ||| ((r1 &&& (127 : Int32)) <<< ((7 : Int32) &&& 31))) ||| ((r2 &&& (127 : Int32)) <<< ((14 : Int32) &&& 31)))), .val (.int (21 : Int32)), .val (.int r3)]) W24 d_c_wh5_20 rfl ?_
  refine g_iload_n (pc := 21) W24 d_c_wh5_21 rfl ?_
  refine g_iload_n (pc := 22) W24 d_c_wh5_22 rfl ?_
  refine g_bipush (pc := 23) (127 : Int32) (by decide) W24 d_c_wh5_23 ?_
  refine g_iand (pc := 25) W24 d_c_wh5_25 ?_
  refine g_iload_n (pc := 26) W24 d_c_wh5_26 rfl ?_
  refine g_ishl (pc := 27) W24 d_c_wh5_27 ?_
  refine g_ior (pc := 28) W24 d_c_wh5_28 ?_
  refine g_istore_n (pc := 29) (ls' := #[.val (.ref a), .val (.int (((((0 : Int32) ||| ((r0 &&& (127 : Int32)) <<< ((0 : Int32) &&& 31))) ||| ((r1 &&& (127 : Int32)) <<< ((7 : Int32) &&& 31))) ||| ((r2 &&& (127 : Int32)) <<< ((14 : Int32) &&& 31))) ||| ((r3 &&& (127 : Int32)) <<< ((21 : Int32) &&& 31)))), .val (.int (21 : Int32)), .val (.int r3)]) W24 d_c_wh5_29 rfl ?_
  refine g_iload_n (pc := 30) W24 d_c_wh5_30 rfl ?_
  refine g_ifY 36 (pc := 31) W24 d_c_wh5_31 (by decide) (by decide) (tlt hz3).1 ?_
  refine g_iinc (pc := 36) (ls' := #[.val (.ref a), .val (.int (((((0 : Int32) ||| ((r0 &&& (127 : Int32)) <<< ((0 : Int32) &&& 31))) ||| ((r1 &&& (127 : Int32)) <<< ((7 : Int32) &&& 31))) ||| ((r2 &&& (127 : Int32)) <<< ((14 : Int32) &&& 31))) ||| ((r3 &&& (127 : Int32)) <<< ((21 : Int32) &&& 31)))), .val (.int (28 : Int32)), .val (.int r3)]) (7 : Int32) (by decide) W24 d_c_wh5_36 rfl rfl ?_
  refine g_goto 4 (pc := 39) W24 d_c_wh5_39 (by decide) (by decide) ?_
  refine g_aload_n (pc := 4) W24 d_c_wh5_4 rfl rfl ?_
  refine g_getfield (pc := 5) (i := 0) (j := 0) (host := "") W24 (Or.inl (hw _ (List.mem_of_getElem? (i := 21) rfl))) rfl rfl rfl d_c_wh5_5 (fun T25 W26 => ?_)
  refine g_aload_n (pc := 8) W26 d_c_wh5_8 rfl rfl ?_
  refine g_dup (pc := 9) W26 d_c_wh5_9 rfl ?_
  refine g_getfield (pc := 10) (i := 0) (j := 1) (host := "") W26 (Or.inl (hw _ (List.mem_of_getElem? (i := 23) rfl))) rfl rfl rfl d_c_wh5_10 (fun T27 W28 => ?_)
  refine g_dup_x1 (pc := 13) W28 d_c_wh5_13 rfl rfl ?_
  refine g_iconst (pc := 14) (1 : Int32) (by decide) W28 d_c_wh5_14 ?_
  refine g_iadd (pc := 15) W28 d_c_wh5_15 ?_
  refine g_putfield (pc := 16) (i := 0) (j := 1) (ty := .int) (os' := [(a, (.object "com/example/attestry/attestry/home/ByteCursor"), [.ref b, .int (((((K + (1 : Int32)) + (1 : Int32)) + (1 : Int32)) + (1 : Int32)) + (1 : Int32))]), (b, (.array .byte), vs)]) (host := "") W28 (Or.inl (hw _ (List.mem_of_getElem? (i := 23) rfl))) (cls_ByteCursor hw) (Or.inl (hw _ (List.mem_of_getElem? (i := 24) rfl))) (hw _ (List.mem_of_getElem? (i := 14) rfl)) rfl rfl rfl (by decide) rfl rfl rfl d_c_wh5_16 (fun T29 W30 => ?_)
  refine g_baload (pc := 19) (i := 1) (v := .int r4) W30 rfl hi4 hr4 d_c_wh5_19 ?_
  refine g_istore_n (pc := 20) (ls' := #[.val (.ref a), .val (.int (((((0 : Int32) ||| ((r0 &&& (127 : Int32)) <<< ((0 : Int32) &&& 31))) ||| ((r1 &&& (127 : Int32)) <<< ((7 : Int32) &&& 31))) ||| ((r2 &&& (127 : Int32)) <<< ((14 : Int32) &&& 31))) ||| ((r3 &&& (127 : Int32)) <<< ((21 : Int32) &&& 31)))), .val (.int (28 : Int32)), .val (.int r4)]) W30 d_c_wh5_20 rfl ?_
  refine g_iload_n (pc := 21) W30 d_c_wh5_21 rfl ?_
  refine g_iload_n (pc := 22) W30 d_c_wh5_22 rfl ?_
  refine g_bipush (pc := 23) (127 : Int32) (by decide) W30 d_c_wh5_23 ?_
  refine g_iand (pc := 25) W30 d_c_wh5_25 ?_
  refine g_iload_n (pc := 26) W30 d_c_wh5_26 rfl ?_
  refine g_ishl (pc := 27) W30 d_c_wh5_27 ?_
  refine g_ior (pc := 28) W30 d_c_wh5_28 ?_
  refine g_istore_n (pc := 29) (ls' := #[.val (.ref a), .val (.int ((((((0 : Int32) ||| ((r0 &&& (127 : Int32)) <<< ((0 : Int32) &&& 31))) ||| ((r1 &&& (127 : Int32)) <<< ((7 : Int32) &&& 31))) ||| ((r2 &&& (127 : Int32)) <<< ((14 : Int32) &&& 31))) ||| ((r3 &&& (127 : Int32)) <<< ((21 : Int32) &&& 31))) ||| ((r4 &&& (127 : Int32)) <<< ((28 : Int32) &&& 31)))), .val (.int (28 : Int32)), .val (.int r4)]) W30 d_c_wh5_29 rfl ?_
  refine g_iload_n (pc := 30) W30 d_c_wh5_30 rfl ?_
  refine g_ifN (pc := 31) W30 d_c_wh5_31 (flt hz4).1 ?_
  refine g_iload_n (pc := 34) W30 d_c_wh5_34 rfl ?_
  exact g_ireturn (pc := 35) rfl W30 d_c_wh5_35 (by decide) (by decide) ⟨rfl, rfl⟩
theorem d_okAt_0 : decode method_3_code 0 = .ok (.iload_n 1, 1) := by decide +kernel
theorem d_okAt_1 : decode method_3_code 1 = .ok (.iload_n 3, 1) := by decide +kernel
theorem d_okAt_2 : decode method_3_code 2 = .ok (.if_icmp .lt 11, 3) := by decide +kernel
theorem d_okAt_5 : decode method_3_code 5 = .ok (.iload_n 1, 1) := by decide +kernel
theorem d_okAt_6 : decode method_3_code 6 = .ok (.iload_n 3, 1) := by decide +kernel
theorem d_okAt_7 : decode method_3_code 7 = .ok (.iload 4, 2) := by decide +kernel
theorem d_okAt_9 : decode method_3_code 9 = .ok (.iadd, 1) := by decide +kernel
theorem d_okAt_10 : decode method_3_code 10 = .ok (.if_icmp .lt 17, 3) := by decide +kernel
theorem d_okAt_13 : decode method_3_code 13 = .ok (.aload_n 0, 1) := by decide +kernel
theorem d_okAt_14 : decode method_3_code 14 = .ok (.iload_n 1, 1) := by decide +kernel
theorem d_okAt_15 : decode method_3_code 15 = .ok (.baload, 1) := by decide +kernel
theorem d_okAt_16 : decode method_3_code 16 = .ok (.iload 5, 2) := by decide +kernel
theorem d_okAt_18 : decode method_3_code 18 = .ok (.if_icmp .ne 7, 3) := by decide +kernel
theorem d_okAt_21 : decode method_3_code 21 = .ok (.iconst 1, 1) := by decide +kernel
theorem d_okAt_22 : decode method_3_code 22 = .ok (.goto 4, 3) := by decide +kernel
theorem d_okAt_25 : decode method_3_code 25 = .ok (.iconst 0, 1) := by decide +kernel
theorem d_okAt_26 : decode method_3_code 26 = .ok (.ireturn, 1) := by decide +kernel
theorem d_okAt_27 : decode method_3_code 27 = .ok (.iload_n 1, 1) := by decide +kernel
theorem d_okAt_28 : decode method_3_code 28 = .ok (.iload_n 3, 1) := by decide +kernel
theorem d_okAt_29 : decode method_3_code 29 = .ok (.isub, 1) := by decide +kernel
theorem d_okAt_30 : decode method_3_code 30 = .ok (.istore 6, 2) := by decide +kernel
theorem d_okAt_32 : decode method_3_code 32 = .ok (.iload_n 2, 1) := by decide +kernel
theorem d_okAt_33 : decode method_3_code 33 = .ok (.bipush 7, 2) := by decide +kernel
theorem d_okAt_35 : decode method_3_code 35 = .ok (.iload 6, 2) := by decide +kernel
theorem d_okAt_37 : decode method_3_code 37 = .ok (.imul, 1) := by decide +kernel
theorem d_okAt_38 : decode method_3_code 38 = .ok (.iushr, 1) := by decide +kernel
theorem d_okAt_39 : decode method_3_code 39 = .ok (.bipush 127, 2) := by decide +kernel
theorem d_okAt_41 : decode method_3_code 41 = .ok (.iand, 1) := by decide +kernel
theorem d_okAt_42 : decode method_3_code 42 = .ok (.istore 7, 2) := by decide +kernel
theorem d_okAt_44 : decode method_3_code 44 = .ok (.iload 6, 2) := by decide +kernel
theorem d_okAt_46 : decode method_3_code 46 = .ok (.iload 4, 2) := by decide +kernel
theorem d_okAt_48 : decode method_3_code 48 = .ok (.iconst 1, 1) := by decide +kernel
theorem d_okAt_49 : decode method_3_code 49 = .ok (.isub, 1) := by decide +kernel
theorem d_okAt_50 : decode method_3_code 50 = .ok (.if_icmp .ge 11, 3) := by decide +kernel
theorem d_okAt_53 : decode method_3_code 53 = .ok (.iload 7, 2) := by decide +kernel
theorem d_okAt_55 : decode method_3_code 55 = .ok (.sipush 128, 3) := by decide +kernel
theorem d_okAt_58 : decode method_3_code 58 = .ok (.ior, 1) := by decide +kernel
theorem d_okAt_59 : decode method_3_code 59 = .ok (.istore 7, 2) := by decide +kernel
theorem d_okAt_61 : decode method_3_code 61 = .ok (.aload_n 0, 1) := by decide +kernel
theorem d_okAt_62 : decode method_3_code 62 = .ok (.iload_n 1, 1) := by decide +kernel
theorem d_okAt_63 : decode method_3_code 63 = .ok (.baload, 1) := by decide +kernel
theorem d_okAt_64 : decode method_3_code 64 = .ok (.iload 7, 2) := by decide +kernel
theorem d_okAt_66 : decode method_3_code 66 = .ok (.i2b, 1) := by decide +kernel
theorem d_okAt_67 : decode method_3_code 67 = .ok (.if_icmp .ne 7, 3) := by decide +kernel
theorem d_okAt_70 : decode method_3_code 70 = .ok (.iconst 1, 1) := by decide +kernel
theorem d_okAt_71 : decode method_3_code 71 = .ok (.goto 4, 3) := by decide +kernel
theorem d_okAt_74 : decode method_3_code 74 = .ok (.iconst 0, 1) := by decide +kernel
theorem d_okAt_75 : decode method_3_code 75 = .ok (.ireturn, 1) := by decide +kernel
set_option maxRecDepth 65536 in
set_option maxHeartbeats 40000000 in
theorem c_ok (l : Launch) (Z : State) (a0 : Array Value) (hw : ∀ d ∈ tables_1, d.before a0 Z = true) {B : Nat} (b : Addr) (i v K n f r : Int32) (vs : List Value) (hi : ¬ i < 0) (hr : vs[i.toNatClampNeg]? = some (.int r)) (hA : i < K ∨ ¬ i < K + n → r = f) (hB : ¬ i < K → i < K + n → r = okb v (i - K) n) :
    Con l Z FM B (⟨"com/example/attestry/attestry/home/ByteCursorWritePinLaw", "okAt", "([BIIIIB)Z"⟩ : MethodName) method_3_code 8 (some .boolean) ({ frames := 0, cells := 0, slots := 0, locals := 0 } : Room) [] #[.ref b, .int i, .int v, .int K, .int n, .int f] [(b, (.array .byte), vs)] (fun v' os => v' = some (.int 1) ∧ os = [(b, (.array .byte), vs)]) := by
  refine Con.of (plainFor_of_name (by first | (simp [plainName, overriddenIn]; done) | decide +kernel)) (ls := #[.val (.ref b), .val (.int i), .val (.int v), .val (.int K), .val (.int n), .val (.int f), .unset, .unset]) (fun m => by first | (simp [entryFrame, mkF, argsToLocals, Value.category]; done) | rfl) ?_
  intro p_ e_ h_ s_ m_ bl_ me_ c_ T0 W0
  refine g_iload_n (pc := 0) W0 d_okAt_0 rfl ?_
  refine g_iload_n (pc := 1) W0 d_okAt_1 rfl ?_
  refine g_icmp_lt 13 (pc := 2) W0 d_okAt_2 (by decide) (by decide) (fun c1 => ?_) (fun c1 => ?_)
  · refine g_aload_n (pc := 13) W0 d_okAt_13 rfl rfl ?_
    refine g_iload_n (pc := 14) W0 d_okAt_14 rfl ?_
    refine g_baload (pc := 15) (i := 0) (v := .int r) W0 rfl hi hr d_okAt_15 ?_
    refine g_iload (pc := 16) W0 d_okAt_16 rfl ?_
    refine g_icmp_ne 25 (pc := 18) W0 d_okAt_18 (by decide) (by decide) (fun c2 => ?_) (fun c2 => ?_)
    · refine g_iconst (pc := 25) (0 : Int32) (by decide) W0 d_okAt_25 ?_
      exact g_zreturn (pc := 26) rfl (by decide) W0 d_okAt_26 (by decide) (by decide) (absurd (hA (Or.inl c1)) c2)
    · refine g_iconst (pc := 21) (1 : Int32) (by decide) W0 d_okAt_21 ?_
      refine g_goto 26 (pc := 22) W0 d_okAt_22 (by decide) (by decide) ?_
      exact g_zreturn (pc := 26) rfl (by decide) W0 d_okAt_26 (by decide) (by decide) ⟨rfl, rfl⟩
  · refine g_iload_n (pc := 5) W0 d_okAt_5 rfl ?_
    refine g_iload_n (pc := 6) W0 d_okAt_6 rfl ?_
    refine g_iload (pc := 7) W0 d_okAt_7 rfl ?_
    refine g_iadd (pc := 9) W0 d_okAt_9 ?_
    refine g_icmp_lt 27 (pc := 10) W0 d_okAt_10 (by decide) (by decide) (fun c3 => ?_) (fun c3 => ?_)
    · refine g_iload_n (pc := 27) W0 d_okAt_27 rfl ?_
      refine g_iload_n (pc := 28) W0 d_okAt_28 rfl ?_
      refine g_isub (pc := 29) W0 d_okAt_29 ?_
      refine g_istore (pc := 30) (ls' := #[.val (.ref b), .val (.int i), .val (.int v), .val (.int K), .val (.int n), .val (.int f), .val (.int (i - K)), .unset]) W0 d_okAt_30 rfl ?_
      refine g_iload_n (pc := 32) W0 d_okAt_32 rfl ?_
      refine g_bipush (pc := 33) (7 : Int32) (by decide) W0 d_okAt_33 ?_
      refine g_iload (pc := 35) W0 d_okAt_35 rfl ?_
      refine g_imul (pc := 37) W0 d_okAt_37 ?_
      refine g_iushr (pc := 38) W0 d_okAt_38 ?_
      refine g_bipush (pc := 39) (127 : Int32) (by decide) W0 d_okAt_39 ?_
      refine g_iand (pc := 41) W0 d_okAt_41 ?_
      refine g_istore (pc := 42) (ls' := #[.val (.ref b), .val (.int i), .val (.int v), .val (.int K), .val (.int n), .val (.int f), .val (.int (i - K)), .val (.int ((XT.ushr v ((7 : Int32) * (i - K))) &&& (127 : Int32)))]) W0 d_okAt_42 rfl ?_
      refine g_iload (pc := 44) W0 d_okAt_44 rfl ?_
      refine g_iload (pc := 46) W0 d_okAt_46 rfl ?_
      refine g_iconst (pc := 48) (1 : Int32) (by decide) W0 d_okAt_48 ?_
      refine g_isub (pc := 49) W0 d_okAt_49 ?_
      refine g_icmp_ge 61 (pc := 50) W0 d_okAt_50 (by decide) (by decide) (fun c4 => ?_) (fun c4 => ?_)
      · refine g_aload_n (pc := 61) W0 d_okAt_61 rfl rfl ?_
        refine g_iload_n (pc := 62) W0 d_okAt_62 rfl ?_
        refine g_baload (pc := 63) (i := 0) (v := .int r) W0 rfl hi hr d_okAt_63 ?_
        refine g_iload (pc := 64) W0 d_okAt_64 rfl ?_
        refine g_i2b (pc := 66) W0 d_okAt_66 ?_
        refine g_icmp_ne 74 (pc := 67) W0 d_okAt_67 (by decide) (by decide) (fun c5 => ?_) (fun c5 => ?_)
        · refine g_iconst (pc := 74) (0 : Int32) (by decide) W0 d_okAt_74 ?_
          exact g_zreturn (pc := 75) rfl (by decide) W0 d_okAt_75 (by decide) (by decide) (absurd ((hB c1 c3).trans (by simp only [okb, if_neg c4])) c5)
        · refine g_iconst (pc := 70) (1 : Int32) (by decide) W0 d_okAt_70 ?_
          refine g_goto 75 (pc := 71) W0 d_okAt_71 (by decide) (by decide) ?_
          exact g_zreturn (pc := 75) rfl (by decide) W0 d_okAt_75 (by decide) (by decide) ⟨rfl, rfl⟩
      · refine g_iload (pc := 53) W0 d_okAt_53 rfl ?_
        refine g_sipush (pc := 55) (128 : Int32) (by decide) W0 d_okAt_55 ?_
        refine g_ior (pc := 58) W0 d_okAt_58 ?_
        refine g_istore (pc := 59) (ls' := #[.val (.ref b), .val (.int i), .val (.int v), .val (.int K), .val (.int n), .val (.int f), .val (.int (i - K)), .val (.int (((XT.ushr v ((7 : Int32) * (i - K))) &&& (127 : Int32)) ||| (128 : Int32)))]) W0 d_okAt_59 rfl ?_
        refine g_aload_n (pc := 61) W0 d_okAt_61 rfl rfl ?_
        refine g_iload_n (pc := 62) W0 d_okAt_62 rfl ?_
        refine g_baload (pc := 63) (i := 0) (v := .int r) W0 rfl hi hr d_okAt_63 ?_
        refine g_iload (pc := 64) W0 d_okAt_64 rfl ?_
        refine g_i2b (pc := 66) W0 d_okAt_66 ?_
        refine g_icmp_ne 74 (pc := 67) W0 d_okAt_67 (by decide) (by decide) (fun c6 => ?_) (fun c6 => ?_)
        · refine g_iconst (pc := 74) (0 : Int32) (by decide) W0 d_okAt_74 ?_
          exact g_zreturn (pc := 75) rfl (by decide) W0 d_okAt_75 (by decide) (by decide) (absurd ((hB c1 c3).trans (by simp only [okb, if_pos c4])) c6)
        · refine g_iconst (pc := 70) (1 : Int32) (by decide) W0 d_okAt_70 ?_
          refine g_goto 75 (pc := 71) W0 d_okAt_71 (by decide) (by decide) ?_
          exact g_zreturn (pc := 75) rfl (by decide) W0 d_okAt_75 (by decide) (by decide) ⟨rfl, rfl⟩
    · refine g_aload_n (pc := 13) W0 d_okAt_13 rfl rfl ?_
      refine g_iload_n (pc := 14) W0 d_okAt_14 rfl ?_
      refine g_baload (pc := 15) (i := 0) (v := .int r) W0 rfl hi hr d_okAt_15 ?_
      refine g_iload (pc := 16) W0 d_okAt_16 rfl ?_
      refine g_icmp_ne 25 (pc := 18) W0 d_okAt_18 (by decide) (by decide) (fun c7 => ?_) (fun c7 => ?_)
      · refine g_iconst (pc := 25) (0 : Int32) (by decide) W0 d_okAt_25 ?_
        exact g_zreturn (pc := 26) rfl (by decide) W0 d_okAt_26 (by decide) (by decide) (absurd (hA (Or.inr c3)) c7)
      · refine g_iconst (pc := 21) (1 : Int32) (by decide) W0 d_okAt_21 ?_
        refine g_goto 26 (pc := 22) W0 d_okAt_22 (by decide) (by decide) ?_
        exact g_zreturn (pc := 26) rfl (by decide) W0 d_okAt_26 (by decide) (by decide) ⟨rfl, rfl⟩
theorem own_st28 (v x : Int32) (hv : v.toBitVec.toNat < 2 ^ 28) (hu : (x &&& 127).toBitVec.toNat < 16) : (v ||| ((x &&& (127 : Int32)) <<< ((28 : Int32) &&& 31))).toBitVec.toNat = v.toBitVec.toNat + (x &&& 127).toBitVec.toNat * 2 ^ 28 := by
  have q := own_bv v.toBitVec (x &&& 127).toBitVec 28 hv (by omega)
  rw [← q]; rfl
theorem own_st21 (v x : Int32) (hv : v.toBitVec.toNat < 2 ^ 21) (hu : (x &&& 127).toBitVec.toNat < 128) : (v ||| ((x &&& (127 : Int32)) <<< ((21 : Int32) &&& 31))).toBitVec.toNat = v.toBitVec.toNat + (x &&& 127).toBitVec.toNat * 2 ^ 21 := by
  have q := own_bv v.toBitVec (x &&& 127).toBitVec 21 hv (by omega)
  rw [← q]; rfl
theorem own_st14 (v x : Int32) (hv : v.toBitVec.toNat < 2 ^ 14) (hu : (x &&& 127).toBitVec.toNat < 128) : (v ||| ((x &&& (127 : Int32)) <<< ((14 : Int32) &&& 31))).toBitVec.toNat = v.toBitVec.toNat + (x &&& 127).toBitVec.toNat * 2 ^ 14 := by
  have q := own_bv v.toBitVec (x &&& 127).toBitVec 14 hv (by omega)
  rw [← q]; rfl
theorem own_st7 (v x : Int32) (hv : v.toBitVec.toNat < 2 ^ 7) (hu : (x &&& 127).toBitVec.toNat < 128) : (v ||| ((x &&& (127 : Int32)) <<< ((7 : Int32) &&& 31))).toBitVec.toNat = v.toBitVec.toNat + (x &&& 127).toBitVec.toNat * 2 ^ 7 := by
  have q := own_bv v.toBitVec (x &&& 127).toBitVec 7 hv (by omega)
  rw [← q]; rfl
theorem own_st0 (v x : Int32) (hv : v.toBitVec.toNat < 2 ^ 0) (hu : (x &&& 127).toBitVec.toNat < 128) : (v ||| ((x &&& (127 : Int32)) <<< ((0 : Int32) &&& 31))).toBitVec.toNat = v.toBitVec.toNat + (x &&& 127).toBitVec.toNat * 2 ^ 0 := by
  have q := own_bv v.toBitVec (x &&& 127).toBitVec 0 hv (by omega)
  rw [← q]; rfl
theorem own_okb1 {v k n w : Int32} (h : k < n - 1) (e : XT.ushr v (7 * k) = w) : okb v k n = ((w &&& 127) ||| 128).toInt8.toInt32 := by simp only [okb, if_pos h, e]
theorem own_okb2 {v k n w : Int32} (h : ¬ k < n - 1) (e : XT.ushr v (7 * k) = w) (hw : 0 ≤ w.toInt ∧ w.toInt < 128) : okb v k n = w.toInt8.toInt32 := by
  have q : w &&& 127 = w := by apply Int32.toInt_inj.mp; rw [own_m7]; omega
  simp only [okb, if_neg h, e, q]
theorem own_v1 {v : Int32} (h : 0 ≤ v.toInt) : (XT.ushr v (7 : Int32)).toInt = v.toInt / 128 ∧ 0 ≤ (XT.ushr v (7 : Int32)).toInt := own_ushr (k := 7) rfl h
theorem own_vt0 {v : Int32} (h : 0 ≤ v.toInt) : v.toInt = v.toInt / 1 ∧ 0 ≤ v.toInt := by
  omega
theorem own_eq0 {v : Int32} (h : 0 ≤ v.toInt) : XT.ushr v (7 * (0 : Int32)) = v := by
  have q := own_vt0 h
  have q2 := own_ushr (v := v) (y := 7 * (0 : Int32)) (k := 0) rfl h
  apply Int32.toInt_inj.mp
  rw [q2.1]; omega
theorem own_vt1 {v : Int32} (h : 0 ≤ v.toInt) : (XT.ushr v (7 : Int32)).toInt = v.toInt / 128 ∧ 0 ≤ (XT.ushr v (7 : Int32)).toInt := by
  have q := own_vt0 h
  have q2 := own_v1 q.2
  omega
theorem own_eq1 {v : Int32} (h : 0 ≤ v.toInt) : XT.ushr v (7 * (1 : Int32)) = (XT.ushr v (7 : Int32)) := by
  have q := own_vt1 h
  have q2 := own_ushr (v := v) (y := 7 * (1 : Int32)) (k := 7) rfl h
  apply Int32.toInt_inj.mp
  rw [q.1, q2.1]; omega
theorem own_vt2 {v : Int32} (h : 0 ≤ v.toInt) : (XT.ushr (XT.ushr v (7 : Int32)) (7 : Int32)).toInt = v.toInt / 16384 ∧ 0 ≤ (XT.ushr (XT.ushr v (7 : Int32)) (7 : Int32)).toInt := by
  have q := own_vt1 h
  have q2 := own_v1 q.2
  omega
theorem own_eq2 {v : Int32} (h : 0 ≤ v.toInt) : XT.ushr v (7 * (2 : Int32)) = (XT.ushr (XT.ushr v (7 : Int32)) (7 : Int32)) := by
  have q := own_vt2 h
  have q2 := own_ushr (v := v) (y := 7 * (2 : Int32)) (k := 14) rfl h
  apply Int32.toInt_inj.mp
  rw [q.1, q2.1]; omega
theorem own_vt3 {v : Int32} (h : 0 ≤ v.toInt) : (XT.ushr (XT.ushr (XT.ushr v (7 : Int32)) (7 : Int32)) (7 : Int32)).toInt = v.toInt / 2097152 ∧ 0 ≤ (XT.ushr (XT.ushr (XT.ushr v (7 : Int32)) (7 : Int32)) (7 : Int32)).toInt := by
  have q := own_vt2 h
  have q2 := own_v1 q.2
  omega
theorem own_eq3 {v : Int32} (h : 0 ≤ v.toInt) : XT.ushr v (7 * (3 : Int32)) = (XT.ushr (XT.ushr (XT.ushr v (7 : Int32)) (7 : Int32)) (7 : Int32)) := by
  have q := own_vt3 h
  have q2 := own_ushr (v := v) (y := 7 * (3 : Int32)) (k := 21) rfl h
  apply Int32.toInt_inj.mp
  rw [q.1, q2.1]; omega
theorem own_vt4 {v : Int32} (h : 0 ≤ v.toInt) : (XT.ushr (XT.ushr (XT.ushr (XT.ushr v (7 : Int32)) (7 : Int32)) (7 : Int32)) (7 : Int32)).toInt = v.toInt / 268435456 ∧ 0 ≤ (XT.ushr (XT.ushr (XT.ushr (XT.ushr v (7 : Int32)) (7 : Int32)) (7 : Int32)) (7 : Int32)).toInt := by
  have q := own_vt3 h
  have q2 := own_v1 q.2
  omega
theorem own_eq4 {v : Int32} (h : 0 ≤ v.toInt) : XT.ushr v (7 * (4 : Int32)) = (XT.ushr (XT.ushr (XT.ushr (XT.ushr v (7 : Int32)) (7 : Int32)) (7 : Int32)) (7 : Int32)) := by
  have q := own_vt4 h
  have q2 := own_ushr (v := v) (y := 7 * (4 : Int32)) (k := 28) rfl h
  apply Int32.toInt_inj.mp
  rw [q.1, q2.1]; omega
theorem own_rd1 {v f : Int32} {j i : Nat} (hj : j + 1 ≤ 12) (hi : i < 12) : ((List.replicate 12 (Value.int f)).set (j + 0) (.int v.toInt8.toInt32))[i]? = some (.int (rd j [v.toInt8.toInt32] f i)) := by
  generalize v.toInt8.toInt32 = b0
  simp only [List.getElem?_set, List.length_set, List.length_replicate, List.getElem?_replicate]
  rcases (by omega : i < j ∨ j + 1 ≤ i ∨ i = j + 0) with h | h | h
  · rw [rd_A (Or.inl h)]; rw [if_neg (by omega)]; rw [if_pos hi]
  · rw [rd_A (Or.inr (by simpa using h))]; rw [if_neg (by omega)]; rw [if_pos hi]
  · rw [rd_B (t := 0) h]; rw [if_pos (by omega), if_pos (by omega)]; rfl
theorem own_ok1 {v K i f : Int32} {iN : Nat} (hv : 0 ≤ v.toInt) (hb : v.toInt < 128) (hK : 0 ≤ K.toInt ∧ K.toInt ≤ 7) (hi : i.toInt = iN) (hlt : iN < 12) : (i < K ∨ ¬ i < K + (1 : Int32) → rd K.toNatClampNeg [v.toInt8.toInt32] f iN = f) ∧ (¬ i < K → i < K + (1 : Int32) → rd K.toNatClampNeg [v.toInt8.toInt32] f iN = okb v (i - K) (1 : Int32)) := by
  have rv := rng32 v
  have kj : (K.toNatClampNeg : Int) = K.toInt := by simp only [Int32.toNatClampNeg]; omega
  have e1 : (1 : Int32).toInt = 1 := by decide
  have s := c_iadd K (1 : Int32)
  have r := rng32 (K + (1 : Int32))
  rw [e1] at s
  have kn : (K + (1 : Int32)).toInt = K.toInt + 1 := by omega
  constructor
  · intro h
    refine rd_A ?_
    simp only [Int32.lt_iff_toInt_lt, hi, kn] at h
    simp only [List.length_cons, List.length_nil]
    omega
  · intro h1 h2
    simp only [Int32.lt_iff_toInt_lt, hi, kn] at h1 h2
    have s2 := c_isub i K
    have r2 := rng32 (i - K)
    have d : (i - K).toInt = iN - K.toInt := by omega
    rcases (by omega : (i - K).toInt = 0) with h
    · have e : i - K = (0 : Int32) := own_is h (by decide)
      rw [rd_B (t := 0) (by omega), e]
      rw [own_okb2 (by decide) (own_eq0 hv) (by have q := own_vt0 hv; omega)]; rfl
set_option maxHeartbeats 4000000 in
theorem own_back1 {v : Int32} (hv : 0 ≤ v.toInt) (hb : v.toInt < 128) : ((0 : Int32) ||| ((v.toInt8.toInt32 &&& (127 : Int32)) <<< ((0 : Int32) &&& 31))) = v := by
  have rv := rng32 v
  have v0 := own_vt0 hv
  have c0 : v.toInt8.toInt32.toInt = v.toInt := own_l (by omega)
  generalize v.toInt8.toInt32 = b0 at *
  have z0 : (0 : Int32).toBitVec.toNat = 0 := rfl
  have u0 := own_u b0
  have l0 : (b0 &&& 127).toBitVec.toNat < 128 := by omega
  have n0 := own_st0 (0 : Int32) b0 (by omega) l0
  generalize ((0 : Int32) ||| ((b0 &&& (127 : Int32)) <<< ((0 : Int32) &&& 31))) = x0 at *
  have q := own_n1 x0 (by omega)
  apply Int32.toInt_inj.mp
  omega
theorem own_rd2 {v f : Int32} {j i : Nat} (hj : j + 2 ≤ 12) (hi : i < 12) : (((List.replicate 12 (Value.int f)).set (j + 0) (.int ((v &&& (127 : Int32)) ||| (128 : Int32)).toInt8.toInt32)).set (j + 1) (.int (XT.ushr v (7 : Int32)).toInt8.toInt32))[i]? = some (.int (rd j [((v &&& (127 : Int32)) ||| (128 : Int32)).toInt8.toInt32, (XT.ushr v (7 : Int32)).toInt8.toInt32] f i)) := by
  generalize ((v &&& (127 : Int32)) ||| (128 : Int32)).toInt8.toInt32 = b0
  generalize (XT.ushr v (7 : Int32)).toInt8.toInt32 = b1
  simp only [List.getElem?_set, List.length_set, List.length_replicate, List.getElem?_replicate]
  rcases (by omega : i < j ∨ j + 2 ≤ i ∨ i = j + 0 ∨ i = j + 1) with h | h | h | h
  · rw [rd_A (Or.inl h)]; rw [if_neg (by omega)]; rw [if_neg (by omega)]; rw [if_pos hi]
  · rw [rd_A (Or.inr (by simpa using h))]; rw [if_neg (by omega)]; rw [if_neg (by omega)]; rw [if_pos hi]
  · rw [rd_B (t := 0) h]; rw [if_neg (by omega)]; rw [if_pos (by omega), if_pos (by omega)]; rfl
  · rw [rd_B (t := 1) h]; rw [if_pos (by omega), if_pos (by omega)]; rfl
theorem own_ok2 {v K i f : Int32} {iN : Nat} (hv : 0 ≤ v.toInt) (hb : 128 ≤ v.toInt ∧ v.toInt < 16384) (hK : 0 ≤ K.toInt ∧ K.toInt ≤ 7) (hi : i.toInt = iN) (hlt : iN < 12) : (i < K ∨ ¬ i < K + (2 : Int32) → rd K.toNatClampNeg [((v &&& (127 : Int32)) ||| (128 : Int32)).toInt8.toInt32, (XT.ushr v (7 : Int32)).toInt8.toInt32] f iN = f) ∧ (¬ i < K → i < K + (2 : Int32) → rd K.toNatClampNeg [((v &&& (127 : Int32)) ||| (128 : Int32)).toInt8.toInt32, (XT.ushr v (7 : Int32)).toInt8.toInt32] f iN = okb v (i - K) (2 : Int32)) := by
  have rv := rng32 v
  have kj : (K.toNatClampNeg : Int) = K.toInt := by simp only [Int32.toNatClampNeg]; omega
  have e1 : (2 : Int32).toInt = 2 := by decide
  have s := c_iadd K (2 : Int32)
  have r := rng32 (K + (2 : Int32))
  rw [e1] at s
  have kn : (K + (2 : Int32)).toInt = K.toInt + 2 := by omega
  constructor
  · intro h
    refine rd_A ?_
    simp only [Int32.lt_iff_toInt_lt, hi, kn] at h
    simp only [List.length_cons, List.length_nil]
    omega
  · intro h1 h2
    simp only [Int32.lt_iff_toInt_lt, hi, kn] at h1 h2
    have s2 := c_isub i K
    have r2 := rng32 (i - K)
    have d : (i - K).toInt = iN - K.toInt := by omega
    rcases (by omega : (i - K).toInt = 0 ∨ (i - K).toInt = 1) with h | h
    · have e : i - K = (0 : Int32) := own_is h (by decide)
      rw [rd_B (t := 0) (by omega), e]
      rw [own_okb1 (by decide) (own_eq0 hv)]; rfl
    · have e : i - K = (1 : Int32) := own_is h (by decide)
      rw [rd_B (t := 1) (by omega), e]
      rw [own_okb2 (by decide) (own_eq1 hv) (by have q := own_vt1 hv; omega)]; rfl
set_option maxHeartbeats 4000000 in
theorem own_back2 {v : Int32} (hv : 0 ≤ v.toInt) (hb : 128 ≤ v.toInt ∧ v.toInt < 16384) : (((0 : Int32) ||| ((((v &&& (127 : Int32)) ||| (128 : Int32)).toInt8.toInt32 &&& (127 : Int32)) <<< ((0 : Int32) &&& 31))) ||| (((XT.ushr v (7 : Int32)).toInt8.toInt32 &&& (127 : Int32)) <<< ((7 : Int32) &&& 31))) = v := by
  have rv := rng32 v
  have v0 := own_vt0 hv
  have c0 : ((v &&& (127 : Int32)) ||| (128 : Int32)).toInt8.toInt32.toInt = v.toInt % 128 - 128 := own_b
  generalize ((v &&& (127 : Int32)) ||| (128 : Int32)).toInt8.toInt32 = b0 at *
  have v1 := own_vt1 hv
  have c1 : (XT.ushr v (7 : Int32)).toInt8.toInt32.toInt = (XT.ushr v (7 : Int32)).toInt := own_l (by omega)
  generalize (XT.ushr v (7 : Int32)).toInt8.toInt32 = b1 at *
  generalize (XT.ushr v (7 : Int32)) = w1 at *
  have z0 : (0 : Int32).toBitVec.toNat = 0 := rfl
  have u0 := own_u b0
  have l0 : (b0 &&& 127).toBitVec.toNat < 128 := by omega
  have n0 := own_st0 (0 : Int32) b0 (by omega) l0
  generalize ((0 : Int32) ||| ((b0 &&& (127 : Int32)) <<< ((0 : Int32) &&& 31))) = x0 at *
  have u1 := own_u b1
  have l1 : (b1 &&& 127).toBitVec.toNat < 128 := by omega
  have n1 := own_st7 x0 b1 (by omega) l1
  generalize (x0 ||| ((b1 &&& (127 : Int32)) <<< ((7 : Int32) &&& 31))) = x1 at *
  have q := own_n1 x1 (by omega)
  apply Int32.toInt_inj.mp
  omega
theorem own_rd3 {v f : Int32} {j i : Nat} (hj : j + 3 ≤ 12) (hi : i < 12) : ((((List.replicate 12 (Value.int f)).set (j + 0) (.int ((v &&& (127 : Int32)) ||| (128 : Int32)).toInt8.toInt32)).set (j + 1) (.int (((XT.ushr v (7 : Int32)) &&& (127 : Int32)) ||| (128 : Int32)).toInt8.toInt32)).set (j + 2) (.int (XT.ushr (XT.ushr v (7 : Int32)) (7 : Int32)).toInt8.toInt32))[i]? = some (.int (rd j [((v &&& (127 : Int32)) ||| (128 : Int32)).toInt8.toInt32, (((XT.ushr v (7 : Int32)) &&& (127 : Int32)) ||| (128 : Int32)).toInt8.toInt32, (XT.ushr (XT.ushr v (7 : Int32)) (7 : Int32)).toInt8.toInt32] f i)) := by
  generalize ((v &&& (127 : Int32)) ||| (128 : Int32)).toInt8.toInt32 = b0
  generalize (((XT.ushr v (7 : Int32)) &&& (127 : Int32)) ||| (128 : Int32)).toInt8.toInt32 = b1
  generalize (XT.ushr (XT.ushr v (7 : Int32)) (7 : Int32)).toInt8.toInt32 = b2
  simp only [List.getElem?_set, List.length_set, List.length_replicate, List.getElem?_replicate]
  rcases (by omega : i < j ∨ j + 3 ≤ i ∨ i = j + 0 ∨ i = j + 1 ∨ i = j + 2) with h | h | h | h | h
  · rw [rd_A (Or.inl h)]; rw [if_neg (by omega)]; rw [if_neg (by omega)]; rw [if_neg (by omega)]; rw [if_pos hi]
  · rw [rd_A (Or.inr (by simpa using h))]; rw [if_neg (by omega)]; rw [if_neg (by omega)]; rw [if_neg (by omega)]; rw [if_pos hi]
  · rw [rd_B (t := 0) h]; rw [if_neg (by omega)]; rw [if_neg (by omega)]; rw [if_pos (by omega), if_pos (by omega)]; rfl
  · rw [rd_B (t := 1) h]; rw [if_neg (by omega)]; rw [if_pos (by omega), if_pos (by omega)]; rfl
  · rw [rd_B (t := 2) h]; rw [if_pos (by omega), if_pos (by omega)]; rfl
theorem own_ok3 {v K i f : Int32} {iN : Nat} (hv : 0 ≤ v.toInt) (hb : 16384 ≤ v.toInt ∧ v.toInt < 2097152) (hK : 0 ≤ K.toInt ∧ K.toInt ≤ 7) (hi : i.toInt = iN) (hlt : iN < 12) : (i < K ∨ ¬ i < K + (3 : Int32) → rd K.toNatClampNeg [((v &&& (127 : Int32)) ||| (128 : Int32)).toInt8.toInt32, (((XT.ushr v (7 : Int32)) &&& (127 : Int32)) ||| (128 : Int32)).toInt8.toInt32, (XT.ushr (XT.ushr v (7 : Int32)) (7 : Int32)).toInt8.toInt32] f iN = f) ∧ (¬ i < K → i < K + (3 : Int32) → rd K.toNatClampNeg [((v &&& (127 : Int32)) ||| (128 : Int32)).toInt8.toInt32, (((XT.ushr v (7 : Int32)) &&& (127 : Int32)) ||| (128 : Int32)).toInt8.toInt32, (XT.ushr (XT.ushr v (7 : Int32)) (7 : Int32)).toInt8.toInt32] f iN = okb v (i - K) (3 : Int32)) := by
  have rv := rng32 v
  have kj : (K.toNatClampNeg : Int) = K.toInt := by simp only [Int32.toNatClampNeg]; omega
  have e1 : (3 : Int32).toInt = 3 := by decide
  have s := c_iadd K (3 : Int32)
  have r := rng32 (K + (3 : Int32))
  rw [e1] at s
  have kn : (K + (3 : Int32)).toInt = K.toInt + 3 := by omega
  constructor
  · intro h
    refine rd_A ?_
    simp only [Int32.lt_iff_toInt_lt, hi, kn] at h
    simp only [List.length_cons, List.length_nil]
    omega
  · intro h1 h2
    simp only [Int32.lt_iff_toInt_lt, hi, kn] at h1 h2
    have s2 := c_isub i K
    have r2 := rng32 (i - K)
    have d : (i - K).toInt = iN - K.toInt := by omega
    rcases (by omega : (i - K).toInt = 0 ∨ (i - K).toInt = 1 ∨ (i - K).toInt = 2) with h | h | h
    · have e : i - K = (0 : Int32) := own_is h (by decide)
      rw [rd_B (t := 0) (by omega), e]
      rw [own_okb1 (by decide) (own_eq0 hv)]; rfl
    · have e : i - K = (1 : Int32) := own_is h (by decide)
      rw [rd_B (t := 1) (by omega), e]
      rw [own_okb1 (by decide) (own_eq1 hv)]; rfl
    · have e : i - K = (2 : Int32) := own_is h (by decide)
      rw [rd_B (t := 2) (by omega), e]
      rw [own_okb2 (by decide) (own_eq2 hv) (by have q := own_vt2 hv; omega)]; rfl
set_option maxHeartbeats 4000000 in
theorem own_back3 {v : Int32} (hv : 0 ≤ v.toInt) (hb : 16384 ≤ v.toInt ∧ v.toInt < 2097152) : ((((0 : Int32) ||| ((((v &&& (127 : Int32)) ||| (128 : Int32)).toInt8.toInt32 &&& (127 : Int32)) <<< ((0 : Int32) &&& 31))) ||| (((((XT.ushr v (7 : Int32)) &&& (127 : Int32)) ||| (128 : Int32)).toInt8.toInt32 &&& (127 : Int32)) <<< ((7 : Int32) &&& 31))) ||| (((XT.ushr (XT.ushr v (7 : Int32)) (7 : Int32)).toInt8.toInt32 &&& (127 : Int32)) <<< ((14 : Int32) &&& 31))) = v := by
  have rv := rng32 v
  have v0 := own_vt0 hv
  have c0 : ((v &&& (127 : Int32)) ||| (128 : Int32)).toInt8.toInt32.toInt = v.toInt % 128 - 128 := own_b
  generalize ((v &&& (127 : Int32)) ||| (128 : Int32)).toInt8.toInt32 = b0 at *
  have v1 := own_vt1 hv
  have c1 : (((XT.ushr v (7 : Int32)) &&& (127 : Int32)) ||| (128 : Int32)).toInt8.toInt32.toInt = (XT.ushr v (7 : Int32)).toInt % 128 - 128 := own_b
  generalize (((XT.ushr v (7 : Int32)) &&& (127 : Int32)) ||| (128 : Int32)).toInt8.toInt32 = b1 at *
  have v2 := own_vt2 hv
  have c2 : (XT.ushr (XT.ushr v (7 : Int32)) (7 : Int32)).toInt8.toInt32.toInt = (XT.ushr (XT.ushr v (7 : Int32)) (7 : Int32)).toInt := own_l (by omega)
  generalize (XT.ushr (XT.ushr v (7 : Int32)) (7 : Int32)).toInt8.toInt32 = b2 at *
  generalize (XT.ushr (XT.ushr v (7 : Int32)) (7 : Int32)) = w2 at *
  generalize (XT.ushr v (7 : Int32)) = w1 at *
  have z0 : (0 : Int32).toBitVec.toNat = 0 := rfl
  have u0 := own_u b0
  have l0 : (b0 &&& 127).toBitVec.toNat < 128 := by omega
  have n0 := own_st0 (0 : Int32) b0 (by omega) l0
  generalize ((0 : Int32) ||| ((b0 &&& (127 : Int32)) <<< ((0 : Int32) &&& 31))) = x0 at *
  have u1 := own_u b1
  have l1 : (b1 &&& 127).toBitVec.toNat < 128 := by omega
  have n1 := own_st7 x0 b1 (by omega) l1
  generalize (x0 ||| ((b1 &&& (127 : Int32)) <<< ((7 : Int32) &&& 31))) = x1 at *
  have u2 := own_u b2
  have l2 : (b2 &&& 127).toBitVec.toNat < 128 := by omega
  have n2 := own_st14 x1 b2 (by omega) l2
  generalize (x1 ||| ((b2 &&& (127 : Int32)) <<< ((14 : Int32) &&& 31))) = x2 at *
  have q := own_n1 x2 (by omega)
  apply Int32.toInt_inj.mp
  omega
theorem own_rd4 {v f : Int32} {j i : Nat} (hj : j + 4 ≤ 12) (hi : i < 12) : (((((List.replicate 12 (Value.int f)).set (j + 0) (.int ((v &&& (127 : Int32)) ||| (128 : Int32)).toInt8.toInt32)).set (j + 1) (.int (((XT.ushr v (7 : Int32)) &&& (127 : Int32)) ||| (128 : Int32)).toInt8.toInt32)).set (j + 2) (.int (((XT.ushr (XT.ushr v (7 : Int32)) (7 : Int32)) &&& (127 : Int32)) ||| (128 : Int32)).toInt8.toInt32)).set (j + 3) (.int (XT.ushr (XT.ushr (XT.ushr v (7 : Int32)) (7 : Int32)) (7 : Int32)).toInt8.toInt32))[i]? = some (.int (rd j [((v &&& (127 : Int32)) ||| (128 : Int32)).toInt8.toInt32, (((XT.ushr v (7 : Int32)) &&& (127 : Int32)) ||| (128 : Int32)).toInt8.toInt32, (((XT.ushr (XT.ushr v (7 : Int32)) (7 : Int32)) &&& (127 : Int32)) ||| (128 : Int32)).toInt8.toInt32, (XT.ushr (XT.ushr (XT.ushr v (7 : Int32)) (7 : Int32)) (7 : Int32)).toInt8.toInt32] f i)) := by
  generalize ((v &&& (127 : Int32)) ||| (128 : Int32)).toInt8.toInt32 = b0
  generalize (((XT.ushr v (7 : Int32)) &&& (127 : Int32)) ||| (128 : Int32)).toInt8.toInt32 = b1
  generalize (((XT.ushr (XT.ushr v (7 : Int32)) (7 : Int32)) &&& (127 : Int32)) ||| (128 : Int32)).toInt8.toInt32 = b2
  generalize (XT.ushr (XT.ushr (XT.ushr v (7 : Int32)) (7 : Int32)) (7 : Int32)).toInt8.toInt32 = b3
  simp only [List.getElem?_set, List.length_set, List.length_replicate, List.getElem?_replicate]
  rcases (by omega : i < j ∨ j + 4 ≤ i ∨ i = j + 0 ∨ i = j + 1 ∨ i = j + 2 ∨ i = j + 3) with h | h | h | h | h | h
  · rw [rd_A (Or.inl h)]; rw [if_neg (by omega)]; rw [if_neg (by omega)]; rw [if_neg (by omega)]; rw [if_neg (by omega)]; rw [if_pos hi]
  · rw [rd_A (Or.inr (by simpa using h))]; rw [if_neg (by omega)]; rw [if_neg (by omega)]; rw [if_neg (by omega)]; rw [if_neg (by omega)]; rw [if_pos hi]
  · rw [rd_B (t := 0) h]; rw [if_neg (by omega)]; rw [if_neg (by omega)]; rw [if_neg (by omega)]; rw [if_pos (by omega), if_pos (by omega)]; rfl
  · rw [rd_B (t := 1) h]; rw [if_neg (by omega)]; rw [if_neg (by omega)]; rw [if_pos (by omega), if_pos (by omega)]; rfl
  · rw [rd_B (t := 2) h]; rw [if_neg (by omega)]; rw [if_pos (by omega), if_pos (by omega)]; rfl
  · rw [rd_B (t := 3) h]; rw [if_pos (by omega), if_pos (by omega)]; rfl
theorem own_ok4 {v K i f : Int32} {iN : Nat} (hv : 0 ≤ v.toInt) (hb : 2097152 ≤ v.toInt ∧ v.toInt < 268435456) (hK : 0 ≤ K.toInt ∧ K.toInt ≤ 7) (hi : i.toInt = iN) (hlt : iN < 12) : (i < K ∨ ¬ i < K + (4 : Int32) → rd K.toNatClampNeg [((v &&& (127 : Int32)) ||| (128 : Int32)).toInt8.toInt32, (((XT.ushr v (7 : Int32)) &&& (127 : Int32)) ||| (128 : Int32)).toInt8.toInt32, (((XT.ushr (XT.ushr v (7 : Int32)) (7 : Int32)) &&& (127 : Int32)) ||| (128 : Int32)).toInt8.toInt32, (XT.ushr (XT.ushr (XT.ushr v (7 : Int32)) (7 : Int32)) (7 : Int32)).toInt8.toInt32] f iN = f) ∧ (¬ i < K → i < K + (4 : Int32) → rd K.toNatClampNeg [((v &&& (127 : Int32)) ||| (128 : Int32)).toInt8.toInt32, (((XT.ushr v (7 : Int32)) &&& (127 : Int32)) ||| (128 : Int32)).toInt8.toInt32, (((XT.ushr (XT.ushr v (7 : Int32)) (7 : Int32)) &&& (127 : Int32)) ||| (128 : Int32)).toInt8.toInt32, (XT.ushr (XT.ushr (XT.ushr v (7 : Int32)) (7 : Int32)) (7 : Int32)).toInt8.toInt32] f iN = okb v (i - K) (4 : Int32)) := by
  have rv := rng32 v
  have kj : (K.toNatClampNeg : Int) = K.toInt := by simp only [Int32.toNatClampNeg]; omega
  have e1 : (4 : Int32).toInt = 4 := by decide
  have s := c_iadd K (4 : Int32)
  have r := rng32 (K + (4 : Int32))
  rw [e1] at s
  have kn : (K + (4 : Int32)).toInt = K.toInt + 4 := by omega
  constructor
  · intro h
    refine rd_A ?_
    simp only [Int32.lt_iff_toInt_lt, hi, kn] at h
    simp only [List.length_cons, List.length_nil]
    omega
  · intro h1 h2
    simp only [Int32.lt_iff_toInt_lt, hi, kn] at h1 h2
    have s2 := c_isub i K
    have r2 := rng32 (i - K)
    have d : (i - K).toInt = iN - K.toInt := by omega
    rcases (by omega : (i - K).toInt = 0 ∨ (i - K).toInt = 1 ∨ (i - K).toInt = 2 ∨ (i - K).toInt = 3) with h | h | h | h
    · have e : i - K = (0 : Int32) := own_is h (by decide)
      rw [rd_B (t := 0) (by omega), e]
      rw [own_okb1 (by decide) (own_eq0 hv)]; rfl
    · have e : i - K = (1 : Int32) := own_is h (by decide)
      rw [rd_B (t := 1) (by omega), e]
      rw [own_okb1 (by decide) (own_eq1 hv)]; rfl
    · have e : i - K = (2 : Int32) := own_is h (by decide)
      rw [rd_B (t := 2) (by omega), e]
      rw [own_okb1 (by decide) (own_eq2 hv)]; rfl
    · have e : i - K = (3 : Int32) := own_is h (by decide)
      rw [rd_B (t := 3) (by omega), e]
      rw [own_okb2 (by decide) (own_eq3 hv) (by have q := own_vt3 hv; omega)]; rfl
set_option maxHeartbeats 4000000 in
theorem own_back4 {v : Int32} (hv : 0 ≤ v.toInt) (hb : 2097152 ≤ v.toInt ∧ v.toInt < 268435456) : (((((0 : Int32) ||| ((((v &&& (127 : Int32)) ||| (128 : Int32)).toInt8.toInt32 &&& (127 : Int32)) <<< ((0 : Int32) &&& 31))) ||| (((((XT.ushr v (7 : Int32)) &&& (127 : Int32)) ||| (128 : Int32)).toInt8.toInt32 &&& (127 : Int32)) <<< ((7 : Int32) &&& 31))) ||| (((((XT.ushr (XT.ushr v (7 : Int32)) (7 : Int32)) &&& (127 : Int32)) ||| (128 : Int32)).toInt8.toInt32 &&& (127 : Int32)) <<< ((14 : Int32) &&& 31))) ||| (((XT.ushr (XT.ushr (XT.ushr v (7 : Int32)) (7 : Int32)) (7 : Int32)).toInt8.toInt32 &&& (127 : Int32)) <<< ((21 : Int32) &&& 31))) = v := by
  have rv := rng32 v
  have v0 := own_vt0 hv
  have c0 : ((v &&& (127 : Int32)) ||| (128 : Int32)).toInt8.toInt32.toInt = v.toInt % 128 - 128 := own_b
  generalize ((v &&& (127 : Int32)) ||| (128 : Int32)).toInt8.toInt32 = b0 at *
  have v1 := own_vt1 hv
  have c1 : (((XT.ushr v (7 : Int32)) &&& (127 : Int32)) ||| (128 : Int32)).toInt8.toInt32.toInt = (XT.ushr v (7 : Int32)).toInt % 128 - 128 := own_b
  generalize (((XT.ushr v (7 : Int32)) &&& (127 : Int32)) ||| (128 : Int32)).toInt8.toInt32 = b1 at *
  have v2 := own_vt2 hv
  have c2 : (((XT.ushr (XT.ushr v (7 : Int32)) (7 : Int32)) &&& (127 : Int32)) ||| (128 : Int32)).toInt8.toInt32.toInt = (XT.ushr (XT.ushr v (7 : Int32)) (7 : Int32)).toInt % 128 - 128 := own_b
  generalize (((XT.ushr (XT.ushr v (7 : Int32)) (7 : Int32)) &&& (127 : Int32)) ||| (128 : Int32)).toInt8.toInt32 = b2 at *
  have v3 := own_vt3 hv
  have c3 : (XT.ushr (XT.ushr (XT.ushr v (7 : Int32)) (7 : Int32)) (7 : Int32)).toInt8.toInt32.toInt = (XT.ushr (XT.ushr (XT.ushr v (7 : Int32)) (7 : Int32)) (7 : Int32)).toInt := own_l (by omega)
  generalize (XT.ushr (XT.ushr (XT.ushr v (7 : Int32)) (7 : Int32)) (7 : Int32)).toInt8.toInt32 = b3 at *
  generalize (XT.ushr (XT.ushr (XT.ushr v (7 : Int32)) (7 : Int32)) (7 : Int32)) = w3 at *
  generalize (XT.ushr (XT.ushr v (7 : Int32)) (7 : Int32)) = w2 at *
  generalize (XT.ushr v (7 : Int32)) = w1 at *
  have z0 : (0 : Int32).toBitVec.toNat = 0 := rfl
  have u0 := own_u b0
  have l0 : (b0 &&& 127).toBitVec.toNat < 128 := by omega
  have n0 := own_st0 (0 : Int32) b0 (by omega) l0
  generalize ((0 : Int32) ||| ((b0 &&& (127 : Int32)) <<< ((0 : Int32) &&& 31))) = x0 at *
  have u1 := own_u b1
  have l1 : (b1 &&& 127).toBitVec.toNat < 128 := by omega
  have n1 := own_st7 x0 b1 (by omega) l1
  generalize (x0 ||| ((b1 &&& (127 : Int32)) <<< ((7 : Int32) &&& 31))) = x1 at *
  have u2 := own_u b2
  have l2 : (b2 &&& 127).toBitVec.toNat < 128 := by omega
  have n2 := own_st14 x1 b2 (by omega) l2
  generalize (x1 ||| ((b2 &&& (127 : Int32)) <<< ((14 : Int32) &&& 31))) = x2 at *
  have u3 := own_u b3
  have l3 : (b3 &&& 127).toBitVec.toNat < 128 := by omega
  have n3 := own_st21 x2 b3 (by omega) l3
  generalize (x2 ||| ((b3 &&& (127 : Int32)) <<< ((21 : Int32) &&& 31))) = x3 at *
  have q := own_n1 x3 (by omega)
  apply Int32.toInt_inj.mp
  omega
theorem own_rd5 {v f : Int32} {j i : Nat} (hj : j + 5 ≤ 12) (hi : i < 12) : ((((((List.replicate 12 (Value.int f)).set (j + 0) (.int ((v &&& (127 : Int32)) ||| (128 : Int32)).toInt8.toInt32)).set (j + 1) (.int (((XT.ushr v (7 : Int32)) &&& (127 : Int32)) ||| (128 : Int32)).toInt8.toInt32)).set (j + 2) (.int (((XT.ushr (XT.ushr v (7 : Int32)) (7 : Int32)) &&& (127 : Int32)) ||| (128 : Int32)).toInt8.toInt32)).set (j + 3) (.int (((XT.ushr (XT.ushr (XT.ushr v (7 : Int32)) (7 : Int32)) (7 : Int32)) &&& (127 : Int32)) ||| (128 : Int32)).toInt8.toInt32)).set (j + 4) (.int (XT.ushr (XT.ushr (XT.ushr (XT.ushr v (7 : Int32)) (7 : Int32)) (7 : Int32)) (7 : Int32)).toInt8.toInt32))[i]? = some (.int (rd j [((v &&& (127 : Int32)) ||| (128 : Int32)).toInt8.toInt32, (((XT.ushr v (7 : Int32)) &&& (127 : Int32)) ||| (128 : Int32)).toInt8.toInt32, (((XT.ushr (XT.ushr v (7 : Int32)) (7 : Int32)) &&& (127 : Int32)) ||| (128 : Int32)).toInt8.toInt32, (((XT.ushr (XT.ushr (XT.ushr v (7 : Int32)) (7 : Int32)) (7 : Int32)) &&& (127 : Int32)) ||| (128 : Int32)).toInt8.toInt32, (XT.ushr (XT.ushr (XT.ushr (XT.ushr v (7 : Int32)) (7 : Int32)) (7 : Int32)) (7 : Int32)).toInt8.toInt32] f i)) := by
  generalize ((v &&& (127 : Int32)) ||| (128 : Int32)).toInt8.toInt32 = b0
  generalize (((XT.ushr v (7 : Int32)) &&& (127 : Int32)) ||| (128 : Int32)).toInt8.toInt32 = b1
  generalize (((XT.ushr (XT.ushr v (7 : Int32)) (7 : Int32)) &&& (127 : Int32)) ||| (128 : Int32)).toInt8.toInt32 = b2
  generalize (((XT.ushr (XT.ushr (XT.ushr v (7 : Int32)) (7 : Int32)) (7 : Int32)) &&& (127 : Int32)) ||| (128 : Int32)).toInt8.toInt32 = b3
  generalize (XT.ushr (XT.ushr (XT.ushr (XT.ushr v (7 : Int32)) (7 : Int32)) (7 : Int32)) (7 : Int32)).toInt8.toInt32 = b4
  simp only [List.getElem?_set, List.length_set, List.length_replicate, List.getElem?_replicate]
  rcases (by omega : i < j ∨ j + 5 ≤ i ∨ i = j + 0 ∨ i = j + 1 ∨ i = j + 2 ∨ i = j + 3 ∨ i = j + 4) with h | h | h | h | h | h | h
  · rw [rd_A (Or.inl h)]; rw [if_neg (by omega)]; rw [if_neg (by omega)]; rw [if_neg (by omega)]; rw [if_neg (by omega)]; rw [if_neg (by omega)]; rw [if_pos hi]
  · rw [rd_A (Or.inr (by simpa using h))]; rw [if_neg (by omega)]; rw [if_neg (by omega)]; rw [if_neg (by omega)]; rw [if_neg (by omega)]; rw [if_neg (by omega)]; rw [if_pos hi]
  · rw [rd_B (t := 0) h]; rw [if_neg (by omega)]; rw [if_neg (by omega)]; rw [if_neg (by omega)]; rw [if_neg (by omega)]; rw [if_pos (by omega), if_pos (by omega)]; rfl
  · rw [rd_B (t := 1) h]; rw [if_neg (by omega)]; rw [if_neg (by omega)]; rw [if_neg (by omega)]; rw [if_pos (by omega), if_pos (by omega)]; rfl
  · rw [rd_B (t := 2) h]; rw [if_neg (by omega)]; rw [if_neg (by omega)]; rw [if_pos (by omega), if_pos (by omega)]; rfl
  · rw [rd_B (t := 3) h]; rw [if_neg (by omega)]; rw [if_pos (by omega), if_pos (by omega)]; rfl
  · rw [rd_B (t := 4) h]; rw [if_pos (by omega), if_pos (by omega)]; rfl
theorem own_ok5 {v K i f : Int32} {iN : Nat} (hv : 0 ≤ v.toInt) (hb : 268435456 ≤ v.toInt) (hK : 0 ≤ K.toInt ∧ K.toInt ≤ 7) (hi : i.toInt = iN) (hlt : iN < 12) : (i < K ∨ ¬ i < K + (5 : Int32) → rd K.toNatClampNeg [((v &&& (127 : Int32)) ||| (128 : Int32)).toInt8.toInt32, (((XT.ushr v (7 : Int32)) &&& (127 : Int32)) ||| (128 : Int32)).toInt8.toInt32, (((XT.ushr (XT.ushr v (7 : Int32)) (7 : Int32)) &&& (127 : Int32)) ||| (128 : Int32)).toInt8.toInt32, (((XT.ushr (XT.ushr (XT.ushr v (7 : Int32)) (7 : Int32)) (7 : Int32)) &&& (127 : Int32)) ||| (128 : Int32)).toInt8.toInt32, (XT.ushr (XT.ushr (XT.ushr (XT.ushr v (7 : Int32)) (7 : Int32)) (7 : Int32)) (7 : Int32)).toInt8.toInt32] f iN = f) ∧ (¬ i < K → i < K + (5 : Int32) → rd K.toNatClampNeg [((v &&& (127 : Int32)) ||| (128 : Int32)).toInt8.toInt32, (((XT.ushr v (7 : Int32)) &&& (127 : Int32)) ||| (128 : Int32)).toInt8.toInt32, (((XT.ushr (XT.ushr v (7 : Int32)) (7 : Int32)) &&& (127 : Int32)) ||| (128 : Int32)).toInt8.toInt32, (((XT.ushr (XT.ushr (XT.ushr v (7 : Int32)) (7 : Int32)) (7 : Int32)) &&& (127 : Int32)) ||| (128 : Int32)).toInt8.toInt32, (XT.ushr (XT.ushr (XT.ushr (XT.ushr v (7 : Int32)) (7 : Int32)) (7 : Int32)) (7 : Int32)).toInt8.toInt32] f iN = okb v (i - K) (5 : Int32)) := by
  have rv := rng32 v
  have kj : (K.toNatClampNeg : Int) = K.toInt := by simp only [Int32.toNatClampNeg]; omega
  have e1 : (5 : Int32).toInt = 5 := by decide
  have s := c_iadd K (5 : Int32)
  have r := rng32 (K + (5 : Int32))
  rw [e1] at s
  have kn : (K + (5 : Int32)).toInt = K.toInt + 5 := by omega
  constructor
  · intro h
    refine rd_A ?_
    simp only [Int32.lt_iff_toInt_lt, hi, kn] at h
    simp only [List.length_cons, List.length_nil]
    omega
  · intro h1 h2
    simp only [Int32.lt_iff_toInt_lt, hi, kn] at h1 h2
    have s2 := c_isub i K
    have r2 := rng32 (i - K)
    have d : (i - K).toInt = iN - K.toInt := by omega
    rcases (by omega : (i - K).toInt = 0 ∨ (i - K).toInt = 1 ∨ (i - K).toInt = 2 ∨ (i - K).toInt = 3 ∨ (i - K).toInt = 4) with h | h | h | h | h
    · have e : i - K = (0 : Int32) := own_is h (by decide)
      rw [rd_B (t := 0) (by omega), e]
      rw [own_okb1 (by decide) (own_eq0 hv)]; rfl
    · have e : i - K = (1 : Int32) := own_is h (by decide)
      rw [rd_B (t := 1) (by omega), e]
      rw [own_okb1 (by decide) (own_eq1 hv)]; rfl
    · have e : i - K = (2 : Int32) := own_is h (by decide)
      rw [rd_B (t := 2) (by omega), e]
      rw [own_okb1 (by decide) (own_eq2 hv)]; rfl
    · have e : i - K = (3 : Int32) := own_is h (by decide)
      rw [rd_B (t := 3) (by omega), e]
      rw [own_okb1 (by decide) (own_eq3 hv)]; rfl
    · have e : i - K = (4 : Int32) := own_is h (by decide)
      rw [rd_B (t := 4) (by omega), e]
      rw [own_okb2 (by decide) (own_eq4 hv) (by have q := own_vt4 hv; omega)]; rfl
set_option maxHeartbeats 4000000 in
theorem own_back5 {v : Int32} (hv : 0 ≤ v.toInt) (hb : 268435456 ≤ v.toInt) : ((((((0 : Int32) ||| ((((v &&& (127 : Int32)) ||| (128 : Int32)).toInt8.toInt32 &&& (127 : Int32)) <<< ((0 : Int32) &&& 31))) ||| (((((XT.ushr v (7 : Int32)) &&& (127 : Int32)) ||| (128 : Int32)).toInt8.toInt32 &&& (127 : Int32)) <<< ((7 : Int32) &&& 31))) ||| (((((XT.ushr (XT.ushr v (7 : Int32)) (7 : Int32)) &&& (127 : Int32)) ||| (128 : Int32)).toInt8.toInt32 &&& (127 : Int32)) <<< ((14 : Int32) &&& 31))) ||| (((((XT.ushr (XT.ushr (XT.ushr v (7 : Int32)) (7 : Int32)) (7 : Int32)) &&& (127 : Int32)) ||| (128 : Int32)).toInt8.toInt32 &&& (127 : Int32)) <<< ((21 : Int32) &&& 31))) ||| (((XT.ushr (XT.ushr (XT.ushr (XT.ushr v (7 : Int32)) (7 : Int32)) (7 : Int32)) (7 : Int32)).toInt8.toInt32 &&& (127 : Int32)) <<< ((28 : Int32) &&& 31))) = v := by
  have rv := rng32 v
  have v0 := own_vt0 hv
  have c0 : ((v &&& (127 : Int32)) ||| (128 : Int32)).toInt8.toInt32.toInt = v.toInt % 128 - 128 := own_b
  generalize ((v &&& (127 : Int32)) ||| (128 : Int32)).toInt8.toInt32 = b0 at *
  have v1 := own_vt1 hv
  have c1 : (((XT.ushr v (7 : Int32)) &&& (127 : Int32)) ||| (128 : Int32)).toInt8.toInt32.toInt = (XT.ushr v (7 : Int32)).toInt % 128 - 128 := own_b
  generalize (((XT.ushr v (7 : Int32)) &&& (127 : Int32)) ||| (128 : Int32)).toInt8.toInt32 = b1 at *
  have v2 := own_vt2 hv
  have c2 : (((XT.ushr (XT.ushr v (7 : Int32)) (7 : Int32)) &&& (127 : Int32)) ||| (128 : Int32)).toInt8.toInt32.toInt = (XT.ushr (XT.ushr v (7 : Int32)) (7 : Int32)).toInt % 128 - 128 := own_b
  generalize (((XT.ushr (XT.ushr v (7 : Int32)) (7 : Int32)) &&& (127 : Int32)) ||| (128 : Int32)).toInt8.toInt32 = b2 at *
  have v3 := own_vt3 hv
  have c3 : (((XT.ushr (XT.ushr (XT.ushr v (7 : Int32)) (7 : Int32)) (7 : Int32)) &&& (127 : Int32)) ||| (128 : Int32)).toInt8.toInt32.toInt = (XT.ushr (XT.ushr (XT.ushr v (7 : Int32)) (7 : Int32)) (7 : Int32)).toInt % 128 - 128 := own_b
  generalize (((XT.ushr (XT.ushr (XT.ushr v (7 : Int32)) (7 : Int32)) (7 : Int32)) &&& (127 : Int32)) ||| (128 : Int32)).toInt8.toInt32 = b3 at *
  have v4 := own_vt4 hv
  have c4 : (XT.ushr (XT.ushr (XT.ushr (XT.ushr v (7 : Int32)) (7 : Int32)) (7 : Int32)) (7 : Int32)).toInt8.toInt32.toInt = (XT.ushr (XT.ushr (XT.ushr (XT.ushr v (7 : Int32)) (7 : Int32)) (7 : Int32)) (7 : Int32)).toInt := own_l (by omega)
  generalize (XT.ushr (XT.ushr (XT.ushr (XT.ushr v (7 : Int32)) (7 : Int32)) (7 : Int32)) (7 : Int32)).toInt8.toInt32 = b4 at *
  generalize (XT.ushr (XT.ushr (XT.ushr (XT.ushr v (7 : Int32)) (7 : Int32)) (7 : Int32)) (7 : Int32)) = w4 at *
  generalize (XT.ushr (XT.ushr (XT.ushr v (7 : Int32)) (7 : Int32)) (7 : Int32)) = w3 at *
  generalize (XT.ushr (XT.ushr v (7 : Int32)) (7 : Int32)) = w2 at *
  generalize (XT.ushr v (7 : Int32)) = w1 at *
  have z0 : (0 : Int32).toBitVec.toNat = 0 := rfl
  have u0 := own_u b0
  have l0 : (b0 &&& 127).toBitVec.toNat < 128 := by omega
  have n0 := own_st0 (0 : Int32) b0 (by omega) l0
  generalize ((0 : Int32) ||| ((b0 &&& (127 : Int32)) <<< ((0 : Int32) &&& 31))) = x0 at *
  have u1 := own_u b1
  have l1 : (b1 &&& 127).toBitVec.toNat < 128 := by omega
  have n1 := own_st7 x0 b1 (by omega) l1
  generalize (x0 ||| ((b1 &&& (127 : Int32)) <<< ((7 : Int32) &&& 31))) = x1 at *
  have u2 := own_u b2
  have l2 : (b2 &&& 127).toBitVec.toNat < 128 := by omega
  have n2 := own_st14 x1 b2 (by omega) l2
  generalize (x1 ||| ((b2 &&& (127 : Int32)) <<< ((14 : Int32) &&& 31))) = x2 at *
  have u3 := own_u b3
  have l3 : (b3 &&& 127).toBitVec.toNat < 128 := by omega
  have n3 := own_st21 x2 b3 (by omega) l3
  generalize (x2 ||| ((b3 &&& (127 : Int32)) <<< ((21 : Int32) &&& 31))) = x3 at *
  have u4 := own_u b4
  have l4 : (b4 &&& 127).toBitVec.toNat < 16 := by omega
  have n4 := own_st28 x3 b4 (by omega) l4
  generalize (x3 ||| ((b4 &&& (127 : Int32)) <<< ((28 : Int32) &&& 31))) = x4 at *
  have q := own_n1 x4 (by omega)
  apply Int32.toInt_inj.mp
  omega
theorem own_j {K : Int32} {n : Nat} (h : 0 ≤ K.toInt ∧ K.toInt ≤ 7) (hn : n ≤ 5 := by decide) : K.toNatClampNeg + n ≤ 12 := by simp only [Int32.toNatClampNeg]; omega
theorem own_j2 {K : Int32} {n : Nat} (h : 0 ≤ K.toInt ∧ K.toInt ≤ 7) (hn : n ≤ 4 := by decide) : K.toNatClampNeg + n < 12 := by simp only [Int32.toNatClampNeg]; omega
theorem own_after1 (K : Int32) : (K + (1 : Int32)) = K + (1 : Int32) := by rfl
theorem own_after2 (K : Int32) : ((K + (1 : Int32)) + (1 : Int32)) = K + (2 : Int32) := by
  rw [Int32.add_assoc]; rfl
theorem own_after3 (K : Int32) : (((K + (1 : Int32)) + (1 : Int32)) + (1 : Int32)) = K + (3 : Int32) := by
  rw [Int32.add_assoc, Int32.add_assoc]; rfl
theorem own_after4 (K : Int32) : ((((K + (1 : Int32)) + (1 : Int32)) + (1 : Int32)) + (1 : Int32)) = K + (4 : Int32) := by
  rw [Int32.add_assoc, Int32.add_assoc, Int32.add_assoc]; rfl
theorem own_after5 (K : Int32) : (((((K + (1 : Int32)) + (1 : Int32)) + (1 : Int32)) + (1 : Int32)) + (1 : Int32)) = K + (5 : Int32) := by
  rw [Int32.add_assoc, Int32.add_assoc, Int32.add_assoc, Int32.add_assoc]; rfl
set_option maxRecDepth 65536 in
set_option maxHeartbeats 40000000 in
theorem c_law (l : Launch) (Z : State) (a0 : Array Value) (hw : ∀ d ∈ tables_1, d.before a0 Z = true) {B : Nat} (p0 p1 p2 p3 : Int32) :
    Con l Z FM B x code maxLocals ret room_1 tables_1 #[.int p0, .int p1, .int p2, .int p3] [] (fun v os => v = some (.int 1)) := by
  refine Con.of (plainFor_of_name (by first | (simp [plainName, overriddenIn]; done) | decide +kernel)) (ls := #[.val (.int p0), .val (.int p1), .val (.int p2), .val (.int p3), .unset, .unset, .unset, .unset, .unset, .unset, .unset, .unset, .unset]) (fun m => by first | (simp [entryFrame, mkF, argsToLocals, Value.category, maxLocals]; done) | rfl) ?_
  intro p_ e_ h_ s_ m_ bl_ me_ c_ T0 W0
  refine g_iload_n (pc := 0) W0 at_0 rfl ?_
  refine g_ldc_int (pc := 1) (v := (2147483647 : Int32)) W0 (hw _ (List.mem_of_getElem? (i := 0) rfl)) at_1 ?_
  refine g_iand (pc := 3) W0 at_3 ?_
  refine g_iload_n (pc := 4) W0 at_4 rfl ?_
  refine g_bipush (pc := 5) (31 : Int32) (by decide) W0 at_5 ?_
  refine g_iand (pc := 7) W0 at_7 ?_
  refine g_iushr (pc := 8) W0 at_8 ?_
  refine g_istore (pc := 9) (ls' := #[.val (.int p0), .val (.int p1), .val (.int p2), .val (.int p3), .val (.int (XT.ushr (p0 &&& (2147483647 : Int32)) (p1 &&& (31 : Int32)))), .unset, .unset, .unset, .unset, .unset, .unset, .unset, .unset]) W0 at_9 rfl ?_
  have hv := own_v p0 p1
  generalize (XT.ushr (p0 &&& (2147483647 : Int32)) (p1 &&& (31 : Int32))) = v at hv ⊢
  refine g_iload_n (pc := 11) W0 at_11 rfl ?_
  refine g_bipush (pc := 12) (7 : Int32) (by decide) W0 at_12 ?_
  refine g_iand (pc := 14) W0 at_14 ?_
  refine g_istore (pc := 15) (ls' := #[.val (.int p0), .val (.int p1), .val (.int p2), .val (.int p3), .val (.int v), .val (.int (p2 &&& (7 : Int32))), .unset, .unset, .unset, .unset, .unset, .unset, .unset]) W0 at_15 rfl ?_
  have hK := own_K p2
  generalize (p2 &&& (7 : Int32)) = K at hK ⊢
  have k0 := own_k0 hK
  have k1 := own_kn (t := 0) hK (by decide) k0.2.2
  have k2 := own_kn (t := 1) hK (by decide) k1.2.2
  have k3 := own_kn (t := 2) hK (by decide) k2.2.2
  have k4 := own_kn (t := 3) hK (by decide) k3.2.2
  have k5 := own_kn (t := 4) hK (by decide) k4.2.2
  refine g_iload_n (pc := 17) W0 at_17 rfl ?_
  refine g_i2b (pc := 18) W0 at_18 ?_
  refine g_istore (pc := 19) (ls' := #[.val (.int p0), .val (.int p1), .val (.int p2), .val (.int p3), .val (.int v), .val (.int K), .val (.int p3.toInt8.toInt32), .unset, .unset, .unset, .unset, .unset, .unset]) W0 at_19 rfl ?_
  have hf := own_bb p3
  generalize p3.toInt8.toInt32 = f at hf ⊢
  refine g_bipush (pc := 21) (12 : Int32) (by decide) W0 at_21 ?_
  refine g_newarray (pc := 23) (ty := .byte) (vs := [.int (0 : Int32), .int (0 : Int32), .int (0 : Int32), .int (0 : Int32), .int (0 : Int32), .int (0 : Int32), .int (0 : Int32), .int (0 : Int32), .int (0 : Int32), .int (0 : Int32), .int (0 : Int32), .int (0 : Int32)]) 12 W0 (hw _ (List.mem_of_getElem? (i := 1) rfl)) rfl (by decide) (by decide) (by decide) rfl at_23 (by decide) (by decide) (fun T2 b1 W3 => ?_)
  have W4 := W3.re (os' := [(b1, (.array .byte), [.int (0 : Int32), .int (0 : Int32), .int (0 : Int32), .int (0 : Int32), .int (0 : Int32), .int (0 : Int32), .int (0 : Int32), .int (0 : Int32), .int (0 : Int32), .int (0 : Int32), .int (0 : Int32), .int (0 : Int32)])]) rfl
  refine g_dup (pc := 25) W4 at_25 rfl ?_
  refine g_iconst (pc := 26) (0 : Int32) (by decide) W4 at_26 ?_
  refine g_iload (pc := 27) W4 at_27 rfl ?_
  refine g_bastore (pc := 29) (i := 0) (os' := [(b1, (.array .byte), [.int f, .int (0 : Int32), .int (0 : Int32), .int (0 : Int32), .int (0 : Int32), .int (0 : Int32), .int (0 : Int32), .int (0 : Int32), .int (0 : Int32), .int (0 : Int32), .int (0 : Int32), .int (0 : Int32)])]) (x' := f) hf 0 W4 rfl (by decide) (by decide) (Nat.le_of_ble_eq_true rfl) rfl at_29 (fun T5 W6 => ?_)
  refine g_dup (pc := 30) W6 at_30 rfl ?_
  refine g_iconst (pc := 31) (1 : Int32) (by decide) W6 at_31 ?_
  refine g_iload (pc := 32) W6 at_32 rfl ?_
  refine g_bastore (pc := 34) (i := 0) (os' := [(b1, (.array .byte), [.int f, .int f, .int (0 : Int32), .int (0 : Int32), .int (0 : Int32), .int (0 : Int32), .int (0 : Int32), .int (0 : Int32), .int (0 : Int32), .int (0 : Int32), .int (0 : Int32), .int (0 : Int32)])]) (x' := f) hf 1 W6 rfl (by decide) (by decide) (Nat.le_of_ble_eq_true rfl) rfl at_34 (fun T7 W8 => ?_)
  refine g_dup (pc := 35) W8 at_35 rfl ?_
  refine g_iconst (pc := 36) (2 : Int32) (by decide) W8 at_36 ?_
  refine g_iload (pc := 37) W8 at_37 rfl ?_
  refine g_bastore (pc := 39) (i := 0) (os' := [(b1, (.array .byte), [.int f, .int f, .int f, .int (0 : Int32), .int (0 : Int32), .int (0 : Int32), .int (0 : Int32), .int (0 : Int32), .int (0 : Int32), .int (0 : Int32), .int (0 : Int32), .int (0 : Int32)])]) (x' := f) hf 2 W8 rfl (by decide) (by decide) (Nat.le_of_ble_eq_true rfl) rfl at_39 (fun T9 W10 => ?_)
  refine g_dup (pc := 40) W10 at_40 rfl ?_
  refine g_iconst (pc := 41) (3 : Int32) (by decide) W10 at_41 ?_
  refine g_iload (pc := 42) W10 at_42 rfl ?_
  refine g_bastore (pc := 44) (i := 0) (os' := [(b1, (.array .byte), [.int f, .int f, .int f, .int f, .int (0 : Int32), .int (0 : Int32), .int (0 : Int32), .int (0 : Int32), .int (0 : Int32), .int (0 : Int32), .int (0 : Int32), .int (0 : Int32)])]) (x' := f) hf 3 W10 rfl (by decide) (by decide) (Nat.le_of_ble_eq_true rfl) rfl at_44 (fun T11 W12 => ?_)
  refine g_dup (pc := 45) W12 at_45 rfl ?_
  refine g_iconst (pc := 46) (4 : Int32) (by decide) W12 at_46 ?_
  refine g_iload (pc := 47) W12 at_47 rfl ?_
  refine g_bastore (pc := 49) (i := 0) (os' := [(b1, (.array .byte), [.int f, .int f, .int f, .int f, .int f, .int (0 : Int32), .int (0 : Int32), .int (0 : Int32), .int (0 : Int32), .int (0 : Int32), .int (0 : Int32), .int (0 : Int32)])]) (x' := f) hf 4 W12 rfl (by decide) (by decide) (Nat.le_of_ble_eq_true rfl) rfl at_49 (fun T13 W14 => ?_)
  refine g_dup (pc := 50) W14 at_50 rfl ?_
  refine g_iconst (pc := 51) (5 : Int32) (by decide) W14 at_51 ?_
  refine g_iload (pc := 52) W14 at_52 rfl ?_
  refine g_bastore (pc := 54) (i := 0) (os' := [(b1, (.array .byte), [.int f, .int f, .int f, .int f, .int f, .int f, .int (0 : Int32), .int (0 : Int32), .int (0 : Int32), .int (0 : Int32), .int (0 : Int32), .int (0 : Int32)])]) (x' := f) hf 5 W14 rfl (by decide) (by decide) (Nat.le_of_ble_eq_true rfl) rfl at_54 (fun T15 W16 => ?_)
  refine g_dup (pc := 55) W16 at_55 rfl ?_
  refine g_bipush (pc := 56) (6 : Int32) (by decide) W16 at_56 ?_
  refine g_iload (pc := 58) W16 at_58 rfl ?_
  refine g_bastore (pc := 60) (i := 0) (os' := [(b1, (.array .byte), [.int f, .int f, .int f, .int f, .int f, .int f, .int f, .int (0 : Int32), .int (0 : Int32), .int (0 : Int32), .int (0 : Int32), .int (0 : Int32)])]) (x' := f) hf 6 W16 rfl (by decide) (by decide) (Nat.le_of_ble_eq_true rfl) rfl at_60 (fun T17 W18 => ?_)
  refine g_dup (pc := 61) W18 at_61 rfl ?_
  refine g_bipush (pc := 62) (7 : Int32) (by decide) W18 at_62 ?_
  refine g_iload (pc := 64) W18 at_64 rfl ?_
  refine g_bastore (pc := 66) (i := 0) (os' := [(b1, (.array .byte), [.int f, .int f, .int f, .int f, .int f, .int f, .int f, .int f, .int (0 : Int32), .int (0 : Int32), .int (0 : Int32), .int (0 : Int32)])]) (x' := f) hf 7 W18 rfl (by decide) (by decide) (Nat.le_of_ble_eq_true rfl) rfl at_66 (fun T19 W20 => ?_)
  refine g_dup (pc := 67) W20 at_67 rfl ?_
  refine g_bipush (pc := 68) (8 : Int32) (by decide) W20 at_68 ?_
  refine g_iload (pc := 70) W20 at_70 rfl ?_
  refine g_bastore (pc := 72) (i := 0) (os' := [(b1, (.array .byte), [.int f, .int f, .int f, .int f, .int f, .int f, .int f, .int f, .int f, .int (0 : Int32), .int (0 : Int32), .int (0 : Int32)])]) (x' := f) hf 8 W20 rfl (by decide) (by decide) (Nat.le_of_ble_eq_true rfl) rfl at_72 (fun T21 W22 => ?_)
  refine g_dup (pc := 73) W22 at_73 rfl ?_
  refine g_bipush (pc := 74) (9 : Int32) (by decide) W22 at_74 ?_
  refine g_iload (pc := 76) W22 at_76 rfl ?_
  refine g_bastore (pc := 78) (i := 0) (os' := [(b1, (.array .byte), [.int f, .int f, .int f, .int f, .int f, .int f, .int f, .int f, .int f, .int f, .int (0 : Int32), .int (0 : Int32)])]) (x' := f) hf 9 W22 rfl (by decide) (by decide) (Nat.le_of_ble_eq_true rfl) rfl at_78 (fun T23 W24 => ?_)
  refine g_dup (pc := 79) W24 at_79 rfl ?_
  refine g_bipush (pc := 80) (10 : Int32) (by decide) W24 at_80 ?_
  refine g_iload (pc := 82) W24 at_82 rfl ?_
  refine g_bastore (pc := 84) (i := 0) (os' := [(b1, (.array .byte), [.int f, .int f, .int f, .int f, .int f, .int f, .int f, .int f, .int f, .int f, .int f, .int (0 : Int32)])]) (x' := f) hf 10 W24 rfl (by decide) (by decide) (Nat.le_of_ble_eq_true rfl) rfl at_84 (fun T25 W26 => ?_)
  refine g_dup (pc := 85) W26 at_85 rfl ?_
  refine g_bipush (pc := 86) (11 : Int32) (by decide) W26 at_86 ?_
  refine g_iload (pc := 88) W26 at_88 rfl ?_
  refine g_bastore (pc := 90) (i := 0) (os' := [(b1, (.array .byte), [.int f, .int f, .int f, .int f, .int f, .int f, .int f, .int f, .int f, .int f, .int f, .int f])]) (x' := f) hf 11 W26 rfl (by decide) (by decide) (Nat.le_of_ble_eq_true rfl) rfl at_90 (fun T27 W28 => ?_)
  refine g_astore (pc := 91) (ls' := #[.val (.int p0), .val (.int p1), .val (.int p2), .val (.int p3), .val (.int v), .val (.int K), .val (.int f), .val (.ref b1), .unset, .unset, .unset, .unset, .unset]) W28 at_91 rfl rfl ?_
  have W29 := W28.re (os' := [(b1, (.array .byte), (List.replicate 12 (Value.int f)))]) rfl
  refine g_iload (pc := 93) W29 at_93 rfl ?_
  refine g_static (pc := 95) (Wt := 0) (argsL := [.int v]) (rest := []) (loc := []) (rst := [(b1, (.array .byte), (List.replicate 12 (Value.int f)))]) W29 (hw _ (List.mem_of_getElem? (i := 2) rfl)) (hw _ (List.mem_of_getElem? (i := 3) rfl)) (hw _ (List.mem_of_getElem? (i := 4) rfl)) (hw _ (List.mem_of_getElem? (i := 5) rfl)) (by decide) (c_elen l Z a0 hw v) Spl.none rfl pd_I__I rfl rfl rfl (Nat.le_of_ble_eq_true rfl) (by decide) (by decide) (by decide) (by decide) at_95 ?_
  rintro T30 _ _ ⟨rfl, rfl⟩ W31
  have W32 := W31.re (os' := [(b1, (.array .byte), (List.replicate 12 (Value.int f)))]) rfl
  show Go p_ e_ bl_ _ (T30.setTop (mkF m_ 98 #[.val (.int p0), .val (.int p1), .val (.int p2), .val (.int p3), .val (.int v), .val (.int K), .val (.int f), .val (.ref b1), .unset, .unset, .unset, .unset, .unset] [.int (elen v)]))
  rcases own_el hv with ⟨hl, hb⟩ | ⟨hl, hb⟩ | ⟨hl, hb⟩ | ⟨hl, hb⟩ | ⟨hl, hb⟩
  · rw [hl]
    refine g_istore (pc := 98) (ls' := #[.val (.int p0), .val (.int p1), .val (.int p2), .val (.int p3), .val (.int v), .val (.int K), .val (.int f), .val (.ref b1), .val (.int (1 : Int32)), .unset, .unset, .unset, .unset]) W32 at_98 rfl ?_
    refine g_iload (pc := 100) W32 at_100 rfl ?_
    refine g_aload (pc := 102) W32 at_102 rfl rfl ?_
    refine g_iload (pc := 104) W32 at_104 rfl ?_
    refine g_static (pc := 106) (Wt := 0) (argsL := [.int v, .ref b1, .int K]) (rest := []) (loc := [(b1, (.array .byte), (List.replicate 12 (Value.int f)))]) (rst := []) W32 (hw _ (List.mem_of_getElem? (i := 6) rfl)) (hw _ (List.mem_of_getElem? (i := 7) rfl)) (hw _ (List.mem_of_getElem? (i := 8) rfl)) (hw _ (List.mem_of_getElem? (i := 9) rfl)) (by decide) (c_wr1 l Z a0 hw b1 v K (List.replicate 12 (Value.int f)) K.toNatClampNeg List.length_replicate (own_j hK) k0.1 k0.2.1 ((own_hz (own_vt0 hv).2).mpr (by have h2 := own_vt0 hv; have rv := rng32 v; omega))) ⟨[0], by decide, rfl⟩ rfl pd_IABI__I rfl rfl rfl (Nat.le_of_ble_eq_true rfl) (by decide) (by decide) (by decide) (by decide) at_106 ?_
    rintro T33 _ _ ⟨rfl, rfl⟩ W34
    have W35 := W34.re (os' := [(b1, (.array .byte), ((List.replicate 12 (Value.int f)).set (K.toNatClampNeg + 0) (.int v.toInt8.toInt32)))]) rfl
    show Go p_ e_ bl_ _ (T33.setTop (mkF m_ 109 #[.val (.int p0), .val (.int p1), .val (.int p2), .val (.int p3), .val (.int v), .val (.int K), .val (.int f), .val (.ref b1), .val (.int (1 : Int32)), .unset, .unset, .unset, .unset] [.int (K + (1 : Int32))]))
    refine g_istore (pc := 109) (ls' := #[.val (.int p0), .val (.int p1), .val (.int p2), .val (.int p3), .val (.int v), .val (.int K), .val (.int f), .val (.ref b1), .val (.int (1 : Int32)), .val (.int (K + (1 : Int32))), .unset, .unset, .unset]) W35 at_109 rfl ?_
    refine g_iload (pc := 111) W35 at_111 rfl ?_
    refine g_iload (pc := 113) W35 at_113 rfl ?_
    refine g_iload (pc := 115) W35 at_115 rfl ?_
    refine g_iadd (pc := 117) W35 at_117 ?_
    refine g_icmpY 123 (pc := 118) W35 at_118 (by decide) (by decide) (by first | exact (teq rfl).1 | exact (teq rfl).2 | exact (flt (by simp)).1 | exact (flt (by simp)).2.1 | exact (flt (by simp)).2.2.1 | exact (flt (by simp)).2.2.2) ?_
    refine g_aload (pc := 123) W35 at_123 rfl rfl ?_
    refine g_iconst (pc := 125) (0 : Int32) (by decide) W35 at_125 ?_
    refine g_iload (pc := 126) W35 at_126 rfl ?_
    refine g_iload (pc := 128) W35 at_128 rfl ?_
    refine g_iload (pc := 130) W35 at_130 rfl ?_
    refine g_iload (pc := 132) W35 at_132 rfl ?_
    refine g_static (pc := 134) (Wt := 0) (argsL := [.ref b1, .int (0 : Int32), .int v, .int K, .int (1 : Int32), .int f]) (rest := []) (loc := [(b1, (.array .byte), ((List.replicate 12 (Value.int f)).set (K.toNatClampNeg + 0) (.int v.toInt8.toInt32)))]) (rst := []) W35 (hw _ (List.mem_of_getElem? (i := 10) rfl)) (hw _ (List.mem_of_getElem? (i := 11) rfl)) (hw _ (List.mem_of_getElem? (i := 4) rfl)) (hw _ (List.mem_of_getElem? (i := 12) rfl)) (by decide) (c_ok l Z a0 hw b1 (0 : Int32) v K (1 : Int32) f (rd K.toNatClampNeg [v.toInt8.toInt32] f 0) ((List.replicate 12 (Value.int f)).set (K.toNatClampNeg + 0) (.int v.toInt8.toInt32)) (by decide) (own_rd1 (v := v) (f := f) (j := K.toNatClampNeg) (i := 0) (own_j hK) (by decide)) (own_ok1 (i := (0 : Int32)) (iN := 0) (f := f) hv hb hK (by decide) (by decide)).1 (own_ok1 (i := (0 : Int32)) (iN := 0) (f := f) hv hb hK (by decide) (by decide)).2) ⟨[0], by decide, rfl⟩ rfl pd_ABIIIIB__Z rfl rfl rfl (Nat.le_of_ble_eq_true rfl) (by decide) (by decide) (by decide) (by decide) at_134 ?_
    rintro T36 _ _ ⟨rfl, rfl⟩ W37
    have W38 := W37.re (os' := [(b1, (.array .byte), ((List.replicate 12 (Value.int f)).set (K.toNatClampNeg + 0) (.int v.toInt8.toInt32)))]) rfl
    show Go p_ e_ bl_ _ (T36.setTop (mkF m_ 137 #[.val (.int p0), .val (.int p1), .val (.int p2), .val (.int p3), .val (.int v), .val (.int K), .val (.int f), .val (.ref b1), .val (.int (1 : Int32)), .val (.int (K + (1 : Int32))), .unset, .unset, .unset] [.int (1 : Int32)]))
    refine g_ifN (pc := 137) W38 at_137 (by decide) ?_
    refine g_aload (pc := 140) W38 at_140 rfl rfl ?_
    refine g_iconst (pc := 142) (1 : Int32) (by decide) W38 at_142 ?_
    refine g_iload (pc := 143) W38 at_143 rfl ?_
    refine g_iload (pc := 145) W38 at_145 rfl ?_
    refine g_iload (pc := 147) W38 at_147 rfl ?_
    refine g_iload (pc := 149) W38 at_149 rfl ?_
    refine g_static (pc := 151) (Wt := 0) (argsL := [.ref b1, .int (1 : Int32), .int v, .int K, .int (1 : Int32), .int f]) (rest := []) (loc := [(b1, (.array .byte), ((List.replicate 12 (Value.int f)).set (K.toNatClampNeg + 0) (.int v.toInt8.toInt32)))]) (rst := []) W38 (hw _ (List.mem_of_getElem? (i := 10) rfl)) (hw _ (List.mem_of_getElem? (i := 11) rfl)) (hw _ (List.mem_of_getElem? (i := 4) rfl)) (hw _ (List.mem_of_getElem? (i := 12) rfl)) (by decide) (c_ok l Z a0 hw b1 (1 : Int32) v K (1 : Int32) f (rd K.toNatClampNeg [v.toInt8.toInt32] f 1) ((List.replicate 12 (Value.int f)).set (K.toNatClampNeg + 0) (.int v.toInt8.toInt32)) (by decide) (own_rd1 (v := v) (f := f) (j := K.toNatClampNeg) (i := 1) (own_j hK) (by decide)) (own_ok1 (i := (1 : Int32)) (iN := 1) (f := f) hv hb hK (by decide) (by decide)).1 (own_ok1 (i := (1 : Int32)) (iN := 1) (f := f) hv hb hK (by decide) (by decide)).2) ⟨[0], by decide, rfl⟩ rfl pd_ABIIIIB__Z rfl rfl rfl (Nat.le_of_ble_eq_true rfl) (by decide) (by decide) (by decide) (by decide) at_151 ?_
    rintro T39 _ _ ⟨rfl, rfl⟩ W40
    have W41 := W40.re (os' := [(b1, (.array .byte), ((List.replicate 12 (Value.int f)).set (K.toNatClampNeg + 0) (.int v.toInt8.toInt32)))]) rfl
    show Go p_ e_ bl_ _ (T39.setTop (mkF m_ 154 #[.val (.int p0), .val (.int p1), .val (.int p2), .val (.int p3), .val (.int v), .val (.int K), .val (.int f), .val (.ref b1), .val (.int (1 : Int32)), .val (.int (K + (1 : Int32))), .unset, .unset, .unset] [.int (1 : Int32)]))
    refine g_ifN (pc := 154) W41 at_154 (by decide) ?_
    refine g_aload (pc := 157) W41 at_157 rfl rfl ?_
    refine g_iconst (pc := 159) (2 : Int32) (by decide) W41 at_159 ?_
    refine g_iload (pc := 160) W41 at_160 rfl ?_
    refine g_iload (pc := 162) W41 at_162 rfl ?_
    refine g_iload (pc := 164) W41 at_164 rfl ?_
    refine g_iload (pc := 166) W41 at_166 rfl ?_
    refine g_static (pc := 168) (Wt := 0) (argsL := [.ref b1, .int (2 : Int32), .int v, .int K, .int (1 : Int32), .int f]) (rest := []) (loc := [(b1, (.array .byte), ((List.replicate 12 (Value.int f)).set (K.toNatClampNeg + 0) (.int v.toInt8.toInt32)))]) (rst := []) W41 (hw _ (List.mem_of_getElem? (i := 10) rfl)) (hw _ (List.mem_of_getElem? (i := 11) rfl)) (hw _ (List.mem_of_getElem? (i := 4) rfl)) (hw _ (List.mem_of_getElem? (i := 12) rfl)) (by decide) (c_ok l Z a0 hw b1 (2 : Int32) v K (1 : Int32) f (rd K.toNatClampNeg [v.toInt8.toInt32] f 2) ((List.replicate 12 (Value.int f)).set (K.toNatClampNeg + 0) (.int v.toInt8.toInt32)) (by decide) (own_rd1 (v := v) (f := f) (j := K.toNatClampNeg) (i := 2) (own_j hK) (by decide)) (own_ok1 (i := (2 : Int32)) (iN := 2) (f := f) hv hb hK (by decide) (by decide)).1 (own_ok1 (i := (2 : Int32)) (iN := 2) (f := f) hv hb hK (by decide) (by decide)).2) ⟨[0], by decide, rfl⟩ rfl pd_ABIIIIB__Z rfl rfl rfl (Nat.le_of_ble_eq_true rfl) (by decide) (by decide) (by decide) (by decide) at_168 ?_
    rintro T42 _ _ ⟨rfl, rfl⟩ W43
    have W44 := W43.re (os' := [(b1, (.array .byte), ((List.replicate 12 (Value.int f)).set (K.toNatClampNeg + 0) (.int v.toInt8.toInt32)))]) rfl
    show Go p_ e_ bl_ _ (T42.setTop (mkF m_ 171 #[.val (.int p0), .val (.int p1), .val (.int p2), .val (.int p3), .val (.int v), .val (.int K), .val (.int f), .val (.ref b1), .val (.int (1 : Int32)), .val (.int (K + (1 : Int32))), .unset, .unset, .unset] [.int (1 : Int32)]))
    refine g_ifN (pc := 171) W44 at_171 (by decide) ?_
    refine g_aload (pc := 174) W44 at_174 rfl rfl ?_
    refine g_iconst (pc := 176) (3 : Int32) (by decide) W44 at_176 ?_
    refine g_iload (pc := 177) W44 at_177 rfl ?_
    refine g_iload (pc := 179) W44 at_179 rfl ?_
    refine g_iload (pc := 181) W44 at_181 rfl ?_
    refine g_iload (pc := 183) W44 at_183 rfl ?_
    refine g_static (pc := 185) (Wt := 0) (argsL := [.ref b1, .int (3 : Int32), .int v, .int K, .int (1 : Int32), .int f]) (rest := []) (loc := [(b1, (.array .byte), ((List.replicate 12 (Value.int f)).set (K.toNatClampNeg + 0) (.int v.toInt8.toInt32)))]) (rst := []) W44 (hw _ (List.mem_of_getElem? (i := 10) rfl)) (hw _ (List.mem_of_getElem? (i := 11) rfl)) (hw _ (List.mem_of_getElem? (i := 4) rfl)) (hw _ (List.mem_of_getElem? (i := 12) rfl)) (by decide) (c_ok l Z a0 hw b1 (3 : Int32) v K (1 : Int32) f (rd K.toNatClampNeg [v.toInt8.toInt32] f 3) ((List.replicate 12 (Value.int f)).set (K.toNatClampNeg + 0) (.int v.toInt8.toInt32)) (by decide) (own_rd1 (v := v) (f := f) (j := K.toNatClampNeg) (i := 3) (own_j hK) (by decide)) (own_ok1 (i := (3 : Int32)) (iN := 3) (f := f) hv hb hK (by decide) (by decide)).1 (own_ok1 (i := (3 : Int32)) (iN := 3) (f := f) hv hb hK (by decide) (by decide)).2) ⟨[0], by decide, rfl⟩ rfl pd_ABIIIIB__Z rfl rfl rfl (Nat.le_of_ble_eq_true rfl) (by decide) (by decide) (by decide) (by decide) at_185 ?_
    rintro T45 _ _ ⟨rfl, rfl⟩ W46
    have W47 := W46.re (os' := [(b1, (.array .byte), ((List.replicate 12 (Value.int f)).set (K.toNatClampNeg + 0) (.int v.toInt8.toInt32)))]) rfl
    show Go p_ e_ bl_ _ (T45.setTop (mkF m_ 188 #[.val (.int p0), .val (.int p1), .val (.int p2), .val (.int p3), .val (.int v), .val (.int K), .val (.int f), .val (.ref b1), .val (.int (1 : Int32)), .val (.int (K + (1 : Int32))), .unset, .unset, .unset] [.int (1 : Int32)]))
    refine g_ifN (pc := 188) W47 at_188 (by decide) ?_
    refine g_aload (pc := 191) W47 at_191 rfl rfl ?_
    refine g_iconst (pc := 193) (4 : Int32) (by decide) W47 at_193 ?_
    refine g_iload (pc := 194) W47 at_194 rfl ?_
    refine g_iload (pc := 196) W47 at_196 rfl ?_
    refine g_iload (pc := 198) W47 at_198 rfl ?_
    refine g_iload (pc := 200) W47 at_200 rfl ?_
    refine g_static (pc := 202) (Wt := 0) (argsL := [.ref b1, .int (4 : Int32), .int v, .int K, .int (1 : Int32), .int f]) (rest := []) (loc := [(b1, (.array .byte), ((List.replicate 12 (Value.int f)).set (K.toNatClampNeg + 0) (.int v.toInt8.toInt32)))]) (rst := []) W47 (hw _ (List.mem_of_getElem? (i := 10) rfl)) (hw _ (List.mem_of_getElem? (i := 11) rfl)) (hw _ (List.mem_of_getElem? (i := 4) rfl)) (hw _ (List.mem_of_getElem? (i := 12) rfl)) (by decide) (c_ok l Z a0 hw b1 (4 : Int32) v K (1 : Int32) f (rd K.toNatClampNeg [v.toInt8.toInt32] f 4) ((List.replicate 12 (Value.int f)).set (K.toNatClampNeg + 0) (.int v.toInt8.toInt32)) (by decide) (own_rd1 (v := v) (f := f) (j := K.toNatClampNeg) (i := 4) (own_j hK) (by decide)) (own_ok1 (i := (4 : Int32)) (iN := 4) (f := f) hv hb hK (by decide) (by decide)).1 (own_ok1 (i := (4 : Int32)) (iN := 4) (f := f) hv hb hK (by decide) (by decide)).2) ⟨[0], by decide, rfl⟩ rfl pd_ABIIIIB__Z rfl rfl rfl (Nat.le_of_ble_eq_true rfl) (by decide) (by decide) (by decide) (by decide) at_202 ?_
    rintro T48 _ _ ⟨rfl, rfl⟩ W49
    have W50 := W49.re (os' := [(b1, (.array .byte), ((List.replicate 12 (Value.int f)).set (K.toNatClampNeg + 0) (.int v.toInt8.toInt32)))]) rfl
    show Go p_ e_ bl_ _ (T48.setTop (mkF m_ 205 #[.val (.int p0), .val (.int p1), .val (.int p2), .val (.int p3), .val (.int v), .val (.int K), .val (.int f), .val (.ref b1), .val (.int (1 : Int32)), .val (.int (K + (1 : Int32))), .unset, .unset, .unset] [.int (1 : Int32)]))
    refine g_ifN (pc := 205) W50 at_205 (by decide) ?_
    refine g_aload (pc := 208) W50 at_208 rfl rfl ?_
    refine g_iconst (pc := 210) (5 : Int32) (by decide) W50 at_210 ?_
    refine g_iload (pc := 211) W50 at_211 rfl ?_
    refine g_iload (pc := 213) W50 at_213 rfl ?_
    refine g_iload (pc := 215) W50 at_215 rfl ?_
    refine g_iload (pc := 217) W50 at_217 rfl ?_
    refine g_static (pc := 219) (Wt := 0) (argsL := [.ref b1, .int (5 : Int32), .int v, .int K, .int (1 : Int32), .int f]) (rest := []) (loc := [(b1, (.array .byte), ((List.replicate 12 (Value.int f)).set (K.toNatClampNeg + 0) (.int v.toInt8.toInt32)))]) (rst := []) W50 (hw _ (List.mem_of_getElem? (i := 10) rfl)) (hw _ (List.mem_of_getElem? (i := 11) rfl)) (hw _ (List.mem_of_getElem? (i := 4) rfl)) (hw _ (List.mem_of_getElem? (i := 12) rfl)) (by decide) (c_ok l Z a0 hw b1 (5 : Int32) v K (1 : Int32) f (rd K.toNatClampNeg [v.toInt8.toInt32] f 5) ((List.replicate 12 (Value.int f)).set (K.toNatClampNeg + 0) (.int v.toInt8.toInt32)) (by decide) (own_rd1 (v := v) (f := f) (j := K.toNatClampNeg) (i := 5) (own_j hK) (by decide)) (own_ok1 (i := (5 : Int32)) (iN := 5) (f := f) hv hb hK (by decide) (by decide)).1 (own_ok1 (i := (5 : Int32)) (iN := 5) (f := f) hv hb hK (by decide) (by decide)).2) ⟨[0], by decide, rfl⟩ rfl pd_ABIIIIB__Z rfl rfl rfl (Nat.le_of_ble_eq_true rfl) (by decide) (by decide) (by decide) (by decide) at_219 ?_
    rintro T51 _ _ ⟨rfl, rfl⟩ W52
    have W53 := W52.re (os' := [(b1, (.array .byte), ((List.replicate 12 (Value.int f)).set (K.toNatClampNeg + 0) (.int v.toInt8.toInt32)))]) rfl
    show Go p_ e_ bl_ _ (T51.setTop (mkF m_ 222 #[.val (.int p0), .val (.int p1), .val (.int p2), .val (.int p3), .val (.int v), .val (.int K), .val (.int f), .val (.ref b1), .val (.int (1 : Int32)), .val (.int (K + (1 : Int32))), .unset, .unset, .unset] [.int (1 : Int32)]))
    refine g_ifN (pc := 222) W53 at_222 (by decide) ?_
    refine g_aload (pc := 225) W53 at_225 rfl rfl ?_
    refine g_bipush (pc := 227) (6 : Int32) (by decide) W53 at_227 ?_
    refine g_iload (pc := 229) W53 at_229 rfl ?_
    refine g_iload (pc := 231) W53 at_231 rfl ?_
    refine g_iload (pc := 233) W53 at_233 rfl ?_
    refine g_iload (pc := 235) W53 at_235 rfl ?_
    refine g_static (pc := 237) (Wt := 0) (argsL := [.ref b1, .int (6 : Int32), .int v, .int K, .int (1 : Int32), .int f]) (rest := []) (loc := [(b1, (.array .byte), ((List.replicate 12 (Value.int f)).set (K.toNatClampNeg + 0) (.int v.toInt8.toInt32)))]) (rst := []) W53 (hw _ (List.mem_of_getElem? (i := 10) rfl)) (hw _ (List.mem_of_getElem? (i := 11) rfl)) (hw _ (List.mem_of_getElem? (i := 4) rfl)) (hw _ (List.mem_of_getElem? (i := 12) rfl)) (by decide) (c_ok l Z a0 hw b1 (6 : Int32) v K (1 : Int32) f (rd K.toNatClampNeg [v.toInt8.toInt32] f 6) ((List.replicate 12 (Value.int f)).set (K.toNatClampNeg + 0) (.int v.toInt8.toInt32)) (by decide) (own_rd1 (v := v) (f := f) (j := K.toNatClampNeg) (i := 6) (own_j hK) (by decide)) (own_ok1 (i := (6 : Int32)) (iN := 6) (f := f) hv hb hK (by decide) (by decide)).1 (own_ok1 (i := (6 : Int32)) (iN := 6) (f := f) hv hb hK (by decide) (by decide)).2) ⟨[0], by decide, rfl⟩ rfl pd_ABIIIIB__Z rfl rfl rfl (Nat.le_of_ble_eq_true rfl) (by decide) (by decide) (by decide) (by decide) at_237 ?_
    rintro T54 _ _ ⟨rfl, rfl⟩ W55
    have W56 := W55.re (os' := [(b1, (.array .byte), ((List.replicate 12 (Value.int f)).set (K.toNatClampNeg + 0) (.int v.toInt8.toInt32)))]) rfl
    show Go p_ e_ bl_ _ (T54.setTop (mkF m_ 240 #[.val (.int p0), .val (.int p1), .val (.int p2), .val (.int p3), .val (.int v), .val (.int K), .val (.int f), .val (.ref b1), .val (.int (1 : Int32)), .val (.int (K + (1 : Int32))), .unset, .unset, .unset] [.int (1 : Int32)]))
    refine g_ifN (pc := 240) W56 at_240 (by decide) ?_
    refine g_aload (pc := 243) W56 at_243 rfl rfl ?_
    refine g_bipush (pc := 245) (7 : Int32) (by decide) W56 at_245 ?_
    refine g_iload (pc := 247) W56 at_247 rfl ?_
    refine g_iload (pc := 249) W56 at_249 rfl ?_
    refine g_iload (pc := 251) W56 at_251 rfl ?_
    refine g_iload (pc := 253) W56 at_253 rfl ?_
    refine g_static (pc := 255) (Wt := 0) (argsL := [.ref b1, .int (7 : Int32), .int v, .int K, .int (1 : Int32), .int f]) (rest := []) (loc := [(b1, (.array .byte), ((List.replicate 12 (Value.int f)).set (K.toNatClampNeg + 0) (.int v.toInt8.toInt32)))]) (rst := []) W56 (hw _ (List.mem_of_getElem? (i := 10) rfl)) (hw _ (List.mem_of_getElem? (i := 11) rfl)) (hw _ (List.mem_of_getElem? (i := 4) rfl)) (hw _ (List.mem_of_getElem? (i := 12) rfl)) (by decide) (c_ok l Z a0 hw b1 (7 : Int32) v K (1 : Int32) f (rd K.toNatClampNeg [v.toInt8.toInt32] f 7) ((List.replicate 12 (Value.int f)).set (K.toNatClampNeg + 0) (.int v.toInt8.toInt32)) (by decide) (own_rd1 (v := v) (f := f) (j := K.toNatClampNeg) (i := 7) (own_j hK) (by decide)) (own_ok1 (i := (7 : Int32)) (iN := 7) (f := f) hv hb hK (by decide) (by decide)).1 (own_ok1 (i := (7 : Int32)) (iN := 7) (f := f) hv hb hK (by decide) (by decide)).2) ⟨[0], by decide, rfl⟩ rfl pd_ABIIIIB__Z rfl rfl rfl (Nat.le_of_ble_eq_true rfl) (by decide) (by decide) (by decide) (by decide) at_255 ?_
    rintro T57 _ _ ⟨rfl, rfl⟩ W58
    have W59 := W58.re (os' := [(b1, (.array .byte), ((List.replicate 12 (Value.int f)).set (K.toNatClampNeg + 0) (.int v.toInt8.toInt32)))]) rfl
    show Go p_ e_ bl_ _ (T57.setTop (mkF m_ 258 #[.val (.int p0), .val (.int p1), .val (.int p2), .val (.int p3), .val (.int v), .val (.int K), .val (.int f), .val (.ref b1), .val (.int (1 : Int32)), .val (.int (K + (1 : Int32))), .unset, .unset, .unset] [.int (1 : Int32)]))
    refine g_ifN (pc := 258) W59 at_258 (by decide) ?_
    refine g_aload (pc := 261) W59 at_261 rfl rfl ?_
    refine g_bipush (pc := 263) (8 : Int32) (by decide) W59 at_263 ?_
    refine g_iload (pc := 265) W59 at_265 rfl ?_
    refine g_iload (pc := 267) W59 at_267 rfl ?_
    refine g_iload (pc := 269) W59 at_269 rfl ?_
    refine g_iload (pc := 271) W59 at_271 rfl ?_
    refine g_static (pc := 273) (Wt := 0) (argsL := [.ref b1, .int (8 : Int32), .int v, .int K, .int (1 : Int32), .int f]) (rest := []) (loc := [(b1, (.array .byte), ((List.replicate 12 (Value.int f)).set (K.toNatClampNeg + 0) (.int v.toInt8.toInt32)))]) (rst := []) W59 (hw _ (List.mem_of_getElem? (i := 10) rfl)) (hw _ (List.mem_of_getElem? (i := 11) rfl)) (hw _ (List.mem_of_getElem? (i := 4) rfl)) (hw _ (List.mem_of_getElem? (i := 12) rfl)) (by decide) (c_ok l Z a0 hw b1 (8 : Int32) v K (1 : Int32) f (rd K.toNatClampNeg [v.toInt8.toInt32] f 8) ((List.replicate 12 (Value.int f)).set (K.toNatClampNeg + 0) (.int v.toInt8.toInt32)) (by decide) (own_rd1 (v := v) (f := f) (j := K.toNatClampNeg) (i := 8) (own_j hK) (by decide)) (own_ok1 (i := (8 : Int32)) (iN := 8) (f := f) hv hb hK (by decide) (by decide)).1 (own_ok1 (i := (8 : Int32)) (iN := 8) (f := f) hv hb hK (by decide) (by decide)).2) ⟨[0], by decide, rfl⟩ rfl pd_ABIIIIB__Z rfl rfl rfl (Nat.le_of_ble_eq_true rfl) (by decide) (by decide) (by decide) (by decide) at_273 ?_
    rintro T60 _ _ ⟨rfl, rfl⟩ W61
    have W62 := W61.re (os' := [(b1, (.array .byte), ((List.replicate 12 (Value.int f)).set (K.toNatClampNeg + 0) (.int v.toInt8.toInt32)))]) rfl
    show Go p_ e_ bl_ _ (T60.setTop (mkF m_ 276 #[.val (.int p0), .val (.int p1), .val (.int p2), .val (.int p3), .val (.int v), .val (.int K), .val (.int f), .val (.ref b1), .val (.int (1 : Int32)), .val (.int (K + (1 : Int32))), .unset, .unset, .unset] [.int (1 : Int32)]))
    refine g_ifN (pc := 276) W62 at_276 (by decide) ?_
    refine g_aload (pc := 279) W62 at_279 rfl rfl ?_
    refine g_bipush (pc := 281) (9 : Int32) (by decide) W62 at_281 ?_
    refine g_iload (pc := 283) W62 at_283 rfl ?_
    refine g_iload (pc := 285) W62 at_285 rfl ?_
    refine g_iload (pc := 287) W62 at_287 rfl ?_
    refine g_iload (pc := 289) W62 at_289 rfl ?_
    refine g_static (pc := 291) (Wt := 0) (argsL := [.ref b1, .int (9 : Int32), .int v, .int K, .int (1 : Int32), .int f]) (rest := []) (loc := [(b1, (.array .byte), ((List.replicate 12 (Value.int f)).set (K.toNatClampNeg + 0) (.int v.toInt8.toInt32)))]) (rst := []) W62 (hw _ (List.mem_of_getElem? (i := 10) rfl)) (hw _ (List.mem_of_getElem? (i := 11) rfl)) (hw _ (List.mem_of_getElem? (i := 4) rfl)) (hw _ (List.mem_of_getElem? (i := 12) rfl)) (by decide) (c_ok l Z a0 hw b1 (9 : Int32) v K (1 : Int32) f (rd K.toNatClampNeg [v.toInt8.toInt32] f 9) ((List.replicate 12 (Value.int f)).set (K.toNatClampNeg + 0) (.int v.toInt8.toInt32)) (by decide) (own_rd1 (v := v) (f := f) (j := K.toNatClampNeg) (i := 9) (own_j hK) (by decide)) (own_ok1 (i := (9 : Int32)) (iN := 9) (f := f) hv hb hK (by decide) (by decide)).1 (own_ok1 (i := (9 : Int32)) (iN := 9) (f := f) hv hb hK (by decide) (by decide)).2) ⟨[0], by decide, rfl⟩ rfl pd_ABIIIIB__Z rfl rfl rfl (Nat.le_of_ble_eq_true rfl) (by decide) (by decide) (by decide) (by decide) at_291 ?_
    rintro T63 _ _ ⟨rfl, rfl⟩ W64
    have W65 := W64.re (os' := [(b1, (.array .byte), ((List.replicate 12 (Value.int f)).set (K.toNatClampNeg + 0) (.int v.toInt8.toInt32)))]) rfl
    show Go p_ e_ bl_ _ (T63.setTop (mkF m_ 294 #[.val (.int p0), .val (.int p1), .val (.int p2), .val (.int p3), .val (.int v), .val (.int K), .val (.int f), .val (.ref b1), .val (.int (1 : Int32)), .val (.int (K + (1 : Int32))), .unset, .unset, .unset] [.int (1 : Int32)]))
    refine g_ifN (pc := 294) W65 at_294 (by decide) ?_
    refine g_aload (pc := 297) W65 at_297 rfl rfl ?_
    refine g_bipush (pc := 299) (10 : Int32) (by decide) W65 at_299 ?_
    refine g_iload (pc := 301) W65 at_301 rfl ?_
    refine g_iload (pc := 303) W65 at_303 rfl ?_
    refine g_iload (pc := 305) W65 at_305 rfl ?_
    refine g_iload (pc := 307) W65 at_307 rfl ?_
    refine g_static (pc := 309) (Wt := 0) (argsL := [.ref b1, .int (10 : Int32), .int v, .int K, .int (1 : Int32), .int f]) (rest := []) (loc := [(b1, (.array .byte), ((List.replicate 12 (Value.int f)).set (K.toNatClampNeg + 0) (.int v.toInt8.toInt32)))]) (rst := []) W65 (hw _ (List.mem_of_getElem? (i := 10) rfl)) (hw _ (List.mem_of_getElem? (i := 11) rfl)) (hw _ (List.mem_of_getElem? (i := 4) rfl)) (hw _ (List.mem_of_getElem? (i := 12) rfl)) (by decide) (c_ok l Z a0 hw b1 (10 : Int32) v K (1 : Int32) f (rd K.toNatClampNeg [v.toInt8.toInt32] f 10) ((List.replicate 12 (Value.int f)).set (K.toNatClampNeg + 0) (.int v.toInt8.toInt32)) (by decide) (own_rd1 (v := v) (f := f) (j := K.toNatClampNeg) (i := 10) (own_j hK) (by decide)) (own_ok1 (i := (10 : Int32)) (iN := 10) (f := f) hv hb hK (by decide) (by decide)).1 (own_ok1 (i := (10 : Int32)) (iN := 10) (f := f) hv hb hK (by decide) (by decide)).2) ⟨[0], by decide, rfl⟩ rfl pd_ABIIIIB__Z rfl rfl rfl (Nat.le_of_ble_eq_true rfl) (by decide) (by decide) (by decide) (by decide) at_309 ?_
    rintro T66 _ _ ⟨rfl, rfl⟩ W67
    have W68 := W67.re (os' := [(b1, (.array .byte), ((List.replicate 12 (Value.int f)).set (K.toNatClampNeg + 0) (.int v.toInt8.toInt32)))]) rfl
    show Go p_ e_ bl_ _ (T66.setTop (mkF m_ 312 #[.val (.int p0), .val (.int p1), .val (.int p2), .val (.int p3), .val (.int v), .val (.int K), .val (.int f), .val (.ref b1), .val (.int (1 : Int32)), .val (.int (K + (1 : Int32))), .unset, .unset, .unset] [.int (1 : Int32)]))
    refine g_ifN (pc := 312) W68 at_312 (by decide) ?_
    refine g_aload (pc := 315) W68 at_315 rfl rfl ?_
    refine g_bipush (pc := 317) (11 : Int32) (by decide) W68 at_317 ?_
    refine g_iload (pc := 319) W68 at_319 rfl ?_
    refine g_iload (pc := 321) W68 at_321 rfl ?_
    refine g_iload (pc := 323) W68 at_323 rfl ?_
    refine g_iload (pc := 325) W68 at_325 rfl ?_
    refine g_static (pc := 327) (Wt := 0) (argsL := [.ref b1, .int (11 : Int32), .int v, .int K, .int (1 : Int32), .int f]) (rest := []) (loc := [(b1, (.array .byte), ((List.replicate 12 (Value.int f)).set (K.toNatClampNeg + 0) (.int v.toInt8.toInt32)))]) (rst := []) W68 (hw _ (List.mem_of_getElem? (i := 10) rfl)) (hw _ (List.mem_of_getElem? (i := 11) rfl)) (hw _ (List.mem_of_getElem? (i := 4) rfl)) (hw _ (List.mem_of_getElem? (i := 12) rfl)) (by decide) (c_ok l Z a0 hw b1 (11 : Int32) v K (1 : Int32) f (rd K.toNatClampNeg [v.toInt8.toInt32] f 11) ((List.replicate 12 (Value.int f)).set (K.toNatClampNeg + 0) (.int v.toInt8.toInt32)) (by decide) (own_rd1 (v := v) (f := f) (j := K.toNatClampNeg) (i := 11) (own_j hK) (by decide)) (own_ok1 (i := (11 : Int32)) (iN := 11) (f := f) hv hb hK (by decide) (by decide)).1 (own_ok1 (i := (11 : Int32)) (iN := 11) (f := f) hv hb hK (by decide) (by decide)).2) ⟨[0], by decide, rfl⟩ rfl pd_ABIIIIB__Z rfl rfl rfl (Nat.le_of_ble_eq_true rfl) (by decide) (by decide) (by decide) (by decide) at_327 ?_
    rintro T69 _ _ ⟨rfl, rfl⟩ W70
    have W71 := W70.re (os' := [(b1, (.array .byte), ((List.replicate 12 (Value.int f)).set (K.toNatClampNeg + 0) (.int v.toInt8.toInt32)))]) rfl
    show Go p_ e_ bl_ _ (T69.setTop (mkF m_ 330 #[.val (.int p0), .val (.int p1), .val (.int p2), .val (.int p3), .val (.int v), .val (.int K), .val (.int f), .val (.ref b1), .val (.int (1 : Int32)), .val (.int (K + (1 : Int32))), .unset, .unset, .unset] [.int (1 : Int32)]))
    refine g_ifN (pc := 330) W71 at_330 (by decide) ?_
    refine g_iconst (pc := 333) (1 : Int32) (by decide) W71 at_333 ?_
    refine g_goto 338 (pc := 334) W71 at_334 (by decide) (by decide) ?_
    refine g_istore (pc := 338) (ls' := #[.val (.int p0), .val (.int p1), .val (.int p2), .val (.int p3), .val (.int v), .val (.int K), .val (.int f), .val (.ref b1), .val (.int (1 : Int32)), .val (.int (K + (1 : Int32))), .val (.int (1 : Int32)), .unset, .unset]) W71 at_338 rfl ?_
    refine g_iload (pc := 340) W71 at_340 rfl ?_
    refine g_ifY 347 (pc := 342) W71 at_342 (by decide) (by decide) (by decide) ?_
    refine g_new (pc := 347) (vs := [.null, .int (0 : Int32)]) W71 (hw _ (List.mem_of_getElem? (i := 13) rfl)) (hw _ (List.mem_of_getElem? (i := 14) rfl)) (hw _ (List.mem_of_getElem? (i := 8) rfl)) (cls_ByteCursor hw) (by decide) at_347 (by decide) (by decide) (fun T73 b72 W74 => ?_)
    have W75 := W74.re (os' := [(b1, (.array .byte), ((List.replicate 12 (Value.int f)).set (K.toNatClampNeg + 0) (.int v.toInt8.toInt32))), (b72, (.object "com/example/attestry/attestry/home/ByteCursor"), [.null, .int (0 : Int32)])]) rfl
    refine g_dup (pc := 350) W75 at_350 rfl ?_
    refine g_aload (pc := 351) W75 at_351 rfl rfl ?_
    refine g_iload (pc := 353) W75 at_353 rfl ?_
    refine g_init (pc := 355) (Wt := 1) (argsL := [.ref b1, .int K]) (rest := [.ref b72]) (loc := [(b72, (.object "com/example/attestry/attestry/home/ByteCursor"), [.null, .int (0 : Int32)])]) (rst := [(b1, (.array .byte), ((List.replicate 12 (Value.int f)).set (K.toNatClampNeg + 0) (.int v.toInt8.toInt32)))]) W75 rfl (hw _ (List.mem_of_getElem? (i := 15) rfl)) (hw _ (List.mem_of_getElem? (i := 16) rfl)) (hw _ (List.mem_of_getElem? (i := 8) rfl)) (hw _ (List.mem_of_getElem? (i := 17) rfl)) (by decide) (c_init l Z a0 hw b72 b1 K) ⟨[1, 0], by decide, rfl⟩ rfl pd_ABI__V rfl rfl rfl (Nat.le_of_ble_eq_true rfl) (by decide) (by decide) (by decide) (by decide) at_355 ?_
    rintro T76 _ _ ⟨rfl, rfl⟩ W77
    have W78 := W77.re (os' := [(b72, (.object "com/example/attestry/attestry/home/ByteCursor"), [.ref b1, .int K]), (b1, (.array .byte), ((List.replicate 12 (Value.int f)).set (K.toNatClampNeg + 0) (.int v.toInt8.toInt32)))]) rfl
    show Go p_ e_ bl_ _ (T76.setTop (mkF m_ 358 #[.val (.int p0), .val (.int p1), .val (.int p2), .val (.int p3), .val (.int v), .val (.int K), .val (.int f), .val (.ref b1), .val (.int (1 : Int32)), .val (.int (K + (1 : Int32))), .val (.int (1 : Int32)), .unset, .unset] [.ref b72]))
    refine g_astore (pc := 358) (ls' := #[.val (.int p0), .val (.int p1), .val (.int p2), .val (.int p3), .val (.int v), .val (.int K), .val (.int f), .val (.ref b1), .val (.int (1 : Int32)), .val (.int (K + (1 : Int32))), .val (.int (1 : Int32)), .val (.ref b72), .unset]) W78 at_358 rfl rfl ?_
    refine g_aload (pc := 360) W78 at_360 rfl rfl ?_
    refine g_virtual (i := 0) (pc := 362) (Wt := 0) (argsL := []) (rest := []) (loc := [(b72, (.object "com/example/attestry/attestry/home/ByteCursor"), [.ref b1, .int K]), (b1, (.array .byte), ((List.replicate 12 (Value.int f)).set (K.toNatClampNeg + 0) (.int v.toInt8.toInt32)))]) (rst := []) W78 (hw _ (List.mem_of_getElem? (i := 25) rfl)) (hw _ (List.mem_of_getElem? (i := 27) rfl)) (hw _ (List.mem_of_getElem? (i := 8) rfl)) (hw _ (List.mem_of_getElem? (i := 29) rfl)) (hw _ (List.mem_of_getElem? (i := 26) rfl)) (hw _ (List.mem_of_getElem? (i := 28) rfl)) rfl (by decide) (c_wh1 l Z a0 hw b72 b1 K ((List.replicate 12 (Value.int f)).set (K.toNatClampNeg + 0) (.int v.toInt8.toInt32)) v.toInt8.toInt32 k0.1 (by rw [k0.2.1]; exact (own_rd1 (v := v) (f := f) (j := K.toNatClampNeg) (i := K.toNatClampNeg + 0) (own_j hK) (own_j2 hK)).trans (by rw [rd_B rfl]; rfl)) (by have h2 := own_vt0 hv; have rv := rng32 v; rw [Int32.lt_iff_toInt_lt, own_l (by omega)]; simp only [Int32.reduceToInt]; omega)) ⟨[0, 1], by decide, rfl⟩ rfl pd___I rfl rfl rfl (Nat.le_of_ble_eq_true rfl) (by decide) (by decide) (by decide) (by decide) at_362 ?_
    rintro T79 _ _ ⟨rfl, rfl⟩ W80
    have W81 := W80.re (os' := [(b72, (.object "com/example/attestry/attestry/home/ByteCursor"), [.ref b1, .int (K + (1 : Int32))]), (b1, (.array .byte), ((List.replicate 12 (Value.int f)).set (K.toNatClampNeg + 0) (.int v.toInt8.toInt32)))]) rfl
    show Go p_ e_ bl_ _ (T79.setTop (mkF m_ 365 #[.val (.int p0), .val (.int p1), .val (.int p2), .val (.int p3), .val (.int v), .val (.int K), .val (.int f), .val (.ref b1), .val (.int (1 : Int32)), .val (.int (K + (1 : Int32))), .val (.int (1 : Int32)), .val (.ref b72), .unset] [.int ((0 : Int32) ||| ((v.toInt8.toInt32 &&& (127 : Int32)) <<< ((0 : Int32) &&& 31)))]))
    refine g_istore (pc := 365) (ls' := #[.val (.int p0), .val (.int p1), .val (.int p2), .val (.int p3), .val (.int v), .val (.int K), .val (.int f), .val (.ref b1), .val (.int (1 : Int32)), .val (.int (K + (1 : Int32))), .val (.int (1 : Int32)), .val (.ref b72), .val (.int ((0 : Int32) ||| ((v.toInt8.toInt32 &&& (127 : Int32)) <<< ((0 : Int32) &&& 31))))]) W81 at_365 rfl ?_
    refine g_iload (pc := 367) W81 at_367 rfl ?_
    refine g_iload (pc := 369) W81 at_369 rfl ?_
    refine g_icmpN (pc := 371) W81 at_371 (teq (own_back1 hv hb)).2 ?_
    refine g_aload (pc := 374) W81 at_374 rfl rfl ?_
    refine g_virtual (i := 0) (pc := 376) (Wt := 0) (argsL := []) (rest := []) (loc := [(b72, (.object "com/example/attestry/attestry/home/ByteCursor"), [.ref b1, .int (K + (1 : Int32))])]) (rst := [(b1, (.array .byte), ((List.replicate 12 (Value.int f)).set (K.toNatClampNeg + 0) (.int v.toInt8.toInt32)))]) W81 (hw _ (List.mem_of_getElem? (i := 30) rfl)) (hw _ (List.mem_of_getElem? (i := 32) rfl)) (hw _ (List.mem_of_getElem? (i := 8) rfl)) (hw _ (List.mem_of_getElem? (i := 34) rfl)) (hw _ (List.mem_of_getElem? (i := 31) rfl)) (hw _ (List.mem_of_getElem? (i := 33) rfl)) rfl (by decide) (c_at l Z a0 hw b72 b1 (K + (1 : Int32))) ⟨[0, 1], by decide, rfl⟩ rfl pd___I rfl rfl rfl (Nat.le_of_ble_eq_true rfl) (by decide) (by decide) (by decide) (by decide) at_376 ?_
    rintro T82 _ _ ⟨rfl, rfl⟩ W83
    have W84 := W83.re (os' := [(b72, (.object "com/example/attestry/attestry/home/ByteCursor"), [.ref b1, .int (K + (1 : Int32))]), (b1, (.array .byte), ((List.replicate 12 (Value.int f)).set (K.toNatClampNeg + 0) (.int v.toInt8.toInt32)))]) rfl
    show Go p_ e_ bl_ _ (T82.setTop (mkF m_ 379 #[.val (.int p0), .val (.int p1), .val (.int p2), .val (.int p3), .val (.int v), .val (.int K), .val (.int f), .val (.ref b1), .val (.int (1 : Int32)), .val (.int (K + (1 : Int32))), .val (.int (1 : Int32)), .val (.ref b72), .val (.int ((0 : Int32) ||| ((v.toInt8.toInt32 &&& (127 : Int32)) <<< ((0 : Int32) &&& 31))))] [.int (K + (1 : Int32))]))
    refine g_iload (pc := 379) W84 at_379 rfl ?_
    refine g_icmpN (pc := 381) W84 at_381 (by first | exact (teq rfl).1 | exact (teq rfl).2 | exact (flt (by simp)).1 | exact (flt (by simp)).2.1 | exact (flt (by simp)).2.2.1 | exact (flt (by simp)).2.2.2) ?_
    refine g_iconst (pc := 384) (1 : Int32) (by decide) W84 at_384 ?_
    refine g_goto 389 (pc := 385) W84 at_385 (by decide) (by decide) ?_
    exact g_zreturn (pc := 389) rfl (by decide) W84 at_389 (by decide) (by decide) rfl
  · rw [hl]
    refine g_istore (pc := 98) (ls' := #[.val (.int p0), .val (.int p1), .val (.int p2), .val (.int p3), .val (.int v), .val (.int K), .val (.int f), .val (.ref b1), .val (.int (2 : Int32)), .unset, .unset, .unset, .unset]) W32 at_98 rfl ?_
    refine g_iload (pc := 100) W32 at_100 rfl ?_
    refine g_aload (pc := 102) W32 at_102 rfl rfl ?_
    refine g_iload (pc := 104) W32 at_104 rfl ?_
    refine g_static (pc := 106) (Wt := 0) (argsL := [.int v, .ref b1, .int K]) (rest := []) (loc := [(b1, (.array .byte), (List.replicate 12 (Value.int f)))]) (rst := []) W32 (hw _ (List.mem_of_getElem? (i := 6) rfl)) (hw _ (List.mem_of_getElem? (i := 7) rfl)) (hw _ (List.mem_of_getElem? (i := 8) rfl)) (hw _ (List.mem_of_getElem? (i := 9) rfl)) (by decide) (c_wr2 l Z a0 hw b1 v K (List.replicate 12 (Value.int f)) K.toNatClampNeg List.length_replicate (own_j hK) k0.1 k0.2.1 k1.1 k1.2.1 (fun q => by have h := (own_hz (own_vt0 hv).2).mp q; have h2 := own_vt0 hv; omega) ((own_hz (own_vt1 hv).2).mpr (by have h2 := own_vt1 hv; have rv := rng32 v; omega))) ⟨[0], by decide, rfl⟩ rfl pd_IABI__I rfl rfl rfl (Nat.le_of_ble_eq_true rfl) (by decide) (by decide) (by decide) (by decide) at_106 ?_
    rintro T85 _ _ ⟨rfl, rfl⟩ W86
    have W87 := W86.re (os' := [(b1, (.array .byte), (((List.replicate 12 (Value.int f)).set (K.toNatClampNeg + 0) (.int ((v &&& (127 : Int32)) ||| (128 : Int32)).toInt8.toInt32)).set (K.toNatClampNeg + 1) (.int (XT.ushr v (7 : Int32)).toInt8.toInt32)))]) rfl
    show Go p_ e_ bl_ _ (T85.setTop (mkF m_ 109 #[.val (.int p0), .val (.int p1), .val (.int p2), .val (.int p3), .val (.int v), .val (.int K), .val (.int f), .val (.ref b1), .val (.int (2 : Int32)), .unset, .unset, .unset, .unset] [.int ((K + (1 : Int32)) + (1 : Int32))]))
    refine g_istore (pc := 109) (ls' := #[.val (.int p0), .val (.int p1), .val (.int p2), .val (.int p3), .val (.int v), .val (.int K), .val (.int f), .val (.ref b1), .val (.int (2 : Int32)), .val (.int ((K + (1 : Int32)) + (1 : Int32))), .unset, .unset, .unset]) W87 at_109 rfl ?_
    refine g_iload (pc := 111) W87 at_111 rfl ?_
    refine g_iload (pc := 113) W87 at_113 rfl ?_
    refine g_iload (pc := 115) W87 at_115 rfl ?_
    refine g_iadd (pc := 117) W87 at_117 ?_
    refine g_icmpY 123 (pc := 118) W87 at_118 (by decide) (by decide) (teq (own_after2 K)).1 ?_
    refine g_aload (pc := 123) W87 at_123 rfl rfl ?_
    refine g_iconst (pc := 125) (0 : Int32) (by decide) W87 at_125 ?_
    refine g_iload (pc := 126) W87 at_126 rfl ?_
    refine g_iload (pc := 128) W87 at_128 rfl ?_
    refine g_iload (pc := 130) W87 at_130 rfl ?_
    refine g_iload (pc := 132) W87 at_132 rfl ?_
    refine g_static (pc := 134) (Wt := 0) (argsL := [.ref b1, .int (0 : Int32), .int v, .int K, .int (2 : Int32), .int f]) (rest := []) (loc := [(b1, (.array .byte), (((List.replicate 12 (Value.int f)).set (K.toNatClampNeg + 0) (.int ((v &&& (127 : Int32)) ||| (128 : Int32)).toInt8.toInt32)).set (K.toNatClampNeg + 1) (.int (XT.ushr v (7 : Int32)).toInt8.toInt32)))]) (rst := []) W87 (hw _ (List.mem_of_getElem? (i := 10) rfl)) (hw _ (List.mem_of_getElem? (i := 11) rfl)) (hw _ (List.mem_of_getElem? (i := 4) rfl)) (hw _ (List.mem_of_getElem? (i := 12) rfl)) (by decide) (c_ok l Z a0 hw b1 (0 : Int32) v K (2 : Int32) f (rd K.toNatClampNeg [((v &&& (127 : Int32)) ||| (128 : Int32)).toInt8.toInt32, (XT.ushr v (7 : Int32)).toInt8.toInt32] f 0) (((List.replicate 12 (Value.int f)).set (K.toNatClampNeg + 0) (.int ((v &&& (127 : Int32)) ||| (128 : Int32)).toInt8.toInt32)).set (K.toNatClampNeg + 1) (.int (XT.ushr v (7 : Int32)).toInt8.toInt32)) (by decide) (own_rd2 (v := v) (f := f) (j := K.toNatClampNeg) (i := 0) (own_j hK) (by decide)) (own_ok2 (i := (0 : Int32)) (iN := 0) (f := f) hv hb hK (by decide) (by decide)).1 (own_ok2 (i := (0 : Int32)) (iN := 0) (f := f) hv hb hK (by decide) (by decide)).2) ⟨[0], by decide, rfl⟩ rfl pd_ABIIIIB__Z rfl rfl rfl (Nat.le_of_ble_eq_true rfl) (by decide) (by decide) (by decide) (by decide) at_134 ?_
    rintro T88 _ _ ⟨rfl, rfl⟩ W89
    have W90 := W89.re (os' := [(b1, (.array .byte), (((List.replicate 12 (Value.int f)).set (K.toNatClampNeg + 0) (.int ((v &&& (127 : Int32)) ||| (128 : Int32)).toInt8.toInt32)).set (K.toNatClampNeg + 1) (.int (XT.ushr v (7 : Int32)).toInt8.toInt32)))]) rfl
    show Go p_ e_ bl_ _ (T88.setTop (mkF m_ 137 #[.val (.int p0), .val (.int p1), .val (.int p2), .val (.int p3), .val (.int v), .val (.int K), .val (.int f), .val (.ref b1), .val (.int (2 : Int32)), .val (.int ((K + (1 : Int32)) + (1 : Int32))), .unset, .unset, .unset] [.int (1 : Int32)]))
    refine g_ifN (pc := 137) W90 at_137 (by decide) ?_
    refine g_aload (pc := 140) W90 at_140 rfl rfl ?_
    refine g_iconst (pc := 142) (1 : Int32) (by decide) W90 at_142 ?_
    refine g_iload (pc := 143) W90 at_143 rfl ?_
    refine g_iload (pc := 145) W90 at_145 rfl ?_
    refine g_iload (pc := 147) W90 at_147 rfl ?_
    refine g_iload (pc := 149) W90 at_149 rfl ?_
    refine g_static (pc := 151) (Wt := 0) (argsL := [.ref b1, .int (1 : Int32), .int v, .int K, .int (2 : Int32), .int f]) (rest := []) (loc := [(b1, (.array .byte), (((List.replicate 12 (Value.int f)).set (K.toNatClampNeg + 0) (.int ((v &&& (127 : Int32)) ||| (128 : Int32)).toInt8.toInt32)).set (K.toNatClampNeg + 1) (.int (XT.ushr v (7 : Int32)).toInt8.toInt32)))]) (rst := []) W90 (hw _ (List.mem_of_getElem? (i := 10) rfl)) (hw _ (List.mem_of_getElem? (i := 11) rfl)) (hw _ (List.mem_of_getElem? (i := 4) rfl)) (hw _ (List.mem_of_getElem? (i := 12) rfl)) (by decide) (c_ok l Z a0 hw b1 (1 : Int32) v K (2 : Int32) f (rd K.toNatClampNeg [((v &&& (127 : Int32)) ||| (128 : Int32)).toInt8.toInt32, (XT.ushr v (7 : Int32)).toInt8.toInt32] f 1) (((List.replicate 12 (Value.int f)).set (K.toNatClampNeg + 0) (.int ((v &&& (127 : Int32)) ||| (128 : Int32)).toInt8.toInt32)).set (K.toNatClampNeg + 1) (.int (XT.ushr v (7 : Int32)).toInt8.toInt32)) (by decide) (own_rd2 (v := v) (f := f) (j := K.toNatClampNeg) (i := 1) (own_j hK) (by decide)) (own_ok2 (i := (1 : Int32)) (iN := 1) (f := f) hv hb hK (by decide) (by decide)).1 (own_ok2 (i := (1 : Int32)) (iN := 1) (f := f) hv hb hK (by decide) (by decide)).2) ⟨[0], by decide, rfl⟩ rfl pd_ABIIIIB__Z rfl rfl rfl (Nat.le_of_ble_eq_true rfl) (by decide) (by decide) (by decide) (by decide) at_151 ?_
    rintro T91 _ _ ⟨rfl, rfl⟩ W92
    have W93 := W92.re (os' := [(b1, (.array .byte), (((List.replicate 12 (Value.int f)).set (K.toNatClampNeg + 0) (.int ((v &&& (127 : Int32)) ||| (128 : Int32)).toInt8.toInt32)).set (K.toNatClampNeg + 1) (.int (XT.ushr v (7 : Int32)).toInt8.toInt32)))]) rfl
    show Go p_ e_ bl_ _ (T91.setTop (mkF m_ 154 #[.val (.int p0), .val (.int p1), .val (.int p2), .val (.int p3), .val (.int v), .val (.int K), .val (.int f), .val (.ref b1), .val (.int (2 : Int32)), .val (.int ((K + (1 : Int32)) + (1 : Int32))), .unset, .unset, .unset] [.int (1 : Int32)]))
    refine g_ifN (pc := 154) W93 at_154 (by decide) ?_
    refine g_aload (pc := 157) W93 at_157 rfl rfl ?_
    refine g_iconst (pc := 159) (2 : Int32) (by decide) W93 at_159 ?_
    refine g_iload (pc := 160) W93 at_160 rfl ?_
    refine g_iload (pc := 162) W93 at_162 rfl ?_
    refine g_iload (pc := 164) W93 at_164 rfl ?_
    refine g_iload (pc := 166) W93 at_166 rfl ?_
    refine g_static (pc := 168) (Wt := 0) (argsL := [.ref b1, .int (2 : Int32), .int v, .int K, .int (2 : Int32), .int f]) (rest := []) (loc := [(b1, (.array .byte), (((List.replicate 12 (Value.int f)).set (K.toNatClampNeg + 0) (.int ((v &&& (127 : Int32)) ||| (128 : Int32)).toInt8.toInt32)).set (K.toNatClampNeg + 1) (.int (XT.ushr v (7 : Int32)).toInt8.toInt32)))]) (rst := []) W93 (hw _ (List.mem_of_getElem? (i := 10) rfl)) (hw _ (List.mem_of_getElem? (i := 11) rfl)) (hw _ (List.mem_of_getElem? (i := 4) rfl)) (hw _ (List.mem_of_getElem? (i := 12) rfl)) (by decide) (c_ok l Z a0 hw b1 (2 : Int32) v K (2 : Int32) f (rd K.toNatClampNeg [((v &&& (127 : Int32)) ||| (128 : Int32)).toInt8.toInt32, (XT.ushr v (7 : Int32)).toInt8.toInt32] f 2) (((List.replicate 12 (Value.int f)).set (K.toNatClampNeg + 0) (.int ((v &&& (127 : Int32)) ||| (128 : Int32)).toInt8.toInt32)).set (K.toNatClampNeg + 1) (.int (XT.ushr v (7 : Int32)).toInt8.toInt32)) (by decide) (own_rd2 (v := v) (f := f) (j := K.toNatClampNeg) (i := 2) (own_j hK) (by decide)) (own_ok2 (i := (2 : Int32)) (iN := 2) (f := f) hv hb hK (by decide) (by decide)).1 (own_ok2 (i := (2 : Int32)) (iN := 2) (f := f) hv hb hK (by decide) (by decide)).2) ⟨[0], by decide, rfl⟩ rfl pd_ABIIIIB__Z rfl rfl rfl (Nat.le_of_ble_eq_true rfl) (by decide) (by decide) (by decide) (by decide) at_168 ?_
    rintro T94 _ _ ⟨rfl, rfl⟩ W95
    have W96 := W95.re (os' := [(b1, (.array .byte), (((List.replicate 12 (Value.int f)).set (K.toNatClampNeg + 0) (.int ((v &&& (127 : Int32)) ||| (128 : Int32)).toInt8.toInt32)).set (K.toNatClampNeg + 1) (.int (XT.ushr v (7 : Int32)).toInt8.toInt32)))]) rfl
    show Go p_ e_ bl_ _ (T94.setTop (mkF m_ 171 #[.val (.int p0), .val (.int p1), .val (.int p2), .val (.int p3), .val (.int v), .val (.int K), .val (.int f), .val (.ref b1), .val (.int (2 : Int32)), .val (.int ((K + (1 : Int32)) + (1 : Int32))), .unset, .unset, .unset] [.int (1 : Int32)]))
    refine g_ifN (pc := 171) W96 at_171 (by decide) ?_
    refine g_aload (pc := 174) W96 at_174 rfl rfl ?_
    refine g_iconst (pc := 176) (3 : Int32) (by decide) W96 at_176 ?_
    refine g_iload (pc := 177) W96 at_177 rfl ?_
    refine g_iload (pc := 179) W96 at_179 rfl ?_
    refine g_iload (pc := 181) W96 at_181 rfl ?_
    refine g_iload (pc := 183) W96 at_183 rfl ?_
    refine g_static (pc := 185) (Wt := 0) (argsL := [.ref b1, .int (3 : Int32), .int v, .int K, .int (2 : Int32), .int f]) (rest := []) (loc := [(b1, (.array .byte), (((List.replicate 12 (Value.int f)).set (K.toNatClampNeg + 0) (.int ((v &&& (127 : Int32)) ||| (128 : Int32)).toInt8.toInt32)).set (K.toNatClampNeg + 1) (.int (XT.ushr v (7 : Int32)).toInt8.toInt32)))]) (rst := []) W96 (hw _ (List.mem_of_getElem? (i := 10) rfl)) (hw _ (List.mem_of_getElem? (i := 11) rfl)) (hw _ (List.mem_of_getElem? (i := 4) rfl)) (hw _ (List.mem_of_getElem? (i := 12) rfl)) (by decide) (c_ok l Z a0 hw b1 (3 : Int32) v K (2 : Int32) f (rd K.toNatClampNeg [((v &&& (127 : Int32)) ||| (128 : Int32)).toInt8.toInt32, (XT.ushr v (7 : Int32)).toInt8.toInt32] f 3) (((List.replicate 12 (Value.int f)).set (K.toNatClampNeg + 0) (.int ((v &&& (127 : Int32)) ||| (128 : Int32)).toInt8.toInt32)).set (K.toNatClampNeg + 1) (.int (XT.ushr v (7 : Int32)).toInt8.toInt32)) (by decide) (own_rd2 (v := v) (f := f) (j := K.toNatClampNeg) (i := 3) (own_j hK) (by decide)) (own_ok2 (i := (3 : Int32)) (iN := 3) (f := f) hv hb hK (by decide) (by decide)).1 (own_ok2 (i := (3 : Int32)) (iN := 3) (f := f) hv hb hK (by decide) (by decide)).2) ⟨[0], by decide, rfl⟩ rfl pd_ABIIIIB__Z rfl rfl rfl (Nat.le_of_ble_eq_true rfl) (by decide) (by decide) (by decide) (by decide) at_185 ?_
    rintro T97 _ _ ⟨rfl, rfl⟩ W98
    have W99 := W98.re (os' := [(b1, (.array .byte), (((List.replicate 12 (Value.int f)).set (K.toNatClampNeg + 0) (.int ((v &&& (127 : Int32)) ||| (128 : Int32)).toInt8.toInt32)).set (K.toNatClampNeg + 1) (.int (XT.ushr v (7 : Int32)).toInt8.toInt32)))]) rfl
    show Go p_ e_ bl_ _ (T97.setTop (mkF m_ 188 #[.val (.int p0), .val (.int p1), .val (.int p2), .val (.int p3), .val (.int v), .val (.int K), .val (.int f), .val (.ref b1), .val (.int (2 : Int32)), .val (.int ((K + (1 : Int32)) + (1 : Int32))), .unset, .unset, .unset] [.int (1 : Int32)]))
    refine g_ifN (pc := 188) W99 at_188 (by decide) ?_
    refine g_aload (pc := 191) W99 at_191 rfl rfl ?_
    refine g_iconst (pc := 193) (4 : Int32) (by decide) W99 at_193 ?_
    refine g_iload (pc := 194) W99 at_194 rfl ?_
    refine g_iload (pc := 196) W99 at_196 rfl ?_
    refine g_iload (pc := 198) W99 at_198 rfl ?_
    refine g_iload (pc := 200) W99 at_200 rfl ?_
    refine g_static (pc := 202) (Wt := 0) (argsL := [.ref b1, .int (4 : Int32), .int v, .int K, .int (2 : Int32), .int f]) (rest := []) (loc := [(b1, (.array .byte), (((List.replicate 12 (Value.int f)).set (K.toNatClampNeg + 0) (.int ((v &&& (127 : Int32)) ||| (128 : Int32)).toInt8.toInt32)).set (K.toNatClampNeg + 1) (.int (XT.ushr v (7 : Int32)).toInt8.toInt32)))]) (rst := []) W99 (hw _ (List.mem_of_getElem? (i := 10) rfl)) (hw _ (List.mem_of_getElem? (i := 11) rfl)) (hw _ (List.mem_of_getElem? (i := 4) rfl)) (hw _ (List.mem_of_getElem? (i := 12) rfl)) (by decide) (c_ok l Z a0 hw b1 (4 : Int32) v K (2 : Int32) f (rd K.toNatClampNeg [((v &&& (127 : Int32)) ||| (128 : Int32)).toInt8.toInt32, (XT.ushr v (7 : Int32)).toInt8.toInt32] f 4) (((List.replicate 12 (Value.int f)).set (K.toNatClampNeg + 0) (.int ((v &&& (127 : Int32)) ||| (128 : Int32)).toInt8.toInt32)).set (K.toNatClampNeg + 1) (.int (XT.ushr v (7 : Int32)).toInt8.toInt32)) (by decide) (own_rd2 (v := v) (f := f) (j := K.toNatClampNeg) (i := 4) (own_j hK) (by decide)) (own_ok2 (i := (4 : Int32)) (iN := 4) (f := f) hv hb hK (by decide) (by decide)).1 (own_ok2 (i := (4 : Int32)) (iN := 4) (f := f) hv hb hK (by decide) (by decide)).2) ⟨[0], by decide, rfl⟩ rfl pd_ABIIIIB__Z rfl rfl rfl (Nat.le_of_ble_eq_true rfl) (by decide) (by decide) (by decide) (by decide) at_202 ?_
    rintro T100 _ _ ⟨rfl, rfl⟩ W101
    have W102 := W101.re (os' := [(b1, (.array .byte), (((List.replicate 12 (Value.int f)).set (K.toNatClampNeg + 0) (.int ((v &&& (127 : Int32)) ||| (128 : Int32)).toInt8.toInt32)).set (K.toNatClampNeg + 1) (.int (XT.ushr v (7 : Int32)).toInt8.toInt32)))]) rfl
    show Go p_ e_ bl_ _ (T100.setTop (mkF m_ 205 #[.val (.int p0), .val (.int p1), .val (.int p2), .val (.int p3), .val (.int v), .val (.int K), .val (.int f), .val (.ref b1), .val (.int (2 : Int32)), .val (.int ((K + (1 : Int32)) + (1 : Int32))), .unset, .unset, .unset] [.int (1 : Int32)]))
    refine g_ifN (pc := 205) W102 at_205 (by decide) ?_
    refine g_aload (pc := 208) W102 at_208 rfl rfl ?_
    refine g_iconst (pc := 210) (5 : Int32) (by decide) W102 at_210 ?_
    refine g_iload (pc := 211) W102 at_211 rfl ?_
    refine g_iload (pc := 213) W102 at_213 rfl ?_
    refine g_iload (pc := 215) W102 at_215 rfl ?_
    refine g_iload (pc := 217) W102 at_217 rfl ?_
    refine g_static (pc := 219) (Wt := 0) (argsL := [.ref b1, .int (5 : Int32), .int v, .int K, .int (2 : Int32), .int f]) (rest := []) (loc := [(b1, (.array .byte), (((List.replicate 12 (Value.int f)).set (K.toNatClampNeg + 0) (.int ((v &&& (127 : Int32)) ||| (128 : Int32)).toInt8.toInt32)).set (K.toNatClampNeg + 1) (.int (XT.ushr v (7 : Int32)).toInt8.toInt32)))]) (rst := []) W102 (hw _ (List.mem_of_getElem? (i := 10) rfl)) (hw _ (List.mem_of_getElem? (i := 11) rfl)) (hw _ (List.mem_of_getElem? (i := 4) rfl)) (hw _ (List.mem_of_getElem? (i := 12) rfl)) (by decide) (c_ok l Z a0 hw b1 (5 : Int32) v K (2 : Int32) f (rd K.toNatClampNeg [((v &&& (127 : Int32)) ||| (128 : Int32)).toInt8.toInt32, (XT.ushr v (7 : Int32)).toInt8.toInt32] f 5) (((List.replicate 12 (Value.int f)).set (K.toNatClampNeg + 0) (.int ((v &&& (127 : Int32)) ||| (128 : Int32)).toInt8.toInt32)).set (K.toNatClampNeg + 1) (.int (XT.ushr v (7 : Int32)).toInt8.toInt32)) (by decide) (own_rd2 (v := v) (f := f) (j := K.toNatClampNeg) (i := 5) (own_j hK) (by decide)) (own_ok2 (i := (5 : Int32)) (iN := 5) (f := f) hv hb hK (by decide) (by decide)).1 (own_ok2 (i := (5 : Int32)) (iN := 5) (f := f) hv hb hK (by decide) (by decide)).2) ⟨[0], by decide, rfl⟩ rfl pd_ABIIIIB__Z rfl rfl rfl (Nat.le_of_ble_eq_true rfl) (by decide) (by decide) (by decide) (by decide) at_219 ?_
    rintro T103 _ _ ⟨rfl, rfl⟩ W104
    have W105 := W104.re (os' := [(b1, (.array .byte), (((List.replicate 12 (Value.int f)).set (K.toNatClampNeg + 0) (.int ((v &&& (127 : Int32)) ||| (128 : Int32)).toInt8.toInt32)).set (K.toNatClampNeg + 1) (.int (XT.ushr v (7 : Int32)).toInt8.toInt32)))]) rfl
    show Go p_ e_ bl_ _ (T103.setTop (mkF m_ 222 #[.val (.int p0), .val (.int p1), .val (.int p2), .val (.int p3), .val (.int v), .val (.int K), .val (.int f), .val (.ref b1), .val (.int (2 : Int32)), .val (.int ((K + (1 : Int32)) + (1 : Int32))), .unset, .unset, .unset] [.int (1 : Int32)]))
    refine g_ifN (pc := 222) W105 at_222 (by decide) ?_
    refine g_aload (pc := 225) W105 at_225 rfl rfl ?_
    refine g_bipush (pc := 227) (6 : Int32) (by decide) W105 at_227 ?_
    refine g_iload (pc := 229) W105 at_229 rfl ?_
    refine g_iload (pc := 231) W105 at_231 rfl ?_
    refine g_iload (pc := 233) W105 at_233 rfl ?_
    refine g_iload (pc := 235) W105 at_235 rfl ?_
    refine g_static (pc := 237) (Wt := 0) (argsL := [.ref b1, .int (6 : Int32), .int v, .int K, .int (2 : Int32), .int f]) (rest := []) (loc := [(b1, (.array .byte), (((List.replicate 12 (Value.int f)).set (K.toNatClampNeg + 0) (.int ((v &&& (127 : Int32)) ||| (128 : Int32)).toInt8.toInt32)).set (K.toNatClampNeg + 1) (.int (XT.ushr v (7 : Int32)).toInt8.toInt32)))]) (rst := []) W105 (hw _ (List.mem_of_getElem? (i := 10) rfl)) (hw _ (List.mem_of_getElem? (i := 11) rfl)) (hw _ (List.mem_of_getElem? (i := 4) rfl)) (hw _ (List.mem_of_getElem? (i := 12) rfl)) (by decide) (c_ok l Z a0 hw b1 (6 : Int32) v K (2 : Int32) f (rd K.toNatClampNeg [((v &&& (127 : Int32)) ||| (128 : Int32)).toInt8.toInt32, (XT.ushr v (7 : Int32)).toInt8.toInt32] f 6) (((List.replicate 12 (Value.int f)).set (K.toNatClampNeg + 0) (.int ((v &&& (127 : Int32)) ||| (128 : Int32)).toInt8.toInt32)).set (K.toNatClampNeg + 1) (.int (XT.ushr v (7 : Int32)).toInt8.toInt32)) (by decide) (own_rd2 (v := v) (f := f) (j := K.toNatClampNeg) (i := 6) (own_j hK) (by decide)) (own_ok2 (i := (6 : Int32)) (iN := 6) (f := f) hv hb hK (by decide) (by decide)).1 (own_ok2 (i := (6 : Int32)) (iN := 6) (f := f) hv hb hK (by decide) (by decide)).2) ⟨[0], by decide, rfl⟩ rfl pd_ABIIIIB__Z rfl rfl rfl (Nat.le_of_ble_eq_true rfl) (by decide) (by decide) (by decide) (by decide) at_237 ?_
    rintro T106 _ _ ⟨rfl, rfl⟩ W107
    have W108 := W107.re (os' := [(b1, (.array .byte), (((List.replicate 12 (Value.int f)).set (K.toNatClampNeg + 0) (.int ((v &&& (127 : Int32)) ||| (128 : Int32)).toInt8.toInt32)).set (K.toNatClampNeg + 1) (.int (XT.ushr v (7 : Int32)).toInt8.toInt32)))]) rfl
    show Go p_ e_ bl_ _ (T106.setTop (mkF m_ 240 #[.val (.int p0), .val (.int p1), .val (.int p2), .val (.int p3), .val (.int v), .val (.int K), .val (.int f), .val (.ref b1), .val (.int (2 : Int32)), .val (.int ((K + (1 : Int32)) + (1 : Int32))), .unset, .unset, .unset] [.int (1 : Int32)]))
    refine g_ifN (pc := 240) W108 at_240 (by decide) ?_
    refine g_aload (pc := 243) W108 at_243 rfl rfl ?_
    refine g_bipush (pc := 245) (7 : Int32) (by decide) W108 at_245 ?_
    refine g_iload (pc := 247) W108 at_247 rfl ?_
    refine g_iload (pc := 249) W108 at_249 rfl ?_
    refine g_iload (pc := 251) W108 at_251 rfl ?_
    refine g_iload (pc := 253) W108 at_253 rfl ?_
    refine g_static (pc := 255) (Wt := 0) (argsL := [.ref b1, .int (7 : Int32), .int v, .int K, .int (2 : Int32), .int f]) (rest := []) (loc := [(b1, (.array .byte), (((List.replicate 12 (Value.int f)).set (K.toNatClampNeg + 0) (.int ((v &&& (127 : Int32)) ||| (128 : Int32)).toInt8.toInt32)).set (K.toNatClampNeg + 1) (.int (XT.ushr v (7 : Int32)).toInt8.toInt32)))]) (rst := []) W108 (hw _ (List.mem_of_getElem? (i := 10) rfl)) (hw _ (List.mem_of_getElem? (i := 11) rfl)) (hw _ (List.mem_of_getElem? (i := 4) rfl)) (hw _ (List.mem_of_getElem? (i := 12) rfl)) (by decide) (c_ok l Z a0 hw b1 (7 : Int32) v K (2 : Int32) f (rd K.toNatClampNeg [((v &&& (127 : Int32)) ||| (128 : Int32)).toInt8.toInt32, (XT.ushr v (7 : Int32)).toInt8.toInt32] f 7) (((List.replicate 12 (Value.int f)).set (K.toNatClampNeg + 0) (.int ((v &&& (127 : Int32)) ||| (128 : Int32)).toInt8.toInt32)).set (K.toNatClampNeg + 1) (.int (XT.ushr v (7 : Int32)).toInt8.toInt32)) (by decide) (own_rd2 (v := v) (f := f) (j := K.toNatClampNeg) (i := 7) (own_j hK) (by decide)) (own_ok2 (i := (7 : Int32)) (iN := 7) (f := f) hv hb hK (by decide) (by decide)).1 (own_ok2 (i := (7 : Int32)) (iN := 7) (f := f) hv hb hK (by decide) (by decide)).2) ⟨[0], by decide, rfl⟩ rfl pd_ABIIIIB__Z rfl rfl rfl (Nat.le_of_ble_eq_true rfl) (by decide) (by decide) (by decide) (by decide) at_255 ?_
    rintro T109 _ _ ⟨rfl, rfl⟩ W110
    have W111 := W110.re (os' := [(b1, (.array .byte), (((List.replicate 12 (Value.int f)).set (K.toNatClampNeg + 0) (.int ((v &&& (127 : Int32)) ||| (128 : Int32)).toInt8.toInt32)).set (K.toNatClampNeg + 1) (.int (XT.ushr v (7 : Int32)).toInt8.toInt32)))]) rfl
    show Go p_ e_ bl_ _ (T109.setTop (mkF m_ 258 #[.val (.int p0), .val (.int p1), .val (.int p2), .val (.int p3), .val (.int v), .val (.int K), .val (.int f), .val (.ref b1), .val (.int (2 : Int32)), .val (.int ((K + (1 : Int32)) + (1 : Int32))), .unset, .unset, .unset] [.int (1 : Int32)]))
    refine g_ifN (pc := 258) W111 at_258 (by decide) ?_
    refine g_aload (pc := 261) W111 at_261 rfl rfl ?_
    refine g_bipush (pc := 263) (8 : Int32) (by decide) W111 at_263 ?_
    refine g_iload (pc := 265) W111 at_265 rfl ?_
    refine g_iload (pc := 267) W111 at_267 rfl ?_
    refine g_iload (pc := 269) W111 at_269 rfl ?_
    refine g_iload (pc := 271) W111 at_271 rfl ?_
    refine g_static (pc := 273) (Wt := 0) (argsL := [.ref b1, .int (8 : Int32), .int v, .int K, .int (2 : Int32), .int f]) (rest := []) (loc := [(b1, (.array .byte), (((List.replicate 12 (Value.int f)).set (K.toNatClampNeg + 0) (.int ((v &&& (127 : Int32)) ||| (128 : Int32)).toInt8.toInt32)).set (K.toNatClampNeg + 1) (.int (XT.ushr v (7 : Int32)).toInt8.toInt32)))]) (rst := []) W111 (hw _ (List.mem_of_getElem? (i := 10) rfl)) (hw _ (List.mem_of_getElem? (i := 11) rfl)) (hw _ (List.mem_of_getElem? (i := 4) rfl)) (hw _ (List.mem_of_getElem? (i := 12) rfl)) (by decide) (c_ok l Z a0 hw b1 (8 : Int32) v K (2 : Int32) f (rd K.toNatClampNeg [((v &&& (127 : Int32)) ||| (128 : Int32)).toInt8.toInt32, (XT.ushr v (7 : Int32)).toInt8.toInt32] f 8) (((List.replicate 12 (Value.int f)).set (K.toNatClampNeg + 0) (.int ((v &&& (127 : Int32)) ||| (128 : Int32)).toInt8.toInt32)).set (K.toNatClampNeg + 1) (.int (XT.ushr v (7 : Int32)).toInt8.toInt32)) (by decide) (own_rd2 (v := v) (f := f) (j := K.toNatClampNeg) (i := 8) (own_j hK) (by decide)) (own_ok2 (i := (8 : Int32)) (iN := 8) (f := f) hv hb hK (by decide) (by decide)).1 (own_ok2 (i := (8 : Int32)) (iN := 8) (f := f) hv hb hK (by decide) (by decide)).2) ⟨[0], by decide, rfl⟩ rfl pd_ABIIIIB__Z rfl rfl rfl (Nat.le_of_ble_eq_true rfl) (by decide) (by decide) (by decide) (by decide) at_273 ?_
    rintro T112 _ _ ⟨rfl, rfl⟩ W113
    have W114 := W113.re (os' := [(b1, (.array .byte), (((List.replicate 12 (Value.int f)).set (K.toNatClampNeg + 0) (.int ((v &&& (127 : Int32)) ||| (128 : Int32)).toInt8.toInt32)).set (K.toNatClampNeg + 1) (.int (XT.ushr v (7 : Int32)).toInt8.toInt32)))]) rfl
    show Go p_ e_ bl_ _ (T112.setTop (mkF m_ 276 #[.val (.int p0), .val (.int p1), .val (.int p2), .val (.int p3), .val (.int v), .val (.int K), .val (.int f), .val (.ref b1), .val (.int (2 : Int32)), .val (.int ((K + (1 : Int32)) + (1 : Int32))), .unset, .unset, .unset] [.int (1 : Int32)]))
    refine g_ifN (pc := 276) W114 at_276 (by decide) ?_
    refine g_aload (pc := 279) W114 at_279 rfl rfl ?_
    refine g_bipush (pc := 281) (9 : Int32) (by decide) W114 at_281 ?_
    refine g_iload (pc := 283) W114 at_283 rfl ?_
    refine g_iload (pc := 285) W114 at_285 rfl ?_
    refine g_iload (pc := 287) W114 at_287 rfl ?_
    refine g_iload (pc := 289) W114 at_289 rfl ?_
    refine g_static (pc := 291) (Wt := 0) (argsL := [.ref b1, .int (9 : Int32), .int v, .int K, .int (2 : Int32), .int f]) (rest := []) (loc := [(b1, (.array .byte), (((List.replicate 12 (Value.int f)).set (K.toNatClampNeg + 0) (.int ((v &&& (127 : Int32)) ||| (128 : Int32)).toInt8.toInt32)).set (K.toNatClampNeg + 1) (.int (XT.ushr v (7 : Int32)).toInt8.toInt32)))]) (rst := []) W114 (hw _ (List.mem_of_getElem? (i := 10) rfl)) (hw _ (List.mem_of_getElem? (i := 11) rfl)) (hw _ (List.mem_of_getElem? (i := 4) rfl)) (hw _ (List.mem_of_getElem? (i := 12) rfl)) (by decide) (c_ok l Z a0 hw b1 (9 : Int32) v K (2 : Int32) f (rd K.toNatClampNeg [((v &&& (127 : Int32)) ||| (128 : Int32)).toInt8.toInt32, (XT.ushr v (7 : Int32)).toInt8.toInt32] f 9) (((List.replicate 12 (Value.int f)).set (K.toNatClampNeg + 0) (.int ((v &&& (127 : Int32)) ||| (128 : Int32)).toInt8.toInt32)).set (K.toNatClampNeg + 1) (.int (XT.ushr v (7 : Int32)).toInt8.toInt32)) (by decide) (own_rd2 (v := v) (f := f) (j := K.toNatClampNeg) (i := 9) (own_j hK) (by decide)) (own_ok2 (i := (9 : Int32)) (iN := 9) (f := f) hv hb hK (by decide) (by decide)).1 (own_ok2 (i := (9 : Int32)) (iN := 9) (f := f) hv hb hK (by decide) (by decide)).2) ⟨[0], by decide, rfl⟩ rfl pd_ABIIIIB__Z rfl rfl rfl (Nat.le_of_ble_eq_true rfl) (by decide) (by decide) (by decide) (by decide) at_291 ?_
    rintro T115 _ _ ⟨rfl, rfl⟩ W116
    have W117 := W116.re (os' := [(b1, (.array .byte), (((List.replicate 12 (Value.int f)).set (K.toNatClampNeg + 0) (.int ((v &&& (127 : Int32)) ||| (128 : Int32)).toInt8.toInt32)).set (K.toNatClampNeg + 1) (.int (XT.ushr v (7 : Int32)).toInt8.toInt32)))]) rfl
    show Go p_ e_ bl_ _ (T115.setTop (mkF m_ 294 #[.val (.int p0), .val (.int p1), .val (.int p2), .val (.int p3), .val (.int v), .val (.int K), .val (.int f), .val (.ref b1), .val (.int (2 : Int32)), .val (.int ((K + (1 : Int32)) + (1 : Int32))), .unset, .unset, .unset] [.int (1 : Int32)]))
    refine g_ifN (pc := 294) W117 at_294 (by decide) ?_
    refine g_aload (pc := 297) W117 at_297 rfl rfl ?_
    refine g_bipush (pc := 299) (10 : Int32) (by decide) W117 at_299 ?_
    refine g_iload (pc := 301) W117 at_301 rfl ?_
    refine g_iload (pc := 303) W117 at_303 rfl ?_
    refine g_iload (pc := 305) W117 at_305 rfl ?_
    refine g_iload (pc := 307) W117 at_307 rfl ?_
    refine g_static (pc := 309) (Wt := 0) (argsL := [.ref b1, .int (10 : Int32), .int v, .int K, .int (2 : Int32), .int f]) (rest := []) (loc := [(b1, (.array .byte), (((List.replicate 12 (Value.int f)).set (K.toNatClampNeg + 0) (.int ((v &&& (127 : Int32)) ||| (128 : Int32)).toInt8.toInt32)).set (K.toNatClampNeg + 1) (.int (XT.ushr v (7 : Int32)).toInt8.toInt32)))]) (rst := []) W117 (hw _ (List.mem_of_getElem? (i := 10) rfl)) (hw _ (List.mem_of_getElem? (i := 11) rfl)) (hw _ (List.mem_of_getElem? (i := 4) rfl)) (hw _ (List.mem_of_getElem? (i := 12) rfl)) (by decide) (c_ok l Z a0 hw b1 (10 : Int32) v K (2 : Int32) f (rd K.toNatClampNeg [((v &&& (127 : Int32)) ||| (128 : Int32)).toInt8.toInt32, (XT.ushr v (7 : Int32)).toInt8.toInt32] f 10) (((List.replicate 12 (Value.int f)).set (K.toNatClampNeg + 0) (.int ((v &&& (127 : Int32)) ||| (128 : Int32)).toInt8.toInt32)).set (K.toNatClampNeg + 1) (.int (XT.ushr v (7 : Int32)).toInt8.toInt32)) (by decide) (own_rd2 (v := v) (f := f) (j := K.toNatClampNeg) (i := 10) (own_j hK) (by decide)) (own_ok2 (i := (10 : Int32)) (iN := 10) (f := f) hv hb hK (by decide) (by decide)).1 (own_ok2 (i := (10 : Int32)) (iN := 10) (f := f) hv hb hK (by decide) (by decide)).2) ⟨[0], by decide, rfl⟩ rfl pd_ABIIIIB__Z rfl rfl rfl (Nat.le_of_ble_eq_true rfl) (by decide) (by decide) (by decide) (by decide) at_309 ?_
    rintro T118 _ _ ⟨rfl, rfl⟩ W119
    have W120 := W119.re (os' := [(b1, (.array .byte), (((List.replicate 12 (Value.int f)).set (K.toNatClampNeg + 0) (.int ((v &&& (127 : Int32)) ||| (128 : Int32)).toInt8.toInt32)).set (K.toNatClampNeg + 1) (.int (XT.ushr v (7 : Int32)).toInt8.toInt32)))]) rfl
    show Go p_ e_ bl_ _ (T118.setTop (mkF m_ 312 #[.val (.int p0), .val (.int p1), .val (.int p2), .val (.int p3), .val (.int v), .val (.int K), .val (.int f), .val (.ref b1), .val (.int (2 : Int32)), .val (.int ((K + (1 : Int32)) + (1 : Int32))), .unset, .unset, .unset] [.int (1 : Int32)]))
    refine g_ifN (pc := 312) W120 at_312 (by decide) ?_
    refine g_aload (pc := 315) W120 at_315 rfl rfl ?_
    refine g_bipush (pc := 317) (11 : Int32) (by decide) W120 at_317 ?_
    refine g_iload (pc := 319) W120 at_319 rfl ?_
    refine g_iload (pc := 321) W120 at_321 rfl ?_
    refine g_iload (pc := 323) W120 at_323 rfl ?_
    refine g_iload (pc := 325) W120 at_325 rfl ?_
    refine g_static (pc := 327) (Wt := 0) (argsL := [.ref b1, .int (11 : Int32), .int v, .int K, .int (2 : Int32), .int f]) (rest := []) (loc := [(b1, (.array .byte), (((List.replicate 12 (Value.int f)).set (K.toNatClampNeg + 0) (.int ((v &&& (127 : Int32)) ||| (128 : Int32)).toInt8.toInt32)).set (K.toNatClampNeg + 1) (.int (XT.ushr v (7 : Int32)).toInt8.toInt32)))]) (rst := []) W120 (hw _ (List.mem_of_getElem? (i := 10) rfl)) (hw _ (List.mem_of_getElem? (i := 11) rfl)) (hw _ (List.mem_of_getElem? (i := 4) rfl)) (hw _ (List.mem_of_getElem? (i := 12) rfl)) (by decide) (c_ok l Z a0 hw b1 (11 : Int32) v K (2 : Int32) f (rd K.toNatClampNeg [((v &&& (127 : Int32)) ||| (128 : Int32)).toInt8.toInt32, (XT.ushr v (7 : Int32)).toInt8.toInt32] f 11) (((List.replicate 12 (Value.int f)).set (K.toNatClampNeg + 0) (.int ((v &&& (127 : Int32)) ||| (128 : Int32)).toInt8.toInt32)).set (K.toNatClampNeg + 1) (.int (XT.ushr v (7 : Int32)).toInt8.toInt32)) (by decide) (own_rd2 (v := v) (f := f) (j := K.toNatClampNeg) (i := 11) (own_j hK) (by decide)) (own_ok2 (i := (11 : Int32)) (iN := 11) (f := f) hv hb hK (by decide) (by decide)).1 (own_ok2 (i := (11 : Int32)) (iN := 11) (f := f) hv hb hK (by decide) (by decide)).2) ⟨[0], by decide, rfl⟩ rfl pd_ABIIIIB__Z rfl rfl rfl (Nat.le_of_ble_eq_true rfl) (by decide) (by decide) (by decide) (by decide) at_327 ?_
    rintro T121 _ _ ⟨rfl, rfl⟩ W122
    have W123 := W122.re (os' := [(b1, (.array .byte), (((List.replicate 12 (Value.int f)).set (K.toNatClampNeg + 0) (.int ((v &&& (127 : Int32)) ||| (128 : Int32)).toInt8.toInt32)).set (K.toNatClampNeg + 1) (.int (XT.ushr v (7 : Int32)).toInt8.toInt32)))]) rfl
    show Go p_ e_ bl_ _ (T121.setTop (mkF m_ 330 #[.val (.int p0), .val (.int p1), .val (.int p2), .val (.int p3), .val (.int v), .val (.int K), .val (.int f), .val (.ref b1), .val (.int (2 : Int32)), .val (.int ((K + (1 : Int32)) + (1 : Int32))), .unset, .unset, .unset] [.int (1 : Int32)]))
    refine g_ifN (pc := 330) W123 at_330 (by decide) ?_
    refine g_iconst (pc := 333) (1 : Int32) (by decide) W123 at_333 ?_
    refine g_goto 338 (pc := 334) W123 at_334 (by decide) (by decide) ?_
    refine g_istore (pc := 338) (ls' := #[.val (.int p0), .val (.int p1), .val (.int p2), .val (.int p3), .val (.int v), .val (.int K), .val (.int f), .val (.ref b1), .val (.int (2 : Int32)), .val (.int ((K + (1 : Int32)) + (1 : Int32))), .val (.int (1 : Int32)), .unset, .unset]) W123 at_338 rfl ?_
    refine g_iload (pc := 340) W123 at_340 rfl ?_
    refine g_ifY 347 (pc := 342) W123 at_342 (by decide) (by decide) (by decide) ?_
    refine g_new (pc := 347) (vs := [.null, .int (0 : Int32)]) W123 (hw _ (List.mem_of_getElem? (i := 13) rfl)) (hw _ (List.mem_of_getElem? (i := 14) rfl)) (hw _ (List.mem_of_getElem? (i := 8) rfl)) (cls_ByteCursor hw) (by decide) at_347 (by decide) (by decide) (fun T125 b124 W126 => ?_)
    have W127 := W126.re (os' := [(b1, (.array .byte), (((List.replicate 12 (Value.int f)).set (K.toNatClampNeg + 0) (.int ((v &&& (127 : Int32)) ||| (128 : Int32)).toInt8.toInt32)).set (K.toNatClampNeg + 1) (.int (XT.ushr v (7 : Int32)).toInt8.toInt32))), (b124, (.object "com/example/attestry/attestry/home/ByteCursor"), [.null, .int (0 : Int32)])]) rfl
    refine g_dup (pc := 350) W127 at_350 rfl ?_
    refine g_aload (pc := 351) W127 at_351 rfl rfl ?_
    refine g_iload (pc := 353) W127 at_353 rfl ?_
    refine g_init (pc := 355) (Wt := 1) (argsL := [.ref b1, .int K]) (rest := [.ref b124]) (loc := [(b124, (.object "com/example/attestry/attestry/home/ByteCursor"), [.null, .int (0 : Int32)])]) (rst := [(b1, (.array .byte), (((List.replicate 12 (Value.int f)).set (K.toNatClampNeg + 0) (.int ((v &&& (127 : Int32)) ||| (128 : Int32)).toInt8.toInt32)).set (K.toNatClampNeg + 1) (.int (XT.ushr v (7 : Int32)).toInt8.toInt32)))]) W127 rfl (hw _ (List.mem_of_getElem? (i := 15) rfl)) (hw _ (List.mem_of_getElem? (i := 16) rfl)) (hw _ (List.mem_of_getElem? (i := 8) rfl)) (hw _ (List.mem_of_getElem? (i := 17) rfl)) (by decide) (c_init l Z a0 hw b124 b1 K) ⟨[1, 0], by decide, rfl⟩ rfl pd_ABI__V rfl rfl rfl (Nat.le_of_ble_eq_true rfl) (by decide) (by decide) (by decide) (by decide) at_355 ?_
    rintro T128 _ _ ⟨rfl, rfl⟩ W129
    have W130 := W129.re (os' := [(b124, (.object "com/example/attestry/attestry/home/ByteCursor"), [.ref b1, .int K]), (b1, (.array .byte), (((List.replicate 12 (Value.int f)).set (K.toNatClampNeg + 0) (.int ((v &&& (127 : Int32)) ||| (128 : Int32)).toInt8.toInt32)).set (K.toNatClampNeg + 1) (.int (XT.ushr v (7 : Int32)).toInt8.toInt32)))]) rfl
    show Go p_ e_ bl_ _ (T128.setTop (mkF m_ 358 #[.val (.int p0), .val (.int p1), .val (.int p2), .val (.int p3), .val (.int v), .val (.int K), .val (.int f), .val (.ref b1), .val (.int (2 : Int32)), .val (.int ((K + (1 : Int32)) + (1 : Int32))), .val (.int (1 : Int32)), .unset, .unset] [.ref b124]))
    refine g_astore (pc := 358) (ls' := #[.val (.int p0), .val (.int p1), .val (.int p2), .val (.int p3), .val (.int v), .val (.int K), .val (.int f), .val (.ref b1), .val (.int (2 : Int32)), .val (.int ((K + (1 : Int32)) + (1 : Int32))), .val (.int (1 : Int32)), .val (.ref b124), .unset]) W130 at_358 rfl rfl ?_
    refine g_aload (pc := 360) W130 at_360 rfl rfl ?_
    refine g_virtual (i := 0) (pc := 362) (Wt := 0) (argsL := []) (rest := []) (loc := [(b124, (.object "com/example/attestry/attestry/home/ByteCursor"), [.ref b1, .int K]), (b1, (.array .byte), (((List.replicate 12 (Value.int f)).set (K.toNatClampNeg + 0) (.int ((v &&& (127 : Int32)) ||| (128 : Int32)).toInt8.toInt32)).set (K.toNatClampNeg + 1) (.int (XT.ushr v (7 : Int32)).toInt8.toInt32)))]) (rst := []) W130 (hw _ (List.mem_of_getElem? (i := 25) rfl)) (hw _ (List.mem_of_getElem? (i := 27) rfl)) (hw _ (List.mem_of_getElem? (i := 8) rfl)) (hw _ (List.mem_of_getElem? (i := 29) rfl)) (hw _ (List.mem_of_getElem? (i := 26) rfl)) (hw _ (List.mem_of_getElem? (i := 28) rfl)) rfl (by decide) (c_wh2 l Z a0 hw b124 b1 K (((List.replicate 12 (Value.int f)).set (K.toNatClampNeg + 0) (.int ((v &&& (127 : Int32)) ||| (128 : Int32)).toInt8.toInt32)).set (K.toNatClampNeg + 1) (.int (XT.ushr v (7 : Int32)).toInt8.toInt32)) ((v &&& (127 : Int32)) ||| (128 : Int32)).toInt8.toInt32 (XT.ushr v (7 : Int32)).toInt8.toInt32 k0.1 (by rw [k0.2.1]; exact (own_rd2 (v := v) (f := f) (j := K.toNatClampNeg) (i := K.toNatClampNeg + 0) (own_j hK) (own_j2 hK)).trans (by rw [rd_B rfl]; rfl)) k1.1 (by rw [k1.2.1]; exact (own_rd2 (v := v) (f := f) (j := K.toNatClampNeg) (i := K.toNatClampNeg + 1) (own_j hK) (own_j2 hK)).trans (by rw [rd_B rfl]; rfl)) (by rw [Int32.lt_iff_toInt_lt, own_b]; simp only [Int32.reduceToInt]; omega) (by have h2 := own_vt1 hv; have rv := rng32 v; rw [Int32.lt_iff_toInt_lt, own_l (by omega)]; simp only [Int32.reduceToInt]; omega)) ⟨[0, 1], by decide, rfl⟩ rfl pd___I rfl rfl rfl (Nat.le_of_ble_eq_true rfl) (by decide) (by decide) (by decide) (by decide) at_362 ?_
    rintro T131 _ _ ⟨rfl, rfl⟩ W132
    have W133 := W132.re (os' := [(b124, (.object "com/example/attestry/attestry/home/ByteCursor"), [.ref b1, .int ((K + (1 : Int32)) + (1 : Int32))]), (b1, (.array .byte), (((List.replicate 12 (Value.int f)).set (K.toNatClampNeg + 0) (.int ((v &&& (127 : Int32)) ||| (128 : Int32)).toInt8.toInt32)).set (K.toNatClampNeg + 1) (.int (XT.ushr v (7 : Int32)).toInt8.toInt32)))]) rfl
    show Go p_ e_ bl_ _ (T131.setTop (mkF m_ 365 #[.val (.int p0), .val (.int p1), .val (.int p2), .val (.int p3), .val (.int v), .val (.int K), .val (.int f), .val (.ref b1), .val (.int (2 : Int32)), .val (.int ((K + (1 : Int32)) + (1 : Int32))), .val (.int (1 : Int32)), .val (.ref b124), .unset] [.int (((0 : Int32) ||| ((((v &&& (127 : Int32)) ||| (128 : Int32)).toInt8.toInt32 &&& (127 : Int32)) <<< ((0 : Int32) &&& 31))) ||| (((XT.ushr v (7 : Int32)).toInt8.toInt32 &&& (127 : Int32)) <<< ((7 : Int32) &&& 31)))]))
    refine g_istore (pc := 365) (ls' := #[.val (.int p0), .val (.int p1), .val (.int p2), .val (.int p3), .val (.int v), .val (.int K), .val (.int f), .val (.ref b1), .val (.int (2 : Int32)), .val (.int ((K + (1 : Int32)) + (1 : Int32))), .val (.int (1 : Int32)), .val (.ref b124), .val (.int (((0 : Int32) ||| ((((v &&& (127 : Int32)) ||| (128 : Int32)).toInt8.toInt32 &&& (127 : Int32)) <<< ((0 : Int32) &&& 31))) ||| (((XT.ushr v (7 : Int32)).toInt8.toInt32 &&& (127 : Int32)) <<< ((7 : Int32) &&& 31))))]) W133 at_365 rfl ?_
    refine g_iload (pc := 367) W133 at_367 rfl ?_
    refine g_iload (pc := 369) W133 at_369 rfl ?_
    refine g_icmpN (pc := 371) W133 at_371 (teq (own_back2 hv hb)).2 ?_
    refine g_aload (pc := 374) W133 at_374 rfl rfl ?_
    refine g_virtual (i := 0) (pc := 376) (Wt := 0) (argsL := []) (rest := []) (loc := [(b124, (.object "com/example/attestry/attestry/home/ByteCursor"), [.ref b1, .int ((K + (1 : Int32)) + (1 : Int32))])]) (rst := [(b1, (.array .byte), (((List.replicate 12 (Value.int f)).set (K.toNatClampNeg + 0) (.int ((v &&& (127 : Int32)) ||| (128 : Int32)).toInt8.toInt32)).set (K.toNatClampNeg + 1) (.int (XT.ushr v (7 : Int32)).toInt8.toInt32)))]) W133 (hw _ (List.mem_of_getElem? (i := 30) rfl)) (hw _ (List.mem_of_getElem? (i := 32) rfl)) (hw _ (List.mem_of_getElem? (i := 8) rfl)) (hw _ (List.mem_of_getElem? (i := 34) rfl)) (hw _ (List.mem_of_getElem? (i := 31) rfl)) (hw _ (List.mem_of_getElem? (i := 33) rfl)) rfl (by decide) (c_at l Z a0 hw b124 b1 ((K + (1 : Int32)) + (1 : Int32))) ⟨[0, 1], by decide, rfl⟩ rfl pd___I rfl rfl rfl (Nat.le_of_ble_eq_true rfl) (by decide) (by decide) (by decide) (by decide) at_376 ?_
    rintro T134 _ _ ⟨rfl, rfl⟩ W135
    have W136 := W135.re (os' := [(b124, (.object "com/example/attestry/attestry/home/ByteCursor"), [.ref b1, .int ((K + (1 : Int32)) + (1 : Int32))]), (b1, (.array .byte), (((List.replicate 12 (Value.int f)).set (K.toNatClampNeg + 0) (.int ((v &&& (127 : Int32)) ||| (128 : Int32)).toInt8.toInt32)).set (K.toNatClampNeg + 1) (.int (XT.ushr v (7 : Int32)).toInt8.toInt32)))]) rfl
    show Go p_ e_ bl_ _ (T134.setTop (mkF m_ 379 #[.val (.int p0), .val (.int p1), .val (.int p2), .val (.int p3), .val (.int v), .val (.int K), .val (.int f), .val (.ref b1), .val (.int (2 : Int32)), .val (.int ((K + (1 : Int32)) + (1 : Int32))), .val (.int (1 : Int32)), .val (.ref b124), .val (.int (((0 : Int32) ||| ((((v &&& (127 : Int32)) ||| (128 : Int32)).toInt8.toInt32 &&& (127 : Int32)) <<< ((0 : Int32) &&& 31))) ||| (((XT.ushr v (7 : Int32)).toInt8.toInt32 &&& (127 : Int32)) <<< ((7 : Int32) &&& 31))))] [.int ((K + (1 : Int32)) + (1 : Int32))]))
    refine g_iload (pc := 379) W136 at_379 rfl ?_
    refine g_icmpN (pc := 381) W136 at_381 (by first | exact (teq rfl).1 | exact (teq rfl).2 | exact (flt (by simp)).1 | exact (flt (by simp)).2.1 | exact (flt (by simp)).2.2.1 | exact (flt (by simp)).2.2.2) ?_
    refine g_iconst (pc := 384) (1 : Int32) (by decide) W136 at_384 ?_
    refine g_goto 389 (pc := 385) W136 at_385 (by decide) (by decide) ?_
    exact g_zreturn (pc := 389) rfl (by decide) W136 at_389 (by decide) (by decide) rfl
  · rw [hl]
    refine g_istore (pc := 98) (ls' := #[.val (.int p0), .val (.int p1), .val (.int p2), .val (.int p3), .val (.int v), .val (.int K), .val (.int f), .val (.ref b1), .val (.int (3 : Int32)), .unset, .unset, .unset, .unset]) W32 at_98 rfl ?_
    refine g_iload (pc := 100) W32 at_100 rfl ?_
    refine g_aload (pc := 102) W32 at_102 rfl rfl ?_
    refine g_iload (pc := 104) W32 at_104 rfl ?_
    refine g_static (pc := 106) (Wt := 0) (argsL := [.int v, .ref b1, .int K]) (rest := []) (loc := [(b1, (.array .byte), (List.replicate 12 (Value.int f)))]) (rst := []) W32 (hw _ (List.mem_of_getElem? (i := 6) rfl)) (hw _ (List.mem_of_getElem? (i := 7) rfl)) (hw _ (List.mem_of_getElem? (i := 8) rfl)) (hw _ (List.mem_of_getElem? (i := 9) rfl)) (by decide) (c_wr3 l Z a0 hw b1 v K (List.replicate 12 (Value.int f)) K.toNatClampNeg List.length_replicate (own_j hK) k0.1 k0.2.1 k1.1 k1.2.1 k2.1 k2.2.1 (fun q => by have h := (own_hz (own_vt0 hv).2).mp q; have h2 := own_vt0 hv; omega) (fun q => by have h := (own_hz (own_vt1 hv).2).mp q; have h2 := own_vt1 hv; omega) ((own_hz (own_vt2 hv).2).mpr (by have h2 := own_vt2 hv; have rv := rng32 v; omega))) ⟨[0], by decide, rfl⟩ rfl pd_IABI__I rfl rfl rfl (Nat.le_of_ble_eq_true rfl) (by decide) (by decide) (by decide) (by decide) at_106 ?_
    rintro T137 _ _ ⟨rfl, rfl⟩ W138
    have W139 := W138.re (os' := [(b1, (.array .byte), ((((List.replicate 12 (Value.int f)).set (K.toNatClampNeg + 0) (.int ((v &&& (127 : Int32)) ||| (128 : Int32)).toInt8.toInt32)).set (K.toNatClampNeg + 1) (.int (((XT.ushr v (7 : Int32)) &&& (127 : Int32)) ||| (128 : Int32)).toInt8.toInt32)).set (K.toNatClampNeg + 2) (.int (XT.ushr (XT.ushr v (7 : Int32)) (7 : Int32)).toInt8.toInt32)))]) rfl
    show Go p_ e_ bl_ _ (T137.setTop (mkF m_ 109 #[.val (.int p0), .val (.int p1), .val (.int p2), .val (.int p3), .val (.int v), .val (.int K), .val (.int f), .val (.ref b1), .val (.int (3 : Int32)), .unset, .unset, .unset, .unset] [.int (((K + (1 : Int32)) + (1 : Int32)) + (1 : Int32))]))
    refine g_istore (pc := 109) (ls' := #[.val (.int p0), .val (.int p1), .val (.int p2), .val (.int p3), .val (.int v), .val (.int K), .val (.int f), .val (.ref b1), .val (.int (3 : Int32)), .val (.int (((K + (1 : Int32)) + (1 : Int32)) + (1 : Int32))), .unset, .unset, .unset]) W139 at_109 rfl ?_
    refine g_iload (pc := 111) W139 at_111 rfl ?_
    refine g_iload (pc := 113) W139 at_113 rfl ?_
    refine g_iload (pc := 115) W139 at_115 rfl ?_
    refine g_iadd (pc := 117) W139 at_117 ?_
    refine g_icmpY 123 (pc := 118) W139 at_118 (by decide) (by decide) (teq (own_after3 K)).1 ?_
    refine g_aload (pc := 123) W139 at_123 rfl rfl ?_
    refine g_iconst (pc := 125) (0 : Int32) (by decide) W139 at_125 ?_
    refine g_iload (pc := 126) W139 at_126 rfl ?_
    refine g_iload (pc := 128) W139 at_128 rfl ?_
    refine g_iload (pc := 130) W139 at_130 rfl ?_
    refine g_iload (pc := 132) W139 at_132 rfl ?_
    refine g_static (pc := 134) (Wt := 0) (argsL := [.ref b1, .int (0 : Int32), .int v, .int K, .int (3 : Int32), .int f]) (rest := []) (loc := [(b1, (.array .byte), ((((List.replicate 12 (Value.int f)).set (K.toNatClampNeg + 0) (.int ((v &&& (127 : Int32)) ||| (128 : Int32)).toInt8.toInt32)).set (K.toNatClampNeg + 1) (.int (((XT.ushr v (7 : Int32)) &&& (127 : Int32)) ||| (128 : Int32)).toInt8.toInt32)).set (K.toNatClampNeg + 2) (.int (XT.ushr (XT.ushr v (7 : Int32)) (7 : Int32)).toInt8.toInt32)))]) (rst := []) W139 (hw _ (List.mem_of_getElem? (i := 10) rfl)) (hw _ (List.mem_of_getElem? (i := 11) rfl)) (hw _ (List.mem_of_getElem? (i := 4) rfl)) (hw _ (List.mem_of_getElem? (i := 12) rfl)) (by decide) (c_ok l Z a0 hw b1 (0 : Int32) v K (3 : Int32) f (rd K.toNatClampNeg [((v &&& (127 : Int32)) ||| (128 : Int32)).toInt8.toInt32, (((XT.ushr v (7 : Int32)) &&& (127 : Int32)) ||| (128 : Int32)).toInt8.toInt32, (XT.ushr (XT.ushr v (7 : Int32)) (7 : Int32)).toInt8.toInt32] f 0) ((((List.replicate 12 (Value.int f)).set (K.toNatClampNeg + 0) (.int ((v &&& (127 : Int32)) ||| (128 : Int32)).toInt8.toInt32)).set (K.toNatClampNeg + 1) (.int (((XT.ushr v (7 : Int32)) &&& (127 : Int32)) ||| (128 : Int32)).toInt8.toInt32)).set (K.toNatClampNeg + 2) (.int (XT.ushr (XT.ushr v (7 : Int32)) (7 : Int32)).toInt8.toInt32)) (by decide) (own_rd3 (v := v) (f := f) (j := K.toNatClampNeg) (i := 0) (own_j hK) (by decide)) (own_ok3 (i := (0 : Int32)) (iN := 0) (f := f) hv hb hK (by decide) (by decide)).1 (own_ok3 (i := (0 : Int32)) (iN := 0) (f := f) hv hb hK (by decide) (by decide)).2) ⟨[0], by decide, rfl⟩ rfl pd_ABIIIIB__Z rfl rfl rfl (Nat.le_of_ble_eq_true rfl) (by decide) (by decide) (by decide) (by decide) at_134 ?_
    rintro T140 _ _ ⟨rfl, rfl⟩ W141
    have W142 := W141.re (os' := [(b1, (.array .byte), ((((List.replicate 12 (Value.int f)).set (K.toNatClampNeg + 0) (.int ((v &&& (127 : Int32)) ||| (128 : Int32)).toInt8.toInt32)).set (K.toNatClampNeg + 1) (.int (((XT.ushr v (7 : Int32)) &&& (127 : Int32)) ||| (128 : Int32)).toInt8.toInt32)).set (K.toNatClampNeg + 2) (.int (XT.ushr (XT.ushr v (7 : Int32)) (7 : Int32)).toInt8.toInt32)))]) rfl
    show Go p_ e_ bl_ _ (T140.setTop (mkF m_ 137 #[.val (.int p0), .val (.int p1), .val (.int p2), .val (.int p3), .val (.int v), .val (.int K), .val (.int f), .val (.ref b1), .val (.int (3 : Int32)), .val (.int (((K + (1 : Int32)) + (1 : Int32)) + (1 : Int32))), .unset, .unset, .unset] [.int (1 : Int32)]))
    refine g_ifN (pc := 137) W142 at_137 (by decide) ?_
    refine g_aload (pc := 140) W142 at_140 rfl rfl ?_
    refine g_iconst (pc := 142) (1 : Int32) (by decide) W142 at_142 ?_
    refine g_iload (pc := 143) W142 at_143 rfl ?_
    refine g_iload (pc := 145) W142 at_145 rfl ?_
    refine g_iload (pc := 147) W142 at_147 rfl ?_
    refine g_iload (pc := 149) W142 at_149 rfl ?_
    refine g_static (pc := 151) (Wt := 0) (argsL := [.ref b1, .int (1 : Int32), .int v, .int K, .int (3 : Int32), .int f]) (rest := []) (loc := [(b1, (.array .byte), ((((List.replicate 12 (Value.int f)).set (K.toNatClampNeg + 0) (.int ((v &&& (127 : Int32)) ||| (128 : Int32)).toInt8.toInt32)).set (K.toNatClampNeg + 1) (.int (((XT.ushr v (7 : Int32)) &&& (127 : Int32)) ||| (128 : Int32)).toInt8.toInt32)).set (K.toNatClampNeg + 2) (.int (XT.ushr (XT.ushr v (7 : Int32)) (7 : Int32)).toInt8.toInt32)))]) (rst := []) W142 (hw _ (List.mem_of_getElem? (i := 10) rfl)) (hw _ (List.mem_of_getElem? (i := 11) rfl)) (hw _ (List.mem_of_getElem? (i := 4) rfl)) (hw _ (List.mem_of_getElem? (i := 12) rfl)) (by decide) (c_ok l Z a0 hw b1 (1 : Int32) v K (3 : Int32) f (rd K.toNatClampNeg [((v &&& (127 : Int32)) ||| (128 : Int32)).toInt8.toInt32, (((XT.ushr v (7 : Int32)) &&& (127 : Int32)) ||| (128 : Int32)).toInt8.toInt32, (XT.ushr (XT.ushr v (7 : Int32)) (7 : Int32)).toInt8.toInt32] f 1) ((((List.replicate 12 (Value.int f)).set (K.toNatClampNeg + 0) (.int ((v &&& (127 : Int32)) ||| (128 : Int32)).toInt8.toInt32)).set (K.toNatClampNeg + 1) (.int (((XT.ushr v (7 : Int32)) &&& (127 : Int32)) ||| (128 : Int32)).toInt8.toInt32)).set (K.toNatClampNeg + 2) (.int (XT.ushr (XT.ushr v (7 : Int32)) (7 : Int32)).toInt8.toInt32)) (by decide) (own_rd3 (v := v) (f := f) (j := K.toNatClampNeg) (i := 1) (own_j hK) (by decide)) (own_ok3 (i := (1 : Int32)) (iN := 1) (f := f) hv hb hK (by decide) (by decide)).1 (own_ok3 (i := (1 : Int32)) (iN := 1) (f := f) hv hb hK (by decide) (by decide)).2) ⟨[0], by decide, rfl⟩ rfl pd_ABIIIIB__Z rfl rfl rfl (Nat.le_of_ble_eq_true rfl) (by decide) (by decide) (by decide) (by decide) at_151 ?_
    rintro T143 _ _ ⟨rfl, rfl⟩ W144
    have W145 := W144.re (os' := [(b1, (.array .byte), ((((List.replicate 12 (Value.int f)).set (K.toNatClampNeg + 0) (.int ((v &&& (127 : Int32)) ||| (128 : Int32)).toInt8.toInt32)).set (K.toNatClampNeg + 1) (.int (((XT.ushr v (7 : Int32)) &&& (127 : Int32)) ||| (128 : Int32)).toInt8.toInt32)).set (K.toNatClampNeg + 2) (.int (XT.ushr (XT.ushr v (7 : Int32)) (7 : Int32)).toInt8.toInt32)))]) rfl
    show Go p_ e_ bl_ _ (T143.setTop (mkF m_ 154 #[.val (.int p0), .val (.int p1), .val (.int p2), .val (.int p3), .val (.int v), .val (.int K), .val (.int f), .val (.ref b1), .val (.int (3 : Int32)), .val (.int (((K + (1 : Int32)) + (1 : Int32)) + (1 : Int32))), .unset, .unset, .unset] [.int (1 : Int32)]))
    refine g_ifN (pc := 154) W145 at_154 (by decide) ?_
    refine g_aload (pc := 157) W145 at_157 rfl rfl ?_
    refine g_iconst (pc := 159) (2 : Int32) (by decide) W145 at_159 ?_
    refine g_iload (pc := 160) W145 at_160 rfl ?_
    refine g_iload (pc := 162) W145 at_162 rfl ?_
    refine g_iload (pc := 164) W145 at_164 rfl ?_
    refine g_iload (pc := 166) W145 at_166 rfl ?_
    refine g_static (pc := 168) (Wt := 0) (argsL := [.ref b1, .int (2 : Int32), .int v, .int K, .int (3 : Int32), .int f]) (rest := []) (loc := [(b1, (.array .byte), ((((List.replicate 12 (Value.int f)).set (K.toNatClampNeg + 0) (.int ((v &&& (127 : Int32)) ||| (128 : Int32)).toInt8.toInt32)).set (K.toNatClampNeg + 1) (.int (((XT.ushr v (7 : Int32)) &&& (127 : Int32)) ||| (128 : Int32)).toInt8.toInt32)).set (K.toNatClampNeg + 2) (.int (XT.ushr (XT.ushr v (7 : Int32)) (7 : Int32)).toInt8.toInt32)))]) (rst := []) W145 (hw _ (List.mem_of_getElem? (i := 10) rfl)) (hw _ (List.mem_of_getElem? (i := 11) rfl)) (hw _ (List.mem_of_getElem? (i := 4) rfl)) (hw _ (List.mem_of_getElem? (i := 12) rfl)) (by decide) (c_ok l Z a0 hw b1 (2 : Int32) v K (3 : Int32) f (rd K.toNatClampNeg [((v &&& (127 : Int32)) ||| (128 : Int32)).toInt8.toInt32, (((XT.ushr v (7 : Int32)) &&& (127 : Int32)) ||| (128 : Int32)).toInt8.toInt32, (XT.ushr (XT.ushr v (7 : Int32)) (7 : Int32)).toInt8.toInt32] f 2) ((((List.replicate 12 (Value.int f)).set (K.toNatClampNeg + 0) (.int ((v &&& (127 : Int32)) ||| (128 : Int32)).toInt8.toInt32)).set (K.toNatClampNeg + 1) (.int (((XT.ushr v (7 : Int32)) &&& (127 : Int32)) ||| (128 : Int32)).toInt8.toInt32)).set (K.toNatClampNeg + 2) (.int (XT.ushr (XT.ushr v (7 : Int32)) (7 : Int32)).toInt8.toInt32)) (by decide) (own_rd3 (v := v) (f := f) (j := K.toNatClampNeg) (i := 2) (own_j hK) (by decide)) (own_ok3 (i := (2 : Int32)) (iN := 2) (f := f) hv hb hK (by decide) (by decide)).1 (own_ok3 (i := (2 : Int32)) (iN := 2) (f := f) hv hb hK (by decide) (by decide)).2) ⟨[0], by decide, rfl⟩ rfl pd_ABIIIIB__Z rfl rfl rfl (Nat.le_of_ble_eq_true rfl) (by decide) (by decide) (by decide) (by decide) at_168 ?_
    rintro T146 _ _ ⟨rfl, rfl⟩ W147
    have W148 := W147.re (os' := [(b1, (.array .byte), ((((List.replicate 12 (Value.int f)).set (K.toNatClampNeg + 0) (.int ((v &&& (127 : Int32)) ||| (128 : Int32)).toInt8.toInt32)).set (K.toNatClampNeg + 1) (.int (((XT.ushr v (7 : Int32)) &&& (127 : Int32)) ||| (128 : Int32)).toInt8.toInt32)).set (K.toNatClampNeg + 2) (.int (XT.ushr (XT.ushr v (7 : Int32)) (7 : Int32)).toInt8.toInt32)))]) rfl
    show Go p_ e_ bl_ _ (T146.setTop (mkF m_ 171 #[.val (.int p0), .val (.int p1), .val (.int p2), .val (.int p3), .val (.int v), .val (.int K), .val (.int f), .val (.ref b1), .val (.int (3 : Int32)), .val (.int (((K + (1 : Int32)) + (1 : Int32)) + (1 : Int32))), .unset, .unset, .unset] [.int (1 : Int32)]))
    refine g_ifN (pc := 171) W148 at_171 (by decide) ?_
    refine g_aload (pc := 174) W148 at_174 rfl rfl ?_
    refine g_iconst (pc := 176) (3 : Int32) (by decide) W148 at_176 ?_
    refine g_iload (pc := 177) W148 at_177 rfl ?_
    refine g_iload (pc := 179) W148 at_179 rfl ?_
    refine g_iload (pc := 181) W148 at_181 rfl ?_
    refine g_iload (pc := 183) W148 at_183 rfl ?_
    refine g_static (pc := 185) (Wt := 0) (argsL := [.ref b1, .int (3 : Int32), .int v, .int K, .int (3 : Int32), .int f]) (rest := []) (loc := [(b1, (.array .byte), ((((List.replicate 12 (Value.int f)).set (K.toNatClampNeg + 0) (.int ((v &&& (127 : Int32)) ||| (128 : Int32)).toInt8.toInt32)).set (K.toNatClampNeg + 1) (.int (((XT.ushr v (7 : Int32)) &&& (127 : Int32)) ||| (128 : Int32)).toInt8.toInt32)).set (K.toNatClampNeg + 2) (.int (XT.ushr (XT.ushr v (7 : Int32)) (7 : Int32)).toInt8.toInt32)))]) (rst := []) W148 (hw _ (List.mem_of_getElem? (i := 10) rfl)) (hw _ (List.mem_of_getElem? (i := 11) rfl)) (hw _ (List.mem_of_getElem? (i := 4) rfl)) (hw _ (List.mem_of_getElem? (i := 12) rfl)) (by decide) (c_ok l Z a0 hw b1 (3 : Int32) v K (3 : Int32) f (rd K.toNatClampNeg [((v &&& (127 : Int32)) ||| (128 : Int32)).toInt8.toInt32, (((XT.ushr v (7 : Int32)) &&& (127 : Int32)) ||| (128 : Int32)).toInt8.toInt32, (XT.ushr (XT.ushr v (7 : Int32)) (7 : Int32)).toInt8.toInt32] f 3) ((((List.replicate 12 (Value.int f)).set (K.toNatClampNeg + 0) (.int ((v &&& (127 : Int32)) ||| (128 : Int32)).toInt8.toInt32)).set (K.toNatClampNeg + 1) (.int (((XT.ushr v (7 : Int32)) &&& (127 : Int32)) ||| (128 : Int32)).toInt8.toInt32)).set (K.toNatClampNeg + 2) (.int (XT.ushr (XT.ushr v (7 : Int32)) (7 : Int32)).toInt8.toInt32)) (by decide) (own_rd3 (v := v) (f := f) (j := K.toNatClampNeg) (i := 3) (own_j hK) (by decide)) (own_ok3 (i := (3 : Int32)) (iN := 3) (f := f) hv hb hK (by decide) (by decide)).1 (own_ok3 (i := (3 : Int32)) (iN := 3) (f := f) hv hb hK (by decide) (by decide)).2) ⟨[0], by decide, rfl⟩ rfl pd_ABIIIIB__Z rfl rfl rfl (Nat.le_of_ble_eq_true rfl) (by decide) (by decide) (by decide) (by decide) at_185 ?_
    rintro T149 _ _ ⟨rfl, rfl⟩ W150
    have W151 := W150.re (os' := [(b1, (.array .byte), ((((List.replicate 12 (Value.int f)).set (K.toNatClampNeg + 0) (.int ((v &&& (127 : Int32)) ||| (128 : Int32)).toInt8.toInt32)).set (K.toNatClampNeg + 1) (.int (((XT.ushr v (7 : Int32)) &&& (127 : Int32)) ||| (128 : Int32)).toInt8.toInt32)).set (K.toNatClampNeg + 2) (.int (XT.ushr (XT.ushr v (7 : Int32)) (7 : Int32)).toInt8.toInt32)))]) rfl
    show Go p_ e_ bl_ _ (T149.setTop (mkF m_ 188 #[.val (.int p0), .val (.int p1), .val (.int p2), .val (.int p3), .val (.int v), .val (.int K), .val (.int f), .val (.ref b1), .val (.int (3 : Int32)), .val (.int (((K + (1 : Int32)) + (1 : Int32)) + (1 : Int32))), .unset, .unset, .unset] [.int (1 : Int32)]))
    refine g_ifN (pc := 188) W151 at_188 (by decide) ?_
    refine g_aload (pc := 191) W151 at_191 rfl rfl ?_
    refine g_iconst (pc := 193) (4 : Int32) (by decide) W151 at_193 ?_
    refine g_iload (pc := 194) W151 at_194 rfl ?_
    refine g_iload (pc := 196) W151 at_196 rfl ?_
    refine g_iload (pc := 198) W151 at_198 rfl ?_
    refine g_iload (pc := 200) W151 at_200 rfl ?_
    refine g_static (pc := 202) (Wt := 0) (argsL := [.ref b1, .int (4 : Int32), .int v, .int K, .int (3 : Int32), .int f]) (rest := []) (loc := [(b1, (.array .byte), ((((List.replicate 12 (Value.int f)).set (K.toNatClampNeg + 0) (.int ((v &&& (127 : Int32)) ||| (128 : Int32)).toInt8.toInt32)).set (K.toNatClampNeg + 1) (.int (((XT.ushr v (7 : Int32)) &&& (127 : Int32)) ||| (128 : Int32)).toInt8.toInt32)).set (K.toNatClampNeg + 2) (.int (XT.ushr (XT.ushr v (7 : Int32)) (7 : Int32)).toInt8.toInt32)))]) (rst := []) W151 (hw _ (List.mem_of_getElem? (i := 10) rfl)) (hw _ (List.mem_of_getElem? (i := 11) rfl)) (hw _ (List.mem_of_getElem? (i := 4) rfl)) (hw _ (List.mem_of_getElem? (i := 12) rfl)) (by decide) (c_ok l Z a0 hw b1 (4 : Int32) v K (3 : Int32) f (rd K.toNatClampNeg [((v &&& (127 : Int32)) ||| (128 : Int32)).toInt8.toInt32, (((XT.ushr v (7 : Int32)) &&& (127 : Int32)) ||| (128 : Int32)).toInt8.toInt32, (XT.ushr (XT.ushr v (7 : Int32)) (7 : Int32)).toInt8.toInt32] f 4) ((((List.replicate 12 (Value.int f)).set (K.toNatClampNeg + 0) (.int ((v &&& (127 : Int32)) ||| (128 : Int32)).toInt8.toInt32)).set (K.toNatClampNeg + 1) (.int (((XT.ushr v (7 : Int32)) &&& (127 : Int32)) ||| (128 : Int32)).toInt8.toInt32)).set (K.toNatClampNeg + 2) (.int (XT.ushr (XT.ushr v (7 : Int32)) (7 : Int32)).toInt8.toInt32)) (by decide) (own_rd3 (v := v) (f := f) (j := K.toNatClampNeg) (i := 4) (own_j hK) (by decide)) (own_ok3 (i := (4 : Int32)) (iN := 4) (f := f) hv hb hK (by decide) (by decide)).1 (own_ok3 (i := (4 : Int32)) (iN := 4) (f := f) hv hb hK (by decide) (by decide)).2) ⟨[0], by decide, rfl⟩ rfl pd_ABIIIIB__Z rfl rfl rfl (Nat.le_of_ble_eq_true rfl) (by decide) (by decide) (by decide) (by decide) at_202 ?_
    rintro T152 _ _ ⟨rfl, rfl⟩ W153
    have W154 := W153.re (os' := [(b1, (.array .byte), ((((List.replicate 12 (Value.int f)).set (K.toNatClampNeg + 0) (.int ((v &&& (127 : Int32)) ||| (128 : Int32)).toInt8.toInt32)).set (K.toNatClampNeg + 1) (.int (((XT.ushr v (7 : Int32)) &&& (127 : Int32)) ||| (128 : Int32)).toInt8.toInt32)).set (K.toNatClampNeg + 2) (.int (XT.ushr (XT.ushr v (7 : Int32)) (7 : Int32)).toInt8.toInt32)))]) rfl
    show Go p_ e_ bl_ _ (T152.setTop (mkF m_ 205 #[.val (.int p0), .val (.int p1), .val (.int p2), .val (.int p3), .val (.int v), .val (.int K), .val (.int f), .val (.ref b1), .val (.int (3 : Int32)), .val (.int (((K + (1 : Int32)) + (1 : Int32)) + (1 : Int32))), .unset, .unset, .unset] [.int (1 : Int32)]))
    refine g_ifN (pc := 205) W154 at_205 (by decide) ?_
    refine g_aload (pc := 208) W154 at_208 rfl rfl ?_
    refine g_iconst (pc := 210) (5 : Int32) (by decide) W154 at_210 ?_
    refine g_iload (pc := 211) W154 at_211 rfl ?_
    refine g_iload (pc := 213) W154 at_213 rfl ?_
    refine g_iload (pc := 215) W154 at_215 rfl ?_
    refine g_iload (pc := 217) W154 at_217 rfl ?_
    refine g_static (pc := 219) (Wt := 0) (argsL := [.ref b1, .int (5 : Int32), .int v, .int K, .int (3 : Int32), .int f]) (rest := []) (loc := [(b1, (.array .byte), ((((List.replicate 12 (Value.int f)).set (K.toNatClampNeg + 0) (.int ((v &&& (127 : Int32)) ||| (128 : Int32)).toInt8.toInt32)).set (K.toNatClampNeg + 1) (.int (((XT.ushr v (7 : Int32)) &&& (127 : Int32)) ||| (128 : Int32)).toInt8.toInt32)).set (K.toNatClampNeg + 2) (.int (XT.ushr (XT.ushr v (7 : Int32)) (7 : Int32)).toInt8.toInt32)))]) (rst := []) W154 (hw _ (List.mem_of_getElem? (i := 10) rfl)) (hw _ (List.mem_of_getElem? (i := 11) rfl)) (hw _ (List.mem_of_getElem? (i := 4) rfl)) (hw _ (List.mem_of_getElem? (i := 12) rfl)) (by decide) (c_ok l Z a0 hw b1 (5 : Int32) v K (3 : Int32) f (rd K.toNatClampNeg [((v &&& (127 : Int32)) ||| (128 : Int32)).toInt8.toInt32, (((XT.ushr v (7 : Int32)) &&& (127 : Int32)) ||| (128 : Int32)).toInt8.toInt32, (XT.ushr (XT.ushr v (7 : Int32)) (7 : Int32)).toInt8.toInt32] f 5) ((((List.replicate 12 (Value.int f)).set (K.toNatClampNeg + 0) (.int ((v &&& (127 : Int32)) ||| (128 : Int32)).toInt8.toInt32)).set (K.toNatClampNeg + 1) (.int (((XT.ushr v (7 : Int32)) &&& (127 : Int32)) ||| (128 : Int32)).toInt8.toInt32)).set (K.toNatClampNeg + 2) (.int (XT.ushr (XT.ushr v (7 : Int32)) (7 : Int32)).toInt8.toInt32)) (by decide) (own_rd3 (v := v) (f := f) (j := K.toNatClampNeg) (i := 5) (own_j hK) (by decide)) (own_ok3 (i := (5 : Int32)) (iN := 5) (f := f) hv hb hK (by decide) (by decide)).1 (own_ok3 (i := (5 : Int32)) (iN := 5) (f := f) hv hb hK (by decide) (by decide)).2) ⟨[0], by decide, rfl⟩ rfl pd_ABIIIIB__Z rfl rfl rfl (Nat.le_of_ble_eq_true rfl) (by decide) (by decide) (by decide) (by decide) at_219 ?_
    rintro T155 _ _ ⟨rfl, rfl⟩ W156
    have W157 := W156.re (os' := [(b1, (.array .byte), ((((List.replicate 12 (Value.int f)).set (K.toNatClampNeg + 0) (.int ((v &&& (127 : Int32)) ||| (128 : Int32)).toInt8.toInt32)).set (K.toNatClampNeg + 1) (.int (((XT.ushr v (7 : Int32)) &&& (127 : Int32)) ||| (128 : Int32)).toInt8.toInt32)).set (K.toNatClampNeg + 2) (.int (XT.ushr (XT.ushr v (7 : Int32)) (7 : Int32)).toInt8.toInt32)))]) rfl
    show Go p_ e_ bl_ _ (T155.setTop (mkF m_ 222 #[.val (.int p0), .val (.int p1), .val (.int p2), .val (.int p3), .val (.int v), .val (.int K), .val (.int f), .val (.ref b1), .val (.int (3 : Int32)), .val (.int (((K + (1 : Int32)) + (1 : Int32)) + (1 : Int32))), .unset, .unset, .unset] [.int (1 : Int32)]))
    refine g_ifN (pc := 222) W157 at_222 (by decide) ?_
    refine g_aload (pc := 225) W157 at_225 rfl rfl ?_
    refine g_bipush (pc := 227) (6 : Int32) (by decide) W157 at_227 ?_
    refine g_iload (pc := 229) W157 at_229 rfl ?_
    refine g_iload (pc := 231) W157 at_231 rfl ?_
    refine g_iload (pc := 233) W157 at_233 rfl ?_
    refine g_iload (pc := 235) W157 at_235 rfl ?_
    refine g_static (pc := 237) (Wt := 0) (argsL := [.ref b1, .int (6 : Int32), .int v, .int K, .int (3 : Int32), .int f]) (rest := []) (loc := [(b1, (.array .byte), ((((List.replicate 12 (Value.int f)).set (K.toNatClampNeg + 0) (.int ((v &&& (127 : Int32)) ||| (128 : Int32)).toInt8.toInt32)).set (K.toNatClampNeg + 1) (.int (((XT.ushr v (7 : Int32)) &&& (127 : Int32)) ||| (128 : Int32)).toInt8.toInt32)).set (K.toNatClampNeg + 2) (.int (XT.ushr (XT.ushr v (7 : Int32)) (7 : Int32)).toInt8.toInt32)))]) (rst := []) W157 (hw _ (List.mem_of_getElem? (i := 10) rfl)) (hw _ (List.mem_of_getElem? (i := 11) rfl)) (hw _ (List.mem_of_getElem? (i := 4) rfl)) (hw _ (List.mem_of_getElem? (i := 12) rfl)) (by decide) (c_ok l Z a0 hw b1 (6 : Int32) v K (3 : Int32) f (rd K.toNatClampNeg [((v &&& (127 : Int32)) ||| (128 : Int32)).toInt8.toInt32, (((XT.ushr v (7 : Int32)) &&& (127 : Int32)) ||| (128 : Int32)).toInt8.toInt32, (XT.ushr (XT.ushr v (7 : Int32)) (7 : Int32)).toInt8.toInt32] f 6) ((((List.replicate 12 (Value.int f)).set (K.toNatClampNeg + 0) (.int ((v &&& (127 : Int32)) ||| (128 : Int32)).toInt8.toInt32)).set (K.toNatClampNeg + 1) (.int (((XT.ushr v (7 : Int32)) &&& (127 : Int32)) ||| (128 : Int32)).toInt8.toInt32)).set (K.toNatClampNeg + 2) (.int (XT.ushr (XT.ushr v (7 : Int32)) (7 : Int32)).toInt8.toInt32)) (by decide) (own_rd3 (v := v) (f := f) (j := K.toNatClampNeg) (i := 6) (own_j hK) (by decide)) (own_ok3 (i := (6 : Int32)) (iN := 6) (f := f) hv hb hK (by decide) (by decide)).1 (own_ok3 (i := (6 : Int32)) (iN := 6) (f := f) hv hb hK (by decide) (by decide)).2) ⟨[0], by decide, rfl⟩ rfl pd_ABIIIIB__Z rfl rfl rfl (Nat.le_of_ble_eq_true rfl) (by decide) (by decide) (by decide) (by decide) at_237 ?_
    rintro T158 _ _ ⟨rfl, rfl⟩ W159
    have W160 := W159.re (os' := [(b1, (.array .byte), ((((List.replicate 12 (Value.int f)).set (K.toNatClampNeg + 0) (.int ((v &&& (127 : Int32)) ||| (128 : Int32)).toInt8.toInt32)).set (K.toNatClampNeg + 1) (.int (((XT.ushr v (7 : Int32)) &&& (127 : Int32)) ||| (128 : Int32)).toInt8.toInt32)).set (K.toNatClampNeg + 2) (.int (XT.ushr (XT.ushr v (7 : Int32)) (7 : Int32)).toInt8.toInt32)))]) rfl
    show Go p_ e_ bl_ _ (T158.setTop (mkF m_ 240 #[.val (.int p0), .val (.int p1), .val (.int p2), .val (.int p3), .val (.int v), .val (.int K), .val (.int f), .val (.ref b1), .val (.int (3 : Int32)), .val (.int (((K + (1 : Int32)) + (1 : Int32)) + (1 : Int32))), .unset, .unset, .unset] [.int (1 : Int32)]))
    refine g_ifN (pc := 240) W160 at_240 (by decide) ?_
    refine g_aload (pc := 243) W160 at_243 rfl rfl ?_
    refine g_bipush (pc := 245) (7 : Int32) (by decide) W160 at_245 ?_
    refine g_iload (pc := 247) W160 at_247 rfl ?_
    refine g_iload (pc := 249) W160 at_249 rfl ?_
    refine g_iload (pc := 251) W160 at_251 rfl ?_
    refine g_iload (pc := 253) W160 at_253 rfl ?_
    refine g_static (pc := 255) (Wt := 0) (argsL := [.ref b1, .int (7 : Int32), .int v, .int K, .int (3 : Int32), .int f]) (rest := []) (loc := [(b1, (.array .byte), ((((List.replicate 12 (Value.int f)).set (K.toNatClampNeg + 0) (.int ((v &&& (127 : Int32)) ||| (128 : Int32)).toInt8.toInt32)).set (K.toNatClampNeg + 1) (.int (((XT.ushr v (7 : Int32)) &&& (127 : Int32)) ||| (128 : Int32)).toInt8.toInt32)).set (K.toNatClampNeg + 2) (.int (XT.ushr (XT.ushr v (7 : Int32)) (7 : Int32)).toInt8.toInt32)))]) (rst := []) W160 (hw _ (List.mem_of_getElem? (i := 10) rfl)) (hw _ (List.mem_of_getElem? (i := 11) rfl)) (hw _ (List.mem_of_getElem? (i := 4) rfl)) (hw _ (List.mem_of_getElem? (i := 12) rfl)) (by decide) (c_ok l Z a0 hw b1 (7 : Int32) v K (3 : Int32) f (rd K.toNatClampNeg [((v &&& (127 : Int32)) ||| (128 : Int32)).toInt8.toInt32, (((XT.ushr v (7 : Int32)) &&& (127 : Int32)) ||| (128 : Int32)).toInt8.toInt32, (XT.ushr (XT.ushr v (7 : Int32)) (7 : Int32)).toInt8.toInt32] f 7) ((((List.replicate 12 (Value.int f)).set (K.toNatClampNeg + 0) (.int ((v &&& (127 : Int32)) ||| (128 : Int32)).toInt8.toInt32)).set (K.toNatClampNeg + 1) (.int (((XT.ushr v (7 : Int32)) &&& (127 : Int32)) ||| (128 : Int32)).toInt8.toInt32)).set (K.toNatClampNeg + 2) (.int (XT.ushr (XT.ushr v (7 : Int32)) (7 : Int32)).toInt8.toInt32)) (by decide) (own_rd3 (v := v) (f := f) (j := K.toNatClampNeg) (i := 7) (own_j hK) (by decide)) (own_ok3 (i := (7 : Int32)) (iN := 7) (f := f) hv hb hK (by decide) (by decide)).1 (own_ok3 (i := (7 : Int32)) (iN := 7) (f := f) hv hb hK (by decide) (by decide)).2) ⟨[0], by decide, rfl⟩ rfl pd_ABIIIIB__Z rfl rfl rfl (Nat.le_of_ble_eq_true rfl) (by decide) (by decide) (by decide) (by decide) at_255 ?_
    rintro T161 _ _ ⟨rfl, rfl⟩ W162
    have W163 := W162.re (os' := [(b1, (.array .byte), ((((List.replicate 12 (Value.int f)).set (K.toNatClampNeg + 0) (.int ((v &&& (127 : Int32)) ||| (128 : Int32)).toInt8.toInt32)).set (K.toNatClampNeg + 1) (.int (((XT.ushr v (7 : Int32)) &&& (127 : Int32)) ||| (128 : Int32)).toInt8.toInt32)).set (K.toNatClampNeg + 2) (.int (XT.ushr (XT.ushr v (7 : Int32)) (7 : Int32)).toInt8.toInt32)))]) rfl
    show Go p_ e_ bl_ _ (T161.setTop (mkF m_ 258 #[.val (.int p0), .val (.int p1), .val (.int p2), .val (.int p3), .val (.int v), .val (.int K), .val (.int f), .val (.ref b1), .val (.int (3 : Int32)), .val (.int (((K + (1 : Int32)) + (1 : Int32)) + (1 : Int32))), .unset, .unset, .unset] [.int (1 : Int32)]))
    refine g_ifN (pc := 258) W163 at_258 (by decide) ?_
    refine g_aload (pc := 261) W163 at_261 rfl rfl ?_
    refine g_bipush (pc := 263) (8 : Int32) (by decide) W163 at_263 ?_
    refine g_iload (pc := 265) W163 at_265 rfl ?_
    refine g_iload (pc := 267) W163 at_267 rfl ?_
    refine g_iload (pc := 269) W163 at_269 rfl ?_
    refine g_iload (pc := 271) W163 at_271 rfl ?_
    refine g_static (pc := 273) (Wt := 0) (argsL := [.ref b1, .int (8 : Int32), .int v, .int K, .int (3 : Int32), .int f]) (rest := []) (loc := [(b1, (.array .byte), ((((List.replicate 12 (Value.int f)).set (K.toNatClampNeg + 0) (.int ((v &&& (127 : Int32)) ||| (128 : Int32)).toInt8.toInt32)).set (K.toNatClampNeg + 1) (.int (((XT.ushr v (7 : Int32)) &&& (127 : Int32)) ||| (128 : Int32)).toInt8.toInt32)).set (K.toNatClampNeg + 2) (.int (XT.ushr (XT.ushr v (7 : Int32)) (7 : Int32)).toInt8.toInt32)))]) (rst := []) W163 (hw _ (List.mem_of_getElem? (i := 10) rfl)) (hw _ (List.mem_of_getElem? (i := 11) rfl)) (hw _ (List.mem_of_getElem? (i := 4) rfl)) (hw _ (List.mem_of_getElem? (i := 12) rfl)) (by decide) (c_ok l Z a0 hw b1 (8 : Int32) v K (3 : Int32) f (rd K.toNatClampNeg [((v &&& (127 : Int32)) ||| (128 : Int32)).toInt8.toInt32, (((XT.ushr v (7 : Int32)) &&& (127 : Int32)) ||| (128 : Int32)).toInt8.toInt32, (XT.ushr (XT.ushr v (7 : Int32)) (7 : Int32)).toInt8.toInt32] f 8) ((((List.replicate 12 (Value.int f)).set (K.toNatClampNeg + 0) (.int ((v &&& (127 : Int32)) ||| (128 : Int32)).toInt8.toInt32)).set (K.toNatClampNeg + 1) (.int (((XT.ushr v (7 : Int32)) &&& (127 : Int32)) ||| (128 : Int32)).toInt8.toInt32)).set (K.toNatClampNeg + 2) (.int (XT.ushr (XT.ushr v (7 : Int32)) (7 : Int32)).toInt8.toInt32)) (by decide) (own_rd3 (v := v) (f := f) (j := K.toNatClampNeg) (i := 8) (own_j hK) (by decide)) (own_ok3 (i := (8 : Int32)) (iN := 8) (f := f) hv hb hK (by decide) (by decide)).1 (own_ok3 (i := (8 : Int32)) (iN := 8) (f := f) hv hb hK (by decide) (by decide)).2) ⟨[0], by decide, rfl⟩ rfl pd_ABIIIIB__Z rfl rfl rfl (Nat.le_of_ble_eq_true rfl) (by decide) (by decide) (by decide) (by decide) at_273 ?_
    rintro T164 _ _ ⟨rfl, rfl⟩ W165
    have W166 := W165.re (os' := [(b1, (.array .byte), ((((List.replicate 12 (Value.int f)).set (K.toNatClampNeg + 0) (.int ((v &&& (127 : Int32)) ||| (128 : Int32)).toInt8.toInt32)).set (K.toNatClampNeg + 1) (.int (((XT.ushr v (7 : Int32)) &&& (127 : Int32)) ||| (128 : Int32)).toInt8.toInt32)).set (K.toNatClampNeg + 2) (.int (XT.ushr (XT.ushr v (7 : Int32)) (7 : Int32)).toInt8.toInt32)))]) rfl
    show Go p_ e_ bl_ _ (T164.setTop (mkF m_ 276 #[.val (.int p0), .val (.int p1), .val (.int p2), .val (.int p3), .val (.int v), .val (.int K), .val (.int f), .val (.ref b1), .val (.int (3 : Int32)), .val (.int (((K + (1 : Int32)) + (1 : Int32)) + (1 : Int32))), .unset, .unset, .unset] [.int (1 : Int32)]))
    refine g_ifN (pc := 276) W166 at_276 (by decide) ?_
    refine g_aload (pc := 279) W166 at_279 rfl rfl ?_
    refine g_bipush (pc := 281) (9 : Int32) (by decide) W166 at_281 ?_
    refine g_iload (pc := 283) W166 at_283 rfl ?_
    refine g_iload (pc := 285) W166 at_285 rfl ?_
    refine g_iload (pc := 287) W166 at_287 rfl ?_
    refine g_iload (pc := 289) W166 at_289 rfl ?_
    refine g_static (pc := 291) (Wt := 0) (argsL := [.ref b1, .int (9 : Int32), .int v, .int K, .int (3 : Int32), .int f]) (rest := []) (loc := [(b1, (.array .byte), ((((List.replicate 12 (Value.int f)).set (K.toNatClampNeg + 0) (.int ((v &&& (127 : Int32)) ||| (128 : Int32)).toInt8.toInt32)).set (K.toNatClampNeg + 1) (.int (((XT.ushr v (7 : Int32)) &&& (127 : Int32)) ||| (128 : Int32)).toInt8.toInt32)).set (K.toNatClampNeg + 2) (.int (XT.ushr (XT.ushr v (7 : Int32)) (7 : Int32)).toInt8.toInt32)))]) (rst := []) W166 (hw _ (List.mem_of_getElem? (i := 10) rfl)) (hw _ (List.mem_of_getElem? (i := 11) rfl)) (hw _ (List.mem_of_getElem? (i := 4) rfl)) (hw _ (List.mem_of_getElem? (i := 12) rfl)) (by decide) (c_ok l Z a0 hw b1 (9 : Int32) v K (3 : Int32) f (rd K.toNatClampNeg [((v &&& (127 : Int32)) ||| (128 : Int32)).toInt8.toInt32, (((XT.ushr v (7 : Int32)) &&& (127 : Int32)) ||| (128 : Int32)).toInt8.toInt32, (XT.ushr (XT.ushr v (7 : Int32)) (7 : Int32)).toInt8.toInt32] f 9) ((((List.replicate 12 (Value.int f)).set (K.toNatClampNeg + 0) (.int ((v &&& (127 : Int32)) ||| (128 : Int32)).toInt8.toInt32)).set (K.toNatClampNeg + 1) (.int (((XT.ushr v (7 : Int32)) &&& (127 : Int32)) ||| (128 : Int32)).toInt8.toInt32)).set (K.toNatClampNeg + 2) (.int (XT.ushr (XT.ushr v (7 : Int32)) (7 : Int32)).toInt8.toInt32)) (by decide) (own_rd3 (v := v) (f := f) (j := K.toNatClampNeg) (i := 9) (own_j hK) (by decide)) (own_ok3 (i := (9 : Int32)) (iN := 9) (f := f) hv hb hK (by decide) (by decide)).1 (own_ok3 (i := (9 : Int32)) (iN := 9) (f := f) hv hb hK (by decide) (by decide)).2) ⟨[0], by decide, rfl⟩ rfl pd_ABIIIIB__Z rfl rfl rfl (Nat.le_of_ble_eq_true rfl) (by decide) (by decide) (by decide) (by decide) at_291 ?_
    rintro T167 _ _ ⟨rfl, rfl⟩ W168
    have W169 := W168.re (os' := [(b1, (.array .byte), ((((List.replicate 12 (Value.int f)).set (K.toNatClampNeg + 0) (.int ((v &&& (127 : Int32)) ||| (128 : Int32)).toInt8.toInt32)).set (K.toNatClampNeg + 1) (.int (((XT.ushr v (7 : Int32)) &&& (127 : Int32)) ||| (128 : Int32)).toInt8.toInt32)).set (K.toNatClampNeg + 2) (.int (XT.ushr (XT.ushr v (7 : Int32)) (7 : Int32)).toInt8.toInt32)))]) rfl
    show Go p_ e_ bl_ _ (T167.setTop (mkF m_ 294 #[.val (.int p0), .val (.int p1), .val (.int p2), .val (.int p3), .val (.int v), .val (.int K), .val (.int f), .val (.ref b1), .val (.int (3 : Int32)), .val (.int (((K + (1 : Int32)) + (1 : Int32)) + (1 : Int32))), .unset, .unset, .unset] [.int (1 : Int32)]))
    refine g_ifN (pc := 294) W169 at_294 (by decide) ?_
    refine g_aload (pc := 297) W169 at_297 rfl rfl ?_
    refine g_bipush (pc := 299) (10 : Int32) (by decide) W169 at_299 ?_
    refine g_iload (pc := 301) W169 at_301 rfl ?_
    refine g_iload (pc := 303) W169 at_303 rfl ?_
    refine g_iload (pc := 305) W169 at_305 rfl ?_
    refine g_iload (pc := 307) W169 at_307 rfl ?_
    refine g_static (pc := 309) (Wt := 0) (argsL := [.ref b1, .int (10 : Int32), .int v, .int K, .int (3 : Int32), .int f]) (rest := []) (loc := [(b1, (.array .byte), ((((List.replicate 12 (Value.int f)).set (K.toNatClampNeg + 0) (.int ((v &&& (127 : Int32)) ||| (128 : Int32)).toInt8.toInt32)).set (K.toNatClampNeg + 1) (.int (((XT.ushr v (7 : Int32)) &&& (127 : Int32)) ||| (128 : Int32)).toInt8.toInt32)).set (K.toNatClampNeg + 2) (.int (XT.ushr (XT.ushr v (7 : Int32)) (7 : Int32)).toInt8.toInt32)))]) (rst := []) W169 (hw _ (List.mem_of_getElem? (i := 10) rfl)) (hw _ (List.mem_of_getElem? (i := 11) rfl)) (hw _ (List.mem_of_getElem? (i := 4) rfl)) (hw _ (List.mem_of_getElem? (i := 12) rfl)) (by decide) (c_ok l Z a0 hw b1 (10 : Int32) v K (3 : Int32) f (rd K.toNatClampNeg [((v &&& (127 : Int32)) ||| (128 : Int32)).toInt8.toInt32, (((XT.ushr v (7 : Int32)) &&& (127 : Int32)) ||| (128 : Int32)).toInt8.toInt32, (XT.ushr (XT.ushr v (7 : Int32)) (7 : Int32)).toInt8.toInt32] f 10) ((((List.replicate 12 (Value.int f)).set (K.toNatClampNeg + 0) (.int ((v &&& (127 : Int32)) ||| (128 : Int32)).toInt8.toInt32)).set (K.toNatClampNeg + 1) (.int (((XT.ushr v (7 : Int32)) &&& (127 : Int32)) ||| (128 : Int32)).toInt8.toInt32)).set (K.toNatClampNeg + 2) (.int (XT.ushr (XT.ushr v (7 : Int32)) (7 : Int32)).toInt8.toInt32)) (by decide) (own_rd3 (v := v) (f := f) (j := K.toNatClampNeg) (i := 10) (own_j hK) (by decide)) (own_ok3 (i := (10 : Int32)) (iN := 10) (f := f) hv hb hK (by decide) (by decide)).1 (own_ok3 (i := (10 : Int32)) (iN := 10) (f := f) hv hb hK (by decide) (by decide)).2) ⟨[0], by decide, rfl⟩ rfl pd_ABIIIIB__Z rfl rfl rfl (Nat.le_of_ble_eq_true rfl) (by decide) (by decide) (by decide) (by decide) at_309 ?_
    rintro T170 _ _ ⟨rfl, rfl⟩ W171
    have W172 := W171.re (os' := [(b1, (.array .byte), ((((List.replicate 12 (Value.int f)).set (K.toNatClampNeg + 0) (.int ((v &&& (127 : Int32)) ||| (128 : Int32)).toInt8.toInt32)).set (K.toNatClampNeg + 1) (.int (((XT.ushr v (7 : Int32)) &&& (127 : Int32)) ||| (128 : Int32)).toInt8.toInt32)).set (K.toNatClampNeg + 2) (.int (XT.ushr (XT.ushr v (7 : Int32)) (7 : Int32)).toInt8.toInt32)))]) rfl
    show Go p_ e_ bl_ _ (T170.setTop (mkF m_ 312 #[.val (.int p0), .val (.int p1), .val (.int p2), .val (.int p3), .val (.int v), .val (.int K), .val (.int f), .val (.ref b1), .val (.int (3 : Int32)), .val (.int (((K + (1 : Int32)) + (1 : Int32)) + (1 : Int32))), .unset, .unset, .unset] [.int (1 : Int32)]))
    refine g_ifN (pc := 312) W172 at_312 (by decide) ?_
    refine g_aload (pc := 315) W172 at_315 rfl rfl ?_
    refine g_bipush (pc := 317) (11 : Int32) (by decide) W172 at_317 ?_
    refine g_iload (pc := 319) W172 at_319 rfl ?_
    refine g_iload (pc := 321) W172 at_321 rfl ?_
    refine g_iload (pc := 323) W172 at_323 rfl ?_
    refine g_iload (pc := 325) W172 at_325 rfl ?_
    refine g_static (pc := 327) (Wt := 0) (argsL := [.ref b1, .int (11 : Int32), .int v, .int K, .int (3 : Int32), .int f]) (rest := []) (loc := [(b1, (.array .byte), ((((List.replicate 12 (Value.int f)).set (K.toNatClampNeg + 0) (.int ((v &&& (127 : Int32)) ||| (128 : Int32)).toInt8.toInt32)).set (K.toNatClampNeg + 1) (.int (((XT.ushr v (7 : Int32)) &&& (127 : Int32)) ||| (128 : Int32)).toInt8.toInt32)).set (K.toNatClampNeg + 2) (.int (XT.ushr (XT.ushr v (7 : Int32)) (7 : Int32)).toInt8.toInt32)))]) (rst := []) W172 (hw _ (List.mem_of_getElem? (i := 10) rfl)) (hw _ (List.mem_of_getElem? (i := 11) rfl)) (hw _ (List.mem_of_getElem? (i := 4) rfl)) (hw _ (List.mem_of_getElem? (i := 12) rfl)) (by decide) (c_ok l Z a0 hw b1 (11 : Int32) v K (3 : Int32) f (rd K.toNatClampNeg [((v &&& (127 : Int32)) ||| (128 : Int32)).toInt8.toInt32, (((XT.ushr v (7 : Int32)) &&& (127 : Int32)) ||| (128 : Int32)).toInt8.toInt32, (XT.ushr (XT.ushr v (7 : Int32)) (7 : Int32)).toInt8.toInt32] f 11) ((((List.replicate 12 (Value.int f)).set (K.toNatClampNeg + 0) (.int ((v &&& (127 : Int32)) ||| (128 : Int32)).toInt8.toInt32)).set (K.toNatClampNeg + 1) (.int (((XT.ushr v (7 : Int32)) &&& (127 : Int32)) ||| (128 : Int32)).toInt8.toInt32)).set (K.toNatClampNeg + 2) (.int (XT.ushr (XT.ushr v (7 : Int32)) (7 : Int32)).toInt8.toInt32)) (by decide) (own_rd3 (v := v) (f := f) (j := K.toNatClampNeg) (i := 11) (own_j hK) (by decide)) (own_ok3 (i := (11 : Int32)) (iN := 11) (f := f) hv hb hK (by decide) (by decide)).1 (own_ok3 (i := (11 : Int32)) (iN := 11) (f := f) hv hb hK (by decide) (by decide)).2) ⟨[0], by decide, rfl⟩ rfl pd_ABIIIIB__Z rfl rfl rfl (Nat.le_of_ble_eq_true rfl) (by decide) (by decide) (by decide) (by decide) at_327 ?_
    rintro T173 _ _ ⟨rfl, rfl⟩ W174
    have W175 := W174.re (os' := [(b1, (.array .byte), ((((List.replicate 12 (Value.int f)).set (K.toNatClampNeg + 0) (.int ((v &&& (127 : Int32)) ||| (128 : Int32)).toInt8.toInt32)).set (K.toNatClampNeg + 1) (.int (((XT.ushr v (7 : Int32)) &&& (127 : Int32)) ||| (128 : Int32)).toInt8.toInt32)).set (K.toNatClampNeg + 2) (.int (XT.ushr (XT.ushr v (7 : Int32)) (7 : Int32)).toInt8.toInt32)))]) rfl
    show Go p_ e_ bl_ _ (T173.setTop (mkF m_ 330 #[.val (.int p0), .val (.int p1), .val (.int p2), .val (.int p3), .val (.int v), .val (.int K), .val (.int f), .val (.ref b1), .val (.int (3 : Int32)), .val (.int (((K + (1 : Int32)) + (1 : Int32)) + (1 : Int32))), .unset, .unset, .unset] [.int (1 : Int32)]))
    refine g_ifN (pc := 330) W175 at_330 (by decide) ?_
    refine g_iconst (pc := 333) (1 : Int32) (by decide) W175 at_333 ?_
    refine g_goto 338 (pc := 334) W175 at_334 (by decide) (by decide) ?_
    refine g_istore (pc := 338) (ls' := #[.val (.int p0), .val (.int p1), .val (.int p2), .val (.int p3), .val (.int v), .val (.int K), .val (.int f), .val (.ref b1), .val (.int (3 : Int32)), .val (.int (((K + (1 : Int32)) + (1 : Int32)) + (1 : Int32))), .val (.int (1 : Int32)), .unset, .unset]) W175 at_338 rfl ?_
    refine g_iload (pc := 340) W175 at_340 rfl ?_
    refine g_ifY 347 (pc := 342) W175 at_342 (by decide) (by decide) (by decide) ?_
    refine g_new (pc := 347) (vs := [.null, .int (0 : Int32)]) W175 (hw _ (List.mem_of_getElem? (i := 13) rfl)) (hw _ (List.mem_of_getElem? (i := 14) rfl)) (hw _ (List.mem_of_getElem? (i := 8) rfl)) (cls_ByteCursor hw) (by decide) at_347 (by decide) (by decide) (fun T177 b176 W178 => ?_)
    have W179 := W178.re (os' := [(b1, (.array .byte), ((((List.replicate 12 (Value.int f)).set (K.toNatClampNeg + 0) (.int ((v &&& (127 : Int32)) ||| (128 : Int32)).toInt8.toInt32)).set (K.toNatClampNeg + 1) (.int (((XT.ushr v (7 : Int32)) &&& (127 : Int32)) ||| (128 : Int32)).toInt8.toInt32)).set (K.toNatClampNeg + 2) (.int (XT.ushr (XT.ushr v (7 : Int32)) (7 : Int32)).toInt8.toInt32))), (b176, (.object "com/example/attestry/attestry/home/ByteCursor"), [.null, .int (0 : Int32)])]) rfl
    refine g_dup (pc := 350) W179 at_350 rfl ?_
    refine g_aload (pc := 351) W179 at_351 rfl rfl ?_
    refine g_iload (pc := 353) W179 at_353 rfl ?_
    refine g_init (pc := 355) (Wt := 1) (argsL := [.ref b1, .int K]) (rest := [.ref b176]) (loc := [(b176, (.object "com/example/attestry/attestry/home/ByteCursor"), [.null, .int (0 : Int32)])]) (rst := [(b1, (.array .byte), ((((List.replicate 12 (Value.int f)).set (K.toNatClampNeg + 0) (.int ((v &&& (127 : Int32)) ||| (128 : Int32)).toInt8.toInt32)).set (K.toNatClampNeg + 1) (.int (((XT.ushr v (7 : Int32)) &&& (127 : Int32)) ||| (128 : Int32)).toInt8.toInt32)).set (K.toNatClampNeg + 2) (.int (XT.ushr (XT.ushr v (7 : Int32)) (7 : Int32)).toInt8.toInt32)))]) W179 rfl (hw _ (List.mem_of_getElem? (i := 15) rfl)) (hw _ (List.mem_of_getElem? (i := 16) rfl)) (hw _ (List.mem_of_getElem? (i := 8) rfl)) (hw _ (List.mem_of_getElem? (i := 17) rfl)) (by decide) (c_init l Z a0 hw b176 b1 K) ⟨[1, 0], by decide, rfl⟩ rfl pd_ABI__V rfl rfl rfl (Nat.le_of_ble_eq_true rfl) (by decide) (by decide) (by decide) (by decide) at_355 ?_
    rintro T180 _ _ ⟨rfl, rfl⟩ W181
    have W182 := W181.re (os' := [(b176, (.object "com/example/attestry/attestry/home/ByteCursor"), [.ref b1, .int K]), (b1, (.array .byte), ((((List.replicate 12 (Value.int f)).set (K.toNatClampNeg + 0) (.int ((v &&& (127 : Int32)) ||| (128 : Int32)).toInt8.toInt32)).set (K.toNatClampNeg + 1) (.int (((XT.ushr v (7 : Int32)) &&& (127 : Int32)) ||| (128 : Int32)).toInt8.toInt32)).set (K.toNatClampNeg + 2) (.int (XT.ushr (XT.ushr v (7 : Int32)) (7 : Int32)).toInt8.toInt32)))]) rfl
    show Go p_ e_ bl_ _ (T180.setTop (mkF m_ 358 #[.val (.int p0), .val (.int p1), .val (.int p2), .val (.int p3), .val (.int v), .val (.int K), .val (.int f), .val (.ref b1), .val (.int (3 : Int32)), .val (.int (((K + (1 : Int32)) + (1 : Int32)) + (1 : Int32))), .val (.int (1 : Int32)), .unset, .unset] [.ref b176]))
    refine g_astore (pc := 358) (ls' := #[.val (.int p0), .val (.int p1), .val (.int p2), .val (.int p3), .val (.int v), .val (.int K), .val (.int f), .val (.ref b1), .val (.int (3 : Int32)), .val (.int (((K + (1 : Int32)) + (1 : Int32)) + (1 : Int32))), .val (.int (1 : Int32)), .val (.ref b176), .unset]) W182 at_358 rfl rfl ?_
    refine g_aload (pc := 360) W182 at_360 rfl rfl ?_
    refine g_virtual (i := 0) (pc := 362) (Wt := 0) (argsL := []) (rest := []) (loc := [(b176, (.object "com/example/attestry/attestry/home/ByteCursor"), [.ref b1, .int K]), (b1, (.array .byte), ((((List.replicate 12 (Value.int f)).set (K.toNatClampNeg + 0) (.int ((v &&& (127 : Int32)) ||| (128 : Int32)).toInt8.toInt32)).set (K.toNatClampNeg + 1) (.int (((XT.ushr v (7 : Int32)) &&& (127 : Int32)) ||| (128 : Int32)).toInt8.toInt32)).set (K.toNatClampNeg + 2) (.int (XT.ushr (XT.ushr v (7 : Int32)) (7 : Int32)).toInt8.toInt32)))]) (rst := []) W182 (hw _ (List.mem_of_getElem? (i := 25) rfl)) (hw _ (List.mem_of_getElem? (i := 27) rfl)) (hw _ (List.mem_of_getElem? (i := 8) rfl)) (hw _ (List.mem_of_getElem? (i := 29) rfl)) (hw _ (List.mem_of_getElem? (i := 26) rfl)) (hw _ (List.mem_of_getElem? (i := 28) rfl)) rfl (by decide) (c_wh3 l Z a0 hw b176 b1 K ((((List.replicate 12 (Value.int f)).set (K.toNatClampNeg + 0) (.int ((v &&& (127 : Int32)) ||| (128 : Int32)).toInt8.toInt32)).set (K.toNatClampNeg + 1) (.int (((XT.ushr v (7 : Int32)) &&& (127 : Int32)) ||| (128 : Int32)).toInt8.toInt32)).set (K.toNatClampNeg + 2) (.int (XT.ushr (XT.ushr v (7 : Int32)) (7 : Int32)).toInt8.toInt32)) ((v &&& (127 : Int32)) ||| (128 : Int32)).toInt8.toInt32 (((XT.ushr v (7 : Int32)) &&& (127 : Int32)) ||| (128 : Int32)).toInt8.toInt32 (XT.ushr (XT.ushr v (7 : Int32)) (7 : Int32)).toInt8.toInt32 k0.1 (by rw [k0.2.1]; exact (own_rd3 (v := v) (f := f) (j := K.toNatClampNeg) (i := K.toNatClampNeg + 0) (own_j hK) (own_j2 hK)).trans (by rw [rd_B rfl]; rfl)) k1.1 (by rw [k1.2.1]; exact (own_rd3 (v := v) (f := f) (j := K.toNatClampNeg) (i := K.toNatClampNeg + 1) (own_j hK) (own_j2 hK)).trans (by rw [rd_B rfl]; rfl)) k2.1 (by rw [k2.2.1]; exact (own_rd3 (v := v) (f := f) (j := K.toNatClampNeg) (i := K.toNatClampNeg + 2) (own_j hK) (own_j2 hK)).trans (by rw [rd_B rfl]; rfl)) (by rw [Int32.lt_iff_toInt_lt, own_b]; simp only [Int32.reduceToInt]; omega) (by rw [Int32.lt_iff_toInt_lt, own_b]; simp only [Int32.reduceToInt]; omega) (by have h2 := own_vt2 hv; have rv := rng32 v; rw [Int32.lt_iff_toInt_lt, own_l (by omega)]; simp only [Int32.reduceToInt]; omega)) ⟨[0, 1], by decide, rfl⟩ rfl pd___I rfl rfl rfl (Nat.le_of_ble_eq_true rfl) (by decide) (by decide) (by decide) (by decide) at_362 ?_
    rintro T183 _ _ ⟨rfl, rfl⟩ W184
    have W185 := W184.re (os' := [(b176, (.object "com/example/attestry/attestry/home/ByteCursor"), [.ref b1, .int (((K + (1 : Int32)) + (1 : Int32)) + (1 : Int32))]), (b1, (.array .byte), ((((List.replicate 12 (Value.int f)).set (K.toNatClampNeg + 0) (.int ((v &&& (127 : Int32)) ||| (128 : Int32)).toInt8.toInt32)).set (K.toNatClampNeg + 1) (.int (((XT.ushr v (7 : Int32)) &&& (127 : Int32)) ||| (128 : Int32)).toInt8.toInt32)).set (K.toNatClampNeg + 2) (.int (XT.ushr (XT.ushr v (7 : Int32)) (7 : Int32)).toInt8.toInt32)))]) rfl
    show Go p_ e_ bl_ _ (T183.setTop (mkF m_ 365 #[.val (.int p0), .val (.int p1), .val (.int p2), .val (.int p3), .val (.int v), .val (.int K), .val (.int f), .val (.ref b1), .val (.int (3 : Int32)), .val (.int (((K + (1 : Int32)) + (1 : Int32)) + (1 : Int32))), .val (.int (1 : Int32)), .val (.ref b176), .unset] [.int ((((0 : Int32) ||| ((((v &&& (127 : Int32)) ||| (128 : Int32)).toInt8.toInt32 &&& (127 : Int32)) <<< ((0 : Int32) &&& 31))) ||| (((((XT.ushr v (7 : Int32)) &&& (127 : Int32)) ||| (128 : Int32)).toInt8.toInt32 &&& (127 : Int32)) <<< ((7 : Int32) &&& 31))) ||| (((XT.ushr (XT.ushr v (7 : Int32)) (7 : Int32)).toInt8.toInt32 &&& (127 : Int32)) <<< ((14 : Int32) &&& 31)))]))
    refine g_istore (pc := 365) (ls' := #[.val (.int p0), .val (.int p1), .val (.int p2), .val (.int p3), .val (.int v), .val (.int K), .val (.int f), .val (.ref b1), .val (.int (3 : Int32)), .val (.int (((K + (1 : Int32)) + (1 : Int32)) + (1 : Int32))), .val (.int (1 : Int32)), .val (.ref b176), .val (.int ((((0 : Int32) ||| ((((v &&& (127 : Int32)) ||| (128 : Int32)).toInt8.toInt32 &&& (127 : Int32)) <<< ((0 : Int32) &&& 31))) ||| (((((XT.ushr v (7 : Int32)) &&& (127 : Int32)) ||| (128 : Int32)).toInt8.toInt32 &&& (127 : Int32)) <<< ((7 : Int32) &&& 31))) ||| (((XT.ushr (XT.ushr v (7 : Int32)) (7 : Int32)).toInt8.toInt32 &&& (127 : Int32)) <<< ((14 : Int32) &&& 31))))]) W185 at_365 rfl ?_
    refine g_iload (pc := 367) W185 at_367 rfl ?_
    refine g_iload (pc := 369) W185 at_369 rfl ?_
    refine g_icmpN (pc := 371) W185 at_371 (teq (own_back3 hv hb)).2 ?_
    refine g_aload (pc := 374) W185 at_374 rfl rfl ?_
    refine g_virtual (i := 0) (pc := 376) (Wt := 0) (argsL := []) (rest := []) (loc := [(b176, (.object "com/example/attestry/attestry/home/ByteCursor"), [.ref b1, .int (((K + (1 : Int32)) + (1 : Int32)) + (1 : Int32))])]) (rst := [(b1, (.array .byte), ((((List.replicate 12 (Value.int f)).set (K.toNatClampNeg + 0) (.int ((v &&& (127 : Int32)) ||| (128 : Int32)).toInt8.toInt32)).set (K.toNatClampNeg + 1) (.int (((XT.ushr v (7 : Int32)) &&& (127 : Int32)) ||| (128 : Int32)).toInt8.toInt32)).set (K.toNatClampNeg + 2) (.int (XT.ushr (XT.ushr v (7 : Int32)) (7 : Int32)).toInt8.toInt32)))]) W185 (hw _ (List.mem_of_getElem? (i := 30) rfl)) (hw _ (List.mem_of_getElem? (i := 32) rfl)) (hw _ (List.mem_of_getElem? (i := 8) rfl)) (hw _ (List.mem_of_getElem? (i := 34) rfl)) (hw _ (List.mem_of_getElem? (i := 31) rfl)) (hw _ (List.mem_of_getElem? (i := 33) rfl)) rfl (by decide) (c_at l Z a0 hw b176 b1 (((K + (1 : Int32)) + (1 : Int32)) + (1 : Int32))) ⟨[0, 1], by decide, rfl⟩ rfl pd___I rfl rfl rfl (Nat.le_of_ble_eq_true rfl) (by decide) (by decide) (by decide) (by decide) at_376 ?_
    rintro T186 _ _ ⟨rfl, rfl⟩ W187
    have W188 := W187.re (os' := [(b176, (.object "com/example/attestry/attestry/home/ByteCursor"), [.ref b1, .int (((K + (1 : Int32)) + (1 : Int32)) + (1 : Int32))]), (b1, (.array .byte), ((((List.replicate 12 (Value.int f)).set (K.toNatClampNeg + 0) (.int ((v &&& (127 : Int32)) ||| (128 : Int32)).toInt8.toInt32)).set (K.toNatClampNeg + 1) (.int (((XT.ushr v (7 : Int32)) &&& (127 : Int32)) ||| (128 : Int32)).toInt8.toInt32)).set (K.toNatClampNeg + 2) (.int (XT.ushr (XT.ushr v (7 : Int32)) (7 : Int32)).toInt8.toInt32)))]) rfl
    show Go p_ e_ bl_ _ (T186.setTop (mkF m_ 379 #[.val (.int p0), .val (.int p1), .val (.int p2), .val (.int p3), .val (.int v), .val (.int K), .val (.int f), .val (.ref b1), .val (.int (3 : Int32)), .val (.int (((K + (1 : Int32)) + (1 : Int32)) + (1 : Int32))), .val (.int (1 : Int32)), .val (.ref b176), .val (.int ((((0 : Int32) ||| ((((v &&& (127 : Int32)) ||| (128 : Int32)).toInt8.toInt32 &&& (127 : Int32)) <<< ((0 : Int32) &&& 31))) ||| (((((XT.ushr v (7 : Int32)) &&& (127 : Int32)) ||| (128 : Int32)).toInt8.toInt32 &&& (127 : Int32)) <<< ((7 : Int32) &&& 31))) ||| (((XT.ushr (XT.ushr v (7 : Int32)) (7 : Int32)).toInt8.toInt32 &&& (127 : Int32)) <<< ((14 : Int32) &&& 31))))] [.int (((K + (1 : Int32)) + (1 : Int32)) + (1 : Int32))]))
    refine g_iload (pc := 379) W188 at_379 rfl ?_
    refine g_icmpN (pc := 381) W188 at_381 (by first | exact (teq rfl).1 | exact (teq rfl).2 | exact (flt (by simp)).1 | exact (flt (by simp)).2.1 | exact (flt (by simp)).2.2.1 | exact (flt (by simp)).2.2.2) ?_
    refine g_iconst (pc := 384) (1 : Int32) (by decide) W188 at_384 ?_
    refine g_goto 389 (pc := 385) W188 at_385 (by decide) (by decide) ?_
    exact g_zreturn (pc := 389) rfl (by decide) W188 at_389 (by decide) (by decide) rfl
  · rw [hl]
    refine g_istore (pc := 98) (ls' := #[.val (.int p0), .val (.int p1), .val (.int p2), .val (.int p3), .val (.int v), .val (.int K), .val (.int f), .val (.ref b1), .val (.int (4 : Int32)), .unset, .unset, .unset, .unset]) W32 at_98 rfl ?_
    refine g_iload (pc := 100) W32 at_100 rfl ?_
    refine g_aload (pc := 102) W32 at_102 rfl rfl ?_
    refine g_iload (pc := 104) W32 at_104 rfl ?_
    refine g_static (pc := 106) (Wt := 0) (argsL := [.int v, .ref b1, .int K]) (rest := []) (loc := [(b1, (.array .byte), (List.replicate 12 (Value.int f)))]) (rst := []) W32 (hw _ (List.mem_of_getElem? (i := 6) rfl)) (hw _ (List.mem_of_getElem? (i := 7) rfl)) (hw _ (List.mem_of_getElem? (i := 8) rfl)) (hw _ (List.mem_of_getElem? (i := 9) rfl)) (by decide) (c_wr4 l Z a0 hw b1 v K (List.replicate 12 (Value.int f)) K.toNatClampNeg List.length_replicate (own_j hK) k0.1 k0.2.1 k1.1 k1.2.1 k2.1 k2.2.1 k3.1 k3.2.1 (fun q => by have h := (own_hz (own_vt0 hv).2).mp q; have h2 := own_vt0 hv; omega) (fun q => by have h := (own_hz (own_vt1 hv).2).mp q; have h2 := own_vt1 hv; omega) (fun q => by have h := (own_hz (own_vt2 hv).2).mp q; have h2 := own_vt2 hv; omega) ((own_hz (own_vt3 hv).2).mpr (by have h2 := own_vt3 hv; have rv := rng32 v; omega))) ⟨[0], by decide, rfl⟩ rfl pd_IABI__I rfl rfl rfl (Nat.le_of_ble_eq_true rfl) (by decide) (by decide) (by decide) (by decide) at_106 ?_
    rintro T189 _ _ ⟨rfl, rfl⟩ W190
    have W191 := W190.re (os' := [(b1, (.array .byte), (((((List.replicate 12 (Value.int f)).set (K.toNatClampNeg + 0) (.int ((v &&& (127 : Int32)) ||| (128 : Int32)).toInt8.toInt32)).set (K.toNatClampNeg + 1) (.int (((XT.ushr v (7 : Int32)) &&& (127 : Int32)) ||| (128 : Int32)).toInt8.toInt32)).set (K.toNatClampNeg + 2) (.int (((XT.ushr (XT.ushr v (7 : Int32)) (7 : Int32)) &&& (127 : Int32)) ||| (128 : Int32)).toInt8.toInt32)).set (K.toNatClampNeg + 3) (.int (XT.ushr (XT.ushr (XT.ushr v (7 : Int32)) (7 : Int32)) (7 : Int32)).toInt8.toInt32)))]) rfl
    show Go p_ e_ bl_ _ (T189.setTop (mkF m_ 109 #[.val (.int p0), .val (.int p1), .val (.int p2), .val (.int p3), .val (.int v), .val (.int K), .val (.int f), .val (.ref b1), .val (.int (4 : Int32)), .unset, .unset, .unset, .unset] [.int ((((K + (1 : Int32)) + (1 : Int32)) + (1 : Int32)) + (1 : Int32))]))
    refine g_istore (pc := 109) (ls' := #[.val (.int p0), .val (.int p1), .val (.int p2), .val (.int p3), .val (.int v), .val (.int K), .val (.int f), .val (.ref b1), .val (.int (4 : Int32)), .val (.int ((((K + (1 : Int32)) + (1 : Int32)) + (1 : Int32)) + (1 : Int32))), .unset, .unset, .unset]) W191 at_109 rfl ?_
    refine g_iload (pc := 111) W191 at_111 rfl ?_
    refine g_iload (pc := 113) W191 at_113 rfl ?_
    refine g_iload (pc := 115) W191 at_115 rfl ?_
    refine g_iadd (pc := 117) W191 at_117 ?_
    refine g_icmpY 123 (pc := 118) W191 at_118 (by decide) (by decide) (teq (own_after4 K)).1 ?_
    refine g_aload (pc := 123) W191 at_123 rfl rfl ?_
    refine g_iconst (pc := 125) (0 : Int32) (by decide) W191 at_125 ?_
    refine g_iload (pc := 126) W191 at_126 rfl ?_
    refine g_iload (pc := 128) W191 at_128 rfl ?_
    refine g_iload (pc := 130) W191 at_130 rfl ?_
    refine g_iload (pc := 132) W191 at_132 rfl ?_
    refine g_static (pc := 134) (Wt := 0) (argsL := [.ref b1, .int (0 : Int32), .int v, .int K, .int (4 : Int32), .int f]) (rest := []) (loc := [(b1, (.array .byte), (((((List.replicate 12 (Value.int f)).set (K.toNatClampNeg + 0) (.int ((v &&& (127 : Int32)) ||| (128 : Int32)).toInt8.toInt32)).set (K.toNatClampNeg + 1) (.int (((XT.ushr v (7 : Int32)) &&& (127 : Int32)) ||| (128 : Int32)).toInt8.toInt32)).set (K.toNatClampNeg + 2) (.int (((XT.ushr (XT.ushr v (7 : Int32)) (7 : Int32)) &&& (127 : Int32)) ||| (128 : Int32)).toInt8.toInt32)).set (K.toNatClampNeg + 3) (.int (XT.ushr (XT.ushr (XT.ushr v (7 : Int32)) (7 : Int32)) (7 : Int32)).toInt8.toInt32)))]) (rst := []) W191 (hw _ (List.mem_of_getElem? (i := 10) rfl)) (hw _ (List.mem_of_getElem? (i := 11) rfl)) (hw _ (List.mem_of_getElem? (i := 4) rfl)) (hw _ (List.mem_of_getElem? (i := 12) rfl)) (by decide) (c_ok l Z a0 hw b1 (0 : Int32) v K (4 : Int32) f (rd K.toNatClampNeg [((v &&& (127 : Int32)) ||| (128 : Int32)).toInt8.toInt32, (((XT.ushr v (7 : Int32)) &&& (127 : Int32)) ||| (128 : Int32)).toInt8.toInt32, (((XT.ushr (XT.ushr v (7 : Int32)) (7 : Int32)) &&& (127 : Int32)) ||| (128 : Int32)).toInt8.toInt32, (XT.ushr (XT.ushr (XT.ushr v (7 : Int32)) (7 : Int32)) (7 : Int32)).toInt8.toInt32] f 0) (((((List.replicate 12 (Value.int f)).set (K.toNatClampNeg + 0) (.int ((v &&& (127 : Int32)) ||| (128 : Int32)).toInt8.toInt32)).set (K.toNatClampNeg + 1) (.int (((XT.ushr v (7 : Int32)) &&& (127 : Int32)) ||| (128 : Int32)).toInt8.toInt32)).set (K.toNatClampNeg + 2) (.int (((XT.ushr (XT.ushr v (7 : Int32)) (7 : Int32)) &&& (127 : Int32)) ||| (128 : Int32)).toInt8.toInt32)).set (K.toNatClampNeg + 3) (.int (XT.ushr (XT.ushr (XT.ushr v (7 : Int32)) (7 : Int32)) (7 : Int32)).toInt8.toInt32)) (by decide) (own_rd4 (v := v) (f := f) (j := K.toNatClampNeg) (i := 0) (own_j hK) (by decide)) (own_ok4 (i := (0 : Int32)) (iN := 0) (f := f) hv hb hK (by decide) (by decide)).1 (own_ok4 (i := (0 : Int32)) (iN := 0) (f := f) hv hb hK (by decide) (by decide)).2) ⟨[0], by decide, rfl⟩ rfl pd_ABIIIIB__Z rfl rfl rfl (Nat.le_of_ble_eq_true rfl) (by decide) (by decide) (by decide) (by decide) at_134 ?_
    rintro T192 _ _ ⟨rfl, rfl⟩ W193
    have W194 := W193.re (os' := [(b1, (.array .byte), (((((List.replicate 12 (Value.int f)).set (K.toNatClampNeg + 0) (.int ((v &&& (127 : Int32)) ||| (128 : Int32)).toInt8.toInt32)).set (K.toNatClampNeg + 1) (.int (((XT.ushr v (7 : Int32)) &&& (127 : Int32)) ||| (128 : Int32)).toInt8.toInt32)).set (K.toNatClampNeg + 2) (.int (((XT.ushr (XT.ushr v (7 : Int32)) (7 : Int32)) &&& (127 : Int32)) ||| (128 : Int32)).toInt8.toInt32)).set (K.toNatClampNeg + 3) (.int (XT.ushr (XT.ushr (XT.ushr v (7 : Int32)) (7 : Int32)) (7 : Int32)).toInt8.toInt32)))]) rfl
    show Go p_ e_ bl_ _ (T192.setTop (mkF m_ 137 #[.val (.int p0), .val (.int p1), .val (.int p2), .val (.int p3), .val (.int v), .val (.int K), .val (.int f), .val (.ref b1), .val (.int (4 : Int32)), .val (.int ((((K + (1 : Int32)) + (1 : Int32)) + (1 : Int32)) + (1 : Int32))), .unset, .unset, .unset] [.int (1 : Int32)]))
    refine g_ifN (pc := 137) W194 at_137 (by decide) ?_
    refine g_aload (pc := 140) W194 at_140 rfl rfl ?_
    refine g_iconst (pc := 142) (1 : Int32) (by decide) W194 at_142 ?_
    refine g_iload (pc := 143) W194 at_143 rfl ?_
    refine g_iload (pc := 145) W194 at_145 rfl ?_
    refine g_iload (pc := 147) W194 at_147 rfl ?_
    refine g_iload (pc := 149) W194 at_149 rfl ?_
    refine g_static (pc := 151) (Wt := 0) (argsL := [.ref b1, .int (1 : Int32), .int v, .int K, .int (4 : Int32), .int f]) (rest := []) (loc := [(b1, (.array .byte), (((((List.replicate 12 (Value.int f)).set (K.toNatClampNeg + 0) (.int ((v &&& (127 : Int32)) ||| (128 : Int32)).toInt8.toInt32)).set (K.toNatClampNeg + 1) (.int (((XT.ushr v (7 : Int32)) &&& (127 : Int32)) ||| (128 : Int32)).toInt8.toInt32)).set (K.toNatClampNeg + 2) (.int (((XT.ushr (XT.ushr v (7 : Int32)) (7 : Int32)) &&& (127 : Int32)) ||| (128 : Int32)).toInt8.toInt32)).set (K.toNatClampNeg + 3) (.int (XT.ushr (XT.ushr (XT.ushr v (7 : Int32)) (7 : Int32)) (7 : Int32)).toInt8.toInt32)))]) (rst := []) W194 (hw _ (List.mem_of_getElem? (i := 10) rfl)) (hw _ (List.mem_of_getElem? (i := 11) rfl)) (hw _ (List.mem_of_getElem? (i := 4) rfl)) (hw _ (List.mem_of_getElem? (i := 12) rfl)) (by decide) (c_ok l Z a0 hw b1 (1 : Int32) v K (4 : Int32) f (rd K.toNatClampNeg [((v &&& (127 : Int32)) ||| (128 : Int32)).toInt8.toInt32, (((XT.ushr v (7 : Int32)) &&& (127 : Int32)) ||| (128 : Int32)).toInt8.toInt32, (((XT.ushr (XT.ushr v (7 : Int32)) (7 : Int32)) &&& (127 : Int32)) ||| (128 : Int32)).toInt8.toInt32, (XT.ushr (XT.ushr (XT.ushr v (7 : Int32)) (7 : Int32)) (7 : Int32)).toInt8.toInt32] f 1) (((((List.replicate 12 (Value.int f)).set (K.toNatClampNeg + 0) (.int ((v &&& (127 : Int32)) ||| (128 : Int32)).toInt8.toInt32)).set (K.toNatClampNeg + 1) (.int (((XT.ushr v (7 : Int32)) &&& (127 : Int32)) ||| (128 : Int32)).toInt8.toInt32)).set (K.toNatClampNeg + 2) (.int (((XT.ushr (XT.ushr v (7 : Int32)) (7 : Int32)) &&& (127 : Int32)) ||| (128 : Int32)).toInt8.toInt32)).set (K.toNatClampNeg + 3) (.int (XT.ushr (XT.ushr (XT.ushr v (7 : Int32)) (7 : Int32)) (7 : Int32)).toInt8.toInt32)) (by decide) (own_rd4 (v := v) (f := f) (j := K.toNatClampNeg) (i := 1) (own_j hK) (by decide)) (own_ok4 (i := (1 : Int32)) (iN := 1) (f := f) hv hb hK (by decide) (by decide)).1 (own_ok4 (i := (1 : Int32)) (iN := 1) (f := f) hv hb hK (by decide) (by decide)).2) ⟨[0], by decide, rfl⟩ rfl pd_ABIIIIB__Z rfl rfl rfl (Nat.le_of_ble_eq_true rfl) (by decide) (by decide) (by decide) (by decide) at_151 ?_
    rintro T195 _ _ ⟨rfl, rfl⟩ W196
    have W197 := W196.re (os' := [(b1, (.array .byte), (((((List.replicate 12 (Value.int f)).set (K.toNatClampNeg + 0) (.int ((v &&& (127 : Int32)) ||| (128 : Int32)).toInt8.toInt32)).set (K.toNatClampNeg + 1) (.int (((XT.ushr v (7 : Int32)) &&& (127 : Int32)) ||| (128 : Int32)).toInt8.toInt32)).set (K.toNatClampNeg + 2) (.int (((XT.ushr (XT.ushr v (7 : Int32)) (7 : Int32)) &&& (127 : Int32)) ||| (128 : Int32)).toInt8.toInt32)).set (K.toNatClampNeg + 3) (.int (XT.ushr (XT.ushr (XT.ushr v (7 : Int32)) (7 : Int32)) (7 : Int32)).toInt8.toInt32)))]) rfl
    show Go p_ e_ bl_ _ (T195.setTop (mkF m_ 154 #[.val (.int p0), .val (.int p1), .val (.int p2), .val (.int p3), .val (.int v), .val (.int K), .val (.int f), .val (.ref b1), .val (.int (4 : Int32)), .val (.int ((((K + (1 : Int32)) + (1 : Int32)) + (1 : Int32)) + (1 : Int32))), .unset, .unset, .unset] [.int (1 : Int32)]))
    refine g_ifN (pc := 154) W197 at_154 (by decide) ?_
    refine g_aload (pc := 157) W197 at_157 rfl rfl ?_
    refine g_iconst (pc := 159) (2 : Int32) (by decide) W197 at_159 ?_
    refine g_iload (pc := 160) W197 at_160 rfl ?_
    refine g_iload (pc := 162) W197 at_162 rfl ?_
    refine g_iload (pc := 164) W197 at_164 rfl ?_
    refine g_iload (pc := 166) W197 at_166 rfl ?_
    refine g_static (pc := 168) (Wt := 0) (argsL := [.ref b1, .int (2 : Int32), .int v, .int K, .int (4 : Int32), .int f]) (rest := []) (loc := [(b1, (.array .byte), (((((List.replicate 12 (Value.int f)).set (K.toNatClampNeg + 0) (.int ((v &&& (127 : Int32)) ||| (128 : Int32)).toInt8.toInt32)).set (K.toNatClampNeg + 1) (.int (((XT.ushr v (7 : Int32)) &&& (127 : Int32)) ||| (128 : Int32)).toInt8.toInt32)).set (K.toNatClampNeg + 2) (.int (((XT.ushr (XT.ushr v (7 : Int32)) (7 : Int32)) &&& (127 : Int32)) ||| (128 : Int32)).toInt8.toInt32)).set (K.toNatClampNeg + 3) (.int (XT.ushr (XT.ushr (XT.ushr v (7 : Int32)) (7 : Int32)) (7 : Int32)).toInt8.toInt32)))]) (rst := []) W197 (hw _ (List.mem_of_getElem? (i := 10) rfl)) (hw _ (List.mem_of_getElem? (i := 11) rfl)) (hw _ (List.mem_of_getElem? (i := 4) rfl)) (hw _ (List.mem_of_getElem? (i := 12) rfl)) (by decide) (c_ok l Z a0 hw b1 (2 : Int32) v K (4 : Int32) f (rd K.toNatClampNeg [((v &&& (127 : Int32)) ||| (128 : Int32)).toInt8.toInt32, (((XT.ushr v (7 : Int32)) &&& (127 : Int32)) ||| (128 : Int32)).toInt8.toInt32, (((XT.ushr (XT.ushr v (7 : Int32)) (7 : Int32)) &&& (127 : Int32)) ||| (128 : Int32)).toInt8.toInt32, (XT.ushr (XT.ushr (XT.ushr v (7 : Int32)) (7 : Int32)) (7 : Int32)).toInt8.toInt32] f 2) (((((List.replicate 12 (Value.int f)).set (K.toNatClampNeg + 0) (.int ((v &&& (127 : Int32)) ||| (128 : Int32)).toInt8.toInt32)).set (K.toNatClampNeg + 1) (.int (((XT.ushr v (7 : Int32)) &&& (127 : Int32)) ||| (128 : Int32)).toInt8.toInt32)).set (K.toNatClampNeg + 2) (.int (((XT.ushr (XT.ushr v (7 : Int32)) (7 : Int32)) &&& (127 : Int32)) ||| (128 : Int32)).toInt8.toInt32)).set (K.toNatClampNeg + 3) (.int (XT.ushr (XT.ushr (XT.ushr v (7 : Int32)) (7 : Int32)) (7 : Int32)).toInt8.toInt32)) (by decide) (own_rd4 (v := v) (f := f) (j := K.toNatClampNeg) (i := 2) (own_j hK) (by decide)) (own_ok4 (i := (2 : Int32)) (iN := 2) (f := f) hv hb hK (by decide) (by decide)).1 (own_ok4 (i := (2 : Int32)) (iN := 2) (f := f) hv hb hK (by decide) (by decide)).2) ⟨[0], by decide, rfl⟩ rfl pd_ABIIIIB__Z rfl rfl rfl (Nat.le_of_ble_eq_true rfl) (by decide) (by decide) (by decide) (by decide) at_168 ?_
    rintro T198 _ _ ⟨rfl, rfl⟩ W199
    have W200 := W199.re (os' := [(b1, (.array .byte), (((((List.replicate 12 (Value.int f)).set (K.toNatClampNeg + 0) (.int ((v &&& (127 : Int32)) ||| (128 : Int32)).toInt8.toInt32)).set (K.toNatClampNeg + 1) (.int (((XT.ushr v (7 : Int32)) &&& (127 : Int32)) ||| (128 : Int32)).toInt8.toInt32)).set (K.toNatClampNeg + 2) (.int (((XT.ushr (XT.ushr v (7 : Int32)) (7 : Int32)) &&& (127 : Int32)) ||| (128 : Int32)).toInt8.toInt32)).set (K.toNatClampNeg + 3) (.int (XT.ushr (XT.ushr (XT.ushr v (7 : Int32)) (7 : Int32)) (7 : Int32)).toInt8.toInt32)))]) rfl
    show Go p_ e_ bl_ _ (T198.setTop (mkF m_ 171 #[.val (.int p0), .val (.int p1), .val (.int p2), .val (.int p3), .val (.int v), .val (.int K), .val (.int f), .val (.ref b1), .val (.int (4 : Int32)), .val (.int ((((K + (1 : Int32)) + (1 : Int32)) + (1 : Int32)) + (1 : Int32))), .unset, .unset, .unset] [.int (1 : Int32)]))
    refine g_ifN (pc := 171) W200 at_171 (by decide) ?_
    refine g_aload (pc := 174) W200 at_174 rfl rfl ?_
    refine g_iconst (pc := 176) (3 : Int32) (by decide) W200 at_176 ?_
    refine g_iload (pc := 177) W200 at_177 rfl ?_
    refine g_iload (pc := 179) W200 at_179 rfl ?_
    refine g_iload (pc := 181) W200 at_181 rfl ?_
    refine g_iload (pc := 183) W200 at_183 rfl ?_
    refine g_static (pc := 185) (Wt := 0) (argsL := [.ref b1, .int (3 : Int32), .int v, .int K, .int (4 : Int32), .int f]) (rest := []) (loc := [(b1, (.array .byte), (((((List.replicate 12 (Value.int f)).set (K.toNatClampNeg + 0) (.int ((v &&& (127 : Int32)) ||| (128 : Int32)).toInt8.toInt32)).set (K.toNatClampNeg + 1) (.int (((XT.ushr v (7 : Int32)) &&& (127 : Int32)) ||| (128 : Int32)).toInt8.toInt32)).set (K.toNatClampNeg + 2) (.int (((XT.ushr (XT.ushr v (7 : Int32)) (7 : Int32)) &&& (127 : Int32)) ||| (128 : Int32)).toInt8.toInt32)).set (K.toNatClampNeg + 3) (.int (XT.ushr (XT.ushr (XT.ushr v (7 : Int32)) (7 : Int32)) (7 : Int32)).toInt8.toInt32)))]) (rst := []) W200 (hw _ (List.mem_of_getElem? (i := 10) rfl)) (hw _ (List.mem_of_getElem? (i := 11) rfl)) (hw _ (List.mem_of_getElem? (i := 4) rfl)) (hw _ (List.mem_of_getElem? (i := 12) rfl)) (by decide) (c_ok l Z a0 hw b1 (3 : Int32) v K (4 : Int32) f (rd K.toNatClampNeg [((v &&& (127 : Int32)) ||| (128 : Int32)).toInt8.toInt32, (((XT.ushr v (7 : Int32)) &&& (127 : Int32)) ||| (128 : Int32)).toInt8.toInt32, (((XT.ushr (XT.ushr v (7 : Int32)) (7 : Int32)) &&& (127 : Int32)) ||| (128 : Int32)).toInt8.toInt32, (XT.ushr (XT.ushr (XT.ushr v (7 : Int32)) (7 : Int32)) (7 : Int32)).toInt8.toInt32] f 3) (((((List.replicate 12 (Value.int f)).set (K.toNatClampNeg + 0) (.int ((v &&& (127 : Int32)) ||| (128 : Int32)).toInt8.toInt32)).set (K.toNatClampNeg + 1) (.int (((XT.ushr v (7 : Int32)) &&& (127 : Int32)) ||| (128 : Int32)).toInt8.toInt32)).set (K.toNatClampNeg + 2) (.int (((XT.ushr (XT.ushr v (7 : Int32)) (7 : Int32)) &&& (127 : Int32)) ||| (128 : Int32)).toInt8.toInt32)).set (K.toNatClampNeg + 3) (.int (XT.ushr (XT.ushr (XT.ushr v (7 : Int32)) (7 : Int32)) (7 : Int32)).toInt8.toInt32)) (by decide) (own_rd4 (v := v) (f := f) (j := K.toNatClampNeg) (i := 3) (own_j hK) (by decide)) (own_ok4 (i := (3 : Int32)) (iN := 3) (f := f) hv hb hK (by decide) (by decide)).1 (own_ok4 (i := (3 : Int32)) (iN := 3) (f := f) hv hb hK (by decide) (by decide)).2) ⟨[0], by decide, rfl⟩ rfl pd_ABIIIIB__Z rfl rfl rfl (Nat.le_of_ble_eq_true rfl) (by decide) (by decide) (by decide) (by decide) at_185 ?_
    rintro T201 _ _ ⟨rfl, rfl⟩ W202
    have W203 := W202.re (os' := [(b1, (.array .byte), (((((List.replicate 12 (Value.int f)).set (K.toNatClampNeg + 0) (.int ((v &&& (127 : Int32)) ||| (128 : Int32)).toInt8.toInt32)).set (K.toNatClampNeg + 1) (.int (((XT.ushr v (7 : Int32)) &&& (127 : Int32)) ||| (128 : Int32)).toInt8.toInt32)).set (K.toNatClampNeg + 2) (.int (((XT.ushr (XT.ushr v (7 : Int32)) (7 : Int32)) &&& (127 : Int32)) ||| (128 : Int32)).toInt8.toInt32)).set (K.toNatClampNeg + 3) (.int (XT.ushr (XT.ushr (XT.ushr v (7 : Int32)) (7 : Int32)) (7 : Int32)).toInt8.toInt32)))]) rfl
    show Go p_ e_ bl_ _ (T201.setTop (mkF m_ 188 #[.val (.int p0), .val (.int p1), .val (.int p2), .val (.int p3), .val (.int v), .val (.int K), .val (.int f), .val (.ref b1), .val (.int (4 : Int32)), .val (.int ((((K + (1 : Int32)) + (1 : Int32)) + (1 : Int32)) + (1 : Int32))), .unset, .unset, .unset] [.int (1 : Int32)]))
    refine g_ifN (pc := 188) W203 at_188 (by decide) ?_
    refine g_aload (pc := 191) W203 at_191 rfl rfl ?_
    refine g_iconst (pc := 193) (4 : Int32) (by decide) W203 at_193 ?_
    refine g_iload (pc := 194) W203 at_194 rfl ?_
    refine g_iload (pc := 196) W203 at_196 rfl ?_
    refine g_iload (pc := 198) W203 at_198 rfl ?_
    refine g_iload (pc := 200) W203 at_200 rfl ?_
    refine g_static (pc := 202) (Wt := 0) (argsL := [.ref b1, .int (4 : Int32), .int v, .int K, .int (4 : Int32), .int f]) (rest := []) (loc := [(b1, (.array .byte), (((((List.replicate 12 (Value.int f)).set (K.toNatClampNeg + 0) (.int ((v &&& (127 : Int32)) ||| (128 : Int32)).toInt8.toInt32)).set (K.toNatClampNeg + 1) (.int (((XT.ushr v (7 : Int32)) &&& (127 : Int32)) ||| (128 : Int32)).toInt8.toInt32)).set (K.toNatClampNeg + 2) (.int (((XT.ushr (XT.ushr v (7 : Int32)) (7 : Int32)) &&& (127 : Int32)) ||| (128 : Int32)).toInt8.toInt32)).set (K.toNatClampNeg + 3) (.int (XT.ushr (XT.ushr (XT.ushr v (7 : Int32)) (7 : Int32)) (7 : Int32)).toInt8.toInt32)))]) (rst := []) W203 (hw _ (List.mem_of_getElem? (i := 10) rfl)) (hw _ (List.mem_of_getElem? (i := 11) rfl)) (hw _ (List.mem_of_getElem? (i := 4) rfl)) (hw _ (List.mem_of_getElem? (i := 12) rfl)) (by decide) (c_ok l Z a0 hw b1 (4 : Int32) v K (4 : Int32) f (rd K.toNatClampNeg [((v &&& (127 : Int32)) ||| (128 : Int32)).toInt8.toInt32, (((XT.ushr v (7 : Int32)) &&& (127 : Int32)) ||| (128 : Int32)).toInt8.toInt32, (((XT.ushr (XT.ushr v (7 : Int32)) (7 : Int32)) &&& (127 : Int32)) ||| (128 : Int32)).toInt8.toInt32, (XT.ushr (XT.ushr (XT.ushr v (7 : Int32)) (7 : Int32)) (7 : Int32)).toInt8.toInt32] f 4) (((((List.replicate 12 (Value.int f)).set (K.toNatClampNeg + 0) (.int ((v &&& (127 : Int32)) ||| (128 : Int32)).toInt8.toInt32)).set (K.toNatClampNeg + 1) (.int (((XT.ushr v (7 : Int32)) &&& (127 : Int32)) ||| (128 : Int32)).toInt8.toInt32)).set (K.toNatClampNeg + 2) (.int (((XT.ushr (XT.ushr v (7 : Int32)) (7 : Int32)) &&& (127 : Int32)) ||| (128 : Int32)).toInt8.toInt32)).set (K.toNatClampNeg + 3) (.int (XT.ushr (XT.ushr (XT.ushr v (7 : Int32)) (7 : Int32)) (7 : Int32)).toInt8.toInt32)) (by decide) (own_rd4 (v := v) (f := f) (j := K.toNatClampNeg) (i := 4) (own_j hK) (by decide)) (own_ok4 (i := (4 : Int32)) (iN := 4) (f := f) hv hb hK (by decide) (by decide)).1 (own_ok4 (i := (4 : Int32)) (iN := 4) (f := f) hv hb hK (by decide) (by decide)).2) ⟨[0], by decide, rfl⟩ rfl pd_ABIIIIB__Z rfl rfl rfl (Nat.le_of_ble_eq_true rfl) (by decide) (by decide) (by decide) (by decide) at_202 ?_
    rintro T204 _ _ ⟨rfl, rfl⟩ W205
    have W206 := W205.re (os' := [(b1, (.array .byte), (((((List.replicate 12 (Value.int f)).set (K.toNatClampNeg + 0) (.int ((v &&& (127 : Int32)) ||| (128 : Int32)).toInt8.toInt32)).set (K.toNatClampNeg + 1) (.int (((XT.ushr v (7 : Int32)) &&& (127 : Int32)) ||| (128 : Int32)).toInt8.toInt32)).set (K.toNatClampNeg + 2) (.int (((XT.ushr (XT.ushr v (7 : Int32)) (7 : Int32)) &&& (127 : Int32)) ||| (128 : Int32)).toInt8.toInt32)).set (K.toNatClampNeg + 3) (.int (XT.ushr (XT.ushr (XT.ushr v (7 : Int32)) (7 : Int32)) (7 : Int32)).toInt8.toInt32)))]) rfl
    show Go p_ e_ bl_ _ (T204.setTop (mkF m_ 205 #[.val (.int p0), .val (.int p1), .val (.int p2), .val (.int p3), .val (.int v), .val (.int K), .val (.int f), .val (.ref b1), .val (.int (4 : Int32)), .val (.int ((((K + (1 : Int32)) + (1 : Int32)) + (1 : Int32)) + (1 : Int32))), .unset, .unset, .unset] [.int (1 : Int32)]))
    refine g_ifN (pc := 205) W206 at_205 (by decide) ?_
    refine g_aload (pc := 208) W206 at_208 rfl rfl ?_
    refine g_iconst (pc := 210) (5 : Int32) (by decide) W206 at_210 ?_
    refine g_iload (pc := 211) W206 at_211 rfl ?_
    refine g_iload (pc := 213) W206 at_213 rfl ?_
    refine g_iload (pc := 215) W206 at_215 rfl ?_
    refine g_iload (pc := 217) W206 at_217 rfl ?_
    refine g_static (pc := 219) (Wt := 0) (argsL := [.ref b1, .int (5 : Int32), .int v, .int K, .int (4 : Int32), .int f]) (rest := []) (loc := [(b1, (.array .byte), (((((List.replicate 12 (Value.int f)).set (K.toNatClampNeg + 0) (.int ((v &&& (127 : Int32)) ||| (128 : Int32)).toInt8.toInt32)).set (K.toNatClampNeg + 1) (.int (((XT.ushr v (7 : Int32)) &&& (127 : Int32)) ||| (128 : Int32)).toInt8.toInt32)).set (K.toNatClampNeg + 2) (.int (((XT.ushr (XT.ushr v (7 : Int32)) (7 : Int32)) &&& (127 : Int32)) ||| (128 : Int32)).toInt8.toInt32)).set (K.toNatClampNeg + 3) (.int (XT.ushr (XT.ushr (XT.ushr v (7 : Int32)) (7 : Int32)) (7 : Int32)).toInt8.toInt32)))]) (rst := []) W206 (hw _ (List.mem_of_getElem? (i := 10) rfl)) (hw _ (List.mem_of_getElem? (i := 11) rfl)) (hw _ (List.mem_of_getElem? (i := 4) rfl)) (hw _ (List.mem_of_getElem? (i := 12) rfl)) (by decide) (c_ok l Z a0 hw b1 (5 : Int32) v K (4 : Int32) f (rd K.toNatClampNeg [((v &&& (127 : Int32)) ||| (128 : Int32)).toInt8.toInt32, (((XT.ushr v (7 : Int32)) &&& (127 : Int32)) ||| (128 : Int32)).toInt8.toInt32, (((XT.ushr (XT.ushr v (7 : Int32)) (7 : Int32)) &&& (127 : Int32)) ||| (128 : Int32)).toInt8.toInt32, (XT.ushr (XT.ushr (XT.ushr v (7 : Int32)) (7 : Int32)) (7 : Int32)).toInt8.toInt32] f 5) (((((List.replicate 12 (Value.int f)).set (K.toNatClampNeg + 0) (.int ((v &&& (127 : Int32)) ||| (128 : Int32)).toInt8.toInt32)).set (K.toNatClampNeg + 1) (.int (((XT.ushr v (7 : Int32)) &&& (127 : Int32)) ||| (128 : Int32)).toInt8.toInt32)).set (K.toNatClampNeg + 2) (.int (((XT.ushr (XT.ushr v (7 : Int32)) (7 : Int32)) &&& (127 : Int32)) ||| (128 : Int32)).toInt8.toInt32)).set (K.toNatClampNeg + 3) (.int (XT.ushr (XT.ushr (XT.ushr v (7 : Int32)) (7 : Int32)) (7 : Int32)).toInt8.toInt32)) (by decide) (own_rd4 (v := v) (f := f) (j := K.toNatClampNeg) (i := 5) (own_j hK) (by decide)) (own_ok4 (i := (5 : Int32)) (iN := 5) (f := f) hv hb hK (by decide) (by decide)).1 (own_ok4 (i := (5 : Int32)) (iN := 5) (f := f) hv hb hK (by decide) (by decide)).2) ⟨[0], by decide, rfl⟩ rfl pd_ABIIIIB__Z rfl rfl rfl (Nat.le_of_ble_eq_true rfl) (by decide) (by decide) (by decide) (by decide) at_219 ?_
    rintro T207 _ _ ⟨rfl, rfl⟩ W208
    have W209 := W208.re (os' := [(b1, (.array .byte), (((((List.replicate 12 (Value.int f)).set (K.toNatClampNeg + 0) (.int ((v &&& (127 : Int32)) ||| (128 : Int32)).toInt8.toInt32)).set (K.toNatClampNeg + 1) (.int (((XT.ushr v (7 : Int32)) &&& (127 : Int32)) ||| (128 : Int32)).toInt8.toInt32)).set (K.toNatClampNeg + 2) (.int (((XT.ushr (XT.ushr v (7 : Int32)) (7 : Int32)) &&& (127 : Int32)) ||| (128 : Int32)).toInt8.toInt32)).set (K.toNatClampNeg + 3) (.int (XT.ushr (XT.ushr (XT.ushr v (7 : Int32)) (7 : Int32)) (7 : Int32)).toInt8.toInt32)))]) rfl
    show Go p_ e_ bl_ _ (T207.setTop (mkF m_ 222 #[.val (.int p0), .val (.int p1), .val (.int p2), .val (.int p3), .val (.int v), .val (.int K), .val (.int f), .val (.ref b1), .val (.int (4 : Int32)), .val (.int ((((K + (1 : Int32)) + (1 : Int32)) + (1 : Int32)) + (1 : Int32))), .unset, .unset, .unset] [.int (1 : Int32)]))
    refine g_ifN (pc := 222) W209 at_222 (by decide) ?_
    refine g_aload (pc := 225) W209 at_225 rfl rfl ?_
    refine g_bipush (pc := 227) (6 : Int32) (by decide) W209 at_227 ?_
    refine g_iload (pc := 229) W209 at_229 rfl ?_
    refine g_iload (pc := 231) W209 at_231 rfl ?_
    refine g_iload (pc := 233) W209 at_233 rfl ?_
    refine g_iload (pc := 235) W209 at_235 rfl ?_
    refine g_static (pc := 237) (Wt := 0) (argsL := [.ref b1, .int (6 : Int32), .int v, .int K, .int (4 : Int32), .int f]) (rest := []) (loc := [(b1, (.array .byte), (((((List.replicate 12 (Value.int f)).set (K.toNatClampNeg + 0) (.int ((v &&& (127 : Int32)) ||| (128 : Int32)).toInt8.toInt32)).set (K.toNatClampNeg + 1) (.int (((XT.ushr v (7 : Int32)) &&& (127 : Int32)) ||| (128 : Int32)).toInt8.toInt32)).set (K.toNatClampNeg + 2) (.int (((XT.ushr (XT.ushr v (7 : Int32)) (7 : Int32)) &&& (127 : Int32)) ||| (128 : Int32)).toInt8.toInt32)).set (K.toNatClampNeg + 3) (.int (XT.ushr (XT.ushr (XT.ushr v (7 : Int32)) (7 : Int32)) (7 : Int32)).toInt8.toInt32)))]) (rst := []) W209 (hw _ (List.mem_of_getElem? (i := 10) rfl)) (hw _ (List.mem_of_getElem? (i := 11) rfl)) (hw _ (List.mem_of_getElem? (i := 4) rfl)) (hw _ (List.mem_of_getElem? (i := 12) rfl)) (by decide) (c_ok l Z a0 hw b1 (6 : Int32) v K (4 : Int32) f (rd K.toNatClampNeg [((v &&& (127 : Int32)) ||| (128 : Int32)).toInt8.toInt32, (((XT.ushr v (7 : Int32)) &&& (127 : Int32)) ||| (128 : Int32)).toInt8.toInt32, (((XT.ushr (XT.ushr v (7 : Int32)) (7 : Int32)) &&& (127 : Int32)) ||| (128 : Int32)).toInt8.toInt32, (XT.ushr (XT.ushr (XT.ushr v (7 : Int32)) (7 : Int32)) (7 : Int32)).toInt8.toInt32] f 6) (((((List.replicate 12 (Value.int f)).set (K.toNatClampNeg + 0) (.int ((v &&& (127 : Int32)) ||| (128 : Int32)).toInt8.toInt32)).set (K.toNatClampNeg + 1) (.int (((XT.ushr v (7 : Int32)) &&& (127 : Int32)) ||| (128 : Int32)).toInt8.toInt32)).set (K.toNatClampNeg + 2) (.int (((XT.ushr (XT.ushr v (7 : Int32)) (7 : Int32)) &&& (127 : Int32)) ||| (128 : Int32)).toInt8.toInt32)).set (K.toNatClampNeg + 3) (.int (XT.ushr (XT.ushr (XT.ushr v (7 : Int32)) (7 : Int32)) (7 : Int32)).toInt8.toInt32)) (by decide) (own_rd4 (v := v) (f := f) (j := K.toNatClampNeg) (i := 6) (own_j hK) (by decide)) (own_ok4 (i := (6 : Int32)) (iN := 6) (f := f) hv hb hK (by decide) (by decide)).1 (own_ok4 (i := (6 : Int32)) (iN := 6) (f := f) hv hb hK (by decide) (by decide)).2) ⟨[0], by decide, rfl⟩ rfl pd_ABIIIIB__Z rfl rfl rfl (Nat.le_of_ble_eq_true rfl) (by decide) (by decide) (by decide) (by decide) at_237 ?_
    rintro T210 _ _ ⟨rfl, rfl⟩ W211
    have W212 := W211.re (os' := [(b1, (.array .byte), (((((List.replicate 12 (Value.int f)).set (K.toNatClampNeg + 0) (.int ((v &&& (127 : Int32)) ||| (128 : Int32)).toInt8.toInt32)).set (K.toNatClampNeg + 1) (.int (((XT.ushr v (7 : Int32)) &&& (127 : Int32)) ||| (128 : Int32)).toInt8.toInt32)).set (K.toNatClampNeg + 2) (.int (((XT.ushr (XT.ushr v (7 : Int32)) (7 : Int32)) &&& (127 : Int32)) ||| (128 : Int32)).toInt8.toInt32)).set (K.toNatClampNeg + 3) (.int (XT.ushr (XT.ushr (XT.ushr v (7 : Int32)) (7 : Int32)) (7 : Int32)).toInt8.toInt32)))]) rfl
    show Go p_ e_ bl_ _ (T210.setTop (mkF m_ 240 #[.val (.int p0), .val (.int p1), .val (.int p2), .val (.int p3), .val (.int v), .val (.int K), .val (.int f), .val (.ref b1), .val (.int (4 : Int32)), .val (.int ((((K + (1 : Int32)) + (1 : Int32)) + (1 : Int32)) + (1 : Int32))), .unset, .unset, .unset] [.int (1 : Int32)]))
    refine g_ifN (pc := 240) W212 at_240 (by decide) ?_
    refine g_aload (pc := 243) W212 at_243 rfl rfl ?_
    refine g_bipush (pc := 245) (7 : Int32) (by decide) W212 at_245 ?_
    refine g_iload (pc := 247) W212 at_247 rfl ?_
    refine g_iload (pc := 249) W212 at_249 rfl ?_
    refine g_iload (pc := 251) W212 at_251 rfl ?_
    refine g_iload (pc := 253) W212 at_253 rfl ?_
    refine g_static (pc := 255) (Wt := 0) (argsL := [.ref b1, .int (7 : Int32), .int v, .int K, .int (4 : Int32), .int f]) (rest := []) (loc := [(b1, (.array .byte), (((((List.replicate 12 (Value.int f)).set (K.toNatClampNeg + 0) (.int ((v &&& (127 : Int32)) ||| (128 : Int32)).toInt8.toInt32)).set (K.toNatClampNeg + 1) (.int (((XT.ushr v (7 : Int32)) &&& (127 : Int32)) ||| (128 : Int32)).toInt8.toInt32)).set (K.toNatClampNeg + 2) (.int (((XT.ushr (XT.ushr v (7 : Int32)) (7 : Int32)) &&& (127 : Int32)) ||| (128 : Int32)).toInt8.toInt32)).set (K.toNatClampNeg + 3) (.int (XT.ushr (XT.ushr (XT.ushr v (7 : Int32)) (7 : Int32)) (7 : Int32)).toInt8.toInt32)))]) (rst := []) W212 (hw _ (List.mem_of_getElem? (i := 10) rfl)) (hw _ (List.mem_of_getElem? (i := 11) rfl)) (hw _ (List.mem_of_getElem? (i := 4) rfl)) (hw _ (List.mem_of_getElem? (i := 12) rfl)) (by decide) (c_ok l Z a0 hw b1 (7 : Int32) v K (4 : Int32) f (rd K.toNatClampNeg [((v &&& (127 : Int32)) ||| (128 : Int32)).toInt8.toInt32, (((XT.ushr v (7 : Int32)) &&& (127 : Int32)) ||| (128 : Int32)).toInt8.toInt32, (((XT.ushr (XT.ushr v (7 : Int32)) (7 : Int32)) &&& (127 : Int32)) ||| (128 : Int32)).toInt8.toInt32, (XT.ushr (XT.ushr (XT.ushr v (7 : Int32)) (7 : Int32)) (7 : Int32)).toInt8.toInt32] f 7) (((((List.replicate 12 (Value.int f)).set (K.toNatClampNeg + 0) (.int ((v &&& (127 : Int32)) ||| (128 : Int32)).toInt8.toInt32)).set (K.toNatClampNeg + 1) (.int (((XT.ushr v (7 : Int32)) &&& (127 : Int32)) ||| (128 : Int32)).toInt8.toInt32)).set (K.toNatClampNeg + 2) (.int (((XT.ushr (XT.ushr v (7 : Int32)) (7 : Int32)) &&& (127 : Int32)) ||| (128 : Int32)).toInt8.toInt32)).set (K.toNatClampNeg + 3) (.int (XT.ushr (XT.ushr (XT.ushr v (7 : Int32)) (7 : Int32)) (7 : Int32)).toInt8.toInt32)) (by decide) (own_rd4 (v := v) (f := f) (j := K.toNatClampNeg) (i := 7) (own_j hK) (by decide)) (own_ok4 (i := (7 : Int32)) (iN := 7) (f := f) hv hb hK (by decide) (by decide)).1 (own_ok4 (i := (7 : Int32)) (iN := 7) (f := f) hv hb hK (by decide) (by decide)).2) ⟨[0], by decide, rfl⟩ rfl pd_ABIIIIB__Z rfl rfl rfl (Nat.le_of_ble_eq_true rfl) (by decide) (by decide) (by decide) (by decide) at_255 ?_
    rintro T213 _ _ ⟨rfl, rfl⟩ W214
    have W215 := W214.re (os' := [(b1, (.array .byte), (((((List.replicate 12 (Value.int f)).set (K.toNatClampNeg + 0) (.int ((v &&& (127 : Int32)) ||| (128 : Int32)).toInt8.toInt32)).set (K.toNatClampNeg + 1) (.int (((XT.ushr v (7 : Int32)) &&& (127 : Int32)) ||| (128 : Int32)).toInt8.toInt32)).set (K.toNatClampNeg + 2) (.int (((XT.ushr (XT.ushr v (7 : Int32)) (7 : Int32)) &&& (127 : Int32)) ||| (128 : Int32)).toInt8.toInt32)).set (K.toNatClampNeg + 3) (.int (XT.ushr (XT.ushr (XT.ushr v (7 : Int32)) (7 : Int32)) (7 : Int32)).toInt8.toInt32)))]) rfl
    show Go p_ e_ bl_ _ (T213.setTop (mkF m_ 258 #[.val (.int p0), .val (.int p1), .val (.int p2), .val (.int p3), .val (.int v), .val (.int K), .val (.int f), .val (.ref b1), .val (.int (4 : Int32)), .val (.int ((((K + (1 : Int32)) + (1 : Int32)) + (1 : Int32)) + (1 : Int32))), .unset, .unset, .unset] [.int (1 : Int32)]))
    refine g_ifN (pc := 258) W215 at_258 (by decide) ?_
    refine g_aload (pc := 261) W215 at_261 rfl rfl ?_
    refine g_bipush (pc := 263) (8 : Int32) (by decide) W215 at_263 ?_
    refine g_iload (pc := 265) W215 at_265 rfl ?_
    refine g_iload (pc := 267) W215 at_267 rfl ?_
    refine g_iload (pc := 269) W215 at_269 rfl ?_
    refine g_iload (pc := 271) W215 at_271 rfl ?_
    refine g_static (pc := 273) (Wt := 0) (argsL := [.ref b1, .int (8 : Int32), .int v, .int K, .int (4 : Int32), .int f]) (rest := []) (loc := [(b1, (.array .byte), (((((List.replicate 12 (Value.int f)).set (K.toNatClampNeg + 0) (.int ((v &&& (127 : Int32)) ||| (128 : Int32)).toInt8.toInt32)).set (K.toNatClampNeg + 1) (.int (((XT.ushr v (7 : Int32)) &&& (127 : Int32)) ||| (128 : Int32)).toInt8.toInt32)).set (K.toNatClampNeg + 2) (.int (((XT.ushr (XT.ushr v (7 : Int32)) (7 : Int32)) &&& (127 : Int32)) ||| (128 : Int32)).toInt8.toInt32)).set (K.toNatClampNeg + 3) (.int (XT.ushr (XT.ushr (XT.ushr v (7 : Int32)) (7 : Int32)) (7 : Int32)).toInt8.toInt32)))]) (rst := []) W215 (hw _ (List.mem_of_getElem? (i := 10) rfl)) (hw _ (List.mem_of_getElem? (i := 11) rfl)) (hw _ (List.mem_of_getElem? (i := 4) rfl)) (hw _ (List.mem_of_getElem? (i := 12) rfl)) (by decide) (c_ok l Z a0 hw b1 (8 : Int32) v K (4 : Int32) f (rd K.toNatClampNeg [((v &&& (127 : Int32)) ||| (128 : Int32)).toInt8.toInt32, (((XT.ushr v (7 : Int32)) &&& (127 : Int32)) ||| (128 : Int32)).toInt8.toInt32, (((XT.ushr (XT.ushr v (7 : Int32)) (7 : Int32)) &&& (127 : Int32)) ||| (128 : Int32)).toInt8.toInt32, (XT.ushr (XT.ushr (XT.ushr v (7 : Int32)) (7 : Int32)) (7 : Int32)).toInt8.toInt32] f 8) (((((List.replicate 12 (Value.int f)).set (K.toNatClampNeg + 0) (.int ((v &&& (127 : Int32)) ||| (128 : Int32)).toInt8.toInt32)).set (K.toNatClampNeg + 1) (.int (((XT.ushr v (7 : Int32)) &&& (127 : Int32)) ||| (128 : Int32)).toInt8.toInt32)).set (K.toNatClampNeg + 2) (.int (((XT.ushr (XT.ushr v (7 : Int32)) (7 : Int32)) &&& (127 : Int32)) ||| (128 : Int32)).toInt8.toInt32)).set (K.toNatClampNeg + 3) (.int (XT.ushr (XT.ushr (XT.ushr v (7 : Int32)) (7 : Int32)) (7 : Int32)).toInt8.toInt32)) (by decide) (own_rd4 (v := v) (f := f) (j := K.toNatClampNeg) (i := 8) (own_j hK) (by decide)) (own_ok4 (i := (8 : Int32)) (iN := 8) (f := f) hv hb hK (by decide) (by decide)).1 (own_ok4 (i := (8 : Int32)) (iN := 8) (f := f) hv hb hK (by decide) (by decide)).2) ⟨[0], by decide, rfl⟩ rfl pd_ABIIIIB__Z rfl rfl rfl (Nat.le_of_ble_eq_true rfl) (by decide) (by decide) (by decide) (by decide) at_273 ?_
    rintro T216 _ _ ⟨rfl, rfl⟩ W217
    have W218 := W217.re (os' := [(b1, (.array .byte), (((((List.replicate 12 (Value.int f)).set (K.toNatClampNeg + 0) (.int ((v &&& (127 : Int32)) ||| (128 : Int32)).toInt8.toInt32)).set (K.toNatClampNeg + 1) (.int (((XT.ushr v (7 : Int32)) &&& (127 : Int32)) ||| (128 : Int32)).toInt8.toInt32)).set (K.toNatClampNeg + 2) (.int (((XT.ushr (XT.ushr v (7 : Int32)) (7 : Int32)) &&& (127 : Int32)) ||| (128 : Int32)).toInt8.toInt32)).set (K.toNatClampNeg + 3) (.int (XT.ushr (XT.ushr (XT.ushr v (7 : Int32)) (7 : Int32)) (7 : Int32)).toInt8.toInt32)))]) rfl
    show Go p_ e_ bl_ _ (T216.setTop (mkF m_ 276 #[.val (.int p0), .val (.int p1), .val (.int p2), .val (.int p3), .val (.int v), .val (.int K), .val (.int f), .val (.ref b1), .val (.int (4 : Int32)), .val (.int ((((K + (1 : Int32)) + (1 : Int32)) + (1 : Int32)) + (1 : Int32))), .unset, .unset, .unset] [.int (1 : Int32)]))
    refine g_ifN (pc := 276) W218 at_276 (by decide) ?_
    refine g_aload (pc := 279) W218 at_279 rfl rfl ?_
    refine g_bipush (pc := 281) (9 : Int32) (by decide) W218 at_281 ?_
    refine g_iload (pc := 283) W218 at_283 rfl ?_
    refine g_iload (pc := 285) W218 at_285 rfl ?_
    refine g_iload (pc := 287) W218 at_287 rfl ?_
    refine g_iload (pc := 289) W218 at_289 rfl ?_
    refine g_static (pc := 291) (Wt := 0) (argsL := [.ref b1, .int (9 : Int32), .int v, .int K, .int (4 : Int32), .int f]) (rest := []) (loc := [(b1, (.array .byte), (((((List.replicate 12 (Value.int f)).set (K.toNatClampNeg + 0) (.int ((v &&& (127 : Int32)) ||| (128 : Int32)).toInt8.toInt32)).set (K.toNatClampNeg + 1) (.int (((XT.ushr v (7 : Int32)) &&& (127 : Int32)) ||| (128 : Int32)).toInt8.toInt32)).set (K.toNatClampNeg + 2) (.int (((XT.ushr (XT.ushr v (7 : Int32)) (7 : Int32)) &&& (127 : Int32)) ||| (128 : Int32)).toInt8.toInt32)).set (K.toNatClampNeg + 3) (.int (XT.ushr (XT.ushr (XT.ushr v (7 : Int32)) (7 : Int32)) (7 : Int32)).toInt8.toInt32)))]) (rst := []) W218 (hw _ (List.mem_of_getElem? (i := 10) rfl)) (hw _ (List.mem_of_getElem? (i := 11) rfl)) (hw _ (List.mem_of_getElem? (i := 4) rfl)) (hw _ (List.mem_of_getElem? (i := 12) rfl)) (by decide) (c_ok l Z a0 hw b1 (9 : Int32) v K (4 : Int32) f (rd K.toNatClampNeg [((v &&& (127 : Int32)) ||| (128 : Int32)).toInt8.toInt32, (((XT.ushr v (7 : Int32)) &&& (127 : Int32)) ||| (128 : Int32)).toInt8.toInt32, (((XT.ushr (XT.ushr v (7 : Int32)) (7 : Int32)) &&& (127 : Int32)) ||| (128 : Int32)).toInt8.toInt32, (XT.ushr (XT.ushr (XT.ushr v (7 : Int32)) (7 : Int32)) (7 : Int32)).toInt8.toInt32] f 9) (((((List.replicate 12 (Value.int f)).set (K.toNatClampNeg + 0) (.int ((v &&& (127 : Int32)) ||| (128 : Int32)).toInt8.toInt32)).set (K.toNatClampNeg + 1) (.int (((XT.ushr v (7 : Int32)) &&& (127 : Int32)) ||| (128 : Int32)).toInt8.toInt32)).set (K.toNatClampNeg + 2) (.int (((XT.ushr (XT.ushr v (7 : Int32)) (7 : Int32)) &&& (127 : Int32)) ||| (128 : Int32)).toInt8.toInt32)).set (K.toNatClampNeg + 3) (.int (XT.ushr (XT.ushr (XT.ushr v (7 : Int32)) (7 : Int32)) (7 : Int32)).toInt8.toInt32)) (by decide) (own_rd4 (v := v) (f := f) (j := K.toNatClampNeg) (i := 9) (own_j hK) (by decide)) (own_ok4 (i := (9 : Int32)) (iN := 9) (f := f) hv hb hK (by decide) (by decide)).1 (own_ok4 (i := (9 : Int32)) (iN := 9) (f := f) hv hb hK (by decide) (by decide)).2) ⟨[0], by decide, rfl⟩ rfl pd_ABIIIIB__Z rfl rfl rfl (Nat.le_of_ble_eq_true rfl) (by decide) (by decide) (by decide) (by decide) at_291 ?_
    rintro T219 _ _ ⟨rfl, rfl⟩ W220
    have W221 := W220.re (os' := [(b1, (.array .byte), (((((List.replicate 12 (Value.int f)).set (K.toNatClampNeg + 0) (.int ((v &&& (127 : Int32)) ||| (128 : Int32)).toInt8.toInt32)).set (K.toNatClampNeg + 1) (.int (((XT.ushr v (7 : Int32)) &&& (127 : Int32)) ||| (128 : Int32)).toInt8.toInt32)).set (K.toNatClampNeg + 2) (.int (((XT.ushr (XT.ushr v (7 : Int32)) (7 : Int32)) &&& (127 : Int32)) ||| (128 : Int32)).toInt8.toInt32)).set (K.toNatClampNeg + 3) (.int (XT.ushr (XT.ushr (XT.ushr v (7 : Int32)) (7 : Int32)) (7 : Int32)).toInt8.toInt32)))]) rfl
    show Go p_ e_ bl_ _ (T219.setTop (mkF m_ 294 #[.val (.int p0), .val (.int p1), .val (.int p2), .val (.int p3), .val (.int v), .val (.int K), .val (.int f), .val (.ref b1), .val (.int (4 : Int32)), .val (.int ((((K + (1 : Int32)) + (1 : Int32)) + (1 : Int32)) + (1 : Int32))), .unset, .unset, .unset] [.int (1 : Int32)]))
    refine g_ifN (pc := 294) W221 at_294 (by decide) ?_
    refine g_aload (pc := 297) W221 at_297 rfl rfl ?_
    refine g_bipush (pc := 299) (10 : Int32) (by decide) W221 at_299 ?_
    refine g_iload (pc := 301) W221 at_301 rfl ?_
    refine g_iload (pc := 303) W221 at_303 rfl ?_
    refine g_iload (pc := 305) W221 at_305 rfl ?_
    refine g_iload (pc := 307) W221 at_307 rfl ?_
    refine g_static (pc := 309) (Wt := 0) (argsL := [.ref b1, .int (10 : Int32), .int v, .int K, .int (4 : Int32), .int f]) (rest := []) (loc := [(b1, (.array .byte), (((((List.replicate 12 (Value.int f)).set (K.toNatClampNeg + 0) (.int ((v &&& (127 : Int32)) ||| (128 : Int32)).toInt8.toInt32)).set (K.toNatClampNeg + 1) (.int (((XT.ushr v (7 : Int32)) &&& (127 : Int32)) ||| (128 : Int32)).toInt8.toInt32)).set (K.toNatClampNeg + 2) (.int (((XT.ushr (XT.ushr v (7 : Int32)) (7 : Int32)) &&& (127 : Int32)) ||| (128 : Int32)).toInt8.toInt32)).set (K.toNatClampNeg + 3) (.int (XT.ushr (XT.ushr (XT.ushr v (7 : Int32)) (7 : Int32)) (7 : Int32)).toInt8.toInt32)))]) (rst := []) W221 (hw _ (List.mem_of_getElem? (i := 10) rfl)) (hw _ (List.mem_of_getElem? (i := 11) rfl)) (hw _ (List.mem_of_getElem? (i := 4) rfl)) (hw _ (List.mem_of_getElem? (i := 12) rfl)) (by decide) (c_ok l Z a0 hw b1 (10 : Int32) v K (4 : Int32) f (rd K.toNatClampNeg [((v &&& (127 : Int32)) ||| (128 : Int32)).toInt8.toInt32, (((XT.ushr v (7 : Int32)) &&& (127 : Int32)) ||| (128 : Int32)).toInt8.toInt32, (((XT.ushr (XT.ushr v (7 : Int32)) (7 : Int32)) &&& (127 : Int32)) ||| (128 : Int32)).toInt8.toInt32, (XT.ushr (XT.ushr (XT.ushr v (7 : Int32)) (7 : Int32)) (7 : Int32)).toInt8.toInt32] f 10) (((((List.replicate 12 (Value.int f)).set (K.toNatClampNeg + 0) (.int ((v &&& (127 : Int32)) ||| (128 : Int32)).toInt8.toInt32)).set (K.toNatClampNeg + 1) (.int (((XT.ushr v (7 : Int32)) &&& (127 : Int32)) ||| (128 : Int32)).toInt8.toInt32)).set (K.toNatClampNeg + 2) (.int (((XT.ushr (XT.ushr v (7 : Int32)) (7 : Int32)) &&& (127 : Int32)) ||| (128 : Int32)).toInt8.toInt32)).set (K.toNatClampNeg + 3) (.int (XT.ushr (XT.ushr (XT.ushr v (7 : Int32)) (7 : Int32)) (7 : Int32)).toInt8.toInt32)) (by decide) (own_rd4 (v := v) (f := f) (j := K.toNatClampNeg) (i := 10) (own_j hK) (by decide)) (own_ok4 (i := (10 : Int32)) (iN := 10) (f := f) hv hb hK (by decide) (by decide)).1 (own_ok4 (i := (10 : Int32)) (iN := 10) (f := f) hv hb hK (by decide) (by decide)).2) ⟨[0], by decide, rfl⟩ rfl pd_ABIIIIB__Z rfl rfl rfl (Nat.le_of_ble_eq_true rfl) (by decide) (by decide) (by decide) (by decide) at_309 ?_
    rintro T222 _ _ ⟨rfl, rfl⟩ W223
    have W224 := W223.re (os' := [(b1, (.array .byte), (((((List.replicate 12 (Value.int f)).set (K.toNatClampNeg + 0) (.int ((v &&& (127 : Int32)) ||| (128 : Int32)).toInt8.toInt32)).set (K.toNatClampNeg + 1) (.int (((XT.ushr v (7 : Int32)) &&& (127 : Int32)) ||| (128 : Int32)).toInt8.toInt32)).set (K.toNatClampNeg + 2) (.int (((XT.ushr (XT.ushr v (7 : Int32)) (7 : Int32)) &&& (127 : Int32)) ||| (128 : Int32)).toInt8.toInt32)).set (K.toNatClampNeg + 3) (.int (XT.ushr (XT.ushr (XT.ushr v (7 : Int32)) (7 : Int32)) (7 : Int32)).toInt8.toInt32)))]) rfl
    show Go p_ e_ bl_ _ (T222.setTop (mkF m_ 312 #[.val (.int p0), .val (.int p1), .val (.int p2), .val (.int p3), .val (.int v), .val (.int K), .val (.int f), .val (.ref b1), .val (.int (4 : Int32)), .val (.int ((((K + (1 : Int32)) + (1 : Int32)) + (1 : Int32)) + (1 : Int32))), .unset, .unset, .unset] [.int (1 : Int32)]))
    refine g_ifN (pc := 312) W224 at_312 (by decide) ?_
    refine g_aload (pc := 315) W224 at_315 rfl rfl ?_
    refine g_bipush (pc := 317) (11 : Int32) (by decide) W224 at_317 ?_
    refine g_iload (pc := 319) W224 at_319 rfl ?_
    refine g_iload (pc := 321) W224 at_321 rfl ?_
    refine g_iload (pc := 323) W224 at_323 rfl ?_
    refine g_iload (pc := 325) W224 at_325 rfl ?_
    refine g_static (pc := 327) (Wt := 0) (argsL := [.ref b1, .int (11 : Int32), .int v, .int K, .int (4 : Int32), .int f]) (rest := []) (loc := [(b1, (.array .byte), (((((List.replicate 12 (Value.int f)).set (K.toNatClampNeg + 0) (.int ((v &&& (127 : Int32)) ||| (128 : Int32)).toInt8.toInt32)).set (K.toNatClampNeg + 1) (.int (((XT.ushr v (7 : Int32)) &&& (127 : Int32)) ||| (128 : Int32)).toInt8.toInt32)).set (K.toNatClampNeg + 2) (.int (((XT.ushr (XT.ushr v (7 : Int32)) (7 : Int32)) &&& (127 : Int32)) ||| (128 : Int32)).toInt8.toInt32)).set (K.toNatClampNeg + 3) (.int (XT.ushr (XT.ushr (XT.ushr v (7 : Int32)) (7 : Int32)) (7 : Int32)).toInt8.toInt32)))]) (rst := []) W224 (hw _ (List.mem_of_getElem? (i := 10) rfl)) (hw _ (List.mem_of_getElem? (i := 11) rfl)) (hw _ (List.mem_of_getElem? (i := 4) rfl)) (hw _ (List.mem_of_getElem? (i := 12) rfl)) (by decide) (c_ok l Z a0 hw b1 (11 : Int32) v K (4 : Int32) f (rd K.toNatClampNeg [((v &&& (127 : Int32)) ||| (128 : Int32)).toInt8.toInt32, (((XT.ushr v (7 : Int32)) &&& (127 : Int32)) ||| (128 : Int32)).toInt8.toInt32, (((XT.ushr (XT.ushr v (7 : Int32)) (7 : Int32)) &&& (127 : Int32)) ||| (128 : Int32)).toInt8.toInt32, (XT.ushr (XT.ushr (XT.ushr v (7 : Int32)) (7 : Int32)) (7 : Int32)).toInt8.toInt32] f 11) (((((List.replicate 12 (Value.int f)).set (K.toNatClampNeg + 0) (.int ((v &&& (127 : Int32)) ||| (128 : Int32)).toInt8.toInt32)).set (K.toNatClampNeg + 1) (.int (((XT.ushr v (7 : Int32)) &&& (127 : Int32)) ||| (128 : Int32)).toInt8.toInt32)).set (K.toNatClampNeg + 2) (.int (((XT.ushr (XT.ushr v (7 : Int32)) (7 : Int32)) &&& (127 : Int32)) ||| (128 : Int32)).toInt8.toInt32)).set (K.toNatClampNeg + 3) (.int (XT.ushr (XT.ushr (XT.ushr v (7 : Int32)) (7 : Int32)) (7 : Int32)).toInt8.toInt32)) (by decide) (own_rd4 (v := v) (f := f) (j := K.toNatClampNeg) (i := 11) (own_j hK) (by decide)) (own_ok4 (i := (11 : Int32)) (iN := 11) (f := f) hv hb hK (by decide) (by decide)).1 (own_ok4 (i := (11 : Int32)) (iN := 11) (f := f) hv hb hK (by decide) (by decide)).2) ⟨[0], by decide, rfl⟩ rfl pd_ABIIIIB__Z rfl rfl rfl (Nat.le_of_ble_eq_true rfl) (by decide) (by decide) (by decide) (by decide) at_327 ?_
    rintro T225 _ _ ⟨rfl, rfl⟩ W226
    have W227 := W226.re (os' := [(b1, (.array .byte), (((((List.replicate 12 (Value.int f)).set (K.toNatClampNeg + 0) (.int ((v &&& (127 : Int32)) ||| (128 : Int32)).toInt8.toInt32)).set (K.toNatClampNeg + 1) (.int (((XT.ushr v (7 : Int32)) &&& (127 : Int32)) ||| (128 : Int32)).toInt8.toInt32)).set (K.toNatClampNeg + 2) (.int (((XT.ushr (XT.ushr v (7 : Int32)) (7 : Int32)) &&& (127 : Int32)) ||| (128 : Int32)).toInt8.toInt32)).set (K.toNatClampNeg + 3) (.int (XT.ushr (XT.ushr (XT.ushr v (7 : Int32)) (7 : Int32)) (7 : Int32)).toInt8.toInt32)))]) rfl
    show Go p_ e_ bl_ _ (T225.setTop (mkF m_ 330 #[.val (.int p0), .val (.int p1), .val (.int p2), .val (.int p3), .val (.int v), .val (.int K), .val (.int f), .val (.ref b1), .val (.int (4 : Int32)), .val (.int ((((K + (1 : Int32)) + (1 : Int32)) + (1 : Int32)) + (1 : Int32))), .unset, .unset, .unset] [.int (1 : Int32)]))
    refine g_ifN (pc := 330) W227 at_330 (by decide) ?_
    refine g_iconst (pc := 333) (1 : Int32) (by decide) W227 at_333 ?_
    refine g_goto 338 (pc := 334) W227 at_334 (by decide) (by decide) ?_
    refine g_istore (pc := 338) (ls' := #[.val (.int p0), .val (.int p1), .val (.int p2), .val (.int p3), .val (.int v), .val (.int K), .val (.int f), .val (.ref b1), .val (.int (4 : Int32)), .val (.int ((((K + (1 : Int32)) + (1 : Int32)) + (1 : Int32)) + (1 : Int32))), .val (.int (1 : Int32)), .unset, .unset]) W227 at_338 rfl ?_
    refine g_iload (pc := 340) W227 at_340 rfl ?_
    refine g_ifY 347 (pc := 342) W227 at_342 (by decide) (by decide) (by decide) ?_
    refine g_new (pc := 347) (vs := [.null, .int (0 : Int32)]) W227 (hw _ (List.mem_of_getElem? (i := 13) rfl)) (hw _ (List.mem_of_getElem? (i := 14) rfl)) (hw _ (List.mem_of_getElem? (i := 8) rfl)) (cls_ByteCursor hw) (by decide) at_347 (by decide) (by decide) (fun T229 b228 W230 => ?_)
    have W231 := W230.re (os' := [(b1, (.array .byte), (((((List.replicate 12 (Value.int f)).set (K.toNatClampNeg + 0) (.int ((v &&& (127 : Int32)) ||| (128 : Int32)).toInt8.toInt32)).set (K.toNatClampNeg + 1) (.int (((XT.ushr v (7 : Int32)) &&& (127 : Int32)) ||| (128 : Int32)).toInt8.toInt32)).set (K.toNatClampNeg + 2) (.int (((XT.ushr (XT.ushr v (7 : Int32)) (7 : Int32)) &&& (127 : Int32)) ||| (128 : Int32)).toInt8.toInt32)).set (K.toNatClampNeg + 3) (.int (XT.ushr (XT.ushr (XT.ushr v (7 : Int32)) (7 : Int32)) (7 : Int32)).toInt8.toInt32))), (b228, (.object "com/example/attestry/attestry/home/ByteCursor"), [.null, .int (0 : Int32)])]) rfl
    refine g_dup (pc := 350) W231 at_350 rfl ?_
    refine g_aload (pc := 351) W231 at_351 rfl rfl ?_
    refine g_iload (pc := 353) W231 at_353 rfl ?_
    refine g_init (pc := 355) (Wt := 1) (argsL := [.ref b1, .int K]) (rest := [.ref b228]) (loc := [(b228, (.object "com/example/attestry/attestry/home/ByteCursor"), [.null, .int (0 : Int32)])]) (rst := [(b1, (.array .byte), (((((List.replicate 12 (Value.int f)).set (K.toNatClampNeg + 0) (.int ((v &&& (127 : Int32)) ||| (128 : Int32)).toInt8.toInt32)).set (K.toNatClampNeg + 1) (.int (((XT.ushr v (7 : Int32)) &&& (127 : Int32)) ||| (128 : Int32)).toInt8.toInt32)).set (K.toNatClampNeg + 2) (.int (((XT.ushr (XT.ushr v (7 : Int32)) (7 : Int32)) &&& (127 : Int32)) ||| (128 : Int32)).toInt8.toInt32)).set (K.toNatClampNeg + 3) (.int (XT.ushr (XT.ushr (XT.ushr v (7 : Int32)) (7 : Int32)) (7 : Int32)).toInt8.toInt32)))]) W231 rfl (hw _ (List.mem_of_getElem? (i := 15) rfl)) (hw _ (List.mem_of_getElem? (i := 16) rfl)) (hw _ (List.mem_of_getElem? (i := 8) rfl)) (hw _ (List.mem_of_getElem? (i := 17) rfl)) (by decide) (c_init l Z a0 hw b228 b1 K) ⟨[1, 0], by decide, rfl⟩ rfl pd_ABI__V rfl rfl rfl (Nat.le_of_ble_eq_true rfl) (by decide) (by decide) (by decide) (by decide) at_355 ?_
    rintro T232 _ _ ⟨rfl, rfl⟩ W233
    have W234 := W233.re (os' := [(b228, (.object "com/example/attestry/attestry/home/ByteCursor"), [.ref b1, .int K]), (b1, (.array .byte), (((((List.replicate 12 (Value.int f)).set (K.toNatClampNeg + 0) (.int ((v &&& (127 : Int32)) ||| (128 : Int32)).toInt8.toInt32)).set (K.toNatClampNeg + 1) (.int (((XT.ushr v (7 : Int32)) &&& (127 : Int32)) ||| (128 : Int32)).toInt8.toInt32)).set (K.toNatClampNeg + 2) (.int (((XT.ushr (XT.ushr v (7 : Int32)) (7 : Int32)) &&& (127 : Int32)) ||| (128 : Int32)).toInt8.toInt32)).set (K.toNatClampNeg + 3) (.int (XT.ushr (XT.ushr (XT.ushr v (7 : Int32)) (7 : Int32)) (7 : Int32)).toInt8.toInt32)))]) rfl
    show Go p_ e_ bl_ _ (T232.setTop (mkF m_ 358 #[.val (.int p0), .val (.int p1), .val (.int p2), .val (.int p3), .val (.int v), .val (.int K), .val (.int f), .val (.ref b1), .val (.int (4 : Int32)), .val (.int ((((K + (1 : Int32)) + (1 : Int32)) + (1 : Int32)) + (1 : Int32))), .val (.int (1 : Int32)), .unset, .unset] [.ref b228]))
    refine g_astore (pc := 358) (ls' := #[.val (.int p0), .val (.int p1), .val (.int p2), .val (.int p3), .val (.int v), .val (.int K), .val (.int f), .val (.ref b1), .val (.int (4 : Int32)), .val (.int ((((K + (1 : Int32)) + (1 : Int32)) + (1 : Int32)) + (1 : Int32))), .val (.int (1 : Int32)), .val (.ref b228), .unset]) W234 at_358 rfl rfl ?_
    refine g_aload (pc := 360) W234 at_360 rfl rfl ?_
    refine g_virtual (i := 0) (pc := 362) (Wt := 0) (argsL := []) (rest := []) (loc := [(b228, (.object "com/example/attestry/attestry/home/ByteCursor"), [.ref b1, .int K]), (b1, (.array .byte), (((((List.replicate 12 (Value.int f)).set (K.toNatClampNeg + 0) (.int ((v &&& (127 : Int32)) ||| (128 : Int32)).toInt8.toInt32)).set (K.toNatClampNeg + 1) (.int (((XT.ushr v (7 : Int32)) &&& (127 : Int32)) ||| (128 : Int32)).toInt8.toInt32)).set (K.toNatClampNeg + 2) (.int (((XT.ushr (XT.ushr v (7 : Int32)) (7 : Int32)) &&& (127 : Int32)) ||| (128 : Int32)).toInt8.toInt32)).set (K.toNatClampNeg + 3) (.int (XT.ushr (XT.ushr (XT.ushr v (7 : Int32)) (7 : Int32)) (7 : Int32)).toInt8.toInt32)))]) (rst := []) W234 (hw _ (List.mem_of_getElem? (i := 25) rfl)) (hw _ (List.mem_of_getElem? (i := 27) rfl)) (hw _ (List.mem_of_getElem? (i := 8) rfl)) (hw _ (List.mem_of_getElem? (i := 29) rfl)) (hw _ (List.mem_of_getElem? (i := 26) rfl)) (hw _ (List.mem_of_getElem? (i := 28) rfl)) rfl (by decide) (c_wh4 l Z a0 hw b228 b1 K (((((List.replicate 12 (Value.int f)).set (K.toNatClampNeg + 0) (.int ((v &&& (127 : Int32)) ||| (128 : Int32)).toInt8.toInt32)).set (K.toNatClampNeg + 1) (.int (((XT.ushr v (7 : Int32)) &&& (127 : Int32)) ||| (128 : Int32)).toInt8.toInt32)).set (K.toNatClampNeg + 2) (.int (((XT.ushr (XT.ushr v (7 : Int32)) (7 : Int32)) &&& (127 : Int32)) ||| (128 : Int32)).toInt8.toInt32)).set (K.toNatClampNeg + 3) (.int (XT.ushr (XT.ushr (XT.ushr v (7 : Int32)) (7 : Int32)) (7 : Int32)).toInt8.toInt32)) ((v &&& (127 : Int32)) ||| (128 : Int32)).toInt8.toInt32 (((XT.ushr v (7 : Int32)) &&& (127 : Int32)) ||| (128 : Int32)).toInt8.toInt32 (((XT.ushr (XT.ushr v (7 : Int32)) (7 : Int32)) &&& (127 : Int32)) ||| (128 : Int32)).toInt8.toInt32 (XT.ushr (XT.ushr (XT.ushr v (7 : Int32)) (7 : Int32)) (7 : Int32)).toInt8.toInt32 k0.1 (by rw [k0.2.1]; exact (own_rd4 (v := v) (f := f) (j := K.toNatClampNeg) (i := K.toNatClampNeg + 0) (own_j hK) (own_j2 hK)).trans (by rw [rd_B rfl]; rfl)) k1.1 (by rw [k1.2.1]; exact (own_rd4 (v := v) (f := f) (j := K.toNatClampNeg) (i := K.toNatClampNeg + 1) (own_j hK) (own_j2 hK)).trans (by rw [rd_B rfl]; rfl)) k2.1 (by rw [k2.2.1]; exact (own_rd4 (v := v) (f := f) (j := K.toNatClampNeg) (i := K.toNatClampNeg + 2) (own_j hK) (own_j2 hK)).trans (by rw [rd_B rfl]; rfl)) k3.1 (by rw [k3.2.1]; exact (own_rd4 (v := v) (f := f) (j := K.toNatClampNeg) (i := K.toNatClampNeg + 3) (own_j hK) (own_j2 hK)).trans (by rw [rd_B rfl]; rfl)) (by rw [Int32.lt_iff_toInt_lt, own_b]; simp only [Int32.reduceToInt]; omega) (by rw [Int32.lt_iff_toInt_lt, own_b]; simp only [Int32.reduceToInt]; omega) (by rw [Int32.lt_iff_toInt_lt, own_b]; simp only [Int32.reduceToInt]; omega) (by have h2 := own_vt3 hv; have rv := rng32 v; rw [Int32.lt_iff_toInt_lt, own_l (by omega)]; simp only [Int32.reduceToInt]; omega)) ⟨[0, 1], by decide, rfl⟩ rfl pd___I rfl rfl rfl (Nat.le_of_ble_eq_true rfl) (by decide) (by decide) (by decide) (by decide) at_362 ?_
    rintro T235 _ _ ⟨rfl, rfl⟩ W236
    have W237 := W236.re (os' := [(b228, (.object "com/example/attestry/attestry/home/ByteCursor"), [.ref b1, .int ((((K + (1 : Int32)) + (1 : Int32)) + (1 : Int32)) + (1 : Int32))]), (b1, (.array .byte), (((((List.replicate 12 (Value.int f)).set (K.toNatClampNeg + 0) (.int ((v &&& (127 : Int32)) ||| (128 : Int32)).toInt8.toInt32)).set (K.toNatClampNeg + 1) (.int (((XT.ushr v (7 : Int32)) &&& (127 : Int32)) ||| (128 : Int32)).toInt8.toInt32)).set (K.toNatClampNeg + 2) (.int (((XT.ushr (XT.ushr v (7 : Int32)) (7 : Int32)) &&& (127 : Int32)) ||| (128 : Int32)).toInt8.toInt32)).set (K.toNatClampNeg + 3) (.int (XT.ushr (XT.ushr (XT.ushr v (7 : Int32)) (7 : Int32)) (7 : Int32)).toInt8.toInt32)))]) rfl
    show Go p_ e_ bl_ _ (T235.setTop (mkF m_ 365 #[.val (.int p0), .val (.int p1), .val (.int p2), .val (.int p3), .val (.int v), .val (.int K), .val (.int f), .val (.ref b1), .val (.int (4 : Int32)), .val (.int ((((K + (1 : Int32)) + (1 : Int32)) + (1 : Int32)) + (1 : Int32))), .val (.int (1 : Int32)), .val (.ref b228), .unset] [.int (((((0 : Int32) ||| ((((v &&& (127 : Int32)) ||| (128 : Int32)).toInt8.toInt32 &&& (127 : Int32)) <<< ((0 : Int32) &&& 31))) ||| (((((XT.ushr v (7 : Int32)) &&& (127 : Int32)) ||| (128 : Int32)).toInt8.toInt32 &&& (127 : Int32)) <<< ((7 : Int32) &&& 31))) ||| (((((XT.ushr (XT.ushr v (7 : Int32)) (7 : Int32)) &&& (127 : Int32)) ||| (128 : Int32)).toInt8.toInt32 &&& (127 : Int32)) <<< ((14 : Int32) &&& 31))) ||| (((XT.ushr (XT.ushr (XT.ushr v (7 : Int32)) (7 : Int32)) (7 : Int32)).toInt8.toInt32 &&& (127 : Int32)) <<< ((21 : Int32) &&& 31)))]))
    refine g_istore (pc := 365) (ls' := #[.val (.int p0), .val (.int p1), .val (.int p2), .val (.int p3), .val (.int v), .val (.int K), .val (.int f), .val (.ref b1), .val (.int (4 : Int32)), .val (.int ((((K + (1 : Int32)) + (1 : Int32)) + (1 : Int32)) + (1 : Int32))), .val (.int (1 : Int32)), .val (.ref b228), .val (.int (((((0 : Int32) ||| ((((v &&& (127 : Int32)) ||| (128 : Int32)).toInt8.toInt32 &&& (127 : Int32)) <<< ((0 : Int32) &&& 31))) ||| (((((XT.ushr v (7 : Int32)) &&& (127 : Int32)) ||| (128 : Int32)).toInt8.toInt32 &&& (127 : Int32)) <<< ((7 : Int32) &&& 31))) ||| (((((XT.ushr (XT.ushr v (7 : Int32)) (7 : Int32)) &&& (127 : Int32)) ||| (128 : Int32)).toInt8.toInt32 &&& (127 : Int32)) <<< ((14 : Int32) &&& 31))) ||| (((XT.ushr (XT.ushr (XT.ushr v (7 : Int32)) (7 : Int32)) (7 : Int32)).toInt8.toInt32 &&& (127 : Int32)) <<< ((21 : Int32) &&& 31))))]) W237 at_365 rfl ?_
    refine g_iload (pc := 367) W237 at_367 rfl ?_
    refine g_iload (pc := 369) W237 at_369 rfl ?_
    refine g_icmpN (pc := 371) W237 at_371 (teq (own_back4 hv hb)).2 ?_
    refine g_aload (pc := 374) W237 at_374 rfl rfl ?_
    refine g_virtual (i := 0) (pc := 376) (Wt := 0) (argsL := []) (rest := []) (loc := [(b228, (.object "com/example/attestry/attestry/home/ByteCursor"), [.ref b1, .int ((((K + (1 : Int32)) + (1 : Int32)) + (1 : Int32)) + (1 : Int32))])]) (rst := [(b1, (.array .byte), (((((List.replicate 12 (Value.int f)).set (K.toNatClampNeg + 0) (.int ((v &&& (127 : Int32)) ||| (128 : Int32)).toInt8.toInt32)).set (K.toNatClampNeg + 1) (.int (((XT.ushr v (7 : Int32)) &&& (127 : Int32)) ||| (128 : Int32)).toInt8.toInt32)).set (K.toNatClampNeg + 2) (.int (((XT.ushr (XT.ushr v (7 : Int32)) (7 : Int32)) &&& (127 : Int32)) ||| (128 : Int32)).toInt8.toInt32)).set (K.toNatClampNeg + 3) (.int (XT.ushr (XT.ushr (XT.ushr v (7 : Int32)) (7 : Int32)) (7 : Int32)).toInt8.toInt32)))]) W237 (hw _ (List.mem_of_getElem? (i := 30) rfl)) (hw _ (List.mem_of_getElem? (i := 32) rfl)) (hw _ (List.mem_of_getElem? (i := 8) rfl)) (hw _ (List.mem_of_getElem? (i := 34) rfl)) (hw _ (List.mem_of_getElem? (i := 31) rfl)) (hw _ (List.mem_of_getElem? (i := 33) rfl)) rfl (by decide) (c_at l Z a0 hw b228 b1 ((((K + (1 : Int32)) + (1 : Int32)) + (1 : Int32)) + (1 : Int32))) ⟨[0, 1], by decide, rfl⟩ rfl pd___I rfl rfl rfl (Nat.le_of_ble_eq_true rfl) (by decide) (by decide) (by decide) (by decide) at_376 ?_
    rintro T238 _ _ ⟨rfl, rfl⟩ W239
    have W240 := W239.re (os' := [(b228, (.object "com/example/attestry/attestry/home/ByteCursor"), [.ref b1, .int ((((K + (1 : Int32)) + (1 : Int32)) + (1 : Int32)) + (1 : Int32))]), (b1, (.array .byte), (((((List.replicate 12 (Value.int f)).set (K.toNatClampNeg + 0) (.int ((v &&& (127 : Int32)) ||| (128 : Int32)).toInt8.toInt32)).set (K.toNatClampNeg + 1) (.int (((XT.ushr v (7 : Int32)) &&& (127 : Int32)) ||| (128 : Int32)).toInt8.toInt32)).set (K.toNatClampNeg + 2) (.int (((XT.ushr (XT.ushr v (7 : Int32)) (7 : Int32)) &&& (127 : Int32)) ||| (128 : Int32)).toInt8.toInt32)).set (K.toNatClampNeg + 3) (.int (XT.ushr (XT.ushr (XT.ushr v (7 : Int32)) (7 : Int32)) (7 : Int32)).toInt8.toInt32)))]) rfl
    show Go p_ e_ bl_ _ (T238.setTop (mkF m_ 379 #[.val (.int p0), .val (.int p1), .val (.int p2), .val (.int p3), .val (.int v), .val (.int K), .val (.int f), .val (.ref b1), .val (.int (4 : Int32)), .val (.int ((((K + (1 : Int32)) + (1 : Int32)) + (1 : Int32)) + (1 : Int32))), .val (.int (1 : Int32)), .val (.ref b228), .val (.int (((((0 : Int32) ||| ((((v &&& (127 : Int32)) ||| (128 : Int32)).toInt8.toInt32 &&& (127 : Int32)) <<< ((0 : Int32) &&& 31))) ||| (((((XT.ushr v (7 : Int32)) &&& (127 : Int32)) ||| (128 : Int32)).toInt8.toInt32 &&& (127 : Int32)) <<< ((7 : Int32) &&& 31))) ||| (((((XT.ushr (XT.ushr v (7 : Int32)) (7 : Int32)) &&& (127 : Int32)) ||| (128 : Int32)).toInt8.toInt32 &&& (127 : Int32)) <<< ((14 : Int32) &&& 31))) ||| (((XT.ushr (XT.ushr (XT.ushr v (7 : Int32)) (7 : Int32)) (7 : Int32)).toInt8.toInt32 &&& (127 : Int32)) <<< ((21 : Int32) &&& 31))))] [.int ((((K + (1 : Int32)) + (1 : Int32)) + (1 : Int32)) + (1 : Int32))]))
    refine g_iload (pc := 379) W240 at_379 rfl ?_
    refine g_icmpN (pc := 381) W240 at_381 (by first | exact (teq rfl).1 | exact (teq rfl).2 | exact (flt (by simp)).1 | exact (flt (by simp)).2.1 | exact (flt (by simp)).2.2.1 | exact (flt (by simp)).2.2.2) ?_
    refine g_iconst (pc := 384) (1 : Int32) (by decide) W240 at_384 ?_
    refine g_goto 389 (pc := 385) W240 at_385 (by decide) (by decide) ?_
    exact g_zreturn (pc := 389) rfl (by decide) W240 at_389 (by decide) (by decide) rfl
  · rw [hl]
    refine g_istore (pc := 98) (ls' := #[.val (.int p0), .val (.int p1), .val (.int p2), .val (.int p3), .val (.int v), .val (.int K), .val (.int f), .val (.ref b1), .val (.int (5 : Int32)), .unset, .unset, .unset, .unset]) W32 at_98 rfl ?_
    refine g_iload (pc := 100) W32 at_100 rfl ?_
    refine g_aload (pc := 102) W32 at_102 rfl rfl ?_
    refine g_iload (pc := 104) W32 at_104 rfl ?_
    refine g_static (pc := 106) (Wt := 0) (argsL := [.int v, .ref b1, .int K]) (rest := []) (loc := [(b1, (.array .byte), (List.replicate 12 (Value.int f)))]) (rst := []) W32 (hw _ (List.mem_of_getElem? (i := 6) rfl)) (hw _ (List.mem_of_getElem? (i := 7) rfl)) (hw _ (List.mem_of_getElem? (i := 8) rfl)) (hw _ (List.mem_of_getElem? (i := 9) rfl)) (by decide) (c_wr5 l Z a0 hw b1 v K (List.replicate 12 (Value.int f)) K.toNatClampNeg List.length_replicate (own_j hK) k0.1 k0.2.1 k1.1 k1.2.1 k2.1 k2.2.1 k3.1 k3.2.1 k4.1 k4.2.1 (fun q => by have h := (own_hz (own_vt0 hv).2).mp q; have h2 := own_vt0 hv; omega) (fun q => by have h := (own_hz (own_vt1 hv).2).mp q; have h2 := own_vt1 hv; omega) (fun q => by have h := (own_hz (own_vt2 hv).2).mp q; have h2 := own_vt2 hv; omega) (fun q => by have h := (own_hz (own_vt3 hv).2).mp q; have h2 := own_vt3 hv; omega) ((own_hz (own_vt4 hv).2).mpr (by have h2 := own_vt4 hv; have rv := rng32 v; omega))) ⟨[0], by decide, rfl⟩ rfl pd_IABI__I rfl rfl rfl (Nat.le_of_ble_eq_true rfl) (by decide) (by decide) (by decide) (by decide) at_106 ?_
    rintro T241 _ _ ⟨rfl, rfl⟩ W242
    have W243 := W242.re (os' := [(b1, (.array .byte), ((((((List.replicate 12 (Value.int f)).set (K.toNatClampNeg + 0) (.int ((v &&& (127 : Int32)) ||| (128 : Int32)).toInt8.toInt32)).set (K.toNatClampNeg + 1) (.int (((XT.ushr v (7 : Int32)) &&& (127 : Int32)) ||| (128 : Int32)).toInt8.toInt32)).set (K.toNatClampNeg + 2) (.int (((XT.ushr (XT.ushr v (7 : Int32)) (7 : Int32)) &&& (127 : Int32)) ||| (128 : Int32)).toInt8.toInt32)).set (K.toNatClampNeg + 3) (.int (((XT.ushr (XT.ushr (XT.ushr v (7 : Int32)) (7 : Int32)) (7 : Int32)) &&& (127 : Int32)) ||| (128 : Int32)).toInt8.toInt32)).set (K.toNatClampNeg + 4) (.int (XT.ushr (XT.ushr (XT.ushr (XT.ushr v (7 : Int32)) (7 : Int32)) (7 : Int32)) (7 : Int32)).toInt8.toInt32)))]) rfl
    show Go p_ e_ bl_ _ (T241.setTop (mkF m_ 109 #[.val (.int p0), .val (.int p1), .val (.int p2), .val (.int p3), .val (.int v), .val (.int K), .val (.int f), .val (.ref b1), .val (.int (5 : Int32)), .unset, .unset, .unset, .unset] [.int (((((K + (1 : Int32)) + (1 : Int32)) + (1 : Int32)) + (1 : Int32)) + (1 : Int32))]))
    refine g_istore (pc := 109) (ls' := #[.val (.int p0), .val (.int p1), .val (.int p2), .val (.int p3), .val (.int v), .val (.int K), .val (.int f), .val (.ref b1), .val (.int (5 : Int32)), .val (.int (((((K + (1 : Int32)) + (1 : Int32)) + (1 : Int32)) + (1 : Int32)) + (1 : Int32))), .unset, .unset, .unset]) W243 at_109 rfl ?_
    refine g_iload (pc := 111) W243 at_111 rfl ?_
    refine g_iload (pc := 113) W243 at_113 rfl ?_
    refine g_iload (pc := 115) W243 at_115 rfl ?_
    refine g_iadd (pc := 117) W243 at_117 ?_
    refine g_icmpY 123 (pc := 118) W243 at_118 (by decide) (by decide) (teq (own_after5 K)).1 ?_
    refine g_aload (pc := 123) W243 at_123 rfl rfl ?_
    refine g_iconst (pc := 125) (0 : Int32) (by decide) W243 at_125 ?_
    refine g_iload (pc := 126) W243 at_126 rfl ?_
    refine g_iload (pc := 128) W243 at_128 rfl ?_
    refine g_iload (pc := 130) W243 at_130 rfl ?_
    refine g_iload (pc := 132) W243 at_132 rfl ?_
    refine g_static (pc := 134) (Wt := 0) (argsL := [.ref b1, .int (0 : Int32), .int v, .int K, .int (5 : Int32), .int f]) (rest := []) (loc := [(b1, (.array .byte), ((((((List.replicate 12 (Value.int f)).set (K.toNatClampNeg + 0) (.int ((v &&& (127 : Int32)) ||| (128 : Int32)).toInt8.toInt32)).set (K.toNatClampNeg + 1) (.int (((XT.ushr v (7 : Int32)) &&& (127 : Int32)) ||| (128 : Int32)).toInt8.toInt32)).set (K.toNatClampNeg + 2) (.int (((XT.ushr (XT.ushr v (7 : Int32)) (7 : Int32)) &&& (127 : Int32)) ||| (128 : Int32)).toInt8.toInt32)).set (K.toNatClampNeg + 3) (.int (((XT.ushr (XT.ushr (XT.ushr v (7 : Int32)) (7 : Int32)) (7 : Int32)) &&& (127 : Int32)) ||| (128 : Int32)).toInt8.toInt32)).set (K.toNatClampNeg + 4) (.int (XT.ushr (XT.ushr (XT.ushr (XT.ushr v (7 : Int32)) (7 : Int32)) (7 : Int32)) (7 : Int32)).toInt8.toInt32)))]) (rst := []) W243 (hw _ (List.mem_of_getElem? (i := 10) rfl)) (hw _ (List.mem_of_getElem? (i := 11) rfl)) (hw _ (List.mem_of_getElem? (i := 4) rfl)) (hw _ (List.mem_of_getElem? (i := 12) rfl)) (by decide) (c_ok l Z a0 hw b1 (0 : Int32) v K (5 : Int32) f (rd K.toNatClampNeg [((v &&& (127 : Int32)) ||| (128 : Int32)).toInt8.toInt32, (((XT.ushr v (7 : Int32)) &&& (127 : Int32)) ||| (128 : Int32)).toInt8.toInt32, (((XT.ushr (XT.ushr v (7 : Int32)) (7 : Int32)) &&& (127 : Int32)) ||| (128 : Int32)).toInt8.toInt32, (((XT.ushr (XT.ushr (XT.ushr v (7 : Int32)) (7 : Int32)) (7 : Int32)) &&& (127 : Int32)) ||| (128 : Int32)).toInt8.toInt32, (XT.ushr (XT.ushr (XT.ushr (XT.ushr v (7 : Int32)) (7 : Int32)) (7 : Int32)) (7 : Int32)).toInt8.toInt32] f 0) ((((((List.replicate 12 (Value.int f)).set (K.toNatClampNeg + 0) (.int ((v &&& (127 : Int32)) ||| (128 : Int32)).toInt8.toInt32)).set (K.toNatClampNeg + 1) (.int (((XT.ushr v (7 : Int32)) &&& (127 : Int32)) ||| (128 : Int32)).toInt8.toInt32)).set (K.toNatClampNeg + 2) (.int (((XT.ushr (XT.ushr v (7 : Int32)) (7 : Int32)) &&& (127 : Int32)) ||| (128 : Int32)).toInt8.toInt32)).set (K.toNatClampNeg + 3) (.int (((XT.ushr (XT.ushr (XT.ushr v (7 : Int32)) (7 : Int32)) (7 : Int32)) &&& (127 : Int32)) ||| (128 : Int32)).toInt8.toInt32)).set (K.toNatClampNeg + 4) (.int (XT.ushr (XT.ushr (XT.ushr (XT.ushr v (7 : Int32)) (7 : Int32)) (7 : Int32)) (7 : Int32)).toInt8.toInt32)) (by decide) (own_rd5 (v := v) (f := f) (j := K.toNatClampNeg) (i := 0) (own_j hK) (by decide)) (own_ok5 (i := (0 : Int32)) (iN := 0) (f := f) hv hb hK (by decide) (by decide)).1 (own_ok5 (i := (0 : Int32)) (iN := 0) (f := f) hv hb hK (by decide) (by decide)).2) ⟨[0], by decide, rfl⟩ rfl pd_ABIIIIB__Z rfl rfl rfl (Nat.le_of_ble_eq_true rfl) (by decide) (by decide) (by decide) (by decide) at_134 ?_
    rintro T244 _ _ ⟨rfl, rfl⟩ W245
    have W246 := W245.re (os' := [(b1, (.array .byte), ((((((List.replicate 12 (Value.int f)).set (K.toNatClampNeg + 0) (.int ((v &&& (127 : Int32)) ||| (128 : Int32)).toInt8.toInt32)).set (K.toNatClampNeg + 1) (.int (((XT.ushr v (7 : Int32)) &&& (127 : Int32)) ||| (128 : Int32)).toInt8.toInt32)).set (K.toNatClampNeg + 2) (.int (((XT.ushr (XT.ushr v (7 : Int32)) (7 : Int32)) &&& (127 : Int32)) ||| (128 : Int32)).toInt8.toInt32)).set (K.toNatClampNeg + 3) (.int (((XT.ushr (XT.ushr (XT.ushr v (7 : Int32)) (7 : Int32)) (7 : Int32)) &&& (127 : Int32)) ||| (128 : Int32)).toInt8.toInt32)).set (K.toNatClampNeg + 4) (.int (XT.ushr (XT.ushr (XT.ushr (XT.ushr v (7 : Int32)) (7 : Int32)) (7 : Int32)) (7 : Int32)).toInt8.toInt32)))]) rfl
    show Go p_ e_ bl_ _ (T244.setTop (mkF m_ 137 #[.val (.int p0), .val (.int p1), .val (.int p2), .val (.int p3), .val (.int v), .val (.int K), .val (.int f), .val (.ref b1), .val (.int (5 : Int32)), .val (.int (((((K + (1 : Int32)) + (1 : Int32)) + (1 : Int32)) + (1 : Int32)) + (1 : Int32))), .unset, .unset, .unset] [.int (1 : Int32)]))
    refine g_ifN (pc := 137) W246 at_137 (by decide) ?_
    refine g_aload (pc := 140) W246 at_140 rfl rfl ?_
    refine g_iconst (pc := 142) (1 : Int32) (by decide) W246 at_142 ?_
    refine g_iload (pc := 143) W246 at_143 rfl ?_
    refine g_iload (pc := 145) W246 at_145 rfl ?_
    refine g_iload (pc := 147) W246 at_147 rfl ?_
    refine g_iload (pc := 149) W246 at_149 rfl ?_
    refine g_static (pc := 151) (Wt := 0) (argsL := [.ref b1, .int (1 : Int32), .int v, .int K, .int (5 : Int32), .int f]) (rest := []) (loc := [(b1, (.array .byte), ((((((List.replicate 12 (Value.int f)).set (K.toNatClampNeg + 0) (.int ((v &&& (127 : Int32)) ||| (128 : Int32)).toInt8.toInt32)).set (K.toNatClampNeg + 1) (.int (((XT.ushr v (7 : Int32)) &&& (127 : Int32)) ||| (128 : Int32)).toInt8.toInt32)).set (K.toNatClampNeg + 2) (.int (((XT.ushr (XT.ushr v (7 : Int32)) (7 : Int32)) &&& (127 : Int32)) ||| (128 : Int32)).toInt8.toInt32)).set (K.toNatClampNeg + 3) (.int (((XT.ushr (XT.ushr (XT.ushr v (7 : Int32)) (7 : Int32)) (7 : Int32)) &&& (127 : Int32)) ||| (128 : Int32)).toInt8.toInt32)).set (K.toNatClampNeg + 4) (.int (XT.ushr (XT.ushr (XT.ushr (XT.ushr v (7 : Int32)) (7 : Int32)) (7 : Int32)) (7 : Int32)).toInt8.toInt32)))]) (rst := []) W246 (hw _ (List.mem_of_getElem? (i := 10) rfl)) (hw _ (List.mem_of_getElem? (i := 11) rfl)) (hw _ (List.mem_of_getElem? (i := 4) rfl)) (hw _ (List.mem_of_getElem? (i := 12) rfl)) (by decide) (c_ok l Z a0 hw b1 (1 : Int32) v K (5 : Int32) f (rd K.toNatClampNeg [((v &&& (127 : Int32)) ||| (128 : Int32)).toInt8.toInt32, (((XT.ushr v (7 : Int32)) &&& (127 : Int32)) ||| (128 : Int32)).toInt8.toInt32, (((XT.ushr (XT.ushr v (7 : Int32)) (7 : Int32)) &&& (127 : Int32)) ||| (128 : Int32)).toInt8.toInt32, (((XT.ushr (XT.ushr (XT.ushr v (7 : Int32)) (7 : Int32)) (7 : Int32)) &&& (127 : Int32)) ||| (128 : Int32)).toInt8.toInt32, (XT.ushr (XT.ushr (XT.ushr (XT.ushr v (7 : Int32)) (7 : Int32)) (7 : Int32)) (7 : Int32)).toInt8.toInt32] f 1) ((((((List.replicate 12 (Value.int f)).set (K.toNatClampNeg + 0) (.int ((v &&& (127 : Int32)) ||| (128 : Int32)).toInt8.toInt32)).set (K.toNatClampNeg + 1) (.int (((XT.ushr v (7 : Int32)) &&& (127 : Int32)) ||| (128 : Int32)).toInt8.toInt32)).set (K.toNatClampNeg + 2) (.int (((XT.ushr (XT.ushr v (7 : Int32)) (7 : Int32)) &&& (127 : Int32)) ||| (128 : Int32)).toInt8.toInt32)).set (K.toNatClampNeg + 3) (.int (((XT.ushr (XT.ushr (XT.ushr v (7 : Int32)) (7 : Int32)) (7 : Int32)) &&& (127 : Int32)) ||| (128 : Int32)).toInt8.toInt32)).set (K.toNatClampNeg + 4) (.int (XT.ushr (XT.ushr (XT.ushr (XT.ushr v (7 : Int32)) (7 : Int32)) (7 : Int32)) (7 : Int32)).toInt8.toInt32)) (by decide) (own_rd5 (v := v) (f := f) (j := K.toNatClampNeg) (i := 1) (own_j hK) (by decide)) (own_ok5 (i := (1 : Int32)) (iN := 1) (f := f) hv hb hK (by decide) (by decide)).1 (own_ok5 (i := (1 : Int32)) (iN := 1) (f := f) hv hb hK (by decide) (by decide)).2) ⟨[0], by decide, rfl⟩ rfl pd_ABIIIIB__Z rfl rfl rfl (Nat.le_of_ble_eq_true rfl) (by decide) (by decide) (by decide) (by decide) at_151 ?_
    rintro T247 _ _ ⟨rfl, rfl⟩ W248
    have W249 := W248.re (os' := [(b1, (.array .byte), ((((((List.replicate 12 (Value.int f)).set (K.toNatClampNeg + 0) (.int ((v &&& (127 : Int32)) ||| (128 : Int32)).toInt8.toInt32)).set (K.toNatClampNeg + 1) (.int (((XT.ushr v (7 : Int32)) &&& (127 : Int32)) ||| (128 : Int32)).toInt8.toInt32)).set (K.toNatClampNeg + 2) (.int (((XT.ushr (XT.ushr v (7 : Int32)) (7 : Int32)) &&& (127 : Int32)) ||| (128 : Int32)).toInt8.toInt32)).set (K.toNatClampNeg + 3) (.int (((XT.ushr (XT.ushr (XT.ushr v (7 : Int32)) (7 : Int32)) (7 : Int32)) &&& (127 : Int32)) ||| (128 : Int32)).toInt8.toInt32)).set (K.toNatClampNeg + 4) (.int (XT.ushr (XT.ushr (XT.ushr (XT.ushr v (7 : Int32)) (7 : Int32)) (7 : Int32)) (7 : Int32)).toInt8.toInt32)))]) rfl
    show Go p_ e_ bl_ _ (T247.setTop (mkF m_ 154 #[.val (.int p0), .val (.int p1), .val (.int p2), .val (.int p3), .val (.int v), .val (.int K), .val (.int f), .val (.ref b1), .val (.int (5 : Int32)), .val (.int (((((K + (1 : Int32)) + (1 : Int32)) + (1 : Int32)) + (1 : Int32)) + (1 : Int32))), .unset, .unset, .unset] [.int (1 : Int32)]))
    refine g_ifN (pc := 154) W249 at_154 (by decide) ?_
    refine g_aload (pc := 157) W249 at_157 rfl rfl ?_
    refine g_iconst (pc := 159) (2 : Int32) (by decide) W249 at_159 ?_
    refine g_iload (pc := 160) W249 at_160 rfl ?_
    refine g_iload (pc := 162) W249 at_162 rfl ?_
    refine g_iload (pc := 164) W249 at_164 rfl ?_
    refine g_iload (pc := 166) W249 at_166 rfl ?_
    refine g_static (pc := 168) (Wt := 0) (argsL := [.ref b1, .int (2 : Int32), .int v, .int K, .int (5 : Int32), .int f]) (rest := []) (loc := [(b1, (.array .byte), ((((((List.replicate 12 (Value.int f)).set (K.toNatClampNeg + 0) (.int ((v &&& (127 : Int32)) ||| (128 : Int32)).toInt8.toInt32)).set (K.toNatClampNeg + 1) (.int (((XT.ushr v (7 : Int32)) &&& (127 : Int32)) ||| (128 : Int32)).toInt8.toInt32)).set (K.toNatClampNeg + 2) (.int (((XT.ushr (XT.ushr v (7 : Int32)) (7 : Int32)) &&& (127 : Int32)) ||| (128 : Int32)).toInt8.toInt32)).set (K.toNatClampNeg + 3) (.int (((XT.ushr (XT.ushr (XT.ushr v (7 : Int32)) (7 : Int32)) (7 : Int32)) &&& (127 : Int32)) ||| (128 : Int32)).toInt8.toInt32)).set (K.toNatClampNeg + 4) (.int (XT.ushr (XT.ushr (XT.ushr (XT.ushr v (7 : Int32)) (7 : Int32)) (7 : Int32)) (7 : Int32)).toInt8.toInt32)))]) (rst := []) W249 (hw _ (List.mem_of_getElem? (i := 10) rfl)) (hw _ (List.mem_of_getElem? (i := 11) rfl)) (hw _ (List.mem_of_getElem? (i := 4) rfl)) (hw _ (List.mem_of_getElem? (i := 12) rfl)) (by decide) (c_ok l Z a0 hw b1 (2 : Int32) v K (5 : Int32) f (rd K.toNatClampNeg [((v &&& (127 : Int32)) ||| (128 : Int32)).toInt8.toInt32, (((XT.ushr v (7 : Int32)) &&& (127 : Int32)) ||| (128 : Int32)).toInt8.toInt32, (((XT.ushr (XT.ushr v (7 : Int32)) (7 : Int32)) &&& (127 : Int32)) ||| (128 : Int32)).toInt8.toInt32, (((XT.ushr (XT.ushr (XT.ushr v (7 : Int32)) (7 : Int32)) (7 : Int32)) &&& (127 : Int32)) ||| (128 : Int32)).toInt8.toInt32, (XT.ushr (XT.ushr (XT.ushr (XT.ushr v (7 : Int32)) (7 : Int32)) (7 : Int32)) (7 : Int32)).toInt8.toInt32] f 2) ((((((List.replicate 12 (Value.int f)).set (K.toNatClampNeg + 0) (.int ((v &&& (127 : Int32)) ||| (128 : Int32)).toInt8.toInt32)).set (K.toNatClampNeg + 1) (.int (((XT.ushr v (7 : Int32)) &&& (127 : Int32)) ||| (128 : Int32)).toInt8.toInt32)).set (K.toNatClampNeg + 2) (.int (((XT.ushr (XT.ushr v (7 : Int32)) (7 : Int32)) &&& (127 : Int32)) ||| (128 : Int32)).toInt8.toInt32)).set (K.toNatClampNeg + 3) (.int (((XT.ushr (XT.ushr (XT.ushr v (7 : Int32)) (7 : Int32)) (7 : Int32)) &&& (127 : Int32)) ||| (128 : Int32)).toInt8.toInt32)).set (K.toNatClampNeg + 4) (.int (XT.ushr (XT.ushr (XT.ushr (XT.ushr v (7 : Int32)) (7 : Int32)) (7 : Int32)) (7 : Int32)).toInt8.toInt32)) (by decide) (own_rd5 (v := v) (f := f) (j := K.toNatClampNeg) (i := 2) (own_j hK) (by decide)) (own_ok5 (i := (2 : Int32)) (iN := 2) (f := f) hv hb hK (by decide) (by decide)).1 (own_ok5 (i := (2 : Int32)) (iN := 2) (f := f) hv hb hK (by decide) (by decide)).2) ⟨[0], by decide, rfl⟩ rfl pd_ABIIIIB__Z rfl rfl rfl (Nat.le_of_ble_eq_true rfl) (by decide) (by decide) (by decide) (by decide) at_168 ?_
    rintro T250 _ _ ⟨rfl, rfl⟩ W251
    have W252 := W251.re (os' := [(b1, (.array .byte), ((((((List.replicate 12 (Value.int f)).set (K.toNatClampNeg + 0) (.int ((v &&& (127 : Int32)) ||| (128 : Int32)).toInt8.toInt32)).set (K.toNatClampNeg + 1) (.int (((XT.ushr v (7 : Int32)) &&& (127 : Int32)) ||| (128 : Int32)).toInt8.toInt32)).set (K.toNatClampNeg + 2) (.int (((XT.ushr (XT.ushr v (7 : Int32)) (7 : Int32)) &&& (127 : Int32)) ||| (128 : Int32)).toInt8.toInt32)).set (K.toNatClampNeg + 3) (.int (((XT.ushr (XT.ushr (XT.ushr v (7 : Int32)) (7 : Int32)) (7 : Int32)) &&& (127 : Int32)) ||| (128 : Int32)).toInt8.toInt32)).set (K.toNatClampNeg + 4) (.int (XT.ushr (XT.ushr (XT.ushr (XT.ushr v (7 : Int32)) (7 : Int32)) (7 : Int32)) (7 : Int32)).toInt8.toInt32)))]) rfl
    show Go p_ e_ bl_ _ (T250.setTop (mkF m_ 171 #[.val (.int p0), .val (.int p1), .val (.int p2), .val (.int p3), .val (.int v), .val (.int K), .val (.int f), .val (.ref b1), .val (.int (5 : Int32)), .val (.int (((((K + (1 : Int32)) + (1 : Int32)) + (1 : Int32)) + (1 : Int32)) + (1 : Int32))), .unset, .unset, .unset] [.int (1 : Int32)]))
    refine g_ifN (pc := 171) W252 at_171 (by decide) ?_
    refine g_aload (pc := 174) W252 at_174 rfl rfl ?_
    refine g_iconst (pc := 176) (3 : Int32) (by decide) W252 at_176 ?_
    refine g_iload (pc := 177) W252 at_177 rfl ?_
    refine g_iload (pc := 179) W252 at_179 rfl ?_
    refine g_iload (pc := 181) W252 at_181 rfl ?_
    refine g_iload (pc := 183) W252 at_183 rfl ?_
    refine g_static (pc := 185) (Wt := 0) (argsL := [.ref b1, .int (3 : Int32), .int v, .int K, .int (5 : Int32), .int f]) (rest := []) (loc := [(b1, (.array .byte), ((((((List.replicate 12 (Value.int f)).set (K.toNatClampNeg + 0) (.int ((v &&& (127 : Int32)) ||| (128 : Int32)).toInt8.toInt32)).set (K.toNatClampNeg + 1) (.int (((XT.ushr v (7 : Int32)) &&& (127 : Int32)) ||| (128 : Int32)).toInt8.toInt32)).set (K.toNatClampNeg + 2) (.int (((XT.ushr (XT.ushr v (7 : Int32)) (7 : Int32)) &&& (127 : Int32)) ||| (128 : Int32)).toInt8.toInt32)).set (K.toNatClampNeg + 3) (.int (((XT.ushr (XT.ushr (XT.ushr v (7 : Int32)) (7 : Int32)) (7 : Int32)) &&& (127 : Int32)) ||| (128 : Int32)).toInt8.toInt32)).set (K.toNatClampNeg + 4) (.int (XT.ushr (XT.ushr (XT.ushr (XT.ushr v (7 : Int32)) (7 : Int32)) (7 : Int32)) (7 : Int32)).toInt8.toInt32)))]) (rst := []) W252 (hw _ (List.mem_of_getElem? (i := 10) rfl)) (hw _ (List.mem_of_getElem? (i := 11) rfl)) (hw _ (List.mem_of_getElem? (i := 4) rfl)) (hw _ (List.mem_of_getElem? (i := 12) rfl)) (by decide) (c_ok l Z a0 hw b1 (3 : Int32) v K (5 : Int32) f (rd K.toNatClampNeg [((v &&& (127 : Int32)) ||| (128 : Int32)).toInt8.toInt32, (((XT.ushr v (7 : Int32)) &&& (127 : Int32)) ||| (128 : Int32)).toInt8.toInt32, (((XT.ushr (XT.ushr v (7 : Int32)) (7 : Int32)) &&& (127 : Int32)) ||| (128 : Int32)).toInt8.toInt32, (((XT.ushr (XT.ushr (XT.ushr v (7 : Int32)) (7 : Int32)) (7 : Int32)) &&& (127 : Int32)) ||| (128 : Int32)).toInt8.toInt32, (XT.ushr (XT.ushr (XT.ushr (XT.ushr v (7 : Int32)) (7 : Int32)) (7 : Int32)) (7 : Int32)).toInt8.toInt32] f 3) ((((((List.replicate 12 (Value.int f)).set (K.toNatClampNeg + 0) (.int ((v &&& (127 : Int32)) ||| (128 : Int32)).toInt8.toInt32)).set (K.toNatClampNeg + 1) (.int (((XT.ushr v (7 : Int32)) &&& (127 : Int32)) ||| (128 : Int32)).toInt8.toInt32)).set (K.toNatClampNeg + 2) (.int (((XT.ushr (XT.ushr v (7 : Int32)) (7 : Int32)) &&& (127 : Int32)) ||| (128 : Int32)).toInt8.toInt32)).set (K.toNatClampNeg + 3) (.int (((XT.ushr (XT.ushr (XT.ushr v (7 : Int32)) (7 : Int32)) (7 : Int32)) &&& (127 : Int32)) ||| (128 : Int32)).toInt8.toInt32)).set (K.toNatClampNeg + 4) (.int (XT.ushr (XT.ushr (XT.ushr (XT.ushr v (7 : Int32)) (7 : Int32)) (7 : Int32)) (7 : Int32)).toInt8.toInt32)) (by decide) (own_rd5 (v := v) (f := f) (j := K.toNatClampNeg) (i := 3) (own_j hK) (by decide)) (own_ok5 (i := (3 : Int32)) (iN := 3) (f := f) hv hb hK (by decide) (by decide)).1 (own_ok5 (i := (3 : Int32)) (iN := 3) (f := f) hv hb hK (by decide) (by decide)).2) ⟨[0], by decide, rfl⟩ rfl pd_ABIIIIB__Z rfl rfl rfl (Nat.le_of_ble_eq_true rfl) (by decide) (by decide) (by decide) (by decide) at_185 ?_
    rintro T253 _ _ ⟨rfl, rfl⟩ W254
    have W255 := W254.re (os' := [(b1, (.array .byte), ((((((List.replicate 12 (Value.int f)).set (K.toNatClampNeg + 0) (.int ((v &&& (127 : Int32)) ||| (128 : Int32)).toInt8.toInt32)).set (K.toNatClampNeg + 1) (.int (((XT.ushr v (7 : Int32)) &&& (127 : Int32)) ||| (128 : Int32)).toInt8.toInt32)).set (K.toNatClampNeg + 2) (.int (((XT.ushr (XT.ushr v (7 : Int32)) (7 : Int32)) &&& (127 : Int32)) ||| (128 : Int32)).toInt8.toInt32)).set (K.toNatClampNeg + 3) (.int (((XT.ushr (XT.ushr (XT.ushr v (7 : Int32)) (7 : Int32)) (7 : Int32)) &&& (127 : Int32)) ||| (128 : Int32)).toInt8.toInt32)).set (K.toNatClampNeg + 4) (.int (XT.ushr (XT.ushr (XT.ushr (XT.ushr v (7 : Int32)) (7 : Int32)) (7 : Int32)) (7 : Int32)).toInt8.toInt32)))]) rfl
    show Go p_ e_ bl_ _ (T253.setTop (mkF m_ 188 #[.val (.int p0), .val (.int p1), .val (.int p2), .val (.int p3), .val (.int v), .val (.int K), .val (.int f), .val (.ref b1), .val (.int (5 : Int32)), .val (.int (((((K + (1 : Int32)) + (1 : Int32)) + (1 : Int32)) + (1 : Int32)) + (1 : Int32))), .unset, .unset, .unset] [.int (1 : Int32)]))
    refine g_ifN (pc := 188) W255 at_188 (by decide) ?_
    refine g_aload (pc := 191) W255 at_191 rfl rfl ?_
    refine g_iconst (pc := 193) (4 : Int32) (by decide) W255 at_193 ?_
    refine g_iload (pc := 194) W255 at_194 rfl ?_
    refine g_iload (pc := 196) W255 at_196 rfl ?_
    refine g_iload (pc := 198) W255 at_198 rfl ?_
    refine g_iload (pc := 200) W255 at_200 rfl ?_
    refine g_static (pc := 202) (Wt := 0) (argsL := [.ref b1, .int (4 : Int32), .int v, .int K, .int (5 : Int32), .int f]) (rest := []) (loc := [(b1, (.array .byte), ((((((List.replicate 12 (Value.int f)).set (K.toNatClampNeg + 0) (.int ((v &&& (127 : Int32)) ||| (128 : Int32)).toInt8.toInt32)).set (K.toNatClampNeg + 1) (.int (((XT.ushr v (7 : Int32)) &&& (127 : Int32)) ||| (128 : Int32)).toInt8.toInt32)).set (K.toNatClampNeg + 2) (.int (((XT.ushr (XT.ushr v (7 : Int32)) (7 : Int32)) &&& (127 : Int32)) ||| (128 : Int32)).toInt8.toInt32)).set (K.toNatClampNeg + 3) (.int (((XT.ushr (XT.ushr (XT.ushr v (7 : Int32)) (7 : Int32)) (7 : Int32)) &&& (127 : Int32)) ||| (128 : Int32)).toInt8.toInt32)).set (K.toNatClampNeg + 4) (.int (XT.ushr (XT.ushr (XT.ushr (XT.ushr v (7 : Int32)) (7 : Int32)) (7 : Int32)) (7 : Int32)).toInt8.toInt32)))]) (rst := []) W255 (hw _ (List.mem_of_getElem? (i := 10) rfl)) (hw _ (List.mem_of_getElem? (i := 11) rfl)) (hw _ (List.mem_of_getElem? (i := 4) rfl)) (hw _ (List.mem_of_getElem? (i := 12) rfl)) (by decide) (c_ok l Z a0 hw b1 (4 : Int32) v K (5 : Int32) f (rd K.toNatClampNeg [((v &&& (127 : Int32)) ||| (128 : Int32)).toInt8.toInt32, (((XT.ushr v (7 : Int32)) &&& (127 : Int32)) ||| (128 : Int32)).toInt8.toInt32, (((XT.ushr (XT.ushr v (7 : Int32)) (7 : Int32)) &&& (127 : Int32)) ||| (128 : Int32)).toInt8.toInt32, (((XT.ushr (XT.ushr (XT.ushr v (7 : Int32)) (7 : Int32)) (7 : Int32)) &&& (127 : Int32)) ||| (128 : Int32)).toInt8.toInt32, (XT.ushr (XT.ushr (XT.ushr (XT.ushr v (7 : Int32)) (7 : Int32)) (7 : Int32)) (7 : Int32)).toInt8.toInt32] f 4) ((((((List.replicate 12 (Value.int f)).set (K.toNatClampNeg + 0) (.int ((v &&& (127 : Int32)) ||| (128 : Int32)).toInt8.toInt32)).set (K.toNatClampNeg + 1) (.int (((XT.ushr v (7 : Int32)) &&& (127 : Int32)) ||| (128 : Int32)).toInt8.toInt32)).set (K.toNatClampNeg + 2) (.int (((XT.ushr (XT.ushr v (7 : Int32)) (7 : Int32)) &&& (127 : Int32)) ||| (128 : Int32)).toInt8.toInt32)).set (K.toNatClampNeg + 3) (.int (((XT.ushr (XT.ushr (XT.ushr v (7 : Int32)) (7 : Int32)) (7 : Int32)) &&& (127 : Int32)) ||| (128 : Int32)).toInt8.toInt32)).set (K.toNatClampNeg + 4) (.int (XT.ushr (XT.ushr (XT.ushr (XT.ushr v (7 : Int32)) (7 : Int32)) (7 : Int32)) (7 : Int32)).toInt8.toInt32)) (by decide) (own_rd5 (v := v) (f := f) (j := K.toNatClampNeg) (i := 4) (own_j hK) (by decide)) (own_ok5 (i := (4 : Int32)) (iN := 4) (f := f) hv hb hK (by decide) (by decide)).1 (own_ok5 (i := (4 : Int32)) (iN := 4) (f := f) hv hb hK (by decide) (by decide)).2) ⟨[0], by decide, rfl⟩ rfl pd_ABIIIIB__Z rfl rfl rfl (Nat.le_of_ble_eq_true rfl) (by decide) (by decide) (by decide) (by decide) at_202 ?_
    rintro T256 _ _ ⟨rfl, rfl⟩ W257
    have W258 := W257.re (os' := [(b1, (.array .byte), ((((((List.replicate 12 (Value.int f)).set (K.toNatClampNeg + 0) (.int ((v &&& (127 : Int32)) ||| (128 : Int32)).toInt8.toInt32)).set (K.toNatClampNeg + 1) (.int (((XT.ushr v (7 : Int32)) &&& (127 : Int32)) ||| (128 : Int32)).toInt8.toInt32)).set (K.toNatClampNeg + 2) (.int (((XT.ushr (XT.ushr v (7 : Int32)) (7 : Int32)) &&& (127 : Int32)) ||| (128 : Int32)).toInt8.toInt32)).set (K.toNatClampNeg + 3) (.int (((XT.ushr (XT.ushr (XT.ushr v (7 : Int32)) (7 : Int32)) (7 : Int32)) &&& (127 : Int32)) ||| (128 : Int32)).toInt8.toInt32)).set (K.toNatClampNeg + 4) (.int (XT.ushr (XT.ushr (XT.ushr (XT.ushr v (7 : Int32)) (7 : Int32)) (7 : Int32)) (7 : Int32)).toInt8.toInt32)))]) rfl
    show Go p_ e_ bl_ _ (T256.setTop (mkF m_ 205 #[.val (.int p0), .val (.int p1), .val (.int p2), .val (.int p3), .val (.int v), .val (.int K), .val (.int f), .val (.ref b1), .val (.int (5 : Int32)), .val (.int (((((K + (1 : Int32)) + (1 : Int32)) + (1 : Int32)) + (1 : Int32)) + (1 : Int32))), .unset, .unset, .unset] [.int (1 : Int32)]))
    refine g_ifN (pc := 205) W258 at_205 (by decide) ?_
    refine g_aload (pc := 208) W258 at_208 rfl rfl ?_
    refine g_iconst (pc := 210) (5 : Int32) (by decide) W258 at_210 ?_
    refine g_iload (pc := 211) W258 at_211 rfl ?_
    refine g_iload (pc := 213) W258 at_213 rfl ?_
    refine g_iload (pc := 215) W258 at_215 rfl ?_
    refine g_iload (pc := 217) W258 at_217 rfl ?_
    refine g_static (pc := 219) (Wt := 0) (argsL := [.ref b1, .int (5 : Int32), .int v, .int K, .int (5 : Int32), .int f]) (rest := []) (loc := [(b1, (.array .byte), ((((((List.replicate 12 (Value.int f)).set (K.toNatClampNeg + 0) (.int ((v &&& (127 : Int32)) ||| (128 : Int32)).toInt8.toInt32)).set (K.toNatClampNeg + 1) (.int (((XT.ushr v (7 : Int32)) &&& (127 : Int32)) ||| (128 : Int32)).toInt8.toInt32)).set (K.toNatClampNeg + 2) (.int (((XT.ushr (XT.ushr v (7 : Int32)) (7 : Int32)) &&& (127 : Int32)) ||| (128 : Int32)).toInt8.toInt32)).set (K.toNatClampNeg + 3) (.int (((XT.ushr (XT.ushr (XT.ushr v (7 : Int32)) (7 : Int32)) (7 : Int32)) &&& (127 : Int32)) ||| (128 : Int32)).toInt8.toInt32)).set (K.toNatClampNeg + 4) (.int (XT.ushr (XT.ushr (XT.ushr (XT.ushr v (7 : Int32)) (7 : Int32)) (7 : Int32)) (7 : Int32)).toInt8.toInt32)))]) (rst := []) W258 (hw _ (List.mem_of_getElem? (i := 10) rfl)) (hw _ (List.mem_of_getElem? (i := 11) rfl)) (hw _ (List.mem_of_getElem? (i := 4) rfl)) (hw _ (List.mem_of_getElem? (i := 12) rfl)) (by decide) (c_ok l Z a0 hw b1 (5 : Int32) v K (5 : Int32) f (rd K.toNatClampNeg [((v &&& (127 : Int32)) ||| (128 : Int32)).toInt8.toInt32, (((XT.ushr v (7 : Int32)) &&& (127 : Int32)) ||| (128 : Int32)).toInt8.toInt32, (((XT.ushr (XT.ushr v (7 : Int32)) (7 : Int32)) &&& (127 : Int32)) ||| (128 : Int32)).toInt8.toInt32, (((XT.ushr (XT.ushr (XT.ushr v (7 : Int32)) (7 : Int32)) (7 : Int32)) &&& (127 : Int32)) ||| (128 : Int32)).toInt8.toInt32, (XT.ushr (XT.ushr (XT.ushr (XT.ushr v (7 : Int32)) (7 : Int32)) (7 : Int32)) (7 : Int32)).toInt8.toInt32] f 5) ((((((List.replicate 12 (Value.int f)).set (K.toNatClampNeg + 0) (.int ((v &&& (127 : Int32)) ||| (128 : Int32)).toInt8.toInt32)).set (K.toNatClampNeg + 1) (.int (((XT.ushr v (7 : Int32)) &&& (127 : Int32)) ||| (128 : Int32)).toInt8.toInt32)).set (K.toNatClampNeg + 2) (.int (((XT.ushr (XT.ushr v (7 : Int32)) (7 : Int32)) &&& (127 : Int32)) ||| (128 : Int32)).toInt8.toInt32)).set (K.toNatClampNeg + 3) (.int (((XT.ushr (XT.ushr (XT.ushr v (7 : Int32)) (7 : Int32)) (7 : Int32)) &&& (127 : Int32)) ||| (128 : Int32)).toInt8.toInt32)).set (K.toNatClampNeg + 4) (.int (XT.ushr (XT.ushr (XT.ushr (XT.ushr v (7 : Int32)) (7 : Int32)) (7 : Int32)) (7 : Int32)).toInt8.toInt32)) (by decide) (own_rd5 (v := v) (f := f) (j := K.toNatClampNeg) (i := 5) (own_j hK) (by decide)) (own_ok5 (i := (5 : Int32)) (iN := 5) (f := f) hv hb hK (by decide) (by decide)).1 (own_ok5 (i := (5 : Int32)) (iN := 5) (f := f) hv hb hK (by decide) (by decide)).2) ⟨[0], by decide, rfl⟩ rfl pd_ABIIIIB__Z rfl rfl rfl (Nat.le_of_ble_eq_true rfl) (by decide) (by decide) (by decide) (by decide) at_219 ?_
    rintro T259 _ _ ⟨rfl, rfl⟩ W260
    have W261 := W260.re (os' := [(b1, (.array .byte), ((((((List.replicate 12 (Value.int f)).set (K.toNatClampNeg + 0) (.int ((v &&& (127 : Int32)) ||| (128 : Int32)).toInt8.toInt32)).set (K.toNatClampNeg + 1) (.int (((XT.ushr v (7 : Int32)) &&& (127 : Int32)) ||| (128 : Int32)).toInt8.toInt32)).set (K.toNatClampNeg + 2) (.int (((XT.ushr (XT.ushr v (7 : Int32)) (7 : Int32)) &&& (127 : Int32)) ||| (128 : Int32)).toInt8.toInt32)).set (K.toNatClampNeg + 3) (.int (((XT.ushr (XT.ushr (XT.ushr v (7 : Int32)) (7 : Int32)) (7 : Int32)) &&& (127 : Int32)) ||| (128 : Int32)).toInt8.toInt32)).set (K.toNatClampNeg + 4) (.int (XT.ushr (XT.ushr (XT.ushr (XT.ushr v (7 : Int32)) (7 : Int32)) (7 : Int32)) (7 : Int32)).toInt8.toInt32)))]) rfl
    show Go p_ e_ bl_ _ (T259.setTop (mkF m_ 222 #[.val (.int p0), .val (.int p1), .val (.int p2), .val (.int p3), .val (.int v), .val (.int K), .val (.int f), .val (.ref b1), .val (.int (5 : Int32)), .val (.int (((((K + (1 : Int32)) + (1 : Int32)) + (1 : Int32)) + (1 : Int32)) + (1 : Int32))), .unset, .unset, .unset] [.int (1 : Int32)]))
    refine g_ifN (pc := 222) W261 at_222 (by decide) ?_
    refine g_aload (pc := 225) W261 at_225 rfl rfl ?_
    refine g_bipush (pc := 227) (6 : Int32) (by decide) W261 at_227 ?_
    refine g_iload (pc := 229) W261 at_229 rfl ?_
    refine g_iload (pc := 231) W261 at_231 rfl ?_
    refine g_iload (pc := 233) W261 at_233 rfl ?_
    refine g_iload (pc := 235) W261 at_235 rfl ?_
    refine g_static (pc := 237) (Wt := 0) (argsL := [.ref b1, .int (6 : Int32), .int v, .int K, .int (5 : Int32), .int f]) (rest := []) (loc := [(b1, (.array .byte), ((((((List.replicate 12 (Value.int f)).set (K.toNatClampNeg + 0) (.int ((v &&& (127 : Int32)) ||| (128 : Int32)).toInt8.toInt32)).set (K.toNatClampNeg + 1) (.int (((XT.ushr v (7 : Int32)) &&& (127 : Int32)) ||| (128 : Int32)).toInt8.toInt32)).set (K.toNatClampNeg + 2) (.int (((XT.ushr (XT.ushr v (7 : Int32)) (7 : Int32)) &&& (127 : Int32)) ||| (128 : Int32)).toInt8.toInt32)).set (K.toNatClampNeg + 3) (.int (((XT.ushr (XT.ushr (XT.ushr v (7 : Int32)) (7 : Int32)) (7 : Int32)) &&& (127 : Int32)) ||| (128 : Int32)).toInt8.toInt32)).set (K.toNatClampNeg + 4) (.int (XT.ushr (XT.ushr (XT.ushr (XT.ushr v (7 : Int32)) (7 : Int32)) (7 : Int32)) (7 : Int32)).toInt8.toInt32)))]) (rst := []) W261 (hw _ (List.mem_of_getElem? (i := 10) rfl)) (hw _ (List.mem_of_getElem? (i := 11) rfl)) (hw _ (List.mem_of_getElem? (i := 4) rfl)) (hw _ (List.mem_of_getElem? (i := 12) rfl)) (by decide) (c_ok l Z a0 hw b1 (6 : Int32) v K (5 : Int32) f (rd K.toNatClampNeg [((v &&& (127 : Int32)) ||| (128 : Int32)).toInt8.toInt32, (((XT.ushr v (7 : Int32)) &&& (127 : Int32)) ||| (128 : Int32)).toInt8.toInt32, (((XT.ushr (XT.ushr v (7 : Int32)) (7 : Int32)) &&& (127 : Int32)) ||| (128 : Int32)).toInt8.toInt32, (((XT.ushr (XT.ushr (XT.ushr v (7 : Int32)) (7 : Int32)) (7 : Int32)) &&& (127 : Int32)) ||| (128 : Int32)).toInt8.toInt32, (XT.ushr (XT.ushr (XT.ushr (XT.ushr v (7 : Int32)) (7 : Int32)) (7 : Int32)) (7 : Int32)).toInt8.toInt32] f 6) ((((((List.replicate 12 (Value.int f)).set (K.toNatClampNeg + 0) (.int ((v &&& (127 : Int32)) ||| (128 : Int32)).toInt8.toInt32)).set (K.toNatClampNeg + 1) (.int (((XT.ushr v (7 : Int32)) &&& (127 : Int32)) ||| (128 : Int32)).toInt8.toInt32)).set (K.toNatClampNeg + 2) (.int (((XT.ushr (XT.ushr v (7 : Int32)) (7 : Int32)) &&& (127 : Int32)) ||| (128 : Int32)).toInt8.toInt32)).set (K.toNatClampNeg + 3) (.int (((XT.ushr (XT.ushr (XT.ushr v (7 : Int32)) (7 : Int32)) (7 : Int32)) &&& (127 : Int32)) ||| (128 : Int32)).toInt8.toInt32)).set (K.toNatClampNeg + 4) (.int (XT.ushr (XT.ushr (XT.ushr (XT.ushr v (7 : Int32)) (7 : Int32)) (7 : Int32)) (7 : Int32)).toInt8.toInt32)) (by decide) (own_rd5 (v := v) (f := f) (j := K.toNatClampNeg) (i := 6) (own_j hK) (by decide)) (own_ok5 (i := (6 : Int32)) (iN := 6) (f := f) hv hb hK (by decide) (by decide)).1 (own_ok5 (i := (6 : Int32)) (iN := 6) (f := f) hv hb hK (by decide) (by decide)).2) ⟨[0], by decide, rfl⟩ rfl pd_ABIIIIB__Z rfl rfl rfl (Nat.le_of_ble_eq_true rfl) (by decide) (by decide) (by decide) (by decide) at_237 ?_
    rintro T262 _ _ ⟨rfl, rfl⟩ W263
    have W264 := W263.re (os' := [(b1, (.array .byte), ((((((List.replicate 12 (Value.int f)).set (K.toNatClampNeg + 0) (.int ((v &&& (127 : Int32)) ||| (128 : Int32)).toInt8.toInt32)).set (K.toNatClampNeg + 1) (.int (((XT.ushr v (7 : Int32)) &&& (127 : Int32)) ||| (128 : Int32)).toInt8.toInt32)).set (K.toNatClampNeg + 2) (.int (((XT.ushr (XT.ushr v (7 : Int32)) (7 : Int32)) &&& (127 : Int32)) ||| (128 : Int32)).toInt8.toInt32)).set (K.toNatClampNeg + 3) (.int (((XT.ushr (XT.ushr (XT.ushr v (7 : Int32)) (7 : Int32)) (7 : Int32)) &&& (127 : Int32)) ||| (128 : Int32)).toInt8.toInt32)).set (K.toNatClampNeg + 4) (.int (XT.ushr (XT.ushr (XT.ushr (XT.ushr v (7 : Int32)) (7 : Int32)) (7 : Int32)) (7 : Int32)).toInt8.toInt32)))]) rfl
    show Go p_ e_ bl_ _ (T262.setTop (mkF m_ 240 #[.val (.int p0), .val (.int p1), .val (.int p2), .val (.int p3), .val (.int v), .val (.int K), .val (.int f), .val (.ref b1), .val (.int (5 : Int32)), .val (.int (((((K + (1 : Int32)) + (1 : Int32)) + (1 : Int32)) + (1 : Int32)) + (1 : Int32))), .unset, .unset, .unset] [.int (1 : Int32)]))
    refine g_ifN (pc := 240) W264 at_240 (by decide) ?_
    refine g_aload (pc := 243) W264 at_243 rfl rfl ?_
    refine g_bipush (pc := 245) (7 : Int32) (by decide) W264 at_245 ?_
    refine g_iload (pc := 247) W264 at_247 rfl ?_
    refine g_iload (pc := 249) W264 at_249 rfl ?_
    refine g_iload (pc := 251) W264 at_251 rfl ?_
    refine g_iload (pc := 253) W264 at_253 rfl ?_
    refine g_static (pc := 255) (Wt := 0) (argsL := [.ref b1, .int (7 : Int32), .int v, .int K, .int (5 : Int32), .int f]) (rest := []) (loc := [(b1, (.array .byte), ((((((List.replicate 12 (Value.int f)).set (K.toNatClampNeg + 0) (.int ((v &&& (127 : Int32)) ||| (128 : Int32)).toInt8.toInt32)).set (K.toNatClampNeg + 1) (.int (((XT.ushr v (7 : Int32)) &&& (127 : Int32)) ||| (128 : Int32)).toInt8.toInt32)).set (K.toNatClampNeg + 2) (.int (((XT.ushr (XT.ushr v (7 : Int32)) (7 : Int32)) &&& (127 : Int32)) ||| (128 : Int32)).toInt8.toInt32)).set (K.toNatClampNeg + 3) (.int (((XT.ushr (XT.ushr (XT.ushr v (7 : Int32)) (7 : Int32)) (7 : Int32)) &&& (127 : Int32)) ||| (128 : Int32)).toInt8.toInt32)).set (K.toNatClampNeg + 4) (.int (XT.ushr (XT.ushr (XT.ushr (XT.ushr v (7 : Int32)) (7 : Int32)) (7 : Int32)) (7 : Int32)).toInt8.toInt32)))]) (rst := []) W264 (hw _ (List.mem_of_getElem? (i := 10) rfl)) (hw _ (List.mem_of_getElem? (i := 11) rfl)) (hw _ (List.mem_of_getElem? (i := 4) rfl)) (hw _ (List.mem_of_getElem? (i := 12) rfl)) (by decide) (c_ok l Z a0 hw b1 (7 : Int32) v K (5 : Int32) f (rd K.toNatClampNeg [((v &&& (127 : Int32)) ||| (128 : Int32)).toInt8.toInt32, (((XT.ushr v (7 : Int32)) &&& (127 : Int32)) ||| (128 : Int32)).toInt8.toInt32, (((XT.ushr (XT.ushr v (7 : Int32)) (7 : Int32)) &&& (127 : Int32)) ||| (128 : Int32)).toInt8.toInt32, (((XT.ushr (XT.ushr (XT.ushr v (7 : Int32)) (7 : Int32)) (7 : Int32)) &&& (127 : Int32)) ||| (128 : Int32)).toInt8.toInt32, (XT.ushr (XT.ushr (XT.ushr (XT.ushr v (7 : Int32)) (7 : Int32)) (7 : Int32)) (7 : Int32)).toInt8.toInt32] f 7) ((((((List.replicate 12 (Value.int f)).set (K.toNatClampNeg + 0) (.int ((v &&& (127 : Int32)) ||| (128 : Int32)).toInt8.toInt32)).set (K.toNatClampNeg + 1) (.int (((XT.ushr v (7 : Int32)) &&& (127 : Int32)) ||| (128 : Int32)).toInt8.toInt32)).set (K.toNatClampNeg + 2) (.int (((XT.ushr (XT.ushr v (7 : Int32)) (7 : Int32)) &&& (127 : Int32)) ||| (128 : Int32)).toInt8.toInt32)).set (K.toNatClampNeg + 3) (.int (((XT.ushr (XT.ushr (XT.ushr v (7 : Int32)) (7 : Int32)) (7 : Int32)) &&& (127 : Int32)) ||| (128 : Int32)).toInt8.toInt32)).set (K.toNatClampNeg + 4) (.int (XT.ushr (XT.ushr (XT.ushr (XT.ushr v (7 : Int32)) (7 : Int32)) (7 : Int32)) (7 : Int32)).toInt8.toInt32)) (by decide) (own_rd5 (v := v) (f := f) (j := K.toNatClampNeg) (i := 7) (own_j hK) (by decide)) (own_ok5 (i := (7 : Int32)) (iN := 7) (f := f) hv hb hK (by decide) (by decide)).1 (own_ok5 (i := (7 : Int32)) (iN := 7) (f := f) hv hb hK (by decide) (by decide)).2) ⟨[0], by decide, rfl⟩ rfl pd_ABIIIIB__Z rfl rfl rfl (Nat.le_of_ble_eq_true rfl) (by decide) (by decide) (by decide) (by decide) at_255 ?_
    rintro T265 _ _ ⟨rfl, rfl⟩ W266
    have W267 := W266.re (os' := [(b1, (.array .byte), ((((((List.replicate 12 (Value.int f)).set (K.toNatClampNeg + 0) (.int ((v &&& (127 : Int32)) ||| (128 : Int32)).toInt8.toInt32)).set (K.toNatClampNeg + 1) (.int (((XT.ushr v (7 : Int32)) &&& (127 : Int32)) ||| (128 : Int32)).toInt8.toInt32)).set (K.toNatClampNeg + 2) (.int (((XT.ushr (XT.ushr v (7 : Int32)) (7 : Int32)) &&& (127 : Int32)) ||| (128 : Int32)).toInt8.toInt32)).set (K.toNatClampNeg + 3) (.int (((XT.ushr (XT.ushr (XT.ushr v (7 : Int32)) (7 : Int32)) (7 : Int32)) &&& (127 : Int32)) ||| (128 : Int32)).toInt8.toInt32)).set (K.toNatClampNeg + 4) (.int (XT.ushr (XT.ushr (XT.ushr (XT.ushr v (7 : Int32)) (7 : Int32)) (7 : Int32)) (7 : Int32)).toInt8.toInt32)))]) rfl
    show Go p_ e_ bl_ _ (T265.setTop (mkF m_ 258 #[.val (.int p0), .val (.int p1), .val (.int p2), .val (.int p3), .val (.int v), .val (.int K), .val (.int f), .val (.ref b1), .val (.int (5 : Int32)), .val (.int (((((K + (1 : Int32)) + (1 : Int32)) + (1 : Int32)) + (1 : Int32)) + (1 : Int32))), .unset, .unset, .unset] [.int (1 : Int32)]))
    refine g_ifN (pc := 258) W267 at_258 (by decide) ?_
    refine g_aload (pc := 261) W267 at_261 rfl rfl ?_
    refine g_bipush (pc := 263) (8 : Int32) (by decide) W267 at_263 ?_
    refine g_iload (pc := 265) W267 at_265 rfl ?_
    refine g_iload (pc := 267) W267 at_267 rfl ?_
    refine g_iload (pc := 269) W267 at_269 rfl ?_
    refine g_iload (pc := 271) W267 at_271 rfl ?_
    refine g_static (pc := 273) (Wt := 0) (argsL := [.ref b1, .int (8 : Int32), .int v, .int K, .int (5 : Int32), .int f]) (rest := []) (loc := [(b1, (.array .byte), ((((((List.replicate 12 (Value.int f)).set (K.toNatClampNeg + 0) (.int ((v &&& (127 : Int32)) ||| (128 : Int32)).toInt8.toInt32)).set (K.toNatClampNeg + 1) (.int (((XT.ushr v (7 : Int32)) &&& (127 : Int32)) ||| (128 : Int32)).toInt8.toInt32)).set (K.toNatClampNeg + 2) (.int (((XT.ushr (XT.ushr v (7 : Int32)) (7 : Int32)) &&& (127 : Int32)) ||| (128 : Int32)).toInt8.toInt32)).set (K.toNatClampNeg + 3) (.int (((XT.ushr (XT.ushr (XT.ushr v (7 : Int32)) (7 : Int32)) (7 : Int32)) &&& (127 : Int32)) ||| (128 : Int32)).toInt8.toInt32)).set (K.toNatClampNeg + 4) (.int (XT.ushr (XT.ushr (XT.ushr (XT.ushr v (7 : Int32)) (7 : Int32)) (7 : Int32)) (7 : Int32)).toInt8.toInt32)))]) (rst := []) W267 (hw _ (List.mem_of_getElem? (i := 10) rfl)) (hw _ (List.mem_of_getElem? (i := 11) rfl)) (hw _ (List.mem_of_getElem? (i := 4) rfl)) (hw _ (List.mem_of_getElem? (i := 12) rfl)) (by decide) (c_ok l Z a0 hw b1 (8 : Int32) v K (5 : Int32) f (rd K.toNatClampNeg [((v &&& (127 : Int32)) ||| (128 : Int32)).toInt8.toInt32, (((XT.ushr v (7 : Int32)) &&& (127 : Int32)) ||| (128 : Int32)).toInt8.toInt32, (((XT.ushr (XT.ushr v (7 : Int32)) (7 : Int32)) &&& (127 : Int32)) ||| (128 : Int32)).toInt8.toInt32, (((XT.ushr (XT.ushr (XT.ushr v (7 : Int32)) (7 : Int32)) (7 : Int32)) &&& (127 : Int32)) ||| (128 : Int32)).toInt8.toInt32, (XT.ushr (XT.ushr (XT.ushr (XT.ushr v (7 : Int32)) (7 : Int32)) (7 : Int32)) (7 : Int32)).toInt8.toInt32] f 8) ((((((List.replicate 12 (Value.int f)).set (K.toNatClampNeg + 0) (.int ((v &&& (127 : Int32)) ||| (128 : Int32)).toInt8.toInt32)).set (K.toNatClampNeg + 1) (.int (((XT.ushr v (7 : Int32)) &&& (127 : Int32)) ||| (128 : Int32)).toInt8.toInt32)).set (K.toNatClampNeg + 2) (.int (((XT.ushr (XT.ushr v (7 : Int32)) (7 : Int32)) &&& (127 : Int32)) ||| (128 : Int32)).toInt8.toInt32)).set (K.toNatClampNeg + 3) (.int (((XT.ushr (XT.ushr (XT.ushr v (7 : Int32)) (7 : Int32)) (7 : Int32)) &&& (127 : Int32)) ||| (128 : Int32)).toInt8.toInt32)).set (K.toNatClampNeg + 4) (.int (XT.ushr (XT.ushr (XT.ushr (XT.ushr v (7 : Int32)) (7 : Int32)) (7 : Int32)) (7 : Int32)).toInt8.toInt32)) (by decide) (own_rd5 (v := v) (f := f) (j := K.toNatClampNeg) (i := 8) (own_j hK) (by decide)) (own_ok5 (i := (8 : Int32)) (iN := 8) (f := f) hv hb hK (by decide) (by decide)).1 (own_ok5 (i := (8 : Int32)) (iN := 8) (f := f) hv hb hK (by decide) (by decide)).2) ⟨[0], by decide, rfl⟩ rfl pd_ABIIIIB__Z rfl rfl rfl (Nat.le_of_ble_eq_true rfl) (by decide) (by decide) (by decide) (by decide) at_273 ?_
    rintro T268 _ _ ⟨rfl, rfl⟩ W269
    have W270 := W269.re (os' := [(b1, (.array .byte), ((((((List.replicate 12 (Value.int f)).set (K.toNatClampNeg + 0) (.int ((v &&& (127 : Int32)) ||| (128 : Int32)).toInt8.toInt32)).set (K.toNatClampNeg + 1) (.int (((XT.ushr v (7 : Int32)) &&& (127 : Int32)) ||| (128 : Int32)).toInt8.toInt32)).set (K.toNatClampNeg + 2) (.int (((XT.ushr (XT.ushr v (7 : Int32)) (7 : Int32)) &&& (127 : Int32)) ||| (128 : Int32)).toInt8.toInt32)).set (K.toNatClampNeg + 3) (.int (((XT.ushr (XT.ushr (XT.ushr v (7 : Int32)) (7 : Int32)) (7 : Int32)) &&& (127 : Int32)) ||| (128 : Int32)).toInt8.toInt32)).set (K.toNatClampNeg + 4) (.int (XT.ushr (XT.ushr (XT.ushr (XT.ushr v (7 : Int32)) (7 : Int32)) (7 : Int32)) (7 : Int32)).toInt8.toInt32)))]) rfl
    show Go p_ e_ bl_ _ (T268.setTop (mkF m_ 276 #[.val (.int p0), .val (.int p1), .val (.int p2), .val (.int p3), .val (.int v), .val (.int K), .val (.int f), .val (.ref b1), .val (.int (5 : Int32)), .val (.int (((((K + (1 : Int32)) + (1 : Int32)) + (1 : Int32)) + (1 : Int32)) + (1 : Int32))), .unset, .unset, .unset] [.int (1 : Int32)]))
    refine g_ifN (pc := 276) W270 at_276 (by decide) ?_
    refine g_aload (pc := 279) W270 at_279 rfl rfl ?_
    refine g_bipush (pc := 281) (9 : Int32) (by decide) W270 at_281 ?_
    refine g_iload (pc := 283) W270 at_283 rfl ?_
    refine g_iload (pc := 285) W270 at_285 rfl ?_
    refine g_iload (pc := 287) W270 at_287 rfl ?_
    refine g_iload (pc := 289) W270 at_289 rfl ?_
    refine g_static (pc := 291) (Wt := 0) (argsL := [.ref b1, .int (9 : Int32), .int v, .int K, .int (5 : Int32), .int f]) (rest := []) (loc := [(b1, (.array .byte), ((((((List.replicate 12 (Value.int f)).set (K.toNatClampNeg + 0) (.int ((v &&& (127 : Int32)) ||| (128 : Int32)).toInt8.toInt32)).set (K.toNatClampNeg + 1) (.int (((XT.ushr v (7 : Int32)) &&& (127 : Int32)) ||| (128 : Int32)).toInt8.toInt32)).set (K.toNatClampNeg + 2) (.int (((XT.ushr (XT.ushr v (7 : Int32)) (7 : Int32)) &&& (127 : Int32)) ||| (128 : Int32)).toInt8.toInt32)).set (K.toNatClampNeg + 3) (.int (((XT.ushr (XT.ushr (XT.ushr v (7 : Int32)) (7 : Int32)) (7 : Int32)) &&& (127 : Int32)) ||| (128 : Int32)).toInt8.toInt32)).set (K.toNatClampNeg + 4) (.int (XT.ushr (XT.ushr (XT.ushr (XT.ushr v (7 : Int32)) (7 : Int32)) (7 : Int32)) (7 : Int32)).toInt8.toInt32)))]) (rst := []) W270 (hw _ (List.mem_of_getElem? (i := 10) rfl)) (hw _ (List.mem_of_getElem? (i := 11) rfl)) (hw _ (List.mem_of_getElem? (i := 4) rfl)) (hw _ (List.mem_of_getElem? (i := 12) rfl)) (by decide) (c_ok l Z a0 hw b1 (9 : Int32) v K (5 : Int32) f (rd K.toNatClampNeg [((v &&& (127 : Int32)) ||| (128 : Int32)).toInt8.toInt32, (((XT.ushr v (7 : Int32)) &&& (127 : Int32)) ||| (128 : Int32)).toInt8.toInt32, (((XT.ushr (XT.ushr v (7 : Int32)) (7 : Int32)) &&& (127 : Int32)) ||| (128 : Int32)).toInt8.toInt32, (((XT.ushr (XT.ushr (XT.ushr v (7 : Int32)) (7 : Int32)) (7 : Int32)) &&& (127 : Int32)) ||| (128 : Int32)).toInt8.toInt32, (XT.ushr (XT.ushr (XT.ushr (XT.ushr v (7 : Int32)) (7 : Int32)) (7 : Int32)) (7 : Int32)).toInt8.toInt32] f 9) ((((((List.replicate 12 (Value.int f)).set (K.toNatClampNeg + 0) (.int ((v &&& (127 : Int32)) ||| (128 : Int32)).toInt8.toInt32)).set (K.toNatClampNeg + 1) (.int (((XT.ushr v (7 : Int32)) &&& (127 : Int32)) ||| (128 : Int32)).toInt8.toInt32)).set (K.toNatClampNeg + 2) (.int (((XT.ushr (XT.ushr v (7 : Int32)) (7 : Int32)) &&& (127 : Int32)) ||| (128 : Int32)).toInt8.toInt32)).set (K.toNatClampNeg + 3) (.int (((XT.ushr (XT.ushr (XT.ushr v (7 : Int32)) (7 : Int32)) (7 : Int32)) &&& (127 : Int32)) ||| (128 : Int32)).toInt8.toInt32)).set (K.toNatClampNeg + 4) (.int (XT.ushr (XT.ushr (XT.ushr (XT.ushr v (7 : Int32)) (7 : Int32)) (7 : Int32)) (7 : Int32)).toInt8.toInt32)) (by decide) (own_rd5 (v := v) (f := f) (j := K.toNatClampNeg) (i := 9) (own_j hK) (by decide)) (own_ok5 (i := (9 : Int32)) (iN := 9) (f := f) hv hb hK (by decide) (by decide)).1 (own_ok5 (i := (9 : Int32)) (iN := 9) (f := f) hv hb hK (by decide) (by decide)).2) ⟨[0], by decide, rfl⟩ rfl pd_ABIIIIB__Z rfl rfl rfl (Nat.le_of_ble_eq_true rfl) (by decide) (by decide) (by decide) (by decide) at_291 ?_
    rintro T271 _ _ ⟨rfl, rfl⟩ W272
    have W273 := W272.re (os' := [(b1, (.array .byte), ((((((List.replicate 12 (Value.int f)).set (K.toNatClampNeg + 0) (.int ((v &&& (127 : Int32)) ||| (128 : Int32)).toInt8.toInt32)).set (K.toNatClampNeg + 1) (.int (((XT.ushr v (7 : Int32)) &&& (127 : Int32)) ||| (128 : Int32)).toInt8.toInt32)).set (K.toNatClampNeg + 2) (.int (((XT.ushr (XT.ushr v (7 : Int32)) (7 : Int32)) &&& (127 : Int32)) ||| (128 : Int32)).toInt8.toInt32)).set (K.toNatClampNeg + 3) (.int (((XT.ushr (XT.ushr (XT.ushr v (7 : Int32)) (7 : Int32)) (7 : Int32)) &&& (127 : Int32)) ||| (128 : Int32)).toInt8.toInt32)).set (K.toNatClampNeg + 4) (.int (XT.ushr (XT.ushr (XT.ushr (XT.ushr v (7 : Int32)) (7 : Int32)) (7 : Int32)) (7 : Int32)).toInt8.toInt32)))]) rfl
    show Go p_ e_ bl_ _ (T271.setTop (mkF m_ 294 #[.val (.int p0), .val (.int p1), .val (.int p2), .val (.int p3), .val (.int v), .val (.int K), .val (.int f), .val (.ref b1), .val (.int (5 : Int32)), .val (.int (((((K + (1 : Int32)) + (1 : Int32)) + (1 : Int32)) + (1 : Int32)) + (1 : Int32))), .unset, .unset, .unset] [.int (1 : Int32)]))
    refine g_ifN (pc := 294) W273 at_294 (by decide) ?_
    refine g_aload (pc := 297) W273 at_297 rfl rfl ?_
    refine g_bipush (pc := 299) (10 : Int32) (by decide) W273 at_299 ?_
    refine g_iload (pc := 301) W273 at_301 rfl ?_
    refine g_iload (pc := 303) W273 at_303 rfl ?_
    refine g_iload (pc := 305) W273 at_305 rfl ?_
    refine g_iload (pc := 307) W273 at_307 rfl ?_
    refine g_static (pc := 309) (Wt := 0) (argsL := [.ref b1, .int (10 : Int32), .int v, .int K, .int (5 : Int32), .int f]) (rest := []) (loc := [(b1, (.array .byte), ((((((List.replicate 12 (Value.int f)).set (K.toNatClampNeg + 0) (.int ((v &&& (127 : Int32)) ||| (128 : Int32)).toInt8.toInt32)).set (K.toNatClampNeg + 1) (.int (((XT.ushr v (7 : Int32)) &&& (127 : Int32)) ||| (128 : Int32)).toInt8.toInt32)).set (K.toNatClampNeg + 2) (.int (((XT.ushr (XT.ushr v (7 : Int32)) (7 : Int32)) &&& (127 : Int32)) ||| (128 : Int32)).toInt8.toInt32)).set (K.toNatClampNeg + 3) (.int (((XT.ushr (XT.ushr (XT.ushr v (7 : Int32)) (7 : Int32)) (7 : Int32)) &&& (127 : Int32)) ||| (128 : Int32)).toInt8.toInt32)).set (K.toNatClampNeg + 4) (.int (XT.ushr (XT.ushr (XT.ushr (XT.ushr v (7 : Int32)) (7 : Int32)) (7 : Int32)) (7 : Int32)).toInt8.toInt32)))]) (rst := []) W273 (hw _ (List.mem_of_getElem? (i := 10) rfl)) (hw _ (List.mem_of_getElem? (i := 11) rfl)) (hw _ (List.mem_of_getElem? (i := 4) rfl)) (hw _ (List.mem_of_getElem? (i := 12) rfl)) (by decide) (c_ok l Z a0 hw b1 (10 : Int32) v K (5 : Int32) f (rd K.toNatClampNeg [((v &&& (127 : Int32)) ||| (128 : Int32)).toInt8.toInt32, (((XT.ushr v (7 : Int32)) &&& (127 : Int32)) ||| (128 : Int32)).toInt8.toInt32, (((XT.ushr (XT.ushr v (7 : Int32)) (7 : Int32)) &&& (127 : Int32)) ||| (128 : Int32)).toInt8.toInt32, (((XT.ushr (XT.ushr (XT.ushr v (7 : Int32)) (7 : Int32)) (7 : Int32)) &&& (127 : Int32)) ||| (128 : Int32)).toInt8.toInt32, (XT.ushr (XT.ushr (XT.ushr (XT.ushr v (7 : Int32)) (7 : Int32)) (7 : Int32)) (7 : Int32)).toInt8.toInt32] f 10) ((((((List.replicate 12 (Value.int f)).set (K.toNatClampNeg + 0) (.int ((v &&& (127 : Int32)) ||| (128 : Int32)).toInt8.toInt32)).set (K.toNatClampNeg + 1) (.int (((XT.ushr v (7 : Int32)) &&& (127 : Int32)) ||| (128 : Int32)).toInt8.toInt32)).set (K.toNatClampNeg + 2) (.int (((XT.ushr (XT.ushr v (7 : Int32)) (7 : Int32)) &&& (127 : Int32)) ||| (128 : Int32)).toInt8.toInt32)).set (K.toNatClampNeg + 3) (.int (((XT.ushr (XT.ushr (XT.ushr v (7 : Int32)) (7 : Int32)) (7 : Int32)) &&& (127 : Int32)) ||| (128 : Int32)).toInt8.toInt32)).set (K.toNatClampNeg + 4) (.int (XT.ushr (XT.ushr (XT.ushr (XT.ushr v (7 : Int32)) (7 : Int32)) (7 : Int32)) (7 : Int32)).toInt8.toInt32)) (by decide) (own_rd5 (v := v) (f := f) (j := K.toNatClampNeg) (i := 10) (own_j hK) (by decide)) (own_ok5 (i := (10 : Int32)) (iN := 10) (f := f) hv hb hK (by decide) (by decide)).1 (own_ok5 (i := (10 : Int32)) (iN := 10) (f := f) hv hb hK (by decide) (by decide)).2) ⟨[0], by decide, rfl⟩ rfl pd_ABIIIIB__Z rfl rfl rfl (Nat.le_of_ble_eq_true rfl) (by decide) (by decide) (by decide) (by decide) at_309 ?_
    rintro T274 _ _ ⟨rfl, rfl⟩ W275
    have W276 := W275.re (os' := [(b1, (.array .byte), ((((((List.replicate 12 (Value.int f)).set (K.toNatClampNeg + 0) (.int ((v &&& (127 : Int32)) ||| (128 : Int32)).toInt8.toInt32)).set (K.toNatClampNeg + 1) (.int (((XT.ushr v (7 : Int32)) &&& (127 : Int32)) ||| (128 : Int32)).toInt8.toInt32)).set (K.toNatClampNeg + 2) (.int (((XT.ushr (XT.ushr v (7 : Int32)) (7 : Int32)) &&& (127 : Int32)) ||| (128 : Int32)).toInt8.toInt32)).set (K.toNatClampNeg + 3) (.int (((XT.ushr (XT.ushr (XT.ushr v (7 : Int32)) (7 : Int32)) (7 : Int32)) &&& (127 : Int32)) ||| (128 : Int32)).toInt8.toInt32)).set (K.toNatClampNeg + 4) (.int (XT.ushr (XT.ushr (XT.ushr (XT.ushr v (7 : Int32)) (7 : Int32)) (7 : Int32)) (7 : Int32)).toInt8.toInt32)))]) rfl
    show Go p_ e_ bl_ _ (T274.setTop (mkF m_ 312 #[.val (.int p0), .val (.int p1), .val (.int p2), .val (.int p3), .val (.int v), .val (.int K), .val (.int f), .val (.ref b1), .val (.int (5 : Int32)), .val (.int (((((K + (1 : Int32)) + (1 : Int32)) + (1 : Int32)) + (1 : Int32)) + (1 : Int32))), .unset, .unset, .unset] [.int (1 : Int32)]))
    refine g_ifN (pc := 312) W276 at_312 (by decide) ?_
    refine g_aload (pc := 315) W276 at_315 rfl rfl ?_
    refine g_bipush (pc := 317) (11 : Int32) (by decide) W276 at_317 ?_
    refine g_iload (pc := 319) W276 at_319 rfl ?_
    refine g_iload (pc := 321) W276 at_321 rfl ?_
    refine g_iload (pc := 323) W276 at_323 rfl ?_
    refine g_iload (pc := 325) W276 at_325 rfl ?_
    refine g_static (pc := 327) (Wt := 0) (argsL := [.ref b1, .int (11 : Int32), .int v, .int K, .int (5 : Int32), .int f]) (rest := []) (loc := [(b1, (.array .byte), ((((((List.replicate 12 (Value.int f)).set (K.toNatClampNeg + 0) (.int ((v &&& (127 : Int32)) ||| (128 : Int32)).toInt8.toInt32)).set (K.toNatClampNeg + 1) (.int (((XT.ushr v (7 : Int32)) &&& (127 : Int32)) ||| (128 : Int32)).toInt8.toInt32)).set (K.toNatClampNeg + 2) (.int (((XT.ushr (XT.ushr v (7 : Int32)) (7 : Int32)) &&& (127 : Int32)) ||| (128 : Int32)).toInt8.toInt32)).set (K.toNatClampNeg + 3) (.int (((XT.ushr (XT.ushr (XT.ushr v (7 : Int32)) (7 : Int32)) (7 : Int32)) &&& (127 : Int32)) ||| (128 : Int32)).toInt8.toInt32)).set (K.toNatClampNeg + 4) (.int (XT.ushr (XT.ushr (XT.ushr (XT.ushr v (7 : Int32)) (7 : Int32)) (7 : Int32)) (7 : Int32)).toInt8.toInt32)))]) (rst := []) W276 (hw _ (List.mem_of_getElem? (i := 10) rfl)) (hw _ (List.mem_of_getElem? (i := 11) rfl)) (hw _ (List.mem_of_getElem? (i := 4) rfl)) (hw _ (List.mem_of_getElem? (i := 12) rfl)) (by decide) (c_ok l Z a0 hw b1 (11 : Int32) v K (5 : Int32) f (rd K.toNatClampNeg [((v &&& (127 : Int32)) ||| (128 : Int32)).toInt8.toInt32, (((XT.ushr v (7 : Int32)) &&& (127 : Int32)) ||| (128 : Int32)).toInt8.toInt32, (((XT.ushr (XT.ushr v (7 : Int32)) (7 : Int32)) &&& (127 : Int32)) ||| (128 : Int32)).toInt8.toInt32, (((XT.ushr (XT.ushr (XT.ushr v (7 : Int32)) (7 : Int32)) (7 : Int32)) &&& (127 : Int32)) ||| (128 : Int32)).toInt8.toInt32, (XT.ushr (XT.ushr (XT.ushr (XT.ushr v (7 : Int32)) (7 : Int32)) (7 : Int32)) (7 : Int32)).toInt8.toInt32] f 11) ((((((List.replicate 12 (Value.int f)).set (K.toNatClampNeg + 0) (.int ((v &&& (127 : Int32)) ||| (128 : Int32)).toInt8.toInt32)).set (K.toNatClampNeg + 1) (.int (((XT.ushr v (7 : Int32)) &&& (127 : Int32)) ||| (128 : Int32)).toInt8.toInt32)).set (K.toNatClampNeg + 2) (.int (((XT.ushr (XT.ushr v (7 : Int32)) (7 : Int32)) &&& (127 : Int32)) ||| (128 : Int32)).toInt8.toInt32)).set (K.toNatClampNeg + 3) (.int (((XT.ushr (XT.ushr (XT.ushr v (7 : Int32)) (7 : Int32)) (7 : Int32)) &&& (127 : Int32)) ||| (128 : Int32)).toInt8.toInt32)).set (K.toNatClampNeg + 4) (.int (XT.ushr (XT.ushr (XT.ushr (XT.ushr v (7 : Int32)) (7 : Int32)) (7 : Int32)) (7 : Int32)).toInt8.toInt32)) (by decide) (own_rd5 (v := v) (f := f) (j := K.toNatClampNeg) (i := 11) (own_j hK) (by decide)) (own_ok5 (i := (11 : Int32)) (iN := 11) (f := f) hv hb hK (by decide) (by decide)).1 (own_ok5 (i := (11 : Int32)) (iN := 11) (f := f) hv hb hK (by decide) (by decide)).2) ⟨[0], by decide, rfl⟩ rfl pd_ABIIIIB__Z rfl rfl rfl (Nat.le_of_ble_eq_true rfl) (by decide) (by decide) (by decide) (by decide) at_327 ?_
    rintro T277 _ _ ⟨rfl, rfl⟩ W278
    have W279 := W278.re (os' := [(b1, (.array .byte), ((((((List.replicate 12 (Value.int f)).set (K.toNatClampNeg + 0) (.int ((v &&& (127 : Int32)) ||| (128 : Int32)).toInt8.toInt32)).set (K.toNatClampNeg + 1) (.int (((XT.ushr v (7 : Int32)) &&& (127 : Int32)) ||| (128 : Int32)).toInt8.toInt32)).set (K.toNatClampNeg + 2) (.int (((XT.ushr (XT.ushr v (7 : Int32)) (7 : Int32)) &&& (127 : Int32)) ||| (128 : Int32)).toInt8.toInt32)).set (K.toNatClampNeg + 3) (.int (((XT.ushr (XT.ushr (XT.ushr v (7 : Int32)) (7 : Int32)) (7 : Int32)) &&& (127 : Int32)) ||| (128 : Int32)).toInt8.toInt32)).set (K.toNatClampNeg + 4) (.int (XT.ushr (XT.ushr (XT.ushr (XT.ushr v (7 : Int32)) (7 : Int32)) (7 : Int32)) (7 : Int32)).toInt8.toInt32)))]) rfl
    show Go p_ e_ bl_ _ (T277.setTop (mkF m_ 330 #[.val (.int p0), .val (.int p1), .val (.int p2), .val (.int p3), .val (.int v), .val (.int K), .val (.int f), .val (.ref b1), .val (.int (5 : Int32)), .val (.int (((((K + (1 : Int32)) + (1 : Int32)) + (1 : Int32)) + (1 : Int32)) + (1 : Int32))), .unset, .unset, .unset] [.int (1 : Int32)]))
    refine g_ifN (pc := 330) W279 at_330 (by decide) ?_
    refine g_iconst (pc := 333) (1 : Int32) (by decide) W279 at_333 ?_
    refine g_goto 338 (pc := 334) W279 at_334 (by decide) (by decide) ?_
    refine g_istore (pc := 338) (ls' := #[.val (.int p0), .val (.int p1), .val (.int p2), .val (.int p3), .val (.int v), .val (.int K), .val (.int f), .val (.ref b1), .val (.int (5 : Int32)), .val (.int (((((K + (1 : Int32)) + (1 : Int32)) + (1 : Int32)) + (1 : Int32)) + (1 : Int32))), .val (.int (1 : Int32)), .unset, .unset]) W279 at_338 rfl ?_
    refine g_iload (pc := 340) W279 at_340 rfl ?_
    refine g_ifY 347 (pc := 342) W279 at_342 (by decide) (by decide) (by decide) ?_
    refine g_new (pc := 347) (vs := [.null, .int (0 : Int32)]) W279 (hw _ (List.mem_of_getElem? (i := 13) rfl)) (hw _ (List.mem_of_getElem? (i := 14) rfl)) (hw _ (List.mem_of_getElem? (i := 8) rfl)) (cls_ByteCursor hw) (by decide) at_347 (by decide) (by decide) (fun T281 b280 W282 => ?_)
    have W283 := W282.re (os' := [(b1, (.array .byte), ((((((List.replicate 12 (Value.int f)).set (K.toNatClampNeg + 0) (.int ((v &&& (127 : Int32)) ||| (128 : Int32)).toInt8.toInt32)).set (K.toNatClampNeg + 1) (.int (((XT.ushr v (7 : Int32)) &&& (127 : Int32)) ||| (128 : Int32)).toInt8.toInt32)).set (K.toNatClampNeg + 2) (.int (((XT.ushr (XT.ushr v (7 : Int32)) (7 : Int32)) &&& (127 : Int32)) ||| (128 : Int32)).toInt8.toInt32)).set (K.toNatClampNeg + 3) (.int (((XT.ushr (XT.ushr (XT.ushr v (7 : Int32)) (7 : Int32)) (7 : Int32)) &&& (127 : Int32)) ||| (128 : Int32)).toInt8.toInt32)).set (K.toNatClampNeg + 4) (.int (XT.ushr (XT.ushr (XT.ushr (XT.ushr v (7 : Int32)) (7 : Int32)) (7 : Int32)) (7 : Int32)).toInt8.toInt32))), (b280, (.object "com/example/attestry/attestry/home/ByteCursor"), [.null, .int (0 : Int32)])]) rfl
    refine g_dup (pc := 350) W283 at_350 rfl ?_
    refine g_aload (pc := 351) W283 at_351 rfl rfl ?_
    refine g_iload (pc := 353) W283 at_353 rfl ?_
    refine g_init (pc := 355) (Wt := 1) (argsL := [.ref b1, .int K]) (rest := [.ref b280]) (loc := [(b280, (.object "com/example/attestry/attestry/home/ByteCursor"), [.null, .int (0 : Int32)])]) (rst := [(b1, (.array .byte), ((((((List.replicate 12 (Value.int f)).set (K.toNatClampNeg + 0) (.int ((v &&& (127 : Int32)) ||| (128 : Int32)).toInt8.toInt32)).set (K.toNatClampNeg + 1) (.int (((XT.ushr v (7 : Int32)) &&& (127 : Int32)) ||| (128 : Int32)).toInt8.toInt32)).set (K.toNatClampNeg + 2) (.int (((XT.ushr (XT.ushr v (7 : Int32)) (7 : Int32)) &&& (127 : Int32)) ||| (128 : Int32)).toInt8.toInt32)).set (K.toNatClampNeg + 3) (.int (((XT.ushr (XT.ushr (XT.ushr v (7 : Int32)) (7 : Int32)) (7 : Int32)) &&& (127 : Int32)) ||| (128 : Int32)).toInt8.toInt32)).set (K.toNatClampNeg + 4) (.int (XT.ushr (XT.ushr (XT.ushr (XT.ushr v (7 : Int32)) (7 : Int32)) (7 : Int32)) (7 : Int32)).toInt8.toInt32)))]) W283 rfl (hw _ (List.mem_of_getElem? (i := 15) rfl)) (hw _ (List.mem_of_getElem? (i := 16) rfl)) (hw _ (List.mem_of_getElem? (i := 8) rfl)) (hw _ (List.mem_of_getElem? (i := 17) rfl)) (by decide) (c_init l Z a0 hw b280 b1 K) ⟨[1, 0], by decide, rfl⟩ rfl pd_ABI__V rfl rfl rfl (Nat.le_of_ble_eq_true rfl) (by decide) (by decide) (by decide) (by decide) at_355 ?_
    rintro T284 _ _ ⟨rfl, rfl⟩ W285
    have W286 := W285.re (os' := [(b280, (.object "com/example/attestry/attestry/home/ByteCursor"), [.ref b1, .int K]), (b1, (.array .byte), ((((((List.replicate 12 (Value.int f)).set (K.toNatClampNeg + 0) (.int ((v &&& (127 : Int32)) ||| (128 : Int32)).toInt8.toInt32)).set (K.toNatClampNeg + 1) (.int (((XT.ushr v (7 : Int32)) &&& (127 : Int32)) ||| (128 : Int32)).toInt8.toInt32)).set (K.toNatClampNeg + 2) (.int (((XT.ushr (XT.ushr v (7 : Int32)) (7 : Int32)) &&& (127 : Int32)) ||| (128 : Int32)).toInt8.toInt32)).set (K.toNatClampNeg + 3) (.int (((XT.ushr (XT.ushr (XT.ushr v (7 : Int32)) (7 : Int32)) (7 : Int32)) &&& (127 : Int32)) ||| (128 : Int32)).toInt8.toInt32)).set (K.toNatClampNeg + 4) (.int (XT.ushr (XT.ushr (XT.ushr (XT.ushr v (7 : Int32)) (7 : Int32)) (7 : Int32)) (7 : Int32)).toInt8.toInt32)))]) rfl
    show Go p_ e_ bl_ _ (T284.setTop (mkF m_ 358 #[.val (.int p0), .val (.int p1), .val (.int p2), .val (.int p3), .val (.int v), .val (.int K), .val (.int f), .val (.ref b1), .val (.int (5 : Int32)), .val (.int (((((K + (1 : Int32)) + (1 : Int32)) + (1 : Int32)) + (1 : Int32)) + (1 : Int32))), .val (.int (1 : Int32)), .unset, .unset] [.ref b280]))
    refine g_astore (pc := 358) (ls' := #[.val (.int p0), .val (.int p1), .val (.int p2), .val (.int p3), .val (.int v), .val (.int K), .val (.int f), .val (.ref b1), .val (.int (5 : Int32)), .val (.int (((((K + (1 : Int32)) + (1 : Int32)) + (1 : Int32)) + (1 : Int32)) + (1 : Int32))), .val (.int (1 : Int32)), .val (.ref b280), .unset]) W286 at_358 rfl rfl ?_
    refine g_aload (pc := 360) W286 at_360 rfl rfl ?_
    refine g_virtual (i := 0) (pc := 362) (Wt := 0) (argsL := []) (rest := []) (loc := [(b280, (.object "com/example/attestry/attestry/home/ByteCursor"), [.ref b1, .int K]), (b1, (.array .byte), ((((((List.replicate 12 (Value.int f)).set (K.toNatClampNeg + 0) (.int ((v &&& (127 : Int32)) ||| (128 : Int32)).toInt8.toInt32)).set (K.toNatClampNeg + 1) (.int (((XT.ushr v (7 : Int32)) &&& (127 : Int32)) ||| (128 : Int32)).toInt8.toInt32)).set (K.toNatClampNeg + 2) (.int (((XT.ushr (XT.ushr v (7 : Int32)) (7 : Int32)) &&& (127 : Int32)) ||| (128 : Int32)).toInt8.toInt32)).set (K.toNatClampNeg + 3) (.int (((XT.ushr (XT.ushr (XT.ushr v (7 : Int32)) (7 : Int32)) (7 : Int32)) &&& (127 : Int32)) ||| (128 : Int32)).toInt8.toInt32)).set (K.toNatClampNeg + 4) (.int (XT.ushr (XT.ushr (XT.ushr (XT.ushr v (7 : Int32)) (7 : Int32)) (7 : Int32)) (7 : Int32)).toInt8.toInt32)))]) (rst := []) W286 (hw _ (List.mem_of_getElem? (i := 25) rfl)) (hw _ (List.mem_of_getElem? (i := 27) rfl)) (hw _ (List.mem_of_getElem? (i := 8) rfl)) (hw _ (List.mem_of_getElem? (i := 29) rfl)) (hw _ (List.mem_of_getElem? (i := 26) rfl)) (hw _ (List.mem_of_getElem? (i := 28) rfl)) rfl (by decide) (c_wh5 l Z a0 hw b280 b1 K ((((((List.replicate 12 (Value.int f)).set (K.toNatClampNeg + 0) (.int ((v &&& (127 : Int32)) ||| (128 : Int32)).toInt8.toInt32)).set (K.toNatClampNeg + 1) (.int (((XT.ushr v (7 : Int32)) &&& (127 : Int32)) ||| (128 : Int32)).toInt8.toInt32)).set (K.toNatClampNeg + 2) (.int (((XT.ushr (XT.ushr v (7 : Int32)) (7 : Int32)) &&& (127 : Int32)) ||| (128 : Int32)).toInt8.toInt32)).set (K.toNatClampNeg + 3) (.int (((XT.ushr (XT.ushr (XT.ushr v (7 : Int32)) (7 : Int32)) (7 : Int32)) &&& (127 : Int32)) ||| (128 : Int32)).toInt8.toInt32)).set (K.toNatClampNeg + 4) (.int (XT.ushr (XT.ushr (XT.ushr (XT.ushr v (7 : Int32)) (7 : Int32)) (7 : Int32)) (7 : Int32)).toInt8.toInt32)) ((v &&& (127 : Int32)) ||| (128 : Int32)).toInt8.toInt32 (((XT.ushr v (7 : Int32)) &&& (127 : Int32)) ||| (128 : Int32)).toInt8.toInt32 (((XT.ushr (XT.ushr v (7 : Int32)) (7 : Int32)) &&& (127 : Int32)) ||| (128 : Int32)).toInt8.toInt32 (((XT.ushr (XT.ushr (XT.ushr v (7 : Int32)) (7 : Int32)) (7 : Int32)) &&& (127 : Int32)) ||| (128 : Int32)).toInt8.toInt32 (XT.ushr (XT.ushr (XT.ushr (XT.ushr v (7 : Int32)) (7 : Int32)) (7 : Int32)) (7 : Int32)).toInt8.toInt32 k0.1 (by rw [k0.2.1]; exact (own_rd5 (v := v) (f := f) (j := K.toNatClampNeg) (i := K.toNatClampNeg + 0) (own_j hK) (own_j2 hK)).trans (by rw [rd_B rfl]; rfl)) k1.1 (by rw [k1.2.1]; exact (own_rd5 (v := v) (f := f) (j := K.toNatClampNeg) (i := K.toNatClampNeg + 1) (own_j hK) (own_j2 hK)).trans (by rw [rd_B rfl]; rfl)) k2.1 (by rw [k2.2.1]; exact (own_rd5 (v := v) (f := f) (j := K.toNatClampNeg) (i := K.toNatClampNeg + 2) (own_j hK) (own_j2 hK)).trans (by rw [rd_B rfl]; rfl)) k3.1 (by rw [k3.2.1]; exact (own_rd5 (v := v) (f := f) (j := K.toNatClampNeg) (i := K.toNatClampNeg + 3) (own_j hK) (own_j2 hK)).trans (by rw [rd_B rfl]; rfl)) k4.1 (by rw [k4.2.1]; exact (own_rd5 (v := v) (f := f) (j := K.toNatClampNeg) (i := K.toNatClampNeg + 4) (own_j hK) (own_j2 hK)).trans (by rw [rd_B rfl]; rfl)) (by rw [Int32.lt_iff_toInt_lt, own_b]; simp only [Int32.reduceToInt]; omega) (by rw [Int32.lt_iff_toInt_lt, own_b]; simp only [Int32.reduceToInt]; omega) (by rw [Int32.lt_iff_toInt_lt, own_b]; simp only [Int32.reduceToInt]; omega) (by rw [Int32.lt_iff_toInt_lt, own_b]; simp only [Int32.reduceToInt]; omega) (by have h2 := own_vt4 hv; have rv := rng32 v; rw [Int32.lt_iff_toInt_lt, own_l (by omega)]; simp only [Int32.reduceToInt]; omega)) ⟨[0, 1], by decide, rfl⟩ rfl pd___I rfl rfl rfl (Nat.le_of_ble_eq_true rfl) (by decide) (by decide) (by decide) (by decide) at_362 ?_
    rintro T287 _ _ ⟨rfl, rfl⟩ W288
    have W289 := W288.re (os' := [(b280, (.object "com/example/attestry/attestry/home/ByteCursor"), [.ref b1, .int (((((K + (1 : Int32)) + (1 : Int32)) + (1 : Int32)) + (1 : Int32)) + (1 : Int32))]), (b1, (.array .byte), ((((((List.replicate 12 (Value.int f)).set (K.toNatClampNeg + 0) (.int ((v &&& (127 : Int32)) ||| (128 : Int32)).toInt8.toInt32)).set (K.toNatClampNeg + 1) (.int (((XT.ushr v (7 : Int32)) &&& (127 : Int32)) ||| (128 : Int32)).toInt8.toInt32)).set (K.toNatClampNeg + 2) (.int (((XT.ushr (XT.ushr v (7 : Int32)) (7 : Int32)) &&& (127 : Int32)) ||| (128 : Int32)).toInt8.toInt32)).set (K.toNatClampNeg + 3) (.int (((XT.ushr (XT.ushr (XT.ushr v (7 : Int32)) (7 : Int32)) (7 : Int32)) &&& (127 : Int32)) ||| (128 : Int32)).toInt8.toInt32)).set (K.toNatClampNeg + 4) (.int (XT.ushr (XT.ushr (XT.ushr (XT.ushr v (7 : Int32)) (7 : Int32)) (7 : Int32)) (7 : Int32)).toInt8.toInt32)))]) rfl
    show Go p_ e_ bl_ _ (T287.setTop (mkF m_ 365 #[.val (.int p0), .val (.int p1), .val (.int p2), .val (.int p3), .val (.int v), .val (.int K), .val (.int f), .val (.ref b1), .val (.int (5 : Int32)), .val (.int (((((K + (1 : Int32)) + (1 : Int32)) + (1 : Int32)) + (1 : Int32)) + (1 : Int32))), .val (.int (1 : Int32)), .val (.ref b280), .unset] [.int ((((((0 : Int32) ||| ((((v &&& (127 : Int32)) ||| (128 : Int32)).toInt8.toInt32 &&& (127 : Int32)) <<< ((0 : Int32) &&& 31))) ||| (((((XT.ushr v (7 : Int32)) &&& (127 : Int32)) ||| (128 : Int32)).toInt8.toInt32 &&& (127 : Int32)) <<< ((7 : Int32) &&& 31))) ||| (((((XT.ushr (XT.ushr v (7 : Int32)) (7 : Int32)) &&& (127 : Int32)) ||| (128 : Int32)).toInt8.toInt32 &&& (127 : Int32)) <<< ((14 : Int32) &&& 31))) ||| (((((XT.ushr (XT.ushr (XT.ushr v (7 : Int32)) (7 : Int32)) (7 : Int32)) &&& (127 : Int32)) ||| (128 : Int32)).toInt8.toInt32 &&& (127 : Int32)) <<< ((21 : Int32) &&& 31))) ||| (((XT.ushr (XT.ushr (XT.ushr (XT.ushr v (7 : Int32)) (7 : Int32)) (7 : Int32)) (7 : Int32)).toInt8.toInt32 &&& (127 : Int32)) <<< ((28 : Int32) &&& 31)))]))
    refine g_istore (pc := 365) (ls' := #[.val (.int p0), .val (.int p1), .val (.int p2), .val (.int p3), .val (.int v), .val (.int K), .val (.int f), .val (.ref b1), .val (.int (5 : Int32)), .val (.int (((((K + (1 : Int32)) + (1 : Int32)) + (1 : Int32)) + (1 : Int32)) + (1 : Int32))), .val (.int (1 : Int32)), .val (.ref b280), .val (.int ((((((0 : Int32) ||| ((((v &&& (127 : Int32)) ||| (128 : Int32)).toInt8.toInt32 &&& (127 : Int32)) <<< ((0 : Int32) &&& 31))) ||| (((((XT.ushr v (7 : Int32)) &&& (127 : Int32)) ||| (128 : Int32)).toInt8.toInt32 &&& (127 : Int32)) <<< ((7 : Int32) &&& 31))) ||| (((((XT.ushr (XT.ushr v (7 : Int32)) (7 : Int32)) &&& (127 : Int32)) ||| (128 : Int32)).toInt8.toInt32 &&& (127 : Int32)) <<< ((14 : Int32) &&& 31))) ||| (((((XT.ushr (XT.ushr (XT.ushr v (7 : Int32)) (7 : Int32)) (7 : Int32)) &&& (127 : Int32)) ||| (128 : Int32)).toInt8.toInt32 &&& (127 : Int32)) <<< ((21 : Int32) &&& 31))) ||| (((XT.ushr (XT.ushr (XT.ushr (XT.ushr v (7 : Int32)) (7 : Int32)) (7 : Int32)) (7 : Int32)).toInt8.toInt32 &&& (127 : Int32)) <<< ((28 : Int32) &&& 31))))]) W289 at_365 rfl ?_
    refine g_iload (pc := 367) W289 at_367 rfl ?_
    refine g_iload (pc := 369) W289 at_369 rfl ?_
    refine g_icmpN (pc := 371) W289 at_371 (teq (own_back5 hv hb)).2 ?_
    refine g_aload (pc := 374) W289 at_374 rfl rfl ?_
    refine g_virtual (i := 0) (pc := 376) (Wt := 0) (argsL := []) (rest := []) (loc := [(b280, (.object "com/example/attestry/attestry/home/ByteCursor"), [.ref b1, .int (((((K + (1 : Int32)) + (1 : Int32)) + (1 : Int32)) + (1 : Int32)) + (1 : Int32))])]) (rst := [(b1, (.array .byte), ((((((List.replicate 12 (Value.int f)).set (K.toNatClampNeg + 0) (.int ((v &&& (127 : Int32)) ||| (128 : Int32)).toInt8.toInt32)).set (K.toNatClampNeg + 1) (.int (((XT.ushr v (7 : Int32)) &&& (127 : Int32)) ||| (128 : Int32)).toInt8.toInt32)).set (K.toNatClampNeg + 2) (.int (((XT.ushr (XT.ushr v (7 : Int32)) (7 : Int32)) &&& (127 : Int32)) ||| (128 : Int32)).toInt8.toInt32)).set (K.toNatClampNeg + 3) (.int (((XT.ushr (XT.ushr (XT.ushr v (7 : Int32)) (7 : Int32)) (7 : Int32)) &&& (127 : Int32)) ||| (128 : Int32)).toInt8.toInt32)).set (K.toNatClampNeg + 4) (.int (XT.ushr (XT.ushr (XT.ushr (XT.ushr v (7 : Int32)) (7 : Int32)) (7 : Int32)) (7 : Int32)).toInt8.toInt32)))]) W289 (hw _ (List.mem_of_getElem? (i := 30) rfl)) (hw _ (List.mem_of_getElem? (i := 32) rfl)) (hw _ (List.mem_of_getElem? (i := 8) rfl)) (hw _ (List.mem_of_getElem? (i := 34) rfl)) (hw _ (List.mem_of_getElem? (i := 31) rfl)) (hw _ (List.mem_of_getElem? (i := 33) rfl)) rfl (by decide) (c_at l Z a0 hw b280 b1 (((((K + (1 : Int32)) + (1 : Int32)) + (1 : Int32)) + (1 : Int32)) + (1 : Int32))) ⟨[0, 1], by decide, rfl⟩ rfl pd___I rfl rfl rfl (Nat.le_of_ble_eq_true rfl) (by decide) (by decide) (by decide) (by decide) at_376 ?_
    rintro T290 _ _ ⟨rfl, rfl⟩ W291
    have W292 := W291.re (os' := [(b280, (.object "com/example/attestry/attestry/home/ByteCursor"), [.ref b1, .int (((((K + (1 : Int32)) + (1 : Int32)) + (1 : Int32)) + (1 : Int32)) + (1 : Int32))]), (b1, (.array .byte), ((((((List.replicate 12 (Value.int f)).set (K.toNatClampNeg + 0) (.int ((v &&& (127 : Int32)) ||| (128 : Int32)).toInt8.toInt32)).set (K.toNatClampNeg + 1) (.int (((XT.ushr v (7 : Int32)) &&& (127 : Int32)) ||| (128 : Int32)).toInt8.toInt32)).set (K.toNatClampNeg + 2) (.int (((XT.ushr (XT.ushr v (7 : Int32)) (7 : Int32)) &&& (127 : Int32)) ||| (128 : Int32)).toInt8.toInt32)).set (K.toNatClampNeg + 3) (.int (((XT.ushr (XT.ushr (XT.ushr v (7 : Int32)) (7 : Int32)) (7 : Int32)) &&& (127 : Int32)) ||| (128 : Int32)).toInt8.toInt32)).set (K.toNatClampNeg + 4) (.int (XT.ushr (XT.ushr (XT.ushr (XT.ushr v (7 : Int32)) (7 : Int32)) (7 : Int32)) (7 : Int32)).toInt8.toInt32)))]) rfl
    show Go p_ e_ bl_ _ (T290.setTop (mkF m_ 379 #[.val (.int p0), .val (.int p1), .val (.int p2), .val (.int p3), .val (.int v), .val (.int K), .val (.int f), .val (.ref b1), .val (.int (5 : Int32)), .val (.int (((((K + (1 : Int32)) + (1 : Int32)) + (1 : Int32)) + (1 : Int32)) + (1 : Int32))), .val (.int (1 : Int32)), .val (.ref b280), .val (.int ((((((0 : Int32) ||| ((((v &&& (127 : Int32)) ||| (128 : Int32)).toInt8.toInt32 &&& (127 : Int32)) <<< ((0 : Int32) &&& 31))) ||| (((((XT.ushr v (7 : Int32)) &&& (127 : Int32)) ||| (128 : Int32)).toInt8.toInt32 &&& (127 : Int32)) <<< ((7 : Int32) &&& 31))) ||| (((((XT.ushr (XT.ushr v (7 : Int32)) (7 : Int32)) &&& (127 : Int32)) ||| (128 : Int32)).toInt8.toInt32 &&& (127 : Int32)) <<< ((14 : Int32) &&& 31))) ||| (((((XT.ushr (XT.ushr (XT.ushr v (7 : Int32)) (7 : Int32)) (7 : Int32)) &&& (127 : Int32)) ||| (128 : Int32)).toInt8.toInt32 &&& (127 : Int32)) <<< ((21 : Int32) &&& 31))) ||| (((XT.ushr (XT.ushr (XT.ushr (XT.ushr v (7 : Int32)) (7 : Int32)) (7 : Int32)) (7 : Int32)).toInt8.toInt32 &&& (127 : Int32)) <<< ((28 : Int32) &&& 31))))] [.int (((((K + (1 : Int32)) + (1 : Int32)) + (1 : Int32)) + (1 : Int32)) + (1 : Int32))]))
    refine g_iload (pc := 379) W292 at_379 rfl ?_
    refine g_icmpN (pc := 381) W292 at_381 (by first | exact (teq rfl).1 | exact (teq rfl).2 | exact (flt (by simp)).1 | exact (flt (by simp)).2.1 | exact (flt (by simp)).2.2.1 | exact (flt (by simp)).2.2.2) ?_
    refine g_iconst (pc := 384) (1 : Int32) (by decide) W292 at_384 ?_
    refine g_goto 389 (pc := 385) W292 at_385 (by decide) (by decide) ?_
    exact g_zreturn (pc := 389) rfl (by decide) W292 at_389 (by decide) (by decide) rfl
set_option maxRecDepth 65536 in
set_option maxHeartbeats 40000000 in
theorem comes_1 {Post : Tables → Env → Array Value → State → Outcome → State → Prop} (hpost : ∀ tb e args s v u, (limb_1_1.after args s (.returned v) u = true ∧ limb_1_2.after args s (.returned v) u = true ∧ True) → FrameEnd s (.returned v) u (Jvm.fieldLocs frame_1_writes args s ++ Jvm.arrayLocs frame_1_arrays args s ++ Jvm.staticLocs frame_1_statics s) 16 128 → Post tb e args s (.returned v) u) :
    ArmFor flags0 classFile x code maxLocals ret World_1 tables_1 room_1 Calls_1 rest_1 Pre_1 Post := by
  intro l hfl _ _ p e ha hc hk s m args below hf hA hF happ hP
  obtain ⟨hcalls, hrest, hpre⟩ := hP
  obtain ⟨-, -, -, hnamed, -, -, -, hat⟩ := (Spec.applies_iff hf).mp happ
  obtain ⟨hg, hn⟩ := and_e (Cond.before_iff.mp (show (Jvm.Cond.and given_1 narrow_1).before args s = true from hpre))
  obtain ⟨h1, hr0⟩ := and_e hg
  obtain ⟨w0, w1, w2, w3, rfl⟩ : ∃ w0 w1 w2 w3 : Value, args = #[w0, w1, w2, w3] := by
    have hs : args.size = 4 := by simpa [Cond.value, given_1] using h1
    obtain ⟨L⟩ := args
    match L, hs with
    | [w0, w1, w2, w3], _ => exact ⟨w0, w1, w2, w3, rfl⟩
  have hw := fun d (hd : d ∈ tables_1) => atoms_spec (ws := Jvm.Cond.code x code maxLocals ret :: tables_1) hat d (List.mem_cons_of_mem _ hd)
  obtain ⟨ha0, hr1⟩ := and_e hr0
  obtain ⟨i0, e0⟩ := is_v ha0
  obtain rfl : w0 = (.int i0) := Option.some.inj e0
  obtain ⟨ha1, hr2⟩ := and_e hr1
  obtain ⟨i1, e1⟩ := is_v ha1
  obtain rfl : w1 = (.int i1) := Option.some.inj e1
  obtain ⟨ha2, hr3⟩ := and_e hr2
  obtain ⟨i2, e2⟩ := is_v ha2
  obtain rfl : w2 = (.int i2) := Option.some.inj e2
  obtain ⟨i3, e3⟩ := is_v hr3
  obtain rfl : w3 = (.int i3) := Option.some.inj e3
  obtain ⟨n, o, h1, h2, h3, _, L, rfl, hQ, hq⟩ := c_law l s _ hw (B := s.heap.size) i0 i1 i2 i3 s.heap Hp.nil (fun _ q => nomatch q) (Nat.le_refl _) p e ha hc hk s m _ below hf ((Spec.applies_iff_loose hf).mp happ).1 ⟨rfl, State.Warmed39.refl s, rfl⟩ trivial
  have N := Con.frame (y := x) (as := #[]) (rm := room_1) hQ
  obtain ⟨-, os', -, rfl⟩ := hQ
  refine ⟨n, _, h1, h2, h3, hpost _ _ _ _ _ _ ⟨Cond.after_iff.mpr rfl, Cond.after_iff.mpr (eq_i res_at (Term.int_eval (1)) rfl), trivial⟩ ⟨hq.1, hq.2.1, (hq.2.2.sift fun y hy => Or.inr (N y hy)).mono (by decide) (by decide)⟩⟩
theorem main_1_1 : Claimed_1_1 := comes_1 fun _ _ _ _ _ _ h hF => ⟨h.1, hF⟩
theorem main_1_2 : Claimed_1_2 := comes_1 fun _ _ _ _ _ _ h hF => ⟨h.2.1, hF⟩
end Jvm.Pilot.@@N@@
namespace Jvm.Pilot.@@N@@
open Jvm Jvm.ClassFile Sem Op Lib Jvm.Free Jvm.Stand Jvm.Pilot.@@N@@.Jvm.D
/-! MADE BY PROGRAM (witnessworld.py) out of the Statement's table words and the real class files: 9 classes; the members and pool entries that the words name. The judged class is class 1, her method 3. -/
namespace start1
open Jvm.ClassFile
def u (s : String) : CpInfo := .utf8 (stringToUtf16 s)
/-- a pool by its gaps: so many unusable entries, then the entry; so many at the end -/
def gap : Nat → List CpInfo → List CpInfo
  | 0, r => r
  | n + 1, r => .unusable :: gap n r
def poolList (es : List (Nat × CpInfo)) (last : Nat) : List CpInfo := es.foldr (fun e r => gap e.1 (e.2 :: r)) (gap last [])
def pool (es : List (Nat × CpInfo)) (last : Nat) : Array CpInfo := ⟨poolList es last⟩
def fileOf (pool : Array CpInfo) (this : Nat) (attrs : Array Attribute := #[]) (ms : Array MethodInfo := #[]) (fl : Nat := 33) (sup : Nat := 0) (ifs : Array Nat := #[]) (fds : Array FieldInfo := #[]) : ClassFile where
  minorVersion := 0
  majorVersion := 65
  constantPool := pool
  accessFlags := fl
  thisClass := this
  superClass := sup
  interfaces := ifs
  fields := fds
  methods := ms
  attributes := attrs
def plain (name : String) (sup : Option ClassId) : Class where
  name := name
  kind := .ordinary
  loader := none
  accessFlags := 33
  super := sup
  interfaces := #[]
  cf := none
  fields := #[]
  methods := #[]
  instanceTypes := #[]
  staticTypes := #[]
  resolved := #[]
  callSites := []
  init := .initialized
  statics := none
  mirror := none

def pool0 : Array CpInfo := pool [(5, u "<init>"), (0, u "()V"), (1, .class_ 10), (1, u "java/lang/Object")] 113

def k0c0 : Code := { maxStack := 0, maxLocals := 1, code := object_method_1_code, exceptionTable := #[], attributes := #[] }
def k0m0 : Method := { name := "<init>", desc := "()V", sig := { parameters := [], returnType := none }, accessFlags := 1, code := some k0c0 }
/-- java/lang/Object -/
def k0 : Class := { plain "java/lang/Object" none with
  accessFlags := 33
  interfaces := #[]
  cf := some (fileOf pool0 8 #[] #[{ accessFlags := 1, nameIndex := 5, descriptorIndex := 6, attributes := #[] }] 33 0 #[] #[])
  fields := #[]
  methods := #[k0m0]
  instanceTypes := #[]
  staticTypes := #[]
  resolved := Array.replicate 124 none
  statics := none }

def pool1 : Array CpInfo := pool [(2, .class_ 4), (1, u "java/lang/Object"), (0, u "<init>"), (0, u "()V"), (0, .integer 2097152), (0, .integer 268435456), (0, .integer 2147483647), (0, .methodref 11 12), (0, .class_ 13), (0, .nameAndType 14 15), (0, u "com/example/attestry/attestry/home/ByteCursorWritePinLaw"), (0, u "expectedLength"), (0, u "(I)I"), (0, .methodref 17 18), (0, .class_ 19), (0, .nameAndType 20 21), (0, u "com/example/attestry/attestry/home/ByteCursor"), (0, u "write"), (0, u "(I[BI)I"), (0, .methodref 11 23), (0, .nameAndType 24 25), (0, u "okAt"), (0, u "([BIIIIB)Z"), (0, .methodref 17 27), (0, .nameAndType 5 28), (0, u "([BI)V"), (0, .methodref 17 30), (0, .nameAndType 31 32), (0, u "whole"), (0, u "()I"), (0, .methodref 17 34), (0, .nameAndType 35 32), (0, u "at"), (3, u "law"), (0, u "(IIII)Z")] 4

def k1m0 : Method := { name := "<init>", desc := "()V", sig := { parameters := [], returnType := none }, accessFlags := 1, code := none }
def k1c1 : Code := { maxStack := 2, maxLocals := 1, code := method_2_code, exceptionTable := #[], attributes := #[] }
def k1m1 : Method := { name := "expectedLength", desc := "(I)I", sig := { parameters := [.int], returnType := some .int }, accessFlags := 10, code := some k1c1 }
def k1c2 : Code := { maxStack := 3, maxLocals := 8, code := method_3_code, exceptionTable := #[], attributes := #[] }
def k1m2 : Method := { name := "okAt", desc := "([BIIIIB)Z", sig := { parameters := [(.array .byte), .int, .int, .int, .int, .byte], returnType := some .boolean }, accessFlags := 10, code := some k1c2 }
def k1c3 : Code := { maxStack := 6, maxLocals := 13, code := code, exceptionTable := #[], attributes := #[] }
def k1m3 : Method := { name := "law", desc := "(IIII)Z", sig := { parameters := [.int, .int, .int, .int], returnType := some .boolean }, accessFlags := 9, code := some k1c3 }
/-- com/example/attestry/attestry/home/ByteCursorWritePinLaw -/
def k1 : Class := { plain "com/example/attestry/attestry/home/ByteCursorWritePinLaw" (some 0) with
  accessFlags := 49
  interfaces := #[]
  cf := some (fileOf pool1 11 #[] #[{ accessFlags := 1, nameIndex := 5, descriptorIndex := 6, attributes := #[] }, { accessFlags := 10, nameIndex := 14, descriptorIndex := 15, attributes := #[] }, { accessFlags := 10, nameIndex := 24, descriptorIndex := 25, attributes := #[] }, { accessFlags := 9, nameIndex := 39, descriptorIndex := 40, attributes := #[] }] 49 2 #[] #[])
  fields := #[]
  methods := #[k1m0, k1m1, k1m2, k1m3]
  instanceTypes := #[]
  staticTypes := #[]
  resolved := Array.replicate 45 none
  statics := none }

def pool2 : Array CpInfo := pool [(1, .methodref 2 3), (0, .class_ 4), (0, .nameAndType 5 6), (0, u "java/lang/Object"), (0, u "<init>"), (0, u "()V"), (0, .fieldref 8 9), (0, .class_ 10), (0, .nameAndType 11 12), (0, u "com/example/attestry/attestry/home/ByteCursor"), (0, u "bytes"), (0, u "[B"), (0, .fieldref 8 14), (0, .nameAndType 15 16), (0, u "at"), (0, u "I"), (0, u "LONGEST"), (2, u "([BI)V"), (3, u "()I"), (3, u "whole"), (1, u "write"), (0, u "(I[BI)I")] 2

def k2c0 : Code := { maxStack := 2, maxLocals := 3, code := prog_1_method_1_code, exceptionTable := #[], attributes := #[] }
def k2m0 : Method := { name := "<init>", desc := "([BI)V", sig := { parameters := [(.array .byte), .int], returnType := none }, accessFlags := 0, code := some k2c0 }
def k2c1 : Code := { maxStack := 1, maxLocals := 1, code := prog_1_method_3_code, exceptionTable := #[], attributes := #[] }
def k2m1 : Method := { name := "at", desc := "()I", sig := { parameters := [], returnType := some .int }, accessFlags := 0, code := some k2c1 }
def k2c2 : Code := { maxStack := 5, maxLocals := 4, code := prog_1_method_6_code, exceptionTable := #[], attributes := #[] }
def k2m2 : Method := { name := "whole", desc := "()I", sig := { parameters := [], returnType := some .int }, accessFlags := 0, code := some k2c2 }
def k2c3 : Code := { maxStack := 4, maxLocals := 3, code := prog_1_method_7_code, exceptionTable := #[], attributes := #[] }
def k2m3 : Method := { name := "write", desc := "(I[BI)I", sig := { parameters := [.int, (.array .byte), .int], returnType := some .int }, accessFlags := 8, code := some k2c3 }
/-- com/example/attestry/attestry/home/ByteCursor -/
def k2 : Class := { plain "com/example/attestry/attestry/home/ByteCursor" (some 0) with
  accessFlags := 48
  interfaces := #[]
  cf := some (fileOf pool2 8 #[] #[{ accessFlags := 0, nameIndex := 5, descriptorIndex := 20, attributes := #[] }, { accessFlags := 0, nameIndex := 15, descriptorIndex := 24, attributes := #[] }, { accessFlags := 0, nameIndex := 28, descriptorIndex := 24, attributes := #[] }, { accessFlags := 8, nameIndex := 30, descriptorIndex := 31, attributes := #[] }] 48 2 #[] #[{ accessFlags := 24, nameIndex := 17, descriptorIndex := 16, attributes := #[] }, { accessFlags := 18, nameIndex := 11, descriptorIndex := 12, attributes := #[] }, { accessFlags := 2, nameIndex := 15, descriptorIndex := 16, attributes := #[] }])
  fields := #[{ name := "LONGEST", type := .int, accessFlags := 24, slot := 0, constantValue := 0 }, { name := "bytes", type := (.array .byte), accessFlags := 18, slot := 0, constantValue := 0 }, { name := "at", type := .int, accessFlags := 2, slot := 1, constantValue := 0 }]
  methods := #[k2m0, k2m1, k2m2, k2m3]
  instanceTypes := #[(.array .byte), .int]
  staticTypes := #[.int]
  resolved := Array.replicate 34 none
  statics := none }

def pool3 : Array CpInfo := pool [(1, u "java/lang/Cloneable"), (0, .class_ 1), (0, u "java/lang/Object"), (0, .class_ 3)] 3

/-- java/lang/Cloneable -/
def k3 : Class := { plain "java/lang/Cloneable" (some 0) with
  accessFlags := 1537
  interfaces := #[]
  cf := some (fileOf pool3 2 #[] #[] 1537 4 #[] #[])
  fields := #[]
  methods := #[]
  instanceTypes := #[]
  staticTypes := #[]
  resolved := Array.replicate 8 none
  statics := none }

def pool4 : Array CpInfo := pool [(1, u "java/io/Serializable"), (0, .class_ 1), (0, u "java/lang/Object"), (0, .class_ 3)] 3

/-- java/io/Serializable -/
def k4 : Class := { plain "java/io/Serializable" (some 0) with
  accessFlags := 1537
  interfaces := #[]
  cf := some (fileOf pool4 2 #[] #[] 1537 4 #[] #[])
  fields := #[]
  methods := #[]
  instanceTypes := #[]
  staticTypes := #[]
  resolved := Array.replicate 8 none
  statics := none }

/-- the primitive byte -/
def k5 : Class := { plain "byte" none with kind := .primitive 'B', accessFlags := 0x411 }
/-- [B -/
def k6 : Class := { plain "[B" (some 0) with kind := .array 5 .byte, interfaces := #[3, 4], accessFlags := 1041 }

/-- the primitive int -/
def k7 : Class := { plain "int" none with kind := .primitive 'I', accessFlags := 0x411 }
/-- [I -/
def k8 : Class := { plain "[I" (some 0) with kind := .array 7 .int, interfaces := #[3, 4], accessFlags := 1041 }

def heap : Heap := #[]
def classes : Array Class := #[k0, k1, k2, k3, k4, k5, k6, k7, k8]
def interned : List (Array UInt16 × Addr) := []
def slotsUsed : Nat := 0
def theMethod : MethodId := ⟨1, 3⟩
def args0 : Array Value := #[.int 5, .int 7, .int 1, .int 2]
def aboutOver (below : List Frame) : State where
  vm := { classes := classes, interned := interned.toArray }
  heap := heap
  slotsUsed := slotsUsed
  threads := #[{ frames := .invoking theMethod args0 :: below }]
def below0 : List Frame := [.native { method := ⟨0, 0⟩, args := #[] }]
def about1 : State := aboutOver below0
def p0 : Program := .bare "" "" ""
def e0 : Env := launch0.env 0 0 0
theorem w_frames : about1.frames = Frame.invoking theMethod args0 :: below0 := rfl
set_option maxRecDepth 65536 in
theorem w_args : argsFit about1.vm theMethod args0 = true := by decide +kernel
set_option maxRecDepth 65536 in
theorem w_heap : heapFits about1 = true := by decide +kernel
set_option maxRecDepth 65536 in
theorem w_runnable : about1.curStatus? = some .runnable := by decide +kernel
set_option maxRecDepth 65536 in
theorem w_alone : about1.alone = true := by decide +kernel
set_option maxRecDepth 65536 in
theorem w_named : about1.methodNamed? x = some theMethod := by decide +kernel
set_option maxRecDepth 65536 in
theorem w_hears : about1.hears theMethod below0 = true := by decide +kernel
set_option maxRecDepth 65536 in
theorem w_ripe : about1.ripe theMethod args0 below0 = true := by decide +kernel
theorem w_running : about1.status = .running := rfl
set_option maxRecDepth 65536 in
theorem w_room : about1.hasRoom e0.platform room_1 = true :=
  launch0.hasRoom_least _ room_1 (by decide +kernel) (by decide +kernel) (by decide +kernel) (by decide +kernel) (by decide +kernel) (by decide +kernel)
theorem allAtoms_all (ts : List Jvm.Cond) (a : Array Jvm.Value) (st : Jvm.State) : (allAtoms ts).before a st = ts.all (fun c => c.before a st) := by
  induction ts with
  | nil => rfl
  | cons c t ih =>
    show (Jvm.Cond.and c (allAtoms t)).before a st = _
    rw [Jvm.Cond.before_and, ih, List.all_cons]
def words1 : List Jvm.Cond := Jvm.Cond.code x code maxLocals ret :: tables_1
/-- a 'code' word, met by the world's own term for the bytes: nothing is compared byte by byte -/
theorem code_word {y : MethodName} {bytes : ByteArray} {mx : Nat} {rt : Option FieldType} {a : Array Value} {s : State} {m : MethodId} {meth : Method} {c : Code} (h1 : s.methodNamed? y = some m) (h2 : s.vm.method? m = some meth) (h3 : meth.code = some c) (h4 : c.code = bytes)
    (h5 : (c.maxLocals == mx && c.exceptionTable.isEmpty && decide (c.maxStack ≤ mostOperands) && decide (meth.sig.returnType = rt) && !meth.locks && decide (parseMethodDescriptor y.desc = some meth.sig)) = true) : (Jvm.Cond.code y bytes mx rt).before a s = true := by
  simp only [Bool.and_eq_true, beq_iff_eq, Bool.not_eq_true', decide_eq_true_eq] at h5
  obtain ⟨⟨⟨⟨⟨g1, g2⟩, g3⟩, g4⟩, g5⟩, g6⟩ := h5
  simp [Cond.before, Cond.holds, Cond.value, h1, h2, h3, h4, g1, g2, g3, g4, g5, g6]
def isCode : Jvm.Cond → Bool
  | .code _ _ _ _ => true
  | _ => false
theorem all_split {L : List Jvm.Cond} {P : Jvm.Cond → Bool} (h1 : L.all (fun c => isCode c || P c) = true) (h2 : ∀ c ∈ L.filter isCode, P c = true) : L.all P = true := by
  refine List.all_eq_true.mpr fun c hc => ?_
  have h := List.all_eq_true.mp h1 c hc
  rcases Bool.eq_false_or_eq_true (isCode c) with hi | hi
  · exact h2 c (List.mem_filter.mpr ⟨hc, hi⟩)
  · simpa [hi] using h
set_option maxRecDepth 65536 in
theorem w_c0 : (Jvm.Cond.code x code maxLocals ret).before args0 about1 = true := code_word (m := ⟨1, 3⟩) (meth := k1m3) (c := k1c3) (by decide +kernel) rfl rfl rfl (by decide +kernel)
set_option maxRecDepth 65536 in
theorem w_c1 : (Jvm.Cond.code ({ cls := "com/example/attestry/attestry/home/ByteCursorWritePinLaw", name := "expectedLength", desc := "(I)I" } : Jvm.MethodName) method_2_code (1 : Nat) (Option.some Jvm.ClassFile.FieldType.int)).before args0 about1 = true := code_word (m := ⟨1, 1⟩) (meth := k1m1) (c := k1c1) (by decide +kernel) rfl rfl rfl (by decide +kernel)
set_option maxRecDepth 65536 in
theorem w_c2 : (Jvm.Cond.code ({ cls := "com/example/attestry/attestry/home/ByteCursor", name := "write", desc := "(I[BI)I" } : Jvm.MethodName) prog_1_method_7_code (3 : Nat) (Option.some Jvm.ClassFile.FieldType.int)).before args0 about1 = true := code_word (m := ⟨2, 3⟩) (meth := k2m3) (c := k2c3) (by decide +kernel) rfl rfl rfl (by decide +kernel)
set_option maxRecDepth 65536 in
theorem w_c3 : (Jvm.Cond.code ({ cls := "com/example/attestry/attestry/home/ByteCursorWritePinLaw", name := "okAt", desc := "([BIIIIB)Z" } : Jvm.MethodName) method_3_code (8 : Nat) (Option.some Jvm.ClassFile.FieldType.boolean)).before args0 about1 = true := code_word (m := ⟨1, 2⟩) (meth := k1m2) (c := k1c2) (by decide +kernel) rfl rfl rfl (by decide +kernel)
set_option maxRecDepth 65536 in
theorem w_c4 : (Jvm.Cond.code ({ cls := "com/example/attestry/attestry/home/ByteCursor", name := "<init>", desc := "([BI)V" } : Jvm.MethodName) prog_1_method_1_code (3 : Nat) (Option.none : Option Jvm.ClassFile.FieldType)).before args0 about1 = true := code_word (m := ⟨2, 0⟩) (meth := k2m0) (c := k2c0) (by decide +kernel) rfl rfl rfl (by decide +kernel)
set_option maxRecDepth 65536 in
theorem w_c5 : (Jvm.Cond.code ({ cls := "java/lang/Object", name := "<init>", desc := "()V" } : Jvm.MethodName) object_method_1_code (1 : Nat) (Option.none : Option Jvm.ClassFile.FieldType)).before args0 about1 = true := code_word (m := ⟨0, 0⟩) (meth := k0m0) (c := k0c0) (by decide +kernel) rfl rfl rfl (by decide +kernel)
set_option maxRecDepth 65536 in
theorem w_c6 : (Jvm.Cond.code ({ cls := "com/example/attestry/attestry/home/ByteCursor", name := "whole", desc := "()I" } : Jvm.MethodName) prog_1_method_6_code (4 : Nat) (Option.some Jvm.ClassFile.FieldType.int)).before args0 about1 = true := code_word (m := ⟨2, 2⟩) (meth := k2m2) (c := k2c2) (by decide +kernel) rfl rfl rfl (by decide +kernel)
set_option maxRecDepth 65536 in
theorem w_c7 : (Jvm.Cond.code ({ cls := "com/example/attestry/attestry/home/ByteCursor", name := "at", desc := "()I" } : Jvm.MethodName) prog_1_method_3_code (1 : Nat) (Option.some Jvm.ClassFile.FieldType.int)).before args0 about1 = true := code_word (m := ⟨2, 1⟩) (meth := k2m1) (c := k2c1) (by decide +kernel) rfl rfl rfl (by decide +kernel)
def codes1 : List Jvm.Cond := [Jvm.Cond.code x code maxLocals ret, Jvm.Cond.code ({ cls := "com/example/attestry/attestry/home/ByteCursorWritePinLaw", name := "expectedLength", desc := "(I)I" } : Jvm.MethodName) method_2_code (1 : Nat) (Option.some Jvm.ClassFile.FieldType.int), Jvm.Cond.code ({ cls := "com/example/attestry/attestry/home/ByteCursor", name := "write", desc := "(I[BI)I" } : Jvm.MethodName) prog_1_method_7_code (3 : Nat) (Option.some Jvm.ClassFile.FieldType.int), Jvm.Cond.code ({ cls := "com/example/attestry/attestry/home/ByteCursorWritePinLaw", name := "okAt", desc := "([BIIIIB)Z" } : Jvm.MethodName) method_3_code (8 : Nat) (Option.some Jvm.ClassFile.FieldType.boolean), Jvm.Cond.code ({ cls := "com/example/attestry/attestry/home/ByteCursor", name := "<init>", desc := "([BI)V" } : Jvm.MethodName) prog_1_method_1_code (3 : Nat) (Option.none : Option Jvm.ClassFile.FieldType), Jvm.Cond.code ({ cls := "java/lang/Object", name := "<init>", desc := "()V" } : Jvm.MethodName) object_method_1_code (1 : Nat) (Option.none : Option Jvm.ClassFile.FieldType), Jvm.Cond.code ({ cls := "com/example/attestry/attestry/home/ByteCursor", name := "whole", desc := "()I" } : Jvm.MethodName) prog_1_method_6_code (4 : Nat) (Option.some Jvm.ClassFile.FieldType.int), Jvm.Cond.code ({ cls := "com/example/attestry/attestry/home/ByteCursor", name := "at", desc := "()I" } : Jvm.MethodName) prog_1_method_3_code (1 : Nat) (Option.some Jvm.ClassFile.FieldType.int)]
set_option maxRecDepth 65536 in
theorem codes_eq : words1.filter isCode = codes1 := rfl
theorem w_codes : ∀ c ∈ words1.filter isCode, c.before args0 about1 = true := by
  rw [codes_eq]
  intro c hc
  simp only [codes1, List.mem_cons, List.not_mem_nil, or_false] at hc
  rcases hc with rfl | rfl | rfl | rfl | rfl | rfl | rfl | rfl
  · exact w_c0
  · exact w_c1
  · exact w_c2
  · exact w_c3
  · exact w_c4
  · exact w_c5
  · exact w_c6
  · exact w_c7
set_option maxRecDepth 65536 in
theorem w_t1 : (words1.take 24).all (fun c => isCode c || c.before args0 about1) = true := by decide +kernel
set_option maxRecDepth 65536 in
theorem w_t2 : (words1.drop 24).all (fun c => isCode c || c.before args0 about1) = true := by decide +kernel
theorem w_tables : (allAtoms (Jvm.Cond.code x code maxLocals ret :: tables_1)).before args0 about1 = true := by
  rw [allAtoms_all]
  show words1.all (fun c => c.before args0 about1) = true
  refine all_split ?_ w_codes
  rw [← List.take_append_drop 24 words1, List.all_append, w_t1, w_t2]
  rfl
set_option maxRecDepth 65536 in
theorem w_case : (Jvm.Cond.and given_1 narrow_1).before args0 about1 = true := by decide +kernel
theorem w_applies : (headSpec (Jvm.Cond.code x code maxLocals ret :: tables_1) room_1).applies x e0.platform about1 = true :=
  (Spec.applies_iff w_frames).mpr ⟨w_running, w_runnable, w_alone, w_named, w_hears, w_ripe, w_room, w_tables⟩
theorem atStart : AtStart classFile x code maxLocals ret World_1 tables_1 room_1 Calls_1 rest_1 Pre_1 launch0 p0 e0 about1 theMethod args0 below0 :=
  ⟨lists_1, trivial, launch0.admits_env _ _ _, launch0.least_env, fairChoices_fair.cas, fairChoices_fair.clock, w_frames, w_args, w_heap, w_applies, trivial, trivial, w_case⟩
end start1
theorem witness_1 : WitnessClaimed_1 := ⟨start1.p0, start1.e0, start1.about1, start1.theMethod, start1.args0, start1.below0, start1.atStart⟩
end Jvm.Pilot.@@N@@
