import JvmDerived
import JvmDerived.Pilot.@@N@@Statement
import JvmDerived.Pilot.@@N@@Code
set_option linter.unusedVariables false
set_option linter.unusedSimpArgs false
@@BLOCK:NumsL.lean.txt@@
namespace Jvm.Pilot.@@N@@
open Jvm Jvm.ClassFile Sem Op Lib Jvm.Free Jvm.Stand Jvm.LawKit Jvm.RoadKit Bundle Jvm.Pilot.@@N@@.Jvm.D
/-! ## own base: a heap as a list of objects; a body by its contract; one lemma an instruction -/
section Own
abbrev Ob : Type := Addr × FieldType × List Value
abbrev Fm : Type := String → List (String × String)
/-- what the cell at a holds -/
def Oat (F : Fm) (Z : State) (h : Heap) (a : Addr) (t : FieldType) (vs : List Value) : Prop :=
  match t with
  | .array ty => Exa Z h a ("[" ++ ty.toString) ∧ (∀ v ∈ vs, fits ty v = true) ∧ ∃ c : Cell, Arr Z h a c ty ∧ c.slots = vs.toArray
  | .object C => Exa Z h a C ∧ vs.length = (F C).length ∧ ∀ (i : Nat) (n d : String) (v : Value), (F C)[i]? = some (n, d) → vs[i]? = some v → Fld Z h a C n d v
  | _ => False
def Hp (F : Fm) (Z : State) (h : Heap) (os : List Ob) : Prop := (os.map (·.1)).Nodup ∧ ∀ o ∈ os, Oat F Z h o.1 o.2.1 o.2.2
/-- an address that the body may write: one of A, or a new one -/
def Okk (A : List Addr) (N : Nat) (a : Addr) : Prop := a ∈ A ∨ N ≤ a
def Hin (F : Fm) (Z : State) (h0 : Heap) (A : List Addr) (h : Heap) (os : List Ob) : Prop := Keep h0 h A ∧ Hp F Z h os ∧ ∀ o ∈ os, Okk A h0.size o.1
def Qc (F : Fm) (Z : State) (B : Nat) (loc : List Ob) (h0 : Heap) (P : Option Value → List Ob → Prop) (v : Option Value) (h : Heap) (L : List Loc) : Prop :=
  (∀ y ∈ L, B ≤ y.base) ∧ ∃ os', Hin F Z h0 (loc.map (·.1)) h os' ∧ P v os'
/-- a body's contract: over the objects loc, with the arguments as, it returns v and leaves os', and P v os' -/
def Con (l : Launch) (Z : State) (F : Fm) (B : Nat) (y : MethodName) (bytes : ByteArray) (mL : Nat) (ret : Option FieldType) (rm : Room) (ws : List Jvm.Cond) (as : Array Value) (loc : List Ob) (P : Option Value → List Ob → Prop) : Prop :=
  ∀ h0, Hp F Z h0 loc → (∀ a ∈ loc.map (·.1), B ≤ a) → B ≤ h0.size → MetFree l y (head1 (Jvm.Cond.code y bytes mL ret :: ws) rm) (fun a U => a = as ∧ Z.Warmed39 U.vm ∧ U.heap = h0) (fun _ _ _ _ _ => True) (fun _ U o U' => ∃ v L, o = .returned v ∧ Qc F Z B loc h0 P v U'.heap L ∧ FrameEnd U o U' L rm.cells rm.slots)
/-- the run stands in the body of y; the objects are os -/
def Here (p : Program) (l : Launch) (e : Env) (R : Room) (s : State) (m : MethodId) (args : Array Value) (below : List Frame) (meth : Method) (c : Code) (Z : State) (F : Fm) (B : Nat) (h0 : Heap) (A : List Addr) (y : MethodName) (bytes : ByteArray) (mL : Nat) (ret : Option FieldType) (T : State) (k n : Nat) (os : List Ob) : Prop :=
  (p.tables.exec = Jvm.exec ∧ Z.Warmed39 s.vm ∧ c.code = bytes ∧ c.maxLocals = mL ∧ s.vm.findClass y.cls = some m.cls ∧ meth.sig.returnType = ret ∧ meth.locks = false ∧ meth.name = y.name) ∧
  ∃ locs, Stand p l e R s m args below meth c T locs k n ∧ ((∀ y ∈ locs, B ≤ y.base) ∧ (∀ a ∈ A, B ≤ a) ∧ B ≤ h0.size) ∧ Hin F Z h0 A T.heap os
def Fin1 (below : List Frame) (s : State) (Z : State) (F : Fm) (B : Nat) (h0 : Heap) (A : List Addr) (kc ks : Nat) (P : Option Value → List Ob → Prop) (t : State) : Prop :=
  t.status = .running ∧ ∃ v L, Ended t below (.returned v) ∧ ((∀ y ∈ L, B ≤ y.base) ∧ ∃ os', Hin F Z h0 A t.heap os' ∧ P v os') ∧ FrameEnd s (.returned v) t L kc ks
def Go (p : Program) (e : Env) (below : List Frame) (G : State → Prop) (S : State) : Prop := ∃ t, Steps p.tables e below S t ∧ G t

variable {p : Program} {l : Launch} {e : Env} {R : Room} {s : State} {m : MethodId} {args : Array Value} {below : List Frame} {meth : Method} {c : Code} {Z : State} {F : Fm} {B : Nat} {h0 : Heap} {A : List Addr} {y : MethodName} {bytes : ByteArray} {mL : Nat} {ret : Option FieldType} {T : State} {k n : Nat} {os : List Ob} {G : State → Prop} {pc : Nat} {ls : Array Slot} {st : List Value} {a0 : Array Value}
theorem Go.by {S S' : State} (k : ∀ t, Steps p.tables e below S' t → Steps p.tables e below S t) (g : Go p e below G S') : Go p e below G S := by
  obtain ⟨t, h, g⟩ := g; exact ⟨t, k t h, g⟩
theorem Go.join {α : Type} {T : State} {fr : α → JFrame} (tree : α) {S : State} (K : ∀ z, z = tree → Go p e below G (T.setTop (fr z))) (M : (∀ z, z = tree → Go p e below G (T.setTop (fr z))) → Go p e below G S) : Go p e below G S := M K
theorem Go.cut {α : Type} {T : State} {fr : α → JFrame} (Q : α → Prop) {S : State} (K : ∀ z, Q z → Go p e below G (T.setTop (fr z))) (M : (∀ z, Q z → Go p e below G (T.setTop (fr z))) → Go p e below G S) : Go p e below G S := M K
theorem Go.cast {S S' : State} (q : S' = S) (g : Go p e below G S') : Go p e below G S := q ▸ g
theorem Oat.keep {h h' : Heap} {ws : List Addr} {a : Addr} {t : FieldType} {vs : List Value} (O : Oat F Z h a t vs) (K : Keep h h' ws) (q : a ∉ ws) : Oat F Z h' a t vs := by
  unfold Oat at O ⊢
  split at O
  · obtain ⟨E, f, cl, Ar, S⟩ := O; exact ⟨E.keep K, f, cl, ⟨K.2.1 a cl Ar.1 q, Ar.2⟩, S⟩
  · obtain ⟨E, hl, f⟩ := O; exact ⟨E.keep K, hl, fun i n d v h1 h2 => (f i n d v h1 h2).keep K q⟩
  · exact O
theorem Oat.lt {h : Heap} {a : Addr} {t : FieldType} {vs : List Value} (O : Oat F Z h a t vs) : a < h.size := by
  unfold Oat at O
  split at O
  · exact O.1.lt
  · exact O.1.lt
  · exact O.elim
theorem Okk.ge {A : List Addr} {N B : Nat} {a : Addr} (h : Okk A N a) (h1 : ∀ a ∈ A, B ≤ a) (h2 : B ≤ N) : B ≤ a := h.elim (h1 a) fun q => Nat.le_trans h2 q
theorem Keep.self (h : Heap) : Keep h h [] := Keep.refl h []
theorem Hp.nil {h : Heap} : Hp F Z h [] := ⟨List.nodup_nil, fun o q => nomatch q⟩
theorem Hp.get {h : Heap} {i : Nat} {o : Ob} (H : Hp F Z h os) (hi : os[i]? = some o) : Oat F Z h o.1 o.2.1 o.2.2 := H.2 o (List.mem_of_getElem? hi)
theorem nodup_at {L : List Addr} (hn : L.Nodup) {i j : Nat} {a : Addr} (hi : L[i]? = some a) (hj : L[j]? = some a) : i = j := by
  obtain ⟨h1, e1⟩ := List.getElem?_eq_some_iff.mp hi
  obtain ⟨h2, e2⟩ := List.getElem?_eq_some_iff.mp hj
  exact (List.getElem_inj hn).mp (e1.trans e2.symm)
theorem Hp.ext {h h' : Heap} (H : Hp F Z h os) (E : Ext h h') : Hp F Z h' os :=
  ⟨H.1, fun o ho => (H.2 o ho).keep ((Keep.refl h []).ext E) (fun q => nomatch q)⟩
theorem Hp.push {h h' : Heap} {t : FieldType} {vs : List Value} (H : Hp F Z h os) (E : Ext h h') (O : Oat F Z h' h.size t vs) : Hp F Z h' (os ++ [(h.size, t, vs)]) := by
  refine ⟨?_, fun o ho => ?_⟩
  · rw [List.map_append, List.nodup_append]
    refine ⟨H.1, by simp, fun a ha b hb => ?_⟩
    obtain ⟨o, ho, rfl⟩ := List.mem_map.mp ha
    have := (H.2 o ho).lt
    simp only [List.map_cons, List.map_nil, List.mem_singleton] at hb
    subst hb
    exact Nat.ne_of_lt this
  · rcases List.mem_append.mp ho with q | q
    · exact (H.ext E).2 o q
    · cases List.mem_singleton.mp q; exact O
/-- one object is written -/
theorem Hp.set {h h' : Heap} {i : Nat} {a : Addr} {t : FieldType} {vs vs' : List Value} (H : Hp F Z h os) (hi : os[i]? = some (a, t, vs)) (K : Keep h h' [a]) (O : Oat F Z h' a t vs') : Hp F Z h' (os.set i (a, t, vs')) := by
  obtain ⟨hlt, he⟩ := List.getElem?_eq_some_iff.mp hi
  have em : (os.set i (a, t, vs')).map (·.1) = os.map (·.1) := by
    rw [List.map_set]
    refine List.ext_getElem? fun j => ?_
    rw [List.getElem?_set]
    split
    · rename_i e; subst e; simp [he, hlt]
    · rfl
  refine ⟨em ▸ H.1, fun o ho => ?_⟩
  obtain ⟨j, hj⟩ := List.mem_iff_getElem?.mp ho
  rw [List.getElem?_set] at hj
  split at hj
  · simp [hlt] at hj; subst hj; exact O
  · rename_i ne
    refine (H.get hj).keep K (fun q => ne ?_)
    have q' : o.1 = a := List.mem_singleton.mp q
    exact (nodup_at H.1 (i := j) (j := i) (a := a) (by rw [List.getElem?_map, hj, ← q']; rfl) (by rw [List.getElem?_map, hi]; rfl)).symm
theorem Hin.mem {h : Heap} {i : Nat} {o : Ob} (H : Hin F Z h0 A h os) (hi : os[i]? = some o) : Okk A h0.size o.1 := H.2.2 o (List.mem_of_getElem? hi)
theorem Hin.push {h h' : Heap} {t : FieldType} {vs : List Value} (H : Hin F Z h0 A h os) (E : Ext h h') (O : Oat F Z h' h.size t vs) : Hin F Z h0 A h' (os ++ [(h.size, t, vs)]) :=
  ⟨H.1.ext E, H.2.1.push E O, fun o ho => (List.mem_append.mp ho).elim (H.2.2 o) fun q => by cases List.mem_singleton.mp q; exact Or.inr H.1.1⟩
theorem Hin.set {h h' : Heap} {i : Nat} {a : Addr} {t : FieldType} {vs vs' : List Value} (H : Hin F Z h0 A h os) (hi : os[i]? = some (a, t, vs)) (K : Keep h h' [a]) (O : Oat F Z h' a t vs') : Hin F Z h0 A h' (os.set i (a, t, vs')) := by
  refine ⟨H.1.trans K fun x hx => by cases List.mem_singleton.mp hx; exact H.mem hi, H.2.1.set hi K O, fun o ho => ?_⟩
  rcases List.mem_or_eq_of_mem_set ho with q | q
  · exact H.2.2 o q
  · subst q; have z := H.mem hi; exact z

/-- the body, entered -/
theorem Con.of {as : Array Value} {loc : List Ob} {P : Option Value → List Ob → Prop} {rm : Room} {ws : List Jvm.Cond} {ls : Array Slot} (hpl : plainFor y = true) (hef : ∀ m, entryFrame m as mL = mkF m 0 ls [])
    (body : ∀ p e h0 s m below meth c T, Here p l e rm s m as below meth c Z F B h0 (loc.map (·.1)) y bytes mL ret T 0 0 loc → Go p e below (Fin1 below s Z F B h0 (loc.map (·.1)) rm.cells rm.slots P) (T.setTop (mkF m 0 ls []))) :
    Con l Z F B y bytes mL ret rm ws as loc P := by
  intro h0 H hA hB
  refine MetFree.of_bodySF hpl hisR ?_
  intro p e s m args below meth c s₁ Bd hml0 hP hK
  obtain ⟨rfl, hZ, hh⟩ := hP
  have X0 : Stand p l e rm s m args below meth c s₁ [] 0 0 := Stand.of_body Bd
  have e0 : s₁.heap = h0 := by rw [← hh, Bd.state]; rfl
  obtain ⟨t, st, hr, v, L, hE, ⟨hL, os', hI, hp⟩, hF⟩ := body p e h0 s m below meth c s₁ ⟨⟨Bd.exec, hZ, Bd.bytes, hml0, findClass_of_methodNamed Bd.named, Bd.returns, Bd.notSynchronized, (name_of_methodNamed Bd.named Bd.method).1⟩, [], X0, ⟨fun y q => (nomatch q), hA, hB⟩, by rw [e0]; exact ⟨Keep.refl _ _, H, fun o ho => Or.inl (List.mem_map.mpr ⟨o, ho, rfl⟩)⟩⟩
  exact ⟨t, _, castTop (hef m) st, hr, hE, v, L, rfl, ⟨hL, os', hI, hp⟩, hF⟩

theorem g_iload_n {j : Fin 4} {v : Int32} (W : Here p l e R s m args below meth c Z F B h0 A y bytes mL ret T k n os) (hd : decode bytes pc = .ok (.iload_n j, 1)) (hl : ls[j.val]? = some (.val (.int v))) (K : Go p e below G (T.setTop (mkF m (pc + 1) ls (.int v :: st)))) : Go p e below G (T.setTop (mkF m pc ls (st))) := by
  obtain ⟨⟨hx, hZ, hby, -⟩, locs, X, -⟩ := W
  exact K.by fun t q => XS.iloadN X.here hx rfl (hb hby hd) hl q
theorem g_iload {j : Nat} {v : Int32} (W : Here p l e R s m args below meth c Z F B h0 A y bytes mL ret T k n os) (hd : decode bytes pc = .ok (.iload j, 2)) (hl : ls[j]? = some (.val (.int v))) (K : Go p e below G (T.setTop (mkF m (pc + 2) ls (.int v :: st)))) : Go p e below G (T.setTop (mkF m pc ls (st))) := by
  obtain ⟨⟨hx, hZ, hby, -⟩, locs, X, -⟩ := W
  exact K.by fun t q => XS.iload X.here hx rfl (hb hby hd) hl q
theorem g_lload_n {j : Fin 4} {v : Int64} (W : Here p l e R s m args below meth c Z F B h0 A y bytes mL ret T k n os) (hd : decode bytes pc = .ok (.lload_n j, 1)) (hl : ls[j.val]? = some (.val (.long v))) (K : Go p e below G (T.setTop (mkF m (pc + 1) ls (.long v :: st)))) : Go p e below G (T.setTop (mkF m pc ls (st))) := by
  obtain ⟨⟨hx, hZ, hby, -⟩, locs, X, -⟩ := W
  exact K.by fun t q => XT.lloadN X.here hx rfl (hb hby hd) hl q
theorem g_lload {j : Nat} {v : Int64} (W : Here p l e R s m args below meth c Z F B h0 A y bytes mL ret T k n os) (hd : decode bytes pc = .ok (.lload j, 2)) (hl : ls[j]? = some (.val (.long v))) (K : Go p e below G (T.setTop (mkF m (pc + 2) ls (.long v :: st)))) : Go p e below G (T.setTop (mkF m pc ls (st))) := by
  obtain ⟨⟨hx, hZ, hby, -⟩, locs, X, -⟩ := W
  exact K.by fun t q => XT.lload X.here hx rfl (hb hby hd) hl q
theorem g_aload_n {j : Fin 4} {v : Value} (W : Here p l e R s m args below meth c Z F B h0 A y bytes mL ret T k n os) (hd : decode bytes pc = .ok (.aload_n j, 1)) (hl : ls[j.val]? = some (.val v)) (hv : v.isRef = true) (K : Go p e below G (T.setTop (mkF m (pc + 1) ls (v :: st)))) : Go p e below G (T.setTop (mkF m pc ls (st))) := by
  obtain ⟨⟨hx, hZ, hby, -⟩, locs, X, -⟩ := W
  exact K.by fun t q => XS.aloadN X.here hx rfl (hb hby hd) hl hv q
theorem g_aload {j : Nat} {v : Value} (W : Here p l e R s m args below meth c Z F B h0 A y bytes mL ret T k n os) (hd : decode bytes pc = .ok (.aload j, 2)) (hl : ls[j]? = some (.val v)) (hv : v.isRef = true) (K : Go p e below G (T.setTop (mkF m (pc + 2) ls (v :: st)))) : Go p e below G (T.setTop (mkF m pc ls (st))) := by
  obtain ⟨⟨hx, hZ, hby, -⟩, locs, X, -⟩ := W
  exact K.by fun t q => XS.aload X.here hx rfl (hb hby hd) hl hv q
theorem g_istore_n {j : Fin 4} {v : Int32} {ls' : Array Slot} (W : Here p l e R s m args below meth c Z F B h0 A y bytes mL ret T k n os) (hd : decode bytes pc = .ok (.istore_n j, 1)) (hl : storeLocals ls j.val (.int v) = some ls') (K : Go p e below G (T.setTop (mkF m (pc + 1) ls' (st)))) : Go p e below G (T.setTop (mkF m pc ls (.int v :: st))) := by
  obtain ⟨⟨hx, hZ, hby, -⟩, locs, X, -⟩ := W
  exact K.by fun t q => XS.istoreN X.here hx rfl (hb hby hd) rfl hl q
theorem g_istore {j : Nat} {v : Int32} {ls' : Array Slot} (W : Here p l e R s m args below meth c Z F B h0 A y bytes mL ret T k n os) (hd : decode bytes pc = .ok (.istore j, 2)) (hl : storeLocals ls j (.int v) = some ls') (K : Go p e below G (T.setTop (mkF m (pc + 2) ls' (st)))) : Go p e below G (T.setTop (mkF m pc ls (.int v :: st))) := by
  obtain ⟨⟨hx, hZ, hby, -⟩, locs, X, -⟩ := W
  exact K.by fun t q => XS.istore X.here hx rfl (hb hby hd) rfl hl q
theorem g_lstore_n {j : Fin 4} {v : Int64} {ls' : Array Slot} (W : Here p l e R s m args below meth c Z F B h0 A y bytes mL ret T k n os) (hd : decode bytes pc = .ok (.lstore_n j, 1)) (hl : storeLocals ls j.val (.long v) = some ls') (K : Go p e below G (T.setTop (mkF m (pc + 1) ls' (st)))) : Go p e below G (T.setTop (mkF m pc ls (.long v :: st))) := by
  obtain ⟨⟨hx, hZ, hby, -⟩, locs, X, -⟩ := W
  exact K.by fun t q => XT.lstoreN X.here hx rfl (hb hby hd) rfl hl q
theorem g_lstore {j : Nat} {v : Int64} {ls' : Array Slot} (W : Here p l e R s m args below meth c Z F B h0 A y bytes mL ret T k n os) (hd : decode bytes pc = .ok (.lstore j, 2)) (hl : storeLocals ls j (.long v) = some ls') (K : Go p e below G (T.setTop (mkF m (pc + 2) ls' (st)))) : Go p e below G (T.setTop (mkF m pc ls (.long v :: st))) := by
  obtain ⟨⟨hx, hZ, hby, -⟩, locs, X, -⟩ := W
  exact K.by fun t q => XT.lstore X.here hx rfl (hb hby hd) rfl hl q
theorem g_astore_n {j : Fin 4} {v : Value} {ls' : Array Slot} (W : Here p l e R s m args below meth c Z F B h0 A y bytes mL ret T k n os) (hd : decode bytes pc = .ok (.astore_n j, 1)) (hv : v.isRef = true) (hl : storeLocals ls j.val v = some ls') (K : Go p e below G (T.setTop (mkF m (pc + 1) ls' (st)))) : Go p e below G (T.setTop (mkF m pc ls (v :: st))) := by
  obtain ⟨⟨hx, hZ, hby, -⟩, locs, X, -⟩ := W
  exact K.by fun t q => XS.astoreN X.here hx rfl (hb hby hd) rfl hv hl q
theorem g_astore {j : Nat} {v : Value} {ls' : Array Slot} (W : Here p l e R s m args below meth c Z F B h0 A y bytes mL ret T k n os) (hd : decode bytes pc = .ok (.astore j, 2)) (hv : v.isRef = true) (hl : storeLocals ls j v = some ls') (K : Go p e below G (T.setTop (mkF m (pc + 2) ls' (st)))) : Go p e below G (T.setTop (mkF m pc ls (v :: st))) := by
  obtain ⟨⟨hx, hZ, hby, -⟩, locs, X, -⟩ := W
  exact K.by fun t q => XS.astore X.here hx rfl (hb hby hd) rfl hv hl q
theorem g_iconst {i : Int} (v : Int32) (hv : Int32.ofInt i = v) (W : Here p l e R s m args below meth c Z F B h0 A y bytes mL ret T k n os) (hd : decode bytes pc = .ok (.iconst i, 1)) (K : Go p e below G (T.setTop (mkF m (pc + 1) ls (.int v :: st)))) : Go p e below G (T.setTop (mkF m pc ls st)) := by
  obtain ⟨⟨hx, hZ, hby, -⟩, locs, X, -⟩ := W
  subst hv
  exact K.by fun t q => XS.iconst X.here hx rfl (hb hby hd) q
theorem g_bipush {i : Int} (v : Int32) (hv : (Int8.ofInt i).toInt32 = v) (W : Here p l e R s m args below meth c Z F B h0 A y bytes mL ret T k n os) (hd : decode bytes pc = .ok (.bipush i, 2)) (K : Go p e below G (T.setTop (mkF m (pc + 2) ls (.int v :: st)))) : Go p e below G (T.setTop (mkF m pc ls st)) := by
  obtain ⟨⟨hx, hZ, hby, -⟩, locs, X, -⟩ := W
  subst hv
  exact K.by fun t q => XS.bipush X.here hx rfl (hb hby hd) q
theorem g_sipush {i : Int} (v : Int32) (hv : (Int16.ofInt i).toInt32 = v) (W : Here p l e R s m args below meth c Z F B h0 A y bytes mL ret T k n os) (hd : decode bytes pc = .ok (.sipush i, 3)) (K : Go p e below G (T.setTop (mkF m (pc + 3) ls (.int v :: st)))) : Go p e below G (T.setTop (mkF m pc ls st)) := by
  obtain ⟨⟨hx, hZ, hby, -⟩, locs, X, -⟩ := W
  subst hv
  exact K.by fun t q => XS.sipush X.here hx rfl (hb hby hd) q
theorem g_lconst {i : Fin 2} (v : Int64) (hv : Int64.ofNat i = v) (W : Here p l e R s m args below meth c Z F B h0 A y bytes mL ret T k n os) (hd : decode bytes pc = .ok (.lconst i, 1)) (K : Go p e below G (T.setTop (mkF m (pc + 1) ls (.long v :: st)))) : Go p e below G (T.setTop (mkF m pc ls st)) := by
  obtain ⟨⟨hx, hZ, hby, -⟩, locs, X, -⟩ := W
  subst hv
  exact K.by fun t q => XT.lconst X.here hx rfl (hb hby hd) q
theorem g_aconst_null  (W : Here p l e R s m args below meth c Z F B h0 A y bytes mL ret T k n os) (hd : decode bytes pc = .ok (.aconst_null, 1)) (K : Go p e below G (T.setTop (mkF m (pc + 1) ls (.null :: st)))) : Go p e below G (T.setTop (mkF m pc ls (st))) := by
  obtain ⟨⟨hx, hZ, hby, -⟩, locs, X, -⟩ := W
  exact K.by fun t q => XS.aconstNull X.here hx rfl (hb hby hd)  q
theorem g_iadd {x z : Int32} (W : Here p l e R s m args below meth c Z F B h0 A y bytes mL ret T k n os) (hd : decode bytes pc = .ok (.iadd, 1)) (K : Go p e below G (T.setTop (mkF m (pc + 1) ls (.int (x + z) :: st)))) : Go p e below G (T.setTop (mkF m pc ls (.int z :: .int x :: st))) := by
  obtain ⟨⟨hx, hZ, hby, -⟩, locs, X, -⟩ := W
  exact K.by fun t q => XS.iadd X.here hx rfl (hb hby hd) rfl q
theorem g_isub {x z : Int32} (W : Here p l e R s m args below meth c Z F B h0 A y bytes mL ret T k n os) (hd : decode bytes pc = .ok (.isub, 1)) (K : Go p e below G (T.setTop (mkF m (pc + 1) ls (.int (x - z) :: st)))) : Go p e below G (T.setTop (mkF m pc ls (.int z :: .int x :: st))) := by
  obtain ⟨⟨hx, hZ, hby, -⟩, locs, X, -⟩ := W
  exact K.by fun t q => XS.isub X.here hx rfl (hb hby hd) rfl q
theorem g_iand {x z : Int32} (W : Here p l e R s m args below meth c Z F B h0 A y bytes mL ret T k n os) (hd : decode bytes pc = .ok (.iand, 1)) (K : Go p e below G (T.setTop (mkF m (pc + 1) ls (.int (x &&& z) :: st)))) : Go p e below G (T.setTop (mkF m pc ls (.int z :: .int x :: st))) := by
  obtain ⟨⟨hx, hZ, hby, -⟩, locs, X, -⟩ := W
  exact K.by fun t q => XS.iand X.here hx rfl (hb hby hd) rfl q
theorem g_imul {x z : Int32} (W : Here p l e R s m args below meth c Z F B h0 A y bytes mL ret T k n os) (hd : decode bytes pc = .ok (.imul, 1)) (K : Go p e below G (T.setTop (mkF m (pc + 1) ls (.int (x * z) :: st)))) : Go p e below G (T.setTop (mkF m pc ls (.int z :: .int x :: st))) := by
  obtain ⟨⟨hx, hZ, hby, -⟩, locs, X, -⟩ := W
  exact K.by fun t q => XS.imul X.here hx rfl (hb hby hd) rfl q
theorem g_ior {x z : Int32} (W : Here p l e R s m args below meth c Z F B h0 A y bytes mL ret T k n os) (hd : decode bytes pc = .ok (.ior, 1)) (K : Go p e below G (T.setTop (mkF m (pc + 1) ls (.int (x ||| z) :: st)))) : Go p e below G (T.setTop (mkF m pc ls (.int z :: .int x :: st))) := by
  obtain ⟨⟨hx, hZ, hby, -⟩, locs, X, -⟩ := W
  exact K.by fun t q => XT.ior X.here hx rfl (hb hby hd) rfl q
theorem g_ixor {x z : Int32} (W : Here p l e R s m args below meth c Z F B h0 A y bytes mL ret T k n os) (hd : decode bytes pc = .ok (.ixor, 1)) (K : Go p e below G (T.setTop (mkF m (pc + 1) ls (.int (x ^^^ z) :: st)))) : Go p e below G (T.setTop (mkF m pc ls (.int z :: .int x :: st))) := by
  obtain ⟨⟨hx, hZ, hby, -⟩, locs, X, -⟩ := W
  exact K.by fun t q => XT.ixor X.here hx rfl (hb hby hd) rfl q
theorem g_ishl {x z : Int32} (W : Here p l e R s m args below meth c Z F B h0 A y bytes mL ret T k n os) (hd : decode bytes pc = .ok (.ishl, 1)) (K : Go p e below G (T.setTop (mkF m (pc + 1) ls (.int (x <<< (z &&& 31)) :: st)))) : Go p e below G (T.setTop (mkF m pc ls (.int z :: .int x :: st))) := by
  obtain ⟨⟨hx, hZ, hby, -⟩, locs, X, -⟩ := W
  exact K.by fun t q => XT.ishl X.here hx rfl (hb hby hd) rfl q
theorem g_ishr {x z : Int32} (W : Here p l e R s m args below meth c Z F B h0 A y bytes mL ret T k n os) (hd : decode bytes pc = .ok (.ishr, 1)) (K : Go p e below G (T.setTop (mkF m (pc + 1) ls (.int (x >>> (z &&& 31)) :: st)))) : Go p e below G (T.setTop (mkF m pc ls (.int z :: .int x :: st))) := by
  obtain ⟨⟨hx, hZ, hby, -⟩, locs, X, -⟩ := W
  exact K.by fun t q => XT.ishr X.here hx rfl (hb hby hd) rfl q
theorem g_iushr {x z : Int32} (W : Here p l e R s m args below meth c Z F B h0 A y bytes mL ret T k n os) (hd : decode bytes pc = .ok (.iushr, 1)) (K : Go p e below G (T.setTop (mkF m (pc + 1) ls (.int (XT.ushr x z) :: st)))) : Go p e below G (T.setTop (mkF m pc ls (.int z :: .int x :: st))) := by
  obtain ⟨⟨hx, hZ, hby, -⟩, locs, X, -⟩ := W
  exact K.by fun t q => XT.iushr X.here hx rfl (hb hby hd) rfl q
theorem g_ladd {x z : Int64} (W : Here p l e R s m args below meth c Z F B h0 A y bytes mL ret T k n os) (hd : decode bytes pc = .ok (.ladd, 1)) (K : Go p e below G (T.setTop (mkF m (pc + 1) ls (.long (x + z) :: st)))) : Go p e below G (T.setTop (mkF m pc ls (.long z :: .long x :: st))) := by
  obtain ⟨⟨hx, hZ, hby, -⟩, locs, X, -⟩ := W
  exact K.by fun t q => XT.ladd X.here hx rfl (hb hby hd) rfl q
theorem g_lsub {x z : Int64} (W : Here p l e R s m args below meth c Z F B h0 A y bytes mL ret T k n os) (hd : decode bytes pc = .ok (.lsub, 1)) (K : Go p e below G (T.setTop (mkF m (pc + 1) ls (.long (x - z) :: st)))) : Go p e below G (T.setTop (mkF m pc ls (.long z :: .long x :: st))) := by
  obtain ⟨⟨hx, hZ, hby, -⟩, locs, X, -⟩ := W
  exact K.by fun t q => XT.lsub X.here hx rfl (hb hby hd) rfl q
theorem g_lmul {x z : Int64} (W : Here p l e R s m args below meth c Z F B h0 A y bytes mL ret T k n os) (hd : decode bytes pc = .ok (.lmul, 1)) (K : Go p e below G (T.setTop (mkF m (pc + 1) ls (.long (x * z) :: st)))) : Go p e below G (T.setTop (mkF m pc ls (.long z :: .long x :: st))) := by
  obtain ⟨⟨hx, hZ, hby, -⟩, locs, X, -⟩ := W
  exact K.by fun t q => XT.lmul X.here hx rfl (hb hby hd) rfl q
theorem g_land {x z : Int64} (W : Here p l e R s m args below meth c Z F B h0 A y bytes mL ret T k n os) (hd : decode bytes pc = .ok (.land, 1)) (K : Go p e below G (T.setTop (mkF m (pc + 1) ls (.long (x &&& z) :: st)))) : Go p e below G (T.setTop (mkF m pc ls (.long z :: .long x :: st))) := by
  obtain ⟨⟨hx, hZ, hby, -⟩, locs, X, -⟩ := W
  exact K.by fun t q => XT.land X.here hx rfl (hb hby hd) rfl q
theorem g_lor {x z : Int64} (W : Here p l e R s m args below meth c Z F B h0 A y bytes mL ret T k n os) (hd : decode bytes pc = .ok (.lor, 1)) (K : Go p e below G (T.setTop (mkF m (pc + 1) ls (.long (x ||| z) :: st)))) : Go p e below G (T.setTop (mkF m pc ls (.long z :: .long x :: st))) := by
  obtain ⟨⟨hx, hZ, hby, -⟩, locs, X, -⟩ := W
  exact K.by fun t q => XT.lor X.here hx rfl (hb hby hd) rfl q
theorem g_lxor {x z : Int64} (W : Here p l e R s m args below meth c Z F B h0 A y bytes mL ret T k n os) (hd : decode bytes pc = .ok (.lxor, 1)) (K : Go p e below G (T.setTop (mkF m (pc + 1) ls (.long (x ^^^ z) :: st)))) : Go p e below G (T.setTop (mkF m pc ls (.long z :: .long x :: st))) := by
  obtain ⟨⟨hx, hZ, hby, -⟩, locs, X, -⟩ := W
  exact K.by fun t q => XT.lxor X.here hx rfl (hb hby hd) rfl q
theorem g_idiv {x z : Int32} (W : Here p l e R s m args below meth c Z F B h0 A y bytes mL ret T k n os) (hd : decode bytes pc = .ok (.idiv, 1)) (hz : z ≠ 0) (K : Go p e below G (T.setTop (mkF m (pc + 1) ls (.int (x / z) :: st)))) : Go p e below G (T.setTop (mkF m pc ls (.int z :: .int x :: st))) := by
  obtain ⟨⟨hx, hZ, hby, -⟩, locs, X, -⟩ := W
  exact K.by fun t q => XS.idiv X.here hx rfl (hb hby hd) rfl hz q
theorem g_irem {x z : Int32} (W : Here p l e R s m args below meth c Z F B h0 A y bytes mL ret T k n os) (hd : decode bytes pc = .ok (.irem, 1)) (hz : z ≠ 0) (K : Go p e below G (T.setTop (mkF m (pc + 1) ls (.int (x % z) :: st)))) : Go p e below G (T.setTop (mkF m pc ls (.int z :: .int x :: st))) := by
  obtain ⟨⟨hx, hZ, hby, -⟩, locs, X, -⟩ := W
  exact K.by fun t q => iremM X hx rfl (hb hby hd) rfl hz q
theorem g_ineg {x : Int32} (W : Here p l e R s m args below meth c Z F B h0 A y bytes mL ret T k n os) (hd : decode bytes pc = .ok (.ineg, 1)) (K : Go p e below G (T.setTop (mkF m (pc + 1) ls (.int (-x) :: st)))) : Go p e below G (T.setTop (mkF m pc ls (.int x :: st))) := by
  obtain ⟨⟨hx, hZ, hby, -⟩, locs, X, -⟩ := W
  exact K.by fun t q => XS.ineg X.here hx rfl (hb hby hd) rfl q
theorem g_lneg {x : Int64} (W : Here p l e R s m args below meth c Z F B h0 A y bytes mL ret T k n os) (hd : decode bytes pc = .ok (.lneg, 1)) (K : Go p e below G (T.setTop (mkF m (pc + 1) ls (.long (-x) :: st)))) : Go p e below G (T.setTop (mkF m pc ls (.long x :: st))) := by
  obtain ⟨⟨hx, hZ, hby, -⟩, locs, X, -⟩ := W
  exact K.by fun t q => XT.lneg X.here hx rfl (hb hby hd) rfl q
theorem g_i2l {x : Int32} (W : Here p l e R s m args below meth c Z F B h0 A y bytes mL ret T k n os) (hd : decode bytes pc = .ok (.i2l, 1)) (K : Go p e below G (T.setTop (mkF m (pc + 1) ls (.long x.toInt64 :: st)))) : Go p e below G (T.setTop (mkF m pc ls (.int x :: st))) := by
  obtain ⟨⟨hx, hZ, hby, -⟩, locs, X, -⟩ := W
  exact K.by fun t q => XT.i2l X.here hx rfl (hb hby hd) rfl q
theorem g_l2i {x : Int64} (W : Here p l e R s m args below meth c Z F B h0 A y bytes mL ret T k n os) (hd : decode bytes pc = .ok (.l2i, 1)) (K : Go p e below G (T.setTop (mkF m (pc + 1) ls (.int x.toInt32 :: st)))) : Go p e below G (T.setTop (mkF m pc ls (.long x :: st))) := by
  obtain ⟨⟨hx, hZ, hby, -⟩, locs, X, -⟩ := W
  exact K.by fun t q => XT.l2i X.here hx rfl (hb hby hd) rfl q
theorem g_i2b {x : Int32} (W : Here p l e R s m args below meth c Z F B h0 A y bytes mL ret T k n os) (hd : decode bytes pc = .ok (.i2b, 1)) (K : Go p e below G (T.setTop (mkF m (pc + 1) ls (.int x.toInt8.toInt32 :: st)))) : Go p e below G (T.setTop (mkF m pc ls (.int x :: st))) := by
  obtain ⟨⟨hx, hZ, hby, -⟩, locs, X, -⟩ := W
  exact K.by fun t q => XT.i2b X.here hx rfl (hb hby hd) rfl q
theorem g_i2c {x : Int32} (W : Here p l e R s m args below meth c Z F B h0 A y bytes mL ret T k n os) (hd : decode bytes pc = .ok (.i2c, 1)) (K : Go p e below G (T.setTop (mkF m (pc + 1) ls (.int x.toUInt32.toUInt16.toUInt32.toInt32 :: st)))) : Go p e below G (T.setTop (mkF m pc ls (.int x :: st))) := by
  obtain ⟨⟨hx, hZ, hby, -⟩, locs, X, -⟩ := W
  exact K.by fun t q => XT.i2c X.here hx rfl (hb hby hd) rfl q
theorem g_i2s {x : Int32} (W : Here p l e R s m args below meth c Z F B h0 A y bytes mL ret T k n os) (hd : decode bytes pc = .ok (.i2s, 1)) (K : Go p e below G (T.setTop (mkF m (pc + 1) ls (.int x.toInt16.toInt32 :: st)))) : Go p e below G (T.setTop (mkF m pc ls (.int x :: st))) := by
  obtain ⟨⟨hx, hZ, hby, -⟩, locs, X, -⟩ := W
  exact K.by fun t q => XT.i2s X.here hx rfl (hb hby hd) rfl q
theorem g_lcmp {x z : Int64} (W : Here p l e R s m args below meth c Z F B h0 A y bytes mL ret T k n os) (hd : decode bytes pc = .ok (.lcmp, 1)) (K : Go p e below G (T.setTop (mkF m (pc + 1) ls (.int (XT.cmpL x z) :: st)))) : Go p e below G (T.setTop (mkF m pc ls (.long z :: .long x :: st))) := by
  obtain ⟨⟨hx, hZ, hby, -⟩, locs, X, -⟩ := W
  exact K.by fun t q => XT.lcmp X.here hx rfl (hb hby hd) rfl q
theorem g_dup {v : Value} (W : Here p l e R s m args below meth c Z F B h0 A y bytes mL ret T k n os) (hd : decode bytes pc = .ok (.dup, 1)) (hv : v.category = 1) (K : Go p e below G (T.setTop (mkF m (pc + 1) ls (v :: v :: st)))) : Go p e below G (T.setTop (mkF m pc ls (v :: st))) := by
  obtain ⟨⟨hx, hZ, hby, -⟩, locs, X, -⟩ := W
  exact K.by fun t q => XS.dup X.here hx rfl (hb hby hd) rfl hv q
theorem g_pop {v : Value} (W : Here p l e R s m args below meth c Z F B h0 A y bytes mL ret T k n os) (hd : decode bytes pc = .ok (.pop, 1)) (hv : v.category = 1) (K : Go p e below G (T.setTop (mkF m (pc + 1) ls (st)))) : Go p e below G (T.setTop (mkF m pc ls (v :: st))) := by
  obtain ⟨⟨hx, hZ, hby, -⟩, locs, X, -⟩ := W
  exact K.by fun t q => XT.pop X.here hx rfl (hb hby hd) rfl hv q
theorem g_dup_x1 {v w : Value} (W : Here p l e R s m args below meth c Z F B h0 A y bytes mL ret T k n os) (hd : decode bytes pc = .ok (.dup_x1, 1)) (hv : v.category = 1) (hw : w.category = 1) (K : Go p e below G (T.setTop (mkF m (pc + 1) ls (v :: w :: v :: st)))) : Go p e below G (T.setTop (mkF m pc ls (v :: w :: st))) := by
  obtain ⟨⟨hx, hZ, hby, -⟩, locs, X, -⟩ := W
  exact K.by fun t q => XT.dupX1 X.here hx rfl (hb hby hd) rfl hv hw q
theorem g_dup2 {v w : Value} (W : Here p l e R s m args below meth c Z F B h0 A y bytes mL ret T k n os) (hd : decode bytes pc = .ok (.dup2, 1)) (hv : v.category = 1) (hw : w.category = 1) (K : Go p e below G (T.setTop (mkF m (pc + 1) ls (v :: w :: v :: w :: st)))) : Go p e below G (T.setTop (mkF m pc ls (v :: w :: st))) := by
  obtain ⟨⟨hx, hZ, hby, -⟩, locs, X, -⟩ := W
  exact K.by fun t q => XT.dup2 X.here hx rfl (hb hby hd) rfl hv hw q
theorem g_iinc {j : Nat} {i : Int} {x : Int32} (v : Int32) (hv : Int32.ofInt i = v) {ls' : Array Slot} (W : Here p l e R s m args below meth c Z F B h0 A y bytes mL ret T k n os) (hd : decode bytes pc = .ok (.iinc j i, 3)) (hl : ls[j]? = some (.val (.int x))) (hl' : storeLocals ls j (.int (x + v)) = some ls') (K : Go p e below G (T.setTop (mkF m (pc + 3) ls' st))) : Go p e below G (T.setTop (mkF m pc ls st)) := by
  obtain ⟨⟨hx, hZ, hby, -⟩, locs, X, -⟩ := W
  subst hv
  exact K.by fun t q => XS.iinc X.here hx rfl (hb hby hd) hl hl' q
theorem g_goto {o : Int} (pc' : Nat) (W : Here p l e R s m args below meth c Z F B h0 A y bytes mL ret T k n os) (hd : decode bytes pc = .ok (.goto o, 3)) (ho : 0 ≤ (pc : Int) + o) (hp : ((pc : Int) + o).toNat = pc') (K : Go p e below G (T.setTop (mkF m pc' ls st))) : Go p e below G (T.setTop (mkF m pc ls st)) := by
  obtain ⟨⟨hx, hZ, hby, -⟩, locs, X, -⟩ := W
  exact K.by fun t q => XS.goto X.here hx rfl rfl (hb hby hd) ho hp q
theorem g_icmpY {cd : ClassFile.Cond} {o : Int} {x z : Int32} (pc' : Nat) (W : Here p l e R s m args below meth c Z F B h0 A y bytes mL ret T k n os) (hd : decode bytes pc = .ok (.if_icmp cd o, 3)) (ho : 0 ≤ (pc : Int) + o) (hp : ((pc : Int) + o).toNat = pc') (hc : if_icmp.holds cd x z = true) (K : Go p e below G (T.setTop (mkF m pc' ls st))) : Go p e below G (T.setTop (mkF m pc ls (.int z :: .int x :: st))) := by
  obtain ⟨⟨hx, hZ, hby, -⟩, locs, X, -⟩ := W
  exact K.by fun t q => XS.icmpYes X.here hx rfl rfl (hb hby hd) rfl hc ho hp q
theorem g_icmpN {cd : ClassFile.Cond} {o : Int} {x z : Int32} (W : Here p l e R s m args below meth c Z F B h0 A y bytes mL ret T k n os) (hd : decode bytes pc = .ok (.if_icmp cd o, 3)) (hc : if_icmp.holds cd x z = false) (K : Go p e below G (T.setTop (mkF m (pc + 3) ls st))) : Go p e below G (T.setTop (mkF m pc ls (.int z :: .int x :: st))) := by
  obtain ⟨⟨hx, hZ, hby, -⟩, locs, X, -⟩ := W
  exact K.by fun t q => XS.icmpNo X.here hx rfl (hb hby hd) rfl hc q
theorem g_ifY {cd : ClassFile.Cond} {o : Int} {x : Int32} (pc' : Nat) (W : Here p l e R s m args below meth c Z F B h0 A y bytes mL ret T k n os) (hd : decode bytes pc = .ok (.ifCond cd o, 3)) (ho : 0 ≤ (pc : Int) + o) (hp : ((pc : Int) + o).toNat = pc') (hc : if_icmp.holds cd x 0 = true) (K : Go p e below G (T.setTop (mkF m pc' ls st))) : Go p e below G (T.setTop (mkF m pc ls (.int x :: st))) := by
  obtain ⟨⟨hx, hZ, hby, -⟩, locs, X, -⟩ := W
  exact K.by fun t q => XS.ifYes X.here hx rfl rfl (hb hby hd) rfl ((if0 _ _).trans hc) ho hp q
theorem g_ifN {cd : ClassFile.Cond} {o : Int} {x : Int32} (W : Here p l e R s m args below meth c Z F B h0 A y bytes mL ret T k n os) (hd : decode bytes pc = .ok (.ifCond cd o, 3)) (hc : if_icmp.holds cd x 0 = false) (K : Go p e below G (T.setTop (mkF m (pc + 3) ls st))) : Go p e below G (T.setTop (mkF m pc ls (.int x :: st))) := by
  obtain ⟨⟨hx, hZ, hby, -⟩, locs, X, -⟩ := W
  exact K.by fun t q => XS.ifNo X.here hx rfl (hb hby hd) rfl ((if0 _ _).trans hc) q
theorem g_icmp_lt {o : Int} {x z : Int32} (pc' : Nat) (W : Here p l e R s m args below meth c Z F B h0 A y bytes mL ret T k n os) (hd : decode bytes pc = .ok (.if_icmp .lt o, 3)) (ho : 0 ≤ (pc : Int) + o) (hp : ((pc : Int) + o).toNat = pc') (Y : x < z → Go p e below G (T.setTop (mkF m pc' ls st))) (N : ¬ (x < z) → Go p e below G (T.setTop (mkF m (pc + 3) ls st))) : Go p e below G (T.setTop (mkF m pc ls (.int z :: .int x :: st))) := by
  by_cases q : x < z
  · exact g_icmpY pc' W hd ho hp (tlt q).1 (Y q)
  · exact g_icmpN W hd (flt q).1 (N q)
theorem g_if_lt {o : Int} {x : Int32} (pc' : Nat) (W : Here p l e R s m args below meth c Z F B h0 A y bytes mL ret T k n os) (hd : decode bytes pc = .ok (.ifCond .lt o, 3)) (ho : 0 ≤ (pc : Int) + o) (hp : ((pc : Int) + o).toNat = pc') (Y : x < 0 → Go p e below G (T.setTop (mkF m pc' ls st))) (N : ¬ (x < 0) → Go p e below G (T.setTop (mkF m (pc + 3) ls st))) : Go p e below G (T.setTop (mkF m pc ls (.int x :: st))) := by
  by_cases q : x < 0
  · exact g_ifY pc' W hd ho hp (tlt q).1 (Y q)
  · exact g_ifN W hd (flt q).1 (N q)
theorem g_icmp_ge {o : Int} {x z : Int32} (pc' : Nat) (W : Here p l e R s m args below meth c Z F B h0 A y bytes mL ret T k n os) (hd : decode bytes pc = .ok (.if_icmp .ge o, 3)) (ho : 0 ≤ (pc : Int) + o) (hp : ((pc : Int) + o).toNat = pc') (Y : ¬ (x < z) → Go p e below G (T.setTop (mkF m pc' ls st))) (N : x < z → Go p e below G (T.setTop (mkF m (pc + 3) ls st))) : Go p e below G (T.setTop (mkF m pc ls (.int z :: .int x :: st))) := by
  by_cases q : x < z
  · exact g_icmpN W hd (tlt q).2.1 (N q)
  · exact g_icmpY pc' W hd ho hp (flt q).2.1 (Y q)
theorem g_if_ge {o : Int} {x : Int32} (pc' : Nat) (W : Here p l e R s m args below meth c Z F B h0 A y bytes mL ret T k n os) (hd : decode bytes pc = .ok (.ifCond .ge o, 3)) (ho : 0 ≤ (pc : Int) + o) (hp : ((pc : Int) + o).toNat = pc') (Y : ¬ (x < 0) → Go p e below G (T.setTop (mkF m pc' ls st))) (N : x < 0 → Go p e below G (T.setTop (mkF m (pc + 3) ls st))) : Go p e below G (T.setTop (mkF m pc ls (.int x :: st))) := by
  by_cases q : x < 0
  · exact g_ifN W hd (tlt q).2.1 (N q)
  · exact g_ifY pc' W hd ho hp (flt q).2.1 (Y q)
theorem g_icmp_gt {o : Int} {x z : Int32} (pc' : Nat) (W : Here p l e R s m args below meth c Z F B h0 A y bytes mL ret T k n os) (hd : decode bytes pc = .ok (.if_icmp .gt o, 3)) (ho : 0 ≤ (pc : Int) + o) (hp : ((pc : Int) + o).toNat = pc') (Y : z < x → Go p e below G (T.setTop (mkF m pc' ls st))) (N : ¬ (z < x) → Go p e below G (T.setTop (mkF m (pc + 3) ls st))) : Go p e below G (T.setTop (mkF m pc ls (.int z :: .int x :: st))) := by
  by_cases q : z < x
  · exact g_icmpY pc' W hd ho hp (tlt q).2.2.1 (Y q)
  · exact g_icmpN W hd (flt q).2.2.1 (N q)
theorem g_if_gt {o : Int} {x : Int32} (pc' : Nat) (W : Here p l e R s m args below meth c Z F B h0 A y bytes mL ret T k n os) (hd : decode bytes pc = .ok (.ifCond .gt o, 3)) (ho : 0 ≤ (pc : Int) + o) (hp : ((pc : Int) + o).toNat = pc') (Y : 0 < x → Go p e below G (T.setTop (mkF m pc' ls st))) (N : ¬ (0 < x) → Go p e below G (T.setTop (mkF m (pc + 3) ls st))) : Go p e below G (T.setTop (mkF m pc ls (.int x :: st))) := by
  by_cases q : 0 < x
  · exact g_ifY pc' W hd ho hp (tlt q).2.2.1 (Y q)
  · exact g_ifN W hd (flt q).2.2.1 (N q)
theorem g_icmp_le {o : Int} {x z : Int32} (pc' : Nat) (W : Here p l e R s m args below meth c Z F B h0 A y bytes mL ret T k n os) (hd : decode bytes pc = .ok (.if_icmp .le o, 3)) (ho : 0 ≤ (pc : Int) + o) (hp : ((pc : Int) + o).toNat = pc') (Y : ¬ (z < x) → Go p e below G (T.setTop (mkF m pc' ls st))) (N : z < x → Go p e below G (T.setTop (mkF m (pc + 3) ls st))) : Go p e below G (T.setTop (mkF m pc ls (.int z :: .int x :: st))) := by
  by_cases q : z < x
  · exact g_icmpN W hd (tlt q).2.2.2 (N q)
  · exact g_icmpY pc' W hd ho hp (flt q).2.2.2 (Y q)
theorem g_if_le {o : Int} {x : Int32} (pc' : Nat) (W : Here p l e R s m args below meth c Z F B h0 A y bytes mL ret T k n os) (hd : decode bytes pc = .ok (.ifCond .le o, 3)) (ho : 0 ≤ (pc : Int) + o) (hp : ((pc : Int) + o).toNat = pc') (Y : ¬ (0 < x) → Go p e below G (T.setTop (mkF m pc' ls st))) (N : 0 < x → Go p e below G (T.setTop (mkF m (pc + 3) ls st))) : Go p e below G (T.setTop (mkF m pc ls (.int x :: st))) := by
  by_cases q : 0 < x
  · exact g_ifN W hd (tlt q).2.2.2 (N q)
  · exact g_ifY pc' W hd ho hp (flt q).2.2.2 (Y q)
theorem g_icmp_eq {o : Int} {x z : Int32} (pc' : Nat) (W : Here p l e R s m args below meth c Z F B h0 A y bytes mL ret T k n os) (hd : decode bytes pc = .ok (.if_icmp .eq o, 3)) (ho : 0 ≤ (pc : Int) + o) (hp : ((pc : Int) + o).toNat = pc') (Y : x = z → Go p e below G (T.setTop (mkF m pc' ls st))) (N : ¬ (x = z) → Go p e below G (T.setTop (mkF m (pc + 3) ls st))) : Go p e below G (T.setTop (mkF m pc ls (.int z :: .int x :: st))) := by
  by_cases q : x = z
  · exact g_icmpY pc' W hd ho hp (teq q).1 (Y q)
  · exact g_icmpN W hd (feq q).1 (N q)
theorem g_if_eq {o : Int} {x : Int32} (pc' : Nat) (W : Here p l e R s m args below meth c Z F B h0 A y bytes mL ret T k n os) (hd : decode bytes pc = .ok (.ifCond .eq o, 3)) (ho : 0 ≤ (pc : Int) + o) (hp : ((pc : Int) + o).toNat = pc') (Y : x = 0 → Go p e below G (T.setTop (mkF m pc' ls st))) (N : ¬ (x = 0) → Go p e below G (T.setTop (mkF m (pc + 3) ls st))) : Go p e below G (T.setTop (mkF m pc ls (.int x :: st))) := by
  by_cases q : x = 0
  · exact g_ifY pc' W hd ho hp (teq q).1 (Y q)
  · exact g_ifN W hd (feq q).1 (N q)
theorem g_icmp_ne {o : Int} {x z : Int32} (pc' : Nat) (W : Here p l e R s m args below meth c Z F B h0 A y bytes mL ret T k n os) (hd : decode bytes pc = .ok (.if_icmp .ne o, 3)) (ho : 0 ≤ (pc : Int) + o) (hp : ((pc : Int) + o).toNat = pc') (Y : ¬ (x = z) → Go p e below G (T.setTop (mkF m pc' ls st))) (N : x = z → Go p e below G (T.setTop (mkF m (pc + 3) ls st))) : Go p e below G (T.setTop (mkF m pc ls (.int z :: .int x :: st))) := by
  by_cases q : x = z
  · exact g_icmpN W hd (teq q).2 (N q)
  · exact g_icmpY pc' W hd ho hp (feq q).2 (Y q)
theorem g_if_ne {o : Int} {x : Int32} (pc' : Nat) (W : Here p l e R s m args below meth c Z F B h0 A y bytes mL ret T k n os) (hd : decode bytes pc = .ok (.ifCond .ne o, 3)) (ho : 0 ≤ (pc : Int) + o) (hp : ((pc : Int) + o).toNat = pc') (Y : ¬ (x = 0) → Go p e below G (T.setTop (mkF m pc' ls st))) (N : x = 0 → Go p e below G (T.setTop (mkF m (pc + 3) ls st))) : Go p e below G (T.setTop (mkF m pc ls (.int x :: st))) := by
  by_cases q : x = 0
  · exact g_ifN W hd (teq q).2 (N q)
  · exact g_ifY pc' W hd ho hp (feq q).2 (Y q)
theorem g_lookup {dfl : Int} {pairs : Array (Int × Int)} {len : Nat} {x : Int32} (W : Here p l e R s m args below meth c Z F B h0 A y bytes mL ret T k n os) (hd : decode bytes pc = .ok (.lookupswitch dfl pairs, len)) (hs : (pairs.toList.zip (pairs.toList.drop 1)).all (fun (a, next) => a.1 < next.1) = true) (ho : ∀ q ∈ pairs.toList, 0 ≤ (pc : Int) + q.2) (ho' : 0 ≤ (pc : Int) + dfl)
    (Y : ∀ a off, (a, off) ∈ pairs.toList → x.toInt = a → Go p e below G (T.setTop (mkF m ((pc : Int) + off).toNat ls st))) (N : (∀ q ∈ pairs.toList, q.1 ≠ x.toInt) → Go p e below G (T.setTop (mkF m ((pc : Int) + dfl).toNat ls st))) : Go p e below G (T.setTop (mkF m pc ls (.int x :: st))) := by
  obtain ⟨⟨hx, hZ, hby, -⟩, locs, X, -⟩ := W
  cases hf : pairs.find? (·.1 == x.toInt) with
  | none =>
    have K := N fun q hq e => by
      rw [Array.find?_eq_none] at hf
      exact hf q (Array.mem_toList_iff.mp hq) (by simp [e])
    exact K.by fun t q => X.lookupswitchMiss hx (g := mkF m pc ls (.int x :: st)) rfl rfl (hb hby hd) hs hf ho' t q
  | some q =>
    obtain ⟨a, off⟩ := q
    have h1 := Array.find?_some hf
    have h2 := Array.mem_toList_iff.mpr (Array.mem_of_find?_eq_some hf)
    have K := Y a off h2 (by simpa using (beq_iff_eq.mp h1).symm)
    exact K.by fun t q => X.lookupswitchHit hx (g := mkF m pc ls (.int x :: st)) rfl rfl (hb hby hd) hs hf (ho _ h2) t q
theorem g_ldc_int {i : Nat} {v : Int32} (W : Here p l e R s m args below meth c Z F B h0 A y bytes mL ret T k n os) (w : (Jvm.Cond.constant y.cls i v).before a0 Z = true) (hd : decode bytes pc = .ok (.ldc i, 2)) (K : Go p e below G (T.setTop (mkF m (pc + 2) ls (.int v :: st)))) : Go p e below G (T.setTop (mkF m pc ls st)) := by
  obtain ⟨⟨hx, hZ, hby, -, hown, -⟩, locs, X, -⟩ := W
  exact K.by fun t q => X.ldcInt hx hown (mvT hZ w) (g := mkF m pc ls st) rfl (hb hby hd) t q
theorem g_ldc2_long {i : Nat} {v : Int64} (W : Here p l e R s m args below meth c Z F B h0 A y bytes mL ret T k n os) (w : (Jvm.Cond.constantLong y.cls i v).before a0 Z = true) (hd : decode bytes pc = .ok (.ldc2_w i, 3)) (K : Go p e below G (T.setTop (mkF m (pc + 3) ls (.long v :: st)))) : Go p e below G (T.setTop (mkF m pc ls st)) := by
  obtain ⟨⟨hx, hZ, hby, -, hown, -⟩, locs, X, -⟩ := W
  exact K.by fun t q => X.ldc2Long hx hown (mvT hZ w) (g := mkF m pc ls st) rfl (hb hby hd) t q
theorem g_ireturn {z : Int32} (hT : ret = some .int) {kc ks : Nat} {P : Option Value → List Ob → Prop} (W : Here p l e R s m args below meth c Z F B h0 A y bytes mL ret T k n os) (hd : decode bytes pc = .ok (.ireturn, 1)) (hk : k ≤ kc) (hn : n ≤ ks) (hp : P (some (.int z)) os) : Go p e below (Fin1 below s Z F B h0 A kc ks P) (T.setTop (mkF m pc ls (.int z :: st))) := by
  obtain ⟨⟨hx, hZ, hby, -, hown, hret, hlk, -⟩, locs, X, hL, hI⟩ := W
  obtain ⟨fs, hr, hrun, hended, hW, hsame⟩ := X.leave (v := some (.int z)) (fun h => by rw [hret, hT] at h; cases h) hlk
  exact ⟨_, retOut X hx (hret.trans hT) rfl (Or.inl ⟨rfl, Or.inl rfl, z, rfl⟩) (hb hby hd) hr, hrun, _, locs, hended, ⟨hL.1, os, hI, hp⟩, ⟨_, rfl⟩, hW, hsame.mono hk hn⟩
theorem g_zreturn {z : Int32} (hT : ret = some .boolean) (hz : z &&& 1 = z) {kc ks : Nat} {P : Option Value → List Ob → Prop} (W : Here p l e R s m args below meth c Z F B h0 A y bytes mL ret T k n os) (hd : decode bytes pc = .ok (.ireturn, 1)) (hk : k ≤ kc) (hn : n ≤ ks) (hp : P (some (.int z)) os) : Go p e below (Fin1 below s Z F B h0 A kc ks P) (T.setTop (mkF m pc ls (.int z :: st))) := by
  obtain ⟨⟨hx, hZ, hby, -, hown, hret, hlk, -⟩, locs, X, hL, hI⟩ := W
  obtain ⟨fs, hr, hrun, hended, hW, hsame⟩ := X.leave (v := some (.int z)) (fun h => by rw [hret, hT] at h; cases h) hlk
  exact ⟨_, retOut (t := .boolean) (w := .int z) X hx (hret.trans hT) (show Value.int (z &&& 1) = .int z by rw [hz]) (Or.inl ⟨rfl, Or.inr (Or.inl rfl), z, rfl⟩) (hb hby hd) hr, hrun, _, locs, hended, ⟨hL.1, os, hI, hp⟩, ⟨_, rfl⟩, hW, hsame.mono hk hn⟩
theorem g_lreturn {z : Int64} (hT : ret = some .long) {kc ks : Nat} {P : Option Value → List Ob → Prop} (W : Here p l e R s m args below meth c Z F B h0 A y bytes mL ret T k n os) (hd : decode bytes pc = .ok (.lreturn, 1)) (hk : k ≤ kc) (hn : n ≤ ks) (hp : P (some (.long z)) os) : Go p e below (Fin1 below s Z F B h0 A kc ks P) (T.setTop (mkF m pc ls (.long z :: st))) := by
  obtain ⟨⟨hx, hZ, hby, -, hown, hret, hlk, -⟩, locs, X, hL, hI⟩ := W
  obtain ⟨fs, hr, hrun, hended, hW, hsame⟩ := X.leave (v := some (.long z)) (fun h => by rw [hret, hT] at h; cases h) hlk
  exact ⟨_, retOut X hx (hret.trans hT) rfl (Or.inr (Or.inl ⟨rfl, rfl, z, rfl⟩)) (hb hby hd) hr, hrun, _, locs, hended, ⟨hL.1, os, hI, hp⟩, ⟨_, rfl⟩, hW, hsame.mono hk hn⟩
theorem g_areturn {z : Addr} {t : FieldType} (hT : ret = some t) (ht : t.isReference = true) {kc ks : Nat} {P : Option Value → List Ob → Prop} (W : Here p l e R s m args below meth c Z F B h0 A y bytes mL ret T k n os) (hd : decode bytes pc = .ok (.areturn, 1)) (hk : k ≤ kc) (hn : n ≤ ks) (hp : P (some (.ref z)) os) : Go p e below (Fin1 below s Z F B h0 A kc ks P) (T.setTop (mkF m pc ls (.ref z :: st))) := by
  obtain ⟨⟨hx, hZ, hby, -, hown, hret, hlk, -⟩, locs, X, hL, hI⟩ := W
  obtain ⟨fs, hr, hrun, hended, hW, hsame⟩ := X.leave (v := some (.ref z)) (fun h => by rw [hret, hT] at h; cases h) hlk
  exact ⟨_, retOut X hx (hret.trans hT) (by cases t <;> first | rfl | simp [FieldType.isReference] at ht) (Or.inr (Or.inr (Or.inr (Or.inr ⟨rfl, ht, rfl⟩)))) (hb hby hd) hr, hrun, _, locs, hended, ⟨hL.1, os, hI, hp⟩, ⟨_, rfl⟩, hW, hsame.mono hk hn⟩
theorem g_return (hT : ret = none) {kc ks : Nat} {P : Option Value → List Ob → Prop} (W : Here p l e R s m args below meth c Z F B h0 A y bytes mL ret T k n os) (hd : decode bytes pc = .ok (.return_, 1)) (hk : k ≤ kc) (hn : n ≤ ks) (hp : P (none) os) : Go p e below (Fin1 below s Z F B h0 A kc ks P) (T.setTop (mkF m pc ls ([]))) := by
  obtain ⟨⟨hx, hZ, hby, -, hown, hret, hlk, -⟩, locs, X, hL, hI⟩ := W
  obtain ⟨fs, hr, hrun, hended, hW, hsame⟩ := X.leave (v := none) (fun _ => rfl) hlk
  exact ⟨_, X.returnOut hx (hret.trans hT) (hb hby hd) hr, hrun, _, locs, hended, ⟨hL.1, os, hI, hp⟩, ⟨_, rfl⟩, hW, hsame.mono hk hn⟩
theorem own_bb (v : Int32) : v.toInt8.toInt32.toInt8.toInt32 = v.toInt8.toInt32 := by rw [Int8.toInt8_toInt32]
theorem g_acmp {cd : ACond} {o : Int} {v w : Value} (pc' : Nat) (same : Bool) (W : Here p l e R s m args below meth c Z F B h0 A y bytes mL ret T k n os) (hd : decode bytes pc = .ok (.if_acmp cd o, 3)) (h1 : v.isRef = true) (h2 : w.isRef = true) (hq : decide (v = w) = same) (ho : 0 ≤ (pc : Int) + o) (hp : pc' = if acV cd same = true then ((pc : Int) + o).toNat else pc + 3) (K : Go p e below G (T.setTop (mkF m pc' ls st))) : Go p e below G (T.setTop (mkF m pc ls (w :: v :: st))) := by
  obtain ⟨⟨hx, hZ, hby, -⟩, locs, X, -⟩ := W
  exact K.by fun t q => Jvm.RoadKit.acmp (g := mkF m pc ls (w :: v :: st)) X hx rfl h1 h2 rfl (hb hby hd) rfl hq ho hp q
theorem Here.re {os' : List Ob} (W : Here p l e R s m args below meth c Z F B h0 A y bytes mL ret T k n os) (h : os = os') : Here p l e R s m args below meth c Z F B h0 A y bytes mL ret T k n os' := h ▸ W
theorem Here.kn {k' n' : Nat} (W : Here p l e R s m args below meth c Z F B h0 A y bytes mL ret T k n os) (h : k = k') (h' : n = n') : Here p l e R s m args below meth c Z F B h0 A y bytes mL ret T k' n' os := by subst h h'; exact W
/-- what the sheet says of a class: its fields are laid, under names of their own -/
def Cls (Z : State) (a0 : Array Value) (F : Fm) (C : String) : Prop := (∀ x ∈ F C, Laid Z a0 C C x.1 x.2 ∧ ∃ t, parseFieldDescriptor x.2 = some t) ∧ ((F C).map (·.1)).Nodup
theorem Cls.ne {C : String} (H : Cls Z a0 F C) {i j : Nat} {x x' : String × String} (hi : (F C)[i]? = some x) (hj : (F C)[j]? = some x') (ne : i ≠ j) : Jvm.RoadKit.slotOf Z C x.1 x.2 ≠ Jvm.RoadKit.slotOf Z C x'.1 x'.2 := by
  obtain ⟨L, t, ht⟩ := H.1 x (List.mem_of_getElem? hi)
  obtain ⟨L', t', ht'⟩ := H.1 x' (List.mem_of_getElem? hj)
  refine slot_ne L L' (fun e => ne ?_) ht ht'
  obtain ⟨h1, e1⟩ := List.getElem?_eq_some_iff.mp hi
  obtain ⟨h2, e2⟩ := List.getElem?_eq_some_iff.mp hj
  refine (List.getElem_inj (xs := (F C).map (·.1)) (h₀ := by simpa using h1) (h₁ := by simpa using h2) H.2).mp ?_
  simp [e1, e2, e]
def dflt (d : String) : Value := ((parseFieldDescriptor d).map defaultValue).getD .null
theorem g_getfield {i index j : Nat} {a : Addr} {C nm d host : String} {vs : List Value} {v : Value} (W : Here p l e R s m args below meth c Z F B h0 A y bytes mL ret T k n os) (w : (Jvm.Cond.fieldLink y.cls index C nm d).before a0 Z = true ∨ (Jvm.Cond.fieldLinkNest y.cls index C nm d host).before a0 Z = true)
    (hi : os[i]? = some (a, .object C, vs)) (hf : (F C)[j]? = some (nm, d)) (hv : vs[j]? = some v) (hd : decode bytes pc = .ok (.getfield index, 3)) (K : ∀ T', Here p l e R s m args below meth c Z F B h0 A y bytes mL ret T' k n os → Go p e below G (T'.setTop (mkF m (pc + 3) ls (v :: st)))) : Go p e below G (T.setTop (mkF m pc ls (.ref a :: st))) := by
  obtain ⟨H0, locs, X, hL, hI⟩ := W
  have O : Oat F Z T.heap a (.object C) vs := hI.2.1.get hi
  obtain ⟨T', X', e', stp⟩ := getF X H0.1 H0.2.1 H0.2.2.2.2.1 w Via.refl rfl (O.2.2 j nm d v hf hv) (g := mkF m pc ls (.ref a :: st)) rfl rfl (hb H0.2.2.1 hd)
  exact (K T' ⟨H0, locs, X', hL, by rw [e']; exact hI⟩).by stp
theorem g_putfield {i index j kk : Nat} {a : Addr} {C nm d host : String} {vs : List Value} {v old : Value} {ty : FieldType} {os' : List Ob} (W : Here p l e R s m args below meth c Z F B h0 A y bytes mL ret T k n os) (w : (Jvm.Cond.fieldLink y.cls index C nm d).before a0 Z = true ∨ (Jvm.Cond.fieldLinkNest y.cls index C nm d host).before a0 Z = true)
    (hC : Cls Z a0 F C) (L : (Jvm.Cond.lays C C nm d).before a0 Z = true ∨ ((Jvm.Cond.laysFinal C C nm d).before a0 Z = true ∧ y.cls = C ∧ y.name = "<init>")) (wi : (Jvm.Cond.instantiable C kk).before a0 Z = true)
    (hi : os[i]? = some (a, .object C, vs)) (hf : (F C)[j]? = some (nm, d)) (hv : vs[j]? = some old) (hty : parseFieldDescriptor d = some ty) (hn : narrow ty v = v) (hfit : fits ty v = true) (ho : os.set i (a, .object C, vs.set j v) = os')
    (hd : decode bytes pc = .ok (.putfield index, 3)) (K : ∀ T', Here p l e R s m args below meth c Z F B h0 A y bytes mL ret T' k n os' → Go p e below G (T'.setTop (mkF m (pc + 3) ls (st)))) : Go p e below G (T.setTop (mkF m pc ls (v :: .ref a :: st))) := by
  obtain ⟨H0, locs, X, hL, hI⟩ := W
  have O : Oat F Z T.heap a (.object C) vs := hI.2.1.get hi
  obtain ⟨E, hlen, hF⟩ := O
  obtain ⟨T', h', X', e', Wr', stp⟩ := putF X H0.1 H0.2.1 H0.2.2.2.2.1 w Via.refl rfl (hF j nm d old hf hv) E (L.imp id fun q => ⟨q.1, q.2.1, H0.2.2.2.2.2.2.2.trans q.2.2⟩) wi hty hn hfit (g := mkF m pc ls (v :: .ref a :: st)) rfl rfl (hb H0.2.2.1 hd)
  refine (K T' ⟨H0, _, X', ⟨fun z hz => ?_, hL.2⟩, ?_⟩).by stp
  · rcases List.mem_append.mp hz with q | q
    · exact hL.1 z q
    · cases List.mem_singleton.mp q; exact (hI.mem hi).ge hL.2.1 hL.2.2
  · rw [e', ← ho]
    refine hI.set hi (Keep.of_wr Wr') ⟨E.wr Wr', by simpa using hlen, fun i' n' d' v' h1 h2 => ?_⟩
    rw [List.getElem?_set] at h2
    split at h2
    · rename_i e1; subst e1
      have : v' = v := by split at h2 <;> simp_all
      cases hf.symm.trans h1
      subst this
      exact (hF j nm d old hf hv).same Wr'
    · rename_i ne
      have q : Jvm.RoadKit.slotOf Z C n' d' ≠ Jvm.RoadKit.slotOf Z C nm d := hC.ne (x := (n', d')) (x' := (nm, d)) h1 hf (Ne.symm ne)
      exact (hF i' n' d' v' h1 h2).other Wr' (Or.inr q)
theorem g_new {index nsl : Nat} {C : String} {vs : List Value} (W : Here p l e R s m args below meth c Z F B h0 A y bytes mL ret T k n os) (w : (Jvm.Cond.classLink y.cls index C).before a0 Z = true) (wi : (Jvm.Cond.instantiable C nsl).before a0 Z = true) (wz : (Jvm.Cond.initialized C).before a0 Z = true) (hC : Cls Z a0 F C) (hvs : (F C).map (fun x => dflt x.2) = vs)
    (hd : decode bytes pc = .ok (.new index, 3)) (hc : k + 1 ≤ R.cells) (hs : n + nsl ≤ R.slots)
    (K : ∀ T' a, Here p l e R s m args below meth c Z F B h0 A y bytes mL ret T' (k + 1) (n + nsl) (os ++ [(a, .object C, vs)]) → Go p e below G (T'.setTop (mkF m (pc + 3) ls (.ref a :: st)))) : Go p e below G (T.setTop (mkF m pc ls st)) := by
  obtain ⟨H0, locs, X, hL, hI⟩ := W
  obtain ⟨T', h', X', e', E', A', D', -, stp⟩ := newO X H0.1 H0.2.1 H0.2.2.2.2.1 w wi wz rfl (g := mkF m pc ls st) rfl (hb H0.2.2.1 hd) hc hs
  refine (K T' T.heap.size ⟨H0, locs, X', hL, ?_⟩).by stp
  rw [e']
  refine hI.push E' ⟨A', by rw [← hvs]; simp, fun i nm d v h1 h2 => ?_⟩
  obtain ⟨La, t, ht⟩ := hC.1 _ (List.mem_of_getElem? h1)
  have q := D' La ht
  rw [← hvs, List.getElem?_map, h1] at h2
  simp only [Option.map_some, dflt, ht, Option.getD_some, Option.some.injEq] at h2
  rw [← h2]; exact q
theorem fits_dflt (aty : ArrayType) : fits (newarray.typeOf aty) (defaultValue (newarray.typeOf aty)) = true := by cases aty <;> rfl
theorem g_newarray {aty : ArrayType} {z : Int32} {ty : FieldType} {vs : List Value} (cap : Nat) (W : Here p l e R s m args below meth c Z F B h0 A y bytes mL ret T k n os) (w : (Jvm.Cond.arrayClass ty).before a0 Z = true) (hty : newarray.typeOf aty = ty) (hz : ¬ z < 0) (hcap : z.toNatClampNeg ≤ cap) (hb8 : cap * 8 ≤ 536870912) (hvs : List.replicate z.toNatClampNeg (defaultValue ty) = vs)
    (hd : decode bytes pc = .ok (.newarray aty, 2)) (hc : k + 1 ≤ R.cells) (hs : n + cap ≤ R.slots)
    (K : ∀ T' a, Here p l e R s m args below meth c Z F B h0 A y bytes mL ret T' (k + 1) (n + cap) (os ++ [(a, .array ty, vs)]) → Go p e below G (T'.setTop (mkF m (pc + 2) ls (.ref a :: st)))) : Go p e below G (T.setTop (mkF m pc ls (.int z :: st))) := by
  obtain ⟨H0, locs, X, hL, hI⟩ := W
  subst hty hvs
  obtain ⟨T', h', cA, X', e', E', A', Ex, stp⟩ := newPE X H0.1 H0.2.1 w rfl (g := mkF m pc ls (.int z :: st)) rfl (hb H0.2.2.1 hd) rfl hz hcap hb8 hc hs rfl
  refine (K T' T.heap.size ⟨H0, locs, X', hL, ?_⟩).by stp
  rw [e']
  refine hI.push E' ⟨Ex, fun v hv => ?_, _, A', by simp [newA]⟩
  rw [(List.mem_replicate.mp hv).2]; exact fits_dflt aty
theorem g_anewarray {index : Nat} {z : Int32} {C : String} {vs : List Value} (cap : Nat) (W : Here p l e R s m args below meth c Z F B h0 A y bytes mL ret T k n os) (w : (Jvm.Cond.classLink y.cls index C).before a0 Z = true) (w2 : (Jvm.Cond.arrayOver (.object C)).before a0 Z = true) (hz : ¬ z < 0) (hcap : z.toNatClampNeg ≤ cap) (hb8 : cap * 8 ≤ 536870912) (hvs : List.replicate z.toNatClampNeg .null = vs)
    (hd : decode bytes pc = .ok (.anewarray index, 3)) (hc : k + 1 ≤ R.cells) (hs : n + cap ≤ R.slots)
    (K : ∀ T' a, Here p l e R s m args below meth c Z F B h0 A y bytes mL ret T' (k + 1) (n + cap) (os ++ [(a, .array (.object C), vs)]) → Go p e below G (T'.setTop (mkF m (pc + 3) ls (.ref a :: st)))) : Go p e below G (T.setTop (mkF m pc ls (.int z :: st))) := by
  obtain ⟨H0, locs, X, hL, hI⟩ := W
  subst hvs
  obtain ⟨T', h', cA, X', e', E', A', Ex, -, stp⟩ := newRE X H0.1 H0.2.1 H0.2.2.2.2.1 w w2 rfl (g := mkF m pc ls (.int z :: st)) rfl (hb H0.2.2.1 hd) rfl hz hcap hb8 hc hs rfl
  refine (K T' T.heap.size ⟨H0, locs, X', hL, ?_⟩).by stp
  rw [e']
  refine hI.push E' ⟨Ex, fun v hv => ?_, _, A', by simp [newA, defaultValue]⟩
  rw [(List.mem_replicate.mp hv).2]; rfl
theorem inb_list {cl : Cell} {vs : List Value} {z : Int32} {v : Value} (S : cl.slots = vs.toArray) (hz : ¬ z < 0) (hv : vs[z.toNatClampNeg]? = some v) : ¬ (z < 0 ∨ cl.slots.size ≤ z.toNatClampNeg) ∧ cl.slots[z.toNatClampNeg]? = some v := by
  have h1 := (List.getElem?_eq_some_iff.mp hv).1
  refine ⟨fun q => q.elim hz fun q => ?_, by rw [S]; simpa using hv⟩
  rw [S] at q; simp at q; omega
theorem g_iaload {i : Nat} {a : Addr} {z : Int32} {vs : List Value} {v : Value} (W : Here p l e R s m args below meth c Z F B h0 A y bytes mL ret T k n os) (hi : os[i]? = some (a, .array .int, vs)) (hz : ¬ z < 0) (hv : vs[z.toNatClampNeg]? = some v) (hd : decode bytes pc = .ok (.iaload, 1)) (K : Go p e below G (T.setTop (mkF m (pc + 1) ls (v :: st)))) : Go p e below G (T.setTop (mkF m pc ls (.int z :: .ref a :: st))) := by
  obtain ⟨H0, locs, X, hL, hI⟩ := W
  have O : Oat F Z T.heap a (.array .int) vs := hI.2.1.get hi
  obtain ⟨E, -, cl, Ar, S⟩ := O
  obtain ⟨h1, h2⟩ := inb_list S hz hv
  exact K.by fun t q => X.iaload H0.1 (j := z) (v := v) Ar.1 (State.isArrayOf_alike H0.2.1.alike Ar.2.1) Ar.2.2 h1 h2 (g := mkF m pc ls (.int z :: .ref a :: st)) rfl rfl (hb H0.2.2.1 hd) t q
theorem g_laload {i : Nat} {a : Addr} {z : Int32} {vs : List Value} {v : Value} (W : Here p l e R s m args below meth c Z F B h0 A y bytes mL ret T k n os) (hi : os[i]? = some (a, .array .long, vs)) (hz : ¬ z < 0) (hv : vs[z.toNatClampNeg]? = some v) (hd : decode bytes pc = .ok (.laload, 1)) (K : Go p e below G (T.setTop (mkF m (pc + 1) ls (v :: st)))) : Go p e below G (T.setTop (mkF m pc ls (.int z :: .ref a :: st))) := by
  obtain ⟨H0, locs, X, hL, hI⟩ := W
  have O : Oat F Z T.heap a (.array .long) vs := hI.2.1.get hi
  obtain ⟨E, -, cl, Ar, S⟩ := O
  obtain ⟨h1, h2⟩ := inb_list S hz hv
  exact K.by fun t q => X.laload H0.1 (j := z) (v := v) Ar.1 (State.isArrayOf_alike H0.2.1.alike Ar.2.1) Ar.2.2 h1 h2 (g := mkF m pc ls (.int z :: .ref a :: st)) rfl rfl (hb H0.2.2.1 hd) t q
theorem g_baload {i : Nat} {a : Addr} {z : Int32} {vs : List Value} {v : Value} (W : Here p l e R s m args below meth c Z F B h0 A y bytes mL ret T k n os) (hi : os[i]? = some (a, .array .byte, vs)) (hz : ¬ z < 0) (hv : vs[z.toNatClampNeg]? = some v) (hd : decode bytes pc = .ok (.baload, 1)) (K : Go p e below G (T.setTop (mkF m (pc + 1) ls (v :: st)))) : Go p e below G (T.setTop (mkF m pc ls (.int z :: .ref a :: st))) := by
  obtain ⟨H0, locs, X, hL, hI⟩ := W
  have O : Oat F Z T.heap a (.array .byte) vs := hI.2.1.get hi
  obtain ⟨E, -, cl, Ar, S⟩ := O
  obtain ⟨h1, h2⟩ := inb_list S hz hv
  exact K.by fun t q => X.baloadBytes H0.1 (j := z) (v := v) Ar.1 (State.isArrayOf_alike H0.2.1.alike Ar.2.1) Ar.2.2 h1 h2 (g := mkF m pc ls (.int z :: .ref a :: st)) rfl rfl (hb H0.2.2.1 hd) t q
theorem g_arraylength {i : Nat} {a : Addr} {ty : FieldType} {vs : List Value} (N : Int32) (W : Here p l e R s m args below meth c Z F B h0 A y bytes mL ret T k n os) (hi : os[i]? = some (a, .array ty, vs)) (hN : vs.length.toInt32 = N) (hd : decode bytes pc = .ok (.arraylength, 1)) (K : Go p e below G (T.setTop (mkF m (pc + 1) ls (.int N :: st)))) : Go p e below G (T.setTop (mkF m pc ls (.ref a :: st))) := by
  obtain ⟨H0, locs, X, hL, hI⟩ := W
  have O : Oat F Z T.heap a (.array ty) vs := hI.2.1.get hi
  obtain ⟨E, -, cl, Ar, S⟩ := O
  have q2 : cl.slots.size.toInt32 = N := by rw [S, ← hN]; simp
  subst q2
  exact K.by fun t q => X.arraylength H0.1 Ar.1 (State.isArrayOf_alike H0.2.1.alike Ar.2.1) (g := mkF m pc ls (.ref a :: st)) rfl rfl (hb H0.2.2.1 hd) t q
theorem Oat.put {h h' : Heap} {a : Addr} {ty : FieldType} {vs : List Value} {cl : Cell} {v : Value} {j : Nat} (O : Oat F Z h a (.array ty) vs) (Ar : Arr Z h a cl ty) (S : cl.slots = vs.toArray) (hf : fits ty v = true) (Wr' : Wr h h' a j v) : Oat F Z h' a (.array ty) (vs.set j v) := by
  obtain ⟨E, f, -⟩ := O
  refine ⟨E.wr Wr', fun u hu => ?_, cl.setSlot j v, Ar.same Wr', by simp [Cell.setSlot, S]⟩
  rcases List.mem_or_eq_of_mem_set hu with q | q
  · exact f u q
  · rw [q]; exact hf
theorem g_iastore {i : Nat} {a : Addr} {z : Int32} {x : Int32} {vs : List Value} {os' : List Ob} (j : Nat) (W : Here p l e R s m args below meth c Z F B h0 A y bytes mL ret T k n os) (hi : os[i]? = some (a, .array .int, vs)) (hz : ¬ z < 0) (hj : z.toNatClampNeg = j) (hlt : j < vs.length) (ho : os.set i (a, .array .int, vs.set j (.int x)) = os')
    (hd : decode bytes pc = .ok (.iastore, 1)) (K : ∀ T', Here p l e R s m args below meth c Z F B h0 A y bytes mL ret T' k n os' → Go p e below G (T'.setTop (mkF m (pc + 1) ls (st)))) : Go p e below G (T.setTop (mkF m pc ls (.int x :: .int z :: .ref a :: st))) := by
  obtain ⟨H0, locs, X, hL, hI⟩ := W
  have O : Oat F Z T.heap a (.array .int) vs := hI.2.1.get hi
  obtain ⟨E, -, cl, Ar, S⟩ := id O
  have hin : ¬ (z < 0 ∨ cl.slots.size ≤ z.toNatClampNeg) := fun q => q.elim hz fun q => by rw [S] at q; simp at q; omega
  obtain ⟨T', h', X', e', Wr', stp⟩ := stI X H0.1 H0.2.1 rfl Ar (j := z) hin (g := mkF m pc ls (.int x :: .int z :: .ref a :: st)) rfl rfl (hb H0.2.2.1 hd)
  subst hj
  refine (K T' ⟨H0, _, X', ⟨fun z hz => ?_, hL.2⟩, ?_⟩).by stp
  · rcases List.mem_append.mp hz with q | q
    · exact hL.1 z q
    · cases List.mem_singleton.mp q; exact (hI.mem hi).ge hL.2.1 hL.2.2
  · rw [e', ← ho]
    exact hI.set hi (Keep.of_wr Wr') (O.put Ar S rfl Wr')
theorem g_lastore {i : Nat} {a : Addr} {z : Int32} {x : Int64} {vs : List Value} {os' : List Ob} (j : Nat) (W : Here p l e R s m args below meth c Z F B h0 A y bytes mL ret T k n os) (hi : os[i]? = some (a, .array .long, vs)) (hz : ¬ z < 0) (hj : z.toNatClampNeg = j) (hlt : j < vs.length) (ho : os.set i (a, .array .long, vs.set j (.long x)) = os')
    (hd : decode bytes pc = .ok (.lastore, 1)) (K : ∀ T', Here p l e R s m args below meth c Z F B h0 A y bytes mL ret T' k n os' → Go p e below G (T'.setTop (mkF m (pc + 1) ls (st)))) : Go p e below G (T.setTop (mkF m pc ls (.long x :: .int z :: .ref a :: st))) := by
  obtain ⟨H0, locs, X, hL, hI⟩ := W
  have O : Oat F Z T.heap a (.array .long) vs := hI.2.1.get hi
  obtain ⟨E, -, cl, Ar, S⟩ := id O
  have hin : ¬ (z < 0 ∨ cl.slots.size ≤ z.toNatClampNeg) := fun q => q.elim hz fun q => by rw [S] at q; simp at q; omega
  obtain ⟨T', h', X', e', Wr', stp⟩ := stJ X H0.1 H0.2.1 rfl Ar (j := z) hin (g := mkF m pc ls (.long x :: .int z :: .ref a :: st)) rfl rfl (hb H0.2.2.1 hd)
  subst hj
  refine (K T' ⟨H0, _, X', ⟨fun z hz => ?_, hL.2⟩, ?_⟩).by stp
  · rcases List.mem_append.mp hz with q | q
    · exact hL.1 z q
    · cases List.mem_singleton.mp q; exact (hI.mem hi).ge hL.2.1 hL.2.2
  · rw [e', ← ho]
    exact hI.set hi (Keep.of_wr Wr') (O.put Ar S rfl Wr')
theorem g_bastore {i : Nat} {a : Addr} {z : Int32} {x : Int32} {x' : Int32} (hx' : x.toInt8.toInt32 = x') {vs : List Value} {os' : List Ob} (j : Nat) (W : Here p l e R s m args below meth c Z F B h0 A y bytes mL ret T k n os) (hi : os[i]? = some (a, .array .byte, vs)) (hz : ¬ z < 0) (hj : z.toNatClampNeg = j) (hlt : j < vs.length) (ho : os.set i (a, .array .byte, vs.set j (.int x')) = os')
    (hd : decode bytes pc = .ok (.bastore, 1)) (K : ∀ T', Here p l e R s m args below meth c Z F B h0 A y bytes mL ret T' k n os' → Go p e below G (T'.setTop (mkF m (pc + 1) ls (st)))) : Go p e below G (T.setTop (mkF m pc ls (.int x :: .int z :: .ref a :: st))) := by
  obtain ⟨H0, locs, X, hL, hI⟩ := W
  have O : Oat F Z T.heap a (.array .byte) vs := hI.2.1.get hi
  obtain ⟨E, -, cl, Ar, S⟩ := id O
  have hin : ¬ (z < 0 ∨ cl.slots.size ≤ z.toNatClampNeg) := fun q => q.elim hz fun q => by rw [S] at q; simp at q; omega
  obtain ⟨T', h', X', e', Wr', stp⟩ := stB X H0.1 H0.2.1 rfl Ar (j := z) hin (g := mkF m pc ls (.int x :: .int z :: .ref a :: st)) rfl rfl (hb H0.2.2.1 hd)
  subst hj
  subst hx'
  refine (K T' ⟨H0, _, X', ⟨fun z hz => ?_, hL.2⟩, ?_⟩).by stp
  · rcases List.mem_append.mp hz with q | q
    · exact hL.1 z q
    · cases List.mem_singleton.mp q; exact (hI.mem hi).ge hL.2.1 hL.2.2
  · rw [e', ← ho]
    exact hI.set hi (Keep.of_wr Wr') (O.put Ar S (fits_nar_byte x) Wr')
theorem g_zastore {i : Nat} {a : Addr} {z : Int32} {x : Int32} {x' : Int32} (hx' : x &&& 1 = x') {vs : List Value} {os' : List Ob} (j : Nat) (W : Here p l e R s m args below meth c Z F B h0 A y bytes mL ret T k n os) (hi : os[i]? = some (a, .array .boolean, vs)) (hz : ¬ z < 0) (hj : z.toNatClampNeg = j) (hlt : j < vs.length) (ho : os.set i (a, .array .boolean, vs.set j (.int x')) = os')
    (hd : decode bytes pc = .ok (.bastore, 1)) (K : ∀ T', Here p l e R s m args below meth c Z F B h0 A y bytes mL ret T' k n os' → Go p e below G (T'.setTop (mkF m (pc + 1) ls (st)))) : Go p e below G (T.setTop (mkF m pc ls (.int x :: .int z :: .ref a :: st))) := by
  obtain ⟨H0, locs, X, hL, hI⟩ := W
  have O : Oat F Z T.heap a (.array .boolean) vs := hI.2.1.get hi
  obtain ⟨E, -, cl, Ar, S⟩ := id O
  have hin : ¬ (z < 0 ∨ cl.slots.size ≤ z.toNatClampNeg) := fun q => q.elim hz fun q => by rw [S] at q; simp at q; omega
  obtain ⟨T', h', X', e', Wr', stp⟩ := stZ X H0.1 H0.2.1 rfl Ar (j := z) hin (g := mkF m pc ls (.int x :: .int z :: .ref a :: st)) rfl rfl (hb H0.2.2.1 hd)
  subst hj
  subst hx'
  refine (K T' ⟨H0, _, X', ⟨fun z hz => ?_, hL.2⟩, ?_⟩).by stp
  · rcases List.mem_append.mp hz with q | q
    · exact hL.1 z q
    · cases List.mem_singleton.mp q; exact (hI.mem hi).ge hL.2.1 hL.2.2
  · rw [e', ← ho]
    exact hI.set hi (Keep.of_wr Wr') (O.put Ar S (fits_nar_bool x) Wr')
/-- os is loc and rst, in another order -/
def Spl (os loc rst : List Ob) : Prop := ∃ pm : List Nat, pm.Nodup ∧ (loc ++ rst).map some = pm.map (fun i => os[i]?)
theorem Spl.none : Spl os [] os := ⟨List.range os.length, List.nodup_range, by
  refine List.ext_getElem? fun i => ?_
  simp only [List.nil_append, List.getElem?_map]
  by_cases h : i < os.length
  · simp [h]
  · simp [h]⟩
theorem Spl.all : Spl os os [] := by obtain ⟨pm, h1, h2⟩ := Spl.none (os := os); exact ⟨pm, h1, by simpa using h2⟩
theorem Spl.mem {loc rst : List Ob} (S : Spl os loc rst) {o : Ob} (ho : o ∈ loc ++ rst) : o ∈ os := by
  obtain ⟨pm, -, h2⟩ := S
  have q : some o ∈ pm.map (fun i => os[i]?) := h2 ▸ List.mem_map.mpr ⟨o, ho, rfl⟩
  obtain ⟨i, -, hi⟩ := List.mem_map.mp q
  exact List.mem_of_getElem? hi
theorem Spl.nodup {loc rst : List Ob} (S : Spl os loc rst) (hn : (os.map (·.1)).Nodup) : ((loc ++ rst).map (·.1)).Nodup := by
  obtain ⟨pm, h1, h2⟩ := S
  generalize loc ++ rst = L at h2
  have key : ∀ i, (L[i]?).map some = (pm[i]?).map (fun j => os[j]?) := fun i => by rw [← List.getElem?_map, h2, List.getElem?_map]
  have key2 : ∀ i o, L[i]? = some o → ∃ j, pm[i]? = some j ∧ os[j]? = some o := fun i o ho => by
    have q := key i
    rw [ho] at q
    cases hp : pm[i]? with
    | none => simp [hp] at q
    | some j => simp [hp] at q; exact ⟨j, hp, q.symm⟩
  rw [List.nodup_iff_pairwise_ne, List.pairwise_iff_getElem]
  intro i j hi hj hij e
  simp only [List.length_map] at hi hj
  obtain ⟨oj, hoj⟩ : ∃ o, L[j]? = some o := ⟨L[j], List.getElem?_eq_getElem hj⟩
  obtain ⟨oi, hoi⟩ : ∃ o, L[i]? = some o := ⟨L[i], List.getElem?_eq_getElem hi⟩
  have e : oi.1 = oj.1 := by
    simp only [List.getElem_map] at e
    rw [List.getElem?_eq_getElem hi] at hoi
    rw [List.getElem?_eq_getElem hj] at hoj
    rw [← Option.some.inj hoi, ← Option.some.inj hoj]; exact e
  obtain ⟨i', p1, q1⟩ := key2 i oi hoi
  obtain ⟨j', p2, q2⟩ := key2 j oj hoj
  have e2 := nodup_at hn (i := i') (j := j') (a := oi.1) (by rw [List.getElem?_map, q1]; rfl) (by rw [List.getElem?_map, q2, e]; rfl)
  subst e2
  obtain ⟨u1, u2⟩ := List.getElem?_eq_some_iff.mp p1
  obtain ⟨u3, u4⟩ := List.getElem?_eq_some_iff.mp p2
  exact absurd ((List.getElem_inj h1).mp (u2.trans u4.symm)) (Nat.ne_of_lt hij)
theorem Spl.loc {loc rst : List Ob} {h : Heap} (S : Spl os loc rst) (H : Hp F Z h os) : Hp F Z h loc :=
  ⟨by have q := S.nodup H.1; rw [List.map_append] at q; exact (List.nodup_append.mp q).1, fun o ho => H.2 o (S.mem (List.mem_append_left _ ho))⟩
theorem Spl.after {loc rst os' : List Ob} {h h' : Heap} (S : Spl os loc rst) (I : Hin F Z h0 A h os) (I' : Hin F Z h (loc.map (·.1)) h' os') : Hin F Z h0 A h' (os' ++ rst) := by
  have nd := S.nodup I.2.1.1
  rw [List.map_append] at nd
  obtain ⟨n1, n2, n3⟩ := List.nodup_append.mp nd
  have hloc : ∀ x ∈ loc.map (·.1), Okk A h0.size x := fun x hx => by
    obtain ⟨o, ho, rfl⟩ := List.mem_map.mp hx
    exact I.2.2 o (S.mem (List.mem_append_left _ ho))
  refine ⟨I.1.trans I'.1 hloc, ⟨?_, fun o ho => ?_⟩, fun o ho => ?_⟩
  · rw [List.map_append, List.nodup_append]
    refine ⟨I'.2.1.1, n2, fun a ha b hb e => ?_⟩
    subst e
    obtain ⟨o, ho, rfl⟩ := List.mem_map.mp ha
    rcases I'.2.2 o ho with q | q
    · exact n3 _ q _ hb rfl
    · obtain ⟨o2, ho2, e2⟩ := List.mem_map.mp hb
      have := (I.2.1.2 o2 (S.mem (List.mem_append_right _ ho2))).lt
      rw [e2] at this
      exact absurd this (Nat.not_lt.mpr q)
  · rcases List.mem_append.mp ho with q | q
    · exact I'.2.1.2 o q
    · exact (I.2.1.2 o (S.mem (List.mem_append_right _ q))).keep I'.1 (fun z => n3 _ z _ (List.mem_map.mpr ⟨o, q, rfl⟩) rfl)
  · rcases List.mem_append.mp ho with q | q
    · rcases I'.2.2 o q with z | z
      · exact hloc _ z
      · exact Or.inr (Nat.le_trans I.1.1 z)
    · exact I.2.2 o (S.mem (List.mem_append_right _ q))
theorem Spl.locs {locs L : List Loc} (hL : (∀ y ∈ locs, B ≤ y.base) ∧ (∀ a ∈ A, B ≤ a) ∧ B ≤ h0.size) (hL' : ∀ y ∈ L, B ≤ y.base) : (∀ y ∈ locs ++ L, B ≤ y.base) ∧ (∀ a ∈ A, B ≤ a) ∧ B ≤ h0.size :=
  ⟨fun y hy => (List.mem_append.mp hy).elim (hL.1 y) (hL' y), hL.2⟩
theorem Spl.ge {loc rst : List Ob} {h : Heap} {locs : List Loc} (S : Spl os loc rst) (I : Hin F Z h0 A h os) (hL : (∀ y ∈ locs, B ≤ y.base) ∧ (∀ a ∈ A, B ≤ a) ∧ B ≤ h0.size) : ∀ a ∈ loc.map (·.1), B ≤ a := fun a ha => by
  obtain ⟨o, ho, e⟩ := List.mem_map.mp ha
  rw [← e]; exact (I.2.2 o (S.mem (List.mem_append_left _ ho))).ge hL.2.1 hL.2.2
theorem g_static {index Wt : Nat} {y' : MethodName} {bytes' : ByteArray} {mL' : Nat} {ret' : Option FieldType} {rm : Room} {as : Array Value} {loc rst : List Ob} {P : Option Value → List Ob → Prop} {argsL rest : List Value} {ps : List FieldType} {r : Option FieldType} (W : Here p l e R s m args below meth c Z F B h0 A y bytes mL ret T k n os) (w1 : (Jvm.Cond.methodLink y.cls index y').before a0 Z = true) (w2 : (Jvm.Cond.static y').before a0 Z = true) (w3 : (Jvm.Cond.initialized y'.cls).before a0 Z = true) (w4 : (Jvm.Cond.code y' bytes' mL' ret').before a0 Z = true)
    (hy : y'.cls ≠ "java/lang/invoke/MethodHandle" ∧ y'.cls ≠ "java/lang/invoke/VarHandle") (C : Con l Z F B y' bytes' mL' ret' rm [] as loc P) (S : Spl os loc rst) (has : as = argsL.toArray) (hpd : parseMethodDescriptor y'.desc = some ⟨ps, r⟩) (hpl : argsL.length = ps.length)
    (hst : st = argsL.reverse ++ rest) (hsz : ls.size = mL) (hW : (rest.map fun v => v.category).sum ≤ Wt) (hfr : rm.frames + 1 ≤ R.frames) (hlo : Wt + (mL' + 11) + rm.locals ≤ R.locals) (hc : k + rm.cells ≤ R.cells) (hs : n + rm.slots ≤ R.slots) (hd : decode bytes pc = .ok (.invokestatic index, 3)) (K : ∀ T' v os', P v os' → Here p l e R s m args below meth c Z F B h0 A y bytes mL ret T' (k + rm.cells) (n + rm.slots) (os' ++ rst) → Go p e below G (T'.setTop (mkF m (pc + 3) ls (v.toList ++ rest)))) : Go p e below G (T.setTop (mkF m pc ls st)) := by
  obtain ⟨H0, locs, X, hL, hI⟩ := W
  subst has hst
  obtain ⟨v, _, ⟨T', L', k', n'⟩, -, X', ⟨Lc, hQ, l1, y1, z1⟩, stp⟩ := Jvm.LawKit.callS X H0.1 (y := y') H0.2.2.2.2.1 (mvT H0.2.1 w1) (mvT H0.2.1 w2) (mvT H0.2.1 w3) (mvT H0.2.1 w4) hy (backOf (W := Wt) (C T.heap (S.loc hI.2.1) (S.ge hI hL) (Nat.le_trans hL.2.2 hI.1.1)) H0.2.1 w4 w3 hfr hlo) (g := mkF m pc ls (argsL.reverse ++ rest)) rfl (hsz.trans H0.2.2.2.1.symm) (argsL := argsL) (rest := rest) (lenOf hpd hpl) rfl (by show 2 * 0 + _ ≤ _; omega) (hb H0.2.2.1 hd) (fun _ _ => ⟨rfl, rfl, hc, hs⟩)
  dsimp only [Pt.U, Pt.locs, Pt.cells, Pt.slots] at X' l1 y1 z1 stp hQ
  subst l1 y1 z1
  obtain ⟨hLc, os', hI', hp⟩ := hQ
  exact (K T' v os' hp ⟨H0, _, X', Spl.locs hL hLc, S.after hI hI'⟩).by stp
theorem Go.to {S S' : State} (h : Steps p.tables e below S S') (g : Go p e below G S') : Go p e below G S := by
  obtain ⟨t, h', g⟩ := g; exact ⟨t, h.trans h', g⟩
theorem g_init {index Wt : Nat} {y' : MethodName} {bytes' : ByteArray} {mL' : Nat} {rm : Room} {as : Array Value} {loc rst : List Ob} {P : Option Value → List Ob → Prop} {argsL rest : List Value} {ps : List FieldType} {r : Option FieldType} {a : Addr} (W : Here p l e R s m args below meth c Z F B h0 A y bytes mL ret T k n os) (hy1 : y'.name = "<init>") (w1 : (Jvm.Cond.methodLink y.cls index y').before a0 Z = true) (w2 : (Jvm.Cond.instanceMethod y').before a0 Z = true) (w3 : (Jvm.Cond.initialized y'.cls).before a0 Z = true) (w4 : (Jvm.Cond.code y' bytes' mL' none).before a0 Z = true)
    (hy : y'.cls ≠ "java/lang/invoke/MethodHandle" ∧ y'.cls ≠ "java/lang/invoke/VarHandle") (C : Con l Z F B y' bytes' mL' none rm [] as loc P) (S : Spl os loc rst) (has : as = (.ref a :: argsL).toArray) (hpd : parseMethodDescriptor y'.desc = some ⟨ps, r⟩) (hpl : argsL.length = ps.length)
    (hst : st = argsL.reverse ++ .ref a :: rest) (hsz : ls.size = mL) (hW : (rest.map fun v => v.category).sum ≤ Wt) (hfr : rm.frames + 1 ≤ R.frames) (hlo : Wt + (mL' + 11) + rm.locals ≤ R.locals) (hc : k + rm.cells ≤ R.cells) (hs : n + rm.slots ≤ R.slots) (hd : decode bytes pc = .ok (.invokespecial index, 3)) (K : ∀ T' v os', P v os' → Here p l e R s m args below meth c Z F B h0 A y bytes mL ret T' (k + rm.cells) (n + rm.slots) (os' ++ rst) → Go p e below G (T'.setTop (mkF m (pc + 3) ls (v.toList ++ rest)))) : Go p e below G (T.setTop (mkF m pc ls st)) := by
  obtain ⟨H0, locs, X, hL, hI⟩ := W
  subst has hst
  obtain ⟨v, _, ⟨T', L', k', n'⟩, -, X', ⟨Lc, hQ, l1, y1, z1⟩, stp⟩ := X.specialBack H0.1 (y := y') hy1 H0.2.2.2.2.1 (mvT H0.2.1 w1) (mvT H0.2.1 w2) (mvT H0.2.1 w4) hy (backOf (W := Wt) (C T.heap (S.loc hI.2.1) (S.ge hI hL) (Nat.le_trans hL.2.2 hI.1.1)) H0.2.1 w4 w3 hfr hlo) (g := mkF m pc ls (argsL.reverse ++ .ref a :: rest)) rfl (hsz.trans H0.2.2.2.1.symm) (Steps.refl _) (a := a) (argsL := argsL) (rest := rest) (lenOf hpd hpl) rfl (by show 2 * 0 + _ ≤ _; omega) (hb H0.2.2.1 hd) (fun _ _ => ⟨rfl, rfl, hc, hs⟩)
  dsimp only [Pt.U, Pt.locs, Pt.cells, Pt.slots] at X' l1 y1 z1 stp hQ
  subst l1 y1 z1
  obtain ⟨hLc, os', hI', hp⟩ := hQ
  exact (K T' v os' hp ⟨H0, _, X', Spl.locs hL hLc, S.after hI hI'⟩).to stp
theorem g_virtual {index Wt : Nat} {y' : MethodName} {bytes' : ByteArray} {mL' : Nat} {ret' : Option FieldType} {rm : Room} {as : Array Value} {loc rst : List Ob} {P : Option Value → List Ob → Prop} {argsL rest : List Value} {ps : List FieldType} {r : Option FieldType} {a : Addr} {i : Nat} {vs : List Value} (W : Here p l e R s m args below meth c Z F B h0 A y bytes mL ret T k n os) (w1 : (Jvm.Cond.methodLink y.cls index y').before a0 Z = true) (w2 : (Jvm.Cond.instanceMethod y').before a0 Z = true) (w3 : (Jvm.Cond.initialized y'.cls).before a0 Z = true) (w4 : (Jvm.Cond.code y' bytes' mL' ret').before a0 Z = true)
    (w5 : (Jvm.Cond.declares y').before a0 Z = true) (w6 : (Jvm.Cond.selects y'.cls y' y').before a0 Z = true) (hi : os[i]? = some (a, .object y'.cls, vs))
    (hy : y'.cls ≠ "java/lang/invoke/MethodHandle" ∧ y'.cls ≠ "java/lang/invoke/VarHandle") (C : Con l Z F B y' bytes' mL' ret' rm [] as loc P) (S : Spl os loc rst) (has : as = (.ref a :: argsL).toArray) (hpd : parseMethodDescriptor y'.desc = some ⟨ps, r⟩) (hpl : argsL.length = ps.length)
    (hst : st = argsL.reverse ++ .ref a :: rest) (hsz : ls.size = mL) (hW : (rest.map fun v => v.category).sum ≤ Wt) (hfr : rm.frames + 1 ≤ R.frames) (hlo : Wt + (mL' + 11) + rm.locals ≤ R.locals) (hc : k + rm.cells ≤ R.cells) (hs : n + rm.slots ≤ R.slots) (hd : decode bytes pc = .ok (.invokevirtual index, 3)) (K : ∀ T' v os', P v os' → Here p l e R s m args below meth c Z F B h0 A y bytes mL ret T' (k + rm.cells) (n + rm.slots) (os' ++ rst) → Go p e below G (T'.setTop (mkF m (pc + 3) ls (v.toList ++ rest)))) : Go p e below G (T.setTop (mkF m pc ls st)) := by
  obtain ⟨H0, locs, X, hL, hI⟩ := W
  subst has hst
  have O : Oat F Z T.heap a (.object y'.cls) vs := hI.2.1.get hi
  obtain ⟨cq, kq, qa, qb, qc⟩ := isOf H0.2.1 rfl O.1
  obtain ⟨v, _, ⟨T', L', k', n'⟩, -, X', ⟨Lc, hQ, l1, y1, z1⟩, stp⟩ := X.virtualBack H0.1 (y := y') (z := y') H0.2.2.2.2.1 (mvT H0.2.1 w1) (mvT H0.2.1 w5) (notFace_of_selects (args := #[]) (mvT H0.2.1 w6)) (mvT H0.2.1 w6) (mvT H0.2.1 w2) hy (backOf (W := Wt) (C T.heap (S.loc hI.2.1) (S.ge hI hL) (Nat.le_trans hL.2.2 hI.1.1)) H0.2.1 w4 w3 hfr hlo) qa qc (g := mkF m pc ls (argsL.reverse ++ .ref a :: rest)) rfl (hsz.trans H0.2.2.2.1.symm) (Steps.refl _) (argsL := argsL) (rest := rest) (lenOf hpd hpl) rfl (by show 2 * 0 + _ ≤ _; omega) (hb H0.2.2.1 hd) (fun _ _ => ⟨rfl, rfl, hc, hs⟩)
  dsimp only [Pt.U, Pt.locs, Pt.cells, Pt.slots] at X' l1 y1 z1 stp hQ
  subst l1 y1 z1
  obtain ⟨hLc, os', hI', hp⟩ := hQ
  exact (K T' v os' hp ⟨H0, _, X', Spl.locs hL hLc, S.after hI hI'⟩).to stp
theorem g_object {index : Nat} {a : Addr} (Wt : Nat) (W : Here p l e R s m args below meth c Z F B h0 A y bytes mL ret T k n os) (w1 : (Jvm.Cond.methodLink y.cls index Lib.objectInit).before a0 Z = true) (w2 : (Jvm.Cond.instanceMethod Lib.objectInit).before a0 Z = true) (w3 : (Jvm.Cond.code Lib.objectInit ⟨#[0xb1]⟩ 1 none).before a0 Z = true)
    (hsz : ls.size = mL) (hW : (st.map fun v => v.category).sum ≤ Wt) (hfr : 1 ≤ R.frames) (hlo : Wt + 12 ≤ R.locals) (hd : decode bytes pc = .ok (.invokespecial index, 3)) (K : ∀ T', Here p l e R s m args below meth c Z F B h0 A y bytes mL ret T' k n os → Go p e below G (T'.setTop (mkF m (pc + 3) ls (st)))) : Go p e below G (T.setTop (mkF m pc ls (.ref a :: st))) := by
  obtain ⟨H0, locs, X, hL, hI⟩ := W
  obtain ⟨T', X', e', stp⟩ := initO X H0.1 H0.2.1 H0.2.2.2.2.1 w1 w2 w3 rfl (g := mkF m pc ls (.ref a :: st)) rfl (hsz.trans H0.2.2.2.1.symm) rfl (hb H0.2.2.1 hd) hfr (W := Wt) (by show 2 * 0 + _ ≤ _; omega) hlo
  exact (K T' ⟨H0, locs, X', hL, by rw [e']; exact hI⟩).by stp
theorem g_clone {index i Wt : Nat} {a : Addr} {ty : FieldType} {vs : List Value} {ad : String} (cap : Nat) (W : Here p l e R s m args below meth c Z F B h0 A y bytes mL ret T k n os) (w1 : (Jvm.Cond.methodLink y.cls index ⟨ad, "clone", "()Ljava/lang/Object;"⟩).before a0 Z = true) (w2 : (Jvm.Cond.sameMethod ad "java/lang/Object" "clone" "()Ljava/lang/Object;").before a0 Z = true) (w3 : (Jvm.Cond.native ⟨"java/lang/Object", "clone", "()Ljava/lang/Object;"⟩).before a0 Z = true)
    (w4 : (Jvm.Cond.instanceMethod ⟨"java/lang/Object", "clone", "()Ljava/lang/Object;"⟩).before a0 Z = true) (w5 : (Jvm.Cond.selects ad ⟨ad, "clone", "()Ljava/lang/Object;"⟩ ⟨"java/lang/Object", "clone", "()Ljava/lang/Object;"⟩).before a0 Z = true) (w6 : (Jvm.Cond.castable ad "java/lang/Cloneable").before a0 Z = true)
    (had : "[" ++ ty.toString = ad) (hi : os[i]? = some (a, .array ty, vs)) (hsz : ls.size = mL) (hW : (st.map fun v => v.category).sum ≤ Wt) (hfr : 1 ≤ R.frames) (hlo : Wt + 14 ≤ R.locals) (hcap : vs.length ≤ cap) (hc : k + 1 ≤ R.cells) (hs : n + cap ≤ R.slots) (hd : decode bytes pc = .ok (.invokevirtual index, 3))
    (K : ∀ T' b, Here p l e R s m args below meth c Z F B h0 A y bytes mL ret T' (k + 1) (n + cap) (os ++ [(b, .array ty, vs)]) → Go p e below G (T'.setTop (mkF m (pc + 3) ls (.ref b :: st)))) : Go p e below G (T.setTop (mkF m pc ls (.ref a :: st))) := by
  obtain ⟨H0, locs, X, hL, hI⟩ := W
  subst had
  have O : Oat F Z T.heap a (.array ty) vs := hI.2.1.get hi
  obtain ⟨E, f, cl, Ar, S⟩ := O
  have FC : FitC Z cl := fitC_of Ar fun i hi v hv => f v (by rw [S] at hv; exact List.mem_of_getElem? (by simpa using hv))
  obtain ⟨T', h', X', e', E', A', Ex, stp⟩ := cloneA X H0.1 H0.2.1 H0.2.2.2.2.1 w1 w2 w3 w4 w5 w6 rfl Ar E FC (g := mkF m pc ls (.ref a :: st)) rfl (hsz.trans H0.2.2.2.1.symm) rfl (hb H0.2.2.1 hd) hfr (W := Wt) (cap := cap) (by show 2 * 0 + _ ≤ _; omega) hlo (by rw [S]; simpa using hcap) hc hs
  refine (K T' T.heap.size ⟨H0, locs, X', hL, ?_⟩).by stp
  rw [e']
  exact hI.push E' ⟨Ex, f, _, A', S⟩
theorem g_castarr {index i : Nat} {a : Addr} {ty : FieldType} {vs : List Value} {ad : String} (W : Here p l e R s m args below meth c Z F B h0 A y bytes mL ret T k n os) (w : (Jvm.Cond.classLink y.cls index ad).before a0 Z = true) (had : "[" ++ ty.toString = ad) (hi : os[i]? = some (a, .array ty, vs)) (hd : decode bytes pc = .ok (.checkcast index, 3)) (K : ∀ T', Here p l e R s m args below meth c Z F B h0 A y bytes mL ret T' k n os → Go p e below G (T'.setTop (mkF m (pc + 3) ls (.ref a :: st)))) : Go p e below G (T.setTop (mkF m pc ls (.ref a :: st))) := by
  obtain ⟨H0, locs, X, hL, hI⟩ := W
  subst had
  have O : Oat F Z T.heap a (.array ty) vs := hI.2.1.get hi
  obtain ⟨T', X', e', stp⟩ := castY X H0.1 H0.2.1 H0.2.2.2.2.1 w rfl (Ins.self O.1) (g := mkF m pc ls (.ref a :: st)) rfl rfl (hb H0.2.2.1 hd)
  exact (K T' ⟨H0, locs, X', hL, by rw [e']; exact hI⟩).by stp
theorem Oat.arv {h : Heap} {a : Addr} {ty : FieldType} {vs : List Value} (O : Oat F Z h a (.array ty) vs) (hl : vs.length < 2 ^ 31) (d : Value) : ∃ kk, Arv Z h a kk ty vs.length.toInt32 vs d := by
  obtain ⟨E, f, cl, Ar, S⟩ := O
  have e1 : vs.length.toInt32.toInt = vs.length := len_toInt hl
  have e2 : vs.length.toInt32.toNatClampNeg = vs.length := by simp only [Int32.toNatClampNeg, e1]; omega
  have sz : cl.slots.size = vs.length := by rw [S]; simp
  have gd : ∀ i, i < vs.length → vs.getD i d = vs.getD i d ∧ vs[i]? = some (vs.getD i d) := fun i hi => ⟨rfl, by simp [List.getD_eq_getElem?_getD, List.getElem?_eq_getElem hi]⟩
  refine ⟨cl.cls, cl, Ar, rfl, by rw [e2, sz], by rw [Int32.lt_iff_toInt_lt, e1]; simp only [Int32.reduceToInt]; omega, fun i hi => ?_, fun i hi => ?_⟩
  · rw [S]; simpa using (gd i (sz ▸ hi)).2
  · exact f _ (List.mem_of_getElem? (gd i (sz ▸ hi)).2)
theorem Oat.of_arv {h h' : Heap} {a : Addr} {ty : FieldType} {vs vs' : List Value} {kk : ClassId} {z : Int32} {d : Value} (O : Oat F Z h a (.array ty) vs) {ws : List Addr} (K : Keep h h' ws) (V : Arv Z h' a kk ty z vs' d) (hz : z.toNatClampNeg = vs'.length) : Oat F Z h' a (.array ty) vs' := by
  obtain ⟨E, f, -⟩ := O
  obtain ⟨cl, Ar, -, S, -, H, G⟩ := V
  have key : ∀ i, i < vs'.length → vs'[i]? = some (vs'.getD i d) := fun i hi => by simp [List.getD_eq_getElem?_getD, List.getElem?_eq_getElem hi]
  refine ⟨E.keep K, fun v hv => ?_, cl, Ar, ?_⟩
  · obtain ⟨i, hi⟩ := List.mem_iff_getElem?.mp hv
    have hlt := (List.getElem?_eq_some_iff.mp hi).1
    have q := G i (by rw [S, hz]; exact hlt)
    rw [key i hlt] at hi
    rw [← Option.some.inj hi]; exact q
  · refine Array.ext_getElem? fun i => ?_
    by_cases hi : i < vs'.length
    · rw [H i (by rw [S, hz]; exact hi)]; simpa using (key i hi).symm
    · rw [Array.getElem?_eq_none (by rw [S, hz]; omega), Array.getElem?_eq_none (by simpa using hi)]
theorem g_arraycopy {index i j Wt : Nat} {a b : Addr} {ty : FieldType} {vs vd vd' : List Value} {sp dp nn : Int32} {os' : List Ob} (W : Here p l e R s m args below meth c Z F B h0 A y bytes mL ret T k n os) (w1 : (Jvm.Cond.methodLink y.cls index Jvm.Stand.acN).before a0 Z = true) (w2 : (Jvm.Cond.native Jvm.Stand.acN).before a0 Z = true) (w3 : (Jvm.Cond.static Jvm.Stand.acN).before a0 Z = true) (w4 : (Jvm.Cond.initialized "java/lang/System").before a0 Z = true)
    (hi : os[i]? = some (a, .array ty, vs)) (hj : os[j]? = some (b, .array ty, vd)) (hr : refKind ty = false) (h1 : ¬ sp < 0) (h2 : ¬ dp < 0) (h3 : ¬ nn < 0) (l1 : vs.length < 2 ^ 31) (l2 : vd.length < 2 ^ 31) (h4 : sp.toNatClampNeg + nn.toNatClampNeg ≤ vs.length) (h5 : dp.toNatClampNeg + nn.toNatClampNeg ≤ vd.length)
    (hv : vd.take dp.toNatClampNeg ++ ((List.range nn.toNatClampNeg).map fun i => vs.getD (sp.toNatClampNeg + i) .null) ++ vd.drop (dp.toNatClampNeg + nn.toNatClampNeg) = vd') (ho : os.set j (b, .array ty, vd') = os')
    (hsz : ls.size = mL) (hW : (st.map fun v => v.category).sum ≤ Wt) (hfr : 1 ≤ R.frames) (hlo : Wt + (nativeFrameWords "java/lang/System" "arraycopy" 5 + 11) ≤ R.locals) (hd : decode bytes pc = .ok (.invokestatic index, 3)) (K : ∀ T', Here p l e R s m args below meth c Z F B h0 A y bytes mL ret T' k n os' → Go p e below G (T'.setTop (mkF m (pc + 3) ls (st)))) : Go p e below G (T.setTop (mkF m pc ls (.int nn :: .int dp :: .ref b :: .int sp :: .ref a :: st))) := by
  obtain ⟨H0, locs, X, hL, hI⟩ := W
  have Oa : Oat F Z T.heap a (.array ty) vs := hI.2.1.get hi
  have Ob' : Oat F Z T.heap b (.array ty) vd := hI.2.1.get hj
  obtain ⟨ka, Va⟩ := Oa.arv l1 .null
  obtain ⟨kb, Vb⟩ := Ob'.arv l2 .null
  have ez : ∀ (L : List Value), L.length < 2 ^ 31 → L.length.toInt32.toNatClampNeg = L.length := fun L hl => by
    have e1 : L.length.toInt32.toInt = L.length := len_toInt hl
    simp only [Int32.toNatClampNeg, e1]; omega
  obtain ⟨T', h', L', X', e', N', Kp, V', stp⟩ := cpA X H0.1 H0.2.1 H0.2.2.2.2.1 w1 w2 w3 w4 rfl Va Vb (Or.inl ⟨rfl, hr⟩) h1 h2 h3 (by rw [ez _ l1]; exact h4) (by rw [ez _ l2]; exact h5) rfl h5 (n0 := B) hL.1 ((hI.mem hj).ge hL.2.1 hL.2.2) (g := mkF m pc ls (.int nn :: .int dp :: .ref b :: .int sp :: .ref a :: st)) rfl (hsz.trans H0.2.2.2.1.symm) rfl (hb H0.2.2.1 hd) hfr (W := Wt) (by show 2 * 0 + _ ≤ _; omega) hlo
  refine (K T' ⟨H0, L', X', ⟨N', hL.2⟩, ?_⟩).by stp
  rw [e', ← ho]
  rw [hv] at V'
  refine hI.set hj Kp (Ob'.of_arv Kp V' ?_)
  rw [ez _ l2, ← hv]
  simp only [List.length_append, List.length_take, List.length_map, List.length_range, List.length_drop]
  omega
/-- the end: what a law's own contract gives -/
theorem Con.frame {y : MethodName} {as : Array Value} {P : Option Value → List Ob → Prop} {rm : Room} {h : Heap} {v : Option Value} {hh : Heap} {L : List Loc} (Q : Qc F Z B [] h P v hh L) : ∀ y ∈ L, B ≤ y.base := Q.1
end Own
def FM : Fm := fun c => if c = "com/example/traverso/traverso/graph/Labels" then [("terms", "[I"), ("texts", "[Ljava/lang/String;")] else []
theorem cls_Labels {Z : State} {a0 : Array Value} (hw : ∀ d ∈ tables_1, d.before a0 Z = true) : Cls Z a0 FM "com/example/traverso/traverso/graph/Labels" := by
  have e : FM "com/example/traverso/traverso/graph/Labels" = [("terms", "[I"), ("texts", "[Ljava/lang/String;")] := by decide
  refine ⟨fun x hx => ?_, by rw [e]; decide⟩
  rw [e] at hx
  simp only [List.mem_cons, List.not_mem_nil, or_false] at hx
  rcases hx with rfl | rfl
  · exact ⟨Or.inr (hw _ (List.mem_of_getElem? (i := 17) rfl)), (.array .int), by decide⟩
  · exact ⟨Or.inr (hw _ (List.mem_of_getElem? (i := 19) rfl)), (.array (.object "java/lang/String")), by decide⟩
theorem pd___V : parseMethodDescriptor "()V" = some ⟨[], none⟩ := by decide +kernel
theorem pd_I__I : parseMethodDescriptor "(I)I" = some ⟨[.int], some .int⟩ := by decide +kernel
theorem pd_III__I : parseMethodDescriptor "(III)I" = some ⟨[.int, .int, .int], some .int⟩ := by decide +kernel
theorem pd_IIIIII__Z : parseMethodDescriptor "(IIIIII)Z" = some ⟨[.int, .int, .int, .int, .int, .int], some .boolean⟩ := by decide +kernel
theorem pd_AIII__I : parseMethodDescriptor "([III)I" = some ⟨[(.array .int), .int, .int], some .int⟩ := by decide +kernel
theorem pd_AIALjava_lang_String___V : parseMethodDescriptor "([I[Ljava/lang/String;)V" = some ⟨[(.array .int), (.array (.object "java/lang/String"))], none⟩ := by decide +kernel
def stp (i ctl k : Int32) : Int32 := if XT.ushr ctl k &&& 1 = 0 then i else if i < 3 then i + 1 else i
def sel (a b c d i : Int32) : Int32 := if i = 0 then a else if i = 1 then b else if i = 2 then c else d
def rf0 (q : Int32) : Int32 := -1
def rf1 (s0 q : Int32) : Int32 := if s0 = q then 0 else -1
def rf2 (s0 s1 q : Int32) : Int32 := if s0 = q then 0 else if s1 = q then 1 else -1
def rf3 (s0 s1 s2 q : Int32) : Int32 := if s0 = q then 0 else if s1 = q then 1 else if s2 = q then 2 else -1
def rf4 (s0 s1 s2 s3 q : Int32) : Int32 := if s0 = q then 0 else if s1 = q then 1 else if s2 = q then 2 else if s3 = q then 3 else -1
def rf5 (s0 s1 s2 s3 s4 q : Int32) : Int32 := if s0 = q then 0 else if s1 = q then 1 else if s2 = q then 2 else if s3 = q then 3 else if s4 = q then 4 else -1
def rf6 (s0 s1 s2 s3 s4 s5 q : Int32) : Int32 := if s0 = q then 0 else if s1 = q then 1 else if s2 = q then 2 else if s3 = q then 3 else if s4 = q then 4 else if s5 = q then 5 else -1
theorem own_is {x y : Int32} {k : Int} (h : x.toInt = k) (e : y.toInt = k) : x = y := Int32.toInt_inj.mp (h.trans e.symm)
theorem own_stp {i : Int32} (ctl k : Int32) (h : 0 ≤ i.toInt ∧ i.toInt ≤ 3) : 0 ≤ (stp i ctl k).toInt ∧ (stp i ctl k).toInt ≤ 3 ∧ i.toInt ≤ (stp i ctl k).toInt := by
  unfold stp
  split
  · omega
  · split
    · rename_i h1
      have h3 : (3 : Int32).toInt = 3 := by decide
      have h4 : (1 : Int32).toInt = 1 := by decide
      rw [Int32.lt_iff_toInt_lt, h3] at h1
      have s := c_iadd i 1
      have r := rng32 (i + 1)
      rw [h4] at s
      omega
    · omega
theorem own_four {i : Int32} (h : 0 ≤ i.toInt ∧ i.toInt ≤ 3) : i = 0 ∨ i = 1 ∨ i = 2 ∨ i = 3 := by
  rcases (by omega : i.toInt = 0 ∨ i.toInt = 1 ∨ i.toInt = 2 ∨ i.toInt = 3) with q | q | q | q
  · exact Or.inl (own_is q (by decide))
  · exact Or.inr (Or.inl (own_is q (by decide)))
  · exact Or.inr (Or.inr (Or.inl (own_is q (by decide))))
  · exact Or.inr (Or.inr (Or.inr (own_is q (by decide))))
theorem own_nn {i : Int32} (h : 0 ≤ i.toInt) : ¬ i < 0 := by
  rw [Int32.lt_iff_toInt_lt, show (0 : Int32).toInt = 0 from by decide]; omega
theorem own_sel {a b c d i : Int32} (h : 0 ≤ i.toInt ∧ i.toInt ≤ 3) : [Value.int a, .int b, .int c, .int d][i.toNatClampNeg]? = some (.int (sel a b c d i)) := by
  rcases own_four h with rfl | rfl | rfl | rfl <;> rfl
theorem own_mono {a b c d i j : Int32} (hs : a.toInt ≤ b.toInt ∧ b.toInt ≤ c.toInt ∧ c.toInt ≤ d.toInt) (hi : 0 ≤ i.toInt ∧ i.toInt ≤ 3) (hj : 0 ≤ j.toInt ∧ j.toInt ≤ 3) (h : i.toInt ≤ j.toInt) : (sel a b c d i).toInt ≤ (sel a b c d j).toInt := by
  have e0 : (0 : Int32).toInt = 0 := by decide
  have e1 : (1 : Int32).toInt = 1 := by decide
  have e2 : (2 : Int32).toInt = 2 := by decide
  simp only [sel, ← Int32.toInt_inj, e0, e1, e2]
  repeat' split
  all_goals omega
theorem own_pick {s0 s1 s2 s3 s4 s5 i : Int32} (h : 0 ≤ i.toInt ∧ i.toInt < 6) : ∃ w, [Value.int s0, .int s1, .int s2, .int s3, .int s4, .int s5][i.toNatClampNeg]? = some (.int w) := by
  have e : i.toNatClampNeg = i.toInt.toNat := rfl
  rcases (by omega : i.toInt.toNat = 0 ∨ i.toInt.toNat = 1 ∨ i.toInt.toNat = 2 ∨ i.toInt.toNat = 3 ∨ i.toInt.toNat = 4 ∨ i.toInt.toNat = 5) with q | q | q | q | q | q <;> rw [e, q] <;> exact ⟨_, rfl⟩
theorem own_rem (a : Int32) {n : Int32} (k : Int) (hn : n.toInt = k) (h0 : 0 < k) : 0 ≤ ((a &&& 2147483647) % n).toInt ∧ ((a &&& 2147483647) % n).toInt < k := by
  have e : (a &&& 2147483647).toInt = a.toInt % 2 ^ 31 := Jvm.Kit.i32_mask a 2147483647 (k := 31) (by decide) (by decide)
  have h : 0 ≤ a.toInt % 2 ^ 31 := Int.emod_nonneg _ (by decide)
  rw [Int32.toInt_mod, hn, e]
  exact ⟨Int.tmod_nonneg _ h, Int.tmod_lt_of_pos _ h0⟩
theorem own_n (a : Int32) : a &&& 7 = 0 ∨ a &&& 7 = 1 ∨ a &&& 7 = 2 ∨ a &&& 7 = 3 ∨ a &&& 7 = 4 ∨ a &&& 7 = 5 ∨ a &&& 7 = 6 ∨ a &&& 7 = 7 := by
  have e : (a &&& 7).toInt = a.toInt % 2 ^ 3 := Jvm.Kit.i32_mask a 7 (k := 3) (by decide) (by decide)
  rcases (by omega : (a &&& 7).toInt = 0 ∨ (a &&& 7).toInt = 1 ∨ (a &&& 7).toInt = 2 ∨ (a &&& 7).toInt = 3 ∨ (a &&& 7).toInt = 4 ∨ (a &&& 7).toInt = 5 ∨ (a &&& 7).toInt = 6 ∨ (a &&& 7).toInt = 7) with h | h | h | h | h | h | h | h
  · exact Or.inl (own_is h (by decide))
  · exact Or.inr (Or.inl (own_is h (by decide)))
  · exact Or.inr (Or.inr (Or.inl (own_is h (by decide))))
  · exact Or.inr (Or.inr (Or.inr (Or.inl (own_is h (by decide)))))
  · exact Or.inr (Or.inr (Or.inr (Or.inr (Or.inl (own_is h (by decide))))))
  · exact Or.inr (Or.inr (Or.inr (Or.inr (Or.inr (Or.inl (own_is h (by decide)))))))
  · exact Or.inr (Or.inr (Or.inr (Or.inr (Or.inr (Or.inr (Or.inl (own_is h (by decide))))))))
  · exact Or.inr (Or.inr (Or.inr (Or.inr (Or.inr (Or.inr (Or.inr (own_is h (by decide))))))))
theorem d_step_0 : decode method_3_code 0 = .ok (.iload_n 1, 1) := by decide +kernel
theorem d_step_1 : decode method_3_code 1 = .ok (.iload_n 2, 1) := by decide +kernel
theorem d_step_2 : decode method_3_code 2 = .ok (.iushr, 1) := by decide +kernel
theorem d_step_3 : decode method_3_code 3 = .ok (.iconst 1, 1) := by decide +kernel
theorem d_step_4 : decode method_3_code 4 = .ok (.iand, 1) := by decide +kernel
theorem d_step_5 : decode method_3_code 5 = .ok (.ifCond .eq 12, 3) := by decide +kernel
theorem d_step_8 : decode method_3_code 8 = .ok (.iload_n 0, 1) := by decide +kernel
theorem d_step_9 : decode method_3_code 9 = .ok (.iconst 3, 1) := by decide +kernel
theorem d_step_10 : decode method_3_code 10 = .ok (.if_icmp .ge 7, 3) := by decide +kernel
theorem d_step_13 : decode method_3_code 13 = .ok (.iload_n 0, 1) := by decide +kernel
theorem d_step_14 : decode method_3_code 14 = .ok (.iconst 1, 1) := by decide +kernel
theorem d_step_15 : decode method_3_code 15 = .ok (.iadd, 1) := by decide +kernel
theorem d_step_16 : decode method_3_code 16 = .ok (.ireturn, 1) := by decide +kernel
theorem d_step_17 : decode method_3_code 17 = .ok (.iload_n 0, 1) := by decide +kernel
theorem d_step_18 : decode method_3_code 18 = .ok (.ireturn, 1) := by decide +kernel
set_option maxRecDepth 65536 in
set_option maxHeartbeats 40000000 in
theorem c_step (l : Launch) (Z : State) (a0 : Array Value) (hw : ∀ d ∈ tables_1, d.before a0 Z = true) {B : Nat} (i ctl k : Int32) :
    Con l Z FM B (⟨"com/example/traverso/traverso/graph/LabelsFirstPinLaw", "step", "(III)I"⟩ : MethodName) method_3_code 3 (some .int) ({ frames := 0, cells := 0, slots := 0, locals := 0 } : Room) [] #[.int i, .int ctl, .int k] [] (fun v os => v = some (.int (stp i ctl k)) ∧ os = []) := by
  refine Con.of (plainFor_of_name (by first | (simp [plainName, overriddenIn]; done) | decide +kernel)) (ls := #[.val (.int i), .val (.int ctl), .val (.int k)]) (fun m => by first | (simp [entryFrame, mkF, argsToLocals, Value.category]; done) | rfl) ?_
  intro p_ e_ h_ s_ m_ bl_ me_ c_ T0 W0
  refine g_iload_n (pc := 0) W0 d_step_0 rfl ?_
  refine g_iload_n (pc := 1) W0 d_step_1 rfl ?_
  refine g_iushr (pc := 2) W0 d_step_2 ?_
  refine g_iconst (pc := 3) (1 : Int32) (by decide) W0 d_step_3 ?_
  refine g_iand (pc := 4) W0 d_step_4 ?_
  refine g_if_eq 17 (pc := 5) W0 d_step_5 (by decide) (by decide) (fun c1 => ?_) (fun c1 => ?_)
  · refine g_iload_n (pc := 17) W0 d_step_17 rfl ?_
    exact g_ireturn (pc := 18) rfl W0 d_step_18 (by decide) (by decide) ⟨by simp only [stp, if_pos c1], rfl⟩
  · refine g_iload_n (pc := 8) W0 d_step_8 rfl ?_
    refine g_iconst (pc := 9) (3 : Int32) (by decide) W0 d_step_9 ?_
    refine g_icmp_ge 17 (pc := 10) W0 d_step_10 (by decide) (by decide) (fun c2 => ?_) (fun c2 => ?_)
    · refine g_iload_n (pc := 17) W0 d_step_17 rfl ?_
      exact g_ireturn (pc := 18) rfl W0 d_step_18 (by decide) (by decide) ⟨by simp only [stp, if_neg c1, if_neg c2], rfl⟩
    · refine g_iload_n (pc := 13) W0 d_step_13 rfl ?_
      refine g_iconst (pc := 14) (1 : Int32) (by decide) W0 d_step_14 ?_
      refine g_iadd (pc := 15) W0 d_step_15 ?_
      exact g_ireturn (pc := 16) rfl W0 d_step_16 (by decide) (by decide) ⟨by simp only [stp, if_neg c1, if_pos c2], rfl⟩
theorem d_c_init_0 : decode prog_29_method_1_code 0 = .ok (.aload_n 0, 1) := by decide +kernel
theorem d_c_init_1 : decode prog_29_method_1_code 1 = .ok (.invokespecial 1, 3) := by decide +kernel
theorem d_c_init_4 : decode prog_29_method_1_code 4 = .ok (.aload_n 0, 1) := by decide +kernel
theorem d_c_init_5 : decode prog_29_method_1_code 5 = .ok (.aload_n 1, 1) := by decide +kernel
theorem d_c_init_6 : decode prog_29_method_1_code 6 = .ok (.putfield 7, 3) := by decide +kernel
theorem d_c_init_9 : decode prog_29_method_1_code 9 = .ok (.aload_n 0, 1) := by decide +kernel
theorem d_c_init_10 : decode prog_29_method_1_code 10 = .ok (.aload_n 2, 1) := by decide +kernel
theorem d_c_init_11 : decode prog_29_method_1_code 11 = .ok (.putfield 13, 3) := by decide +kernel
theorem d_c_init_14 : decode prog_29_method_1_code 14 = .ok (.return_, 1) := by decide +kernel
set_option maxRecDepth 65536 in
set_option maxHeartbeats 40000000 in
theorem c_init (l : Launch) (Z : State) (a0 : Array Value) (hw : ∀ d ∈ tables_1, d.before a0 Z = true) {B : Nat} (a b c : Addr) :
    Con l Z FM B (⟨"com/example/traverso/traverso/graph/Labels", "<init>", "([I[Ljava/lang/String;)V"⟩ : MethodName) prog_29_method_1_code 3 none ({ frames := 1, cells := 0, slots := 0, locals := 12 } : Room) [] #[.ref a, .ref b, .ref c] [(a, (.object "com/example/traverso/traverso/graph/Labels"), [.null, .null])] (fun v os => v = none ∧ os = [(a, (.object "com/example/traverso/traverso/graph/Labels"), [.ref b, .ref c])]) := by
  refine Con.of (plainFor_of_name (by first | (simp [plainName, overriddenIn]; done) | decide +kernel)) (ls := #[.val (.ref a), .val (.ref b), .val (.ref c)]) (fun m => by first | (simp [entryFrame, mkF, argsToLocals, Value.category]; done) | rfl) ?_
  intro p_ e_ h_ s_ m_ bl_ me_ c_ T0 W0
  refine g_aload_n (pc := 0) W0 d_c_init_0 rfl rfl ?_
  refine g_object (pc := 1) 0 W0 (hw _ (List.mem_of_getElem? (i := 13) rfl)) (hw _ (List.mem_of_getElem? (i := 14) rfl)) (hw _ (List.mem_of_getElem? (i := 15) rfl)) rfl (Nat.le_of_ble_eq_true rfl) (by decide) (by decide) d_c_init_1 (fun T1 W2 => ?_)
  refine g_aload_n (pc := 4) W2 d_c_init_4 rfl rfl ?_
  refine g_aload_n (pc := 5) W2 d_c_init_5 rfl rfl ?_
  refine g_putfield (pc := 6) (i := 0) (j := 0) (ty := (.array .int)) (os' := [(a, (.object "com/example/traverso/traverso/graph/Labels"), [.ref b, .null])]) (host := "") W2 (Or.inl (hw _ (List.mem_of_getElem? (i := 16) rfl))) (cls_Labels hw) (Or.inr ⟨(hw _ (List.mem_of_getElem? (i := 17) rfl)), rfl, rfl⟩) (hw _ (List.mem_of_getElem? (i := 8) rfl)) rfl rfl rfl (by decide) rfl rfl rfl d_c_init_6 (fun T3 W4 => ?_)
  refine g_aload_n (pc := 9) W4 d_c_init_9 rfl rfl ?_
  refine g_aload_n (pc := 10) W4 d_c_init_10 rfl rfl ?_
  refine g_putfield (pc := 11) (i := 0) (j := 1) (ty := (.array (.object "java/lang/String"))) (os' := [(a, (.object "com/example/traverso/traverso/graph/Labels"), [.ref b, .ref c])]) (host := "") W4 (Or.inl (hw _ (List.mem_of_getElem? (i := 18) rfl))) (cls_Labels hw) (Or.inr ⟨(hw _ (List.mem_of_getElem? (i := 19) rfl)), rfl, rfl⟩) (hw _ (List.mem_of_getElem? (i := 8) rfl)) rfl rfl rfl (by decide) rfl rfl rfl d_c_init_11 (fun T5 W6 => ?_)
  exact g_return (pc := 14) rfl W6 d_c_init_14 (by decide) (by decide) ⟨rfl, rfl⟩
theorem d_c_ref0_0 : decode method_4_code 0 = .ok (.iload_n 1, 1) := by decide +kernel
theorem d_c_ref0_1 : decode method_4_code 1 = .ok (.ifCond .le 12, 3) := by decide +kernel
theorem d_c_ref0_13 : decode method_4_code 13 = .ok (.iload_n 1, 1) := by decide +kernel
theorem d_c_ref0_14 : decode method_4_code 14 = .ok (.iconst 1, 1) := by decide +kernel
theorem d_c_ref0_15 : decode method_4_code 15 = .ok (.if_icmp .le 12, 3) := by decide +kernel
theorem d_c_ref0_27 : decode method_4_code 27 = .ok (.iload_n 1, 1) := by decide +kernel
theorem d_c_ref0_28 : decode method_4_code 28 = .ok (.iconst 2, 1) := by decide +kernel
theorem d_c_ref0_29 : decode method_4_code 29 = .ok (.if_icmp .le 12, 3) := by decide +kernel
theorem d_c_ref0_41 : decode method_4_code 41 = .ok (.iload_n 1, 1) := by decide +kernel
theorem d_c_ref0_42 : decode method_4_code 42 = .ok (.iconst 3, 1) := by decide +kernel
theorem d_c_ref0_43 : decode method_4_code 43 = .ok (.if_icmp .le 12, 3) := by decide +kernel
theorem d_c_ref0_55 : decode method_4_code 55 = .ok (.iload_n 1, 1) := by decide +kernel
theorem d_c_ref0_56 : decode method_4_code 56 = .ok (.iconst 4, 1) := by decide +kernel
theorem d_c_ref0_57 : decode method_4_code 57 = .ok (.if_icmp .le 12, 3) := by decide +kernel
theorem d_c_ref0_69 : decode method_4_code 69 = .ok (.iload_n 1, 1) := by decide +kernel
theorem d_c_ref0_70 : decode method_4_code 70 = .ok (.iconst 5, 1) := by decide +kernel
theorem d_c_ref0_71 : decode method_4_code 71 = .ok (.if_icmp .le 12, 3) := by decide +kernel
theorem d_c_ref0_83 : decode method_4_code 83 = .ok (.iconst (-1), 1) := by decide +kernel
theorem d_c_ref0_84 : decode method_4_code 84 = .ok (.ireturn, 1) := by decide +kernel
set_option maxRecDepth 65536 in
set_option maxHeartbeats 40000000 in
theorem c_ref0 (l : Launch) (Z : State) (a0 : Array Value) (hw : ∀ d ∈ tables_1, d.before a0 Z = true) {B : Nat} (b : Addr) (q : Int32) :
    Con l Z FM B (⟨"com/example/traverso/traverso/graph/LabelsFirstPinLaw", "reference", "([III)I"⟩ : MethodName) method_4_code 3 (some .int) ({ frames := 0, cells := 0, slots := 0, locals := 0 } : Room) [] #[.ref b, .int (0 : Int32), .int q] [(b, (.array .int), [])] (fun v os => v = some (.int (rf0 q)) ∧ os = [(b, (.array .int), [])]) := by
  refine Con.of (plainFor_of_name (by first | (simp [plainName, overriddenIn]; done) | decide +kernel)) (ls := #[.val (.ref b), .val (.int (0 : Int32)), .val (.int q)]) (fun m => by first | (simp [entryFrame, mkF, argsToLocals, Value.category]; done) | rfl) ?_
  intro p_ e_ h_ s_ m_ bl_ me_ c_ T0 W0
  refine g_iload_n (pc := 0) W0 d_c_ref0_0 rfl ?_
  refine g_ifY 13 (pc := 1) W0 d_c_ref0_1 (by decide) (by decide) (by decide) ?_
  refine g_iload_n (pc := 13) W0 d_c_ref0_13 rfl ?_
  refine g_iconst (pc := 14) (1 : Int32) (by decide) W0 d_c_ref0_14 ?_
  refine g_icmpY 27 (pc := 15) W0 d_c_ref0_15 (by decide) (by decide) (by decide) ?_
  refine g_iload_n (pc := 27) W0 d_c_ref0_27 rfl ?_
  refine g_iconst (pc := 28) (2 : Int32) (by decide) W0 d_c_ref0_28 ?_
  refine g_icmpY 41 (pc := 29) W0 d_c_ref0_29 (by decide) (by decide) (by decide) ?_
  refine g_iload_n (pc := 41) W0 d_c_ref0_41 rfl ?_
  refine g_iconst (pc := 42) (3 : Int32) (by decide) W0 d_c_ref0_42 ?_
  refine g_icmpY 55 (pc := 43) W0 d_c_ref0_43 (by decide) (by decide) (by decide) ?_
  refine g_iload_n (pc := 55) W0 d_c_ref0_55 rfl ?_
  refine g_iconst (pc := 56) (4 : Int32) (by decide) W0 d_c_ref0_56 ?_
  refine g_icmpY 69 (pc := 57) W0 d_c_ref0_57 (by decide) (by decide) (by decide) ?_
  refine g_iload_n (pc := 69) W0 d_c_ref0_69 rfl ?_
  refine g_iconst (pc := 70) (5 : Int32) (by decide) W0 d_c_ref0_70 ?_
  refine g_icmpY 83 (pc := 71) W0 d_c_ref0_71 (by decide) (by decide) (by decide) ?_
  refine g_iconst (pc := 83) (-1 : Int32) (by decide) W0 d_c_ref0_83 ?_
  exact g_ireturn (pc := 84) rfl W0 d_c_ref0_84 (by decide) (by decide) ⟨by simp only [rf0], rfl⟩
theorem d_c_fst0_0 : decode prog_29_method_5_code 0 = .ok (.iconst 0, 1) := by decide +kernel
theorem d_c_fst0_1 : decode prog_29_method_5_code 1 = .ok (.istore_n 2, 1) := by decide +kernel
theorem d_c_fst0_2 : decode prog_29_method_5_code 2 = .ok (.aload_n 0, 1) := by decide +kernel
theorem d_c_fst0_3 : decode prog_29_method_5_code 3 = .ok (.getfield 7, 3) := by decide +kernel
theorem d_c_fst0_6 : decode prog_29_method_5_code 6 = .ok (.arraylength, 1) := by decide +kernel
theorem d_c_fst0_7 : decode prog_29_method_5_code 7 = .ok (.istore_n 3, 1) := by decide +kernel
theorem d_c_fst0_8 : decode prog_29_method_5_code 8 = .ok (.iload_n 2, 1) := by decide +kernel
theorem d_c_fst0_9 : decode prog_29_method_5_code 9 = .ok (.iload_n 3, 1) := by decide +kernel
theorem d_c_fst0_10 : decode prog_29_method_5_code 10 = .ok (.if_icmp .ge 35, 3) := by decide +kernel
theorem d_c_fst0_45 : decode prog_29_method_5_code 45 = .ok (.iload_n 2, 1) := by decide +kernel
theorem d_c_fst0_46 : decode prog_29_method_5_code 46 = .ok (.aload_n 0, 1) := by decide +kernel
theorem d_c_fst0_47 : decode prog_29_method_5_code 47 = .ok (.getfield 7, 3) := by decide +kernel
theorem d_c_fst0_50 : decode prog_29_method_5_code 50 = .ok (.arraylength, 1) := by decide +kernel
theorem d_c_fst0_51 : decode prog_29_method_5_code 51 = .ok (.if_icmp .ge 17, 3) := by decide +kernel
theorem d_c_fst0_68 : decode prog_29_method_5_code 68 = .ok (.iconst (-1), 1) := by decide +kernel
theorem d_c_fst0_69 : decode prog_29_method_5_code 69 = .ok (.ireturn, 1) := by decide +kernel
set_option maxRecDepth 65536 in
set_option maxHeartbeats 40000000 in
theorem c_fst0 (l : Launch) (Z : State) (a0 : Array Value) (hw : ∀ d ∈ tables_1, d.before a0 Z = true) {B : Nat} (a b c : Addr) (q : Int32)  :
    Con l Z FM B (⟨"com/example/traverso/traverso/graph/Labels", "first", "(I)I"⟩ : MethodName) prog_29_method_5_code 5 (some .int) ({ frames := 0, cells := 0, slots := 0, locals := 0 } : Room) [] #[.ref a, .int q] [(a, (.object "com/example/traverso/traverso/graph/Labels"), [.ref b, .ref c]), (b, (.array .int), [])] (fun v os => v = some (.int (rf0 q)) ∧ os = [(a, (.object "com/example/traverso/traverso/graph/Labels"), [.ref b, .ref c]), (b, (.array .int), [])]) := by
  refine Con.of (plainFor_of_name (by first | (simp [plainName, overriddenIn]; done) | decide +kernel)) (ls := #[.val (.ref a), .val (.int q), .unset, .unset, .unset]) (fun m => by first | (simp [entryFrame, mkF, argsToLocals, Value.category]; done) | rfl) ?_
  intro p_ e_ h_ s_ m_ bl_ me_ c_ T0 W0
  refine g_iconst (pc := 0) (0 : Int32) (by decide) W0 d_c_fst0_0 ?_
  refine g_istore_n (pc := 1) (ls' := #[.val (.ref a), .val (.int q), .val (.int (0 : Int32)), .unset, .unset]) W0 d_c_fst0_1 rfl ?_
  refine g_aload_n (pc := 2) W0 d_c_fst0_2 rfl rfl ?_
  refine g_getfield (pc := 3) (i := 0) (j := 0) (host := "") W0 (Or.inl (hw _ (List.mem_of_getElem? (i := 16) rfl))) rfl rfl rfl d_c_fst0_3 (fun T1 W2 => ?_)
  refine g_arraylength (pc := 6) (i := 1) (0 : Int32) W2 rfl rfl d_c_fst0_6 ?_
  refine g_istore_n (pc := 7) (ls' := #[.val (.ref a), .val (.int q), .val (.int (0 : Int32)), .val (.int (0 : Int32)), .unset]) W2 d_c_fst0_7 rfl ?_
  refine g_iload_n (pc := 8) W2 d_c_fst0_8 rfl ?_
  refine g_iload_n (pc := 9) W2 d_c_fst0_9 rfl ?_
  refine g_icmpY 45 (pc := 10) W2 d_c_fst0_10 (by decide) (by decide) (by decide) ?_
  refine g_iload_n (pc := 45) W2 d_c_fst0_45 rfl ?_
  refine g_aload_n (pc := 46) W2 d_c_fst0_46 rfl rfl ?_
  refine g_getfield (pc := 47) (i := 0) (j := 0) (host := "") W2 (Or.inl (hw _ (List.mem_of_getElem? (i := 16) rfl))) rfl rfl rfl d_c_fst0_47 (fun T3 W4 => ?_)
  refine g_arraylength (pc := 50) (i := 1) (0 : Int32) W4 rfl rfl d_c_fst0_50 ?_
  refine g_icmpY 68 (pc := 51) W4 d_c_fst0_51 (by decide) (by decide) (by decide) ?_
  refine g_iconst (pc := 68) (-1 : Int32) (by decide) W4 d_c_fst0_68 ?_
  exact g_ireturn (pc := 69) rfl W4 d_c_fst0_69 (by decide) (by decide) ⟨rfl, rfl⟩
theorem d_c_ref1_0 : decode method_4_code 0 = .ok (.iload_n 1, 1) := by decide +kernel
theorem d_c_ref1_1 : decode method_4_code 1 = .ok (.ifCond .le 12, 3) := by decide +kernel
theorem d_c_ref1_4 : decode method_4_code 4 = .ok (.aload_n 0, 1) := by decide +kernel
theorem d_c_ref1_5 : decode method_4_code 5 = .ok (.iconst 0, 1) := by decide +kernel
theorem d_c_ref1_6 : decode method_4_code 6 = .ok (.iaload, 1) := by decide +kernel
theorem d_c_ref1_7 : decode method_4_code 7 = .ok (.iload_n 2, 1) := by decide +kernel
theorem d_c_ref1_8 : decode method_4_code 8 = .ok (.if_icmp .ne 5, 3) := by decide +kernel
theorem d_c_ref1_11 : decode method_4_code 11 = .ok (.iconst 0, 1) := by decide +kernel
theorem d_c_ref1_12 : decode method_4_code 12 = .ok (.ireturn, 1) := by decide +kernel
theorem d_c_ref1_13 : decode method_4_code 13 = .ok (.iload_n 1, 1) := by decide +kernel
theorem d_c_ref1_14 : decode method_4_code 14 = .ok (.iconst 1, 1) := by decide +kernel
theorem d_c_ref1_15 : decode method_4_code 15 = .ok (.if_icmp .le 12, 3) := by decide +kernel
theorem d_c_ref1_27 : decode method_4_code 27 = .ok (.iload_n 1, 1) := by decide +kernel
theorem d_c_ref1_28 : decode method_4_code 28 = .ok (.iconst 2, 1) := by decide +kernel
theorem d_c_ref1_29 : decode method_4_code 29 = .ok (.if_icmp .le 12, 3) := by decide +kernel
theorem d_c_ref1_41 : decode method_4_code 41 = .ok (.iload_n 1, 1) := by decide +kernel
theorem d_c_ref1_42 : decode method_4_code 42 = .ok (.iconst 3, 1) := by decide +kernel
theorem d_c_ref1_43 : decode method_4_code 43 = .ok (.if_icmp .le 12, 3) := by decide +kernel
theorem d_c_ref1_55 : decode method_4_code 55 = .ok (.iload_n 1, 1) := by decide +kernel
theorem d_c_ref1_56 : decode method_4_code 56 = .ok (.iconst 4, 1) := by decide +kernel
theorem d_c_ref1_57 : decode method_4_code 57 = .ok (.if_icmp .le 12, 3) := by decide +kernel
theorem d_c_ref1_69 : decode method_4_code 69 = .ok (.iload_n 1, 1) := by decide +kernel
theorem d_c_ref1_70 : decode method_4_code 70 = .ok (.iconst 5, 1) := by decide +kernel
theorem d_c_ref1_71 : decode method_4_code 71 = .ok (.if_icmp .le 12, 3) := by decide +kernel
theorem d_c_ref1_83 : decode method_4_code 83 = .ok (.iconst (-1), 1) := by decide +kernel
theorem d_c_ref1_84 : decode method_4_code 84 = .ok (.ireturn, 1) := by decide +kernel
set_option maxRecDepth 65536 in
set_option maxHeartbeats 40000000 in
theorem c_ref1 (l : Launch) (Z : State) (a0 : Array Value) (hw : ∀ d ∈ tables_1, d.before a0 Z = true) {B : Nat} (b : Addr) (s0 q : Int32) :
    Con l Z FM B (⟨"com/example/traverso/traverso/graph/LabelsFirstPinLaw", "reference", "([III)I"⟩ : MethodName) method_4_code 3 (some .int) ({ frames := 0, cells := 0, slots := 0, locals := 0 } : Room) [] #[.ref b, .int (1 : Int32), .int q] [(b, (.array .int), [.int s0])] (fun v os => v = some (.int (rf1 s0 q)) ∧ os = [(b, (.array .int), [.int s0])]) := by
  refine Con.of (plainFor_of_name (by first | (simp [plainName, overriddenIn]; done) | decide +kernel)) (ls := #[.val (.ref b), .val (.int (1 : Int32)), .val (.int q)]) (fun m => by first | (simp [entryFrame, mkF, argsToLocals, Value.category]; done) | rfl) ?_
  intro p_ e_ h_ s_ m_ bl_ me_ c_ T0 W0
  refine g_iload_n (pc := 0) W0 d_c_ref1_0 rfl ?_
  refine g_ifN (pc := 1) W0 d_c_ref1_1 (by decide) ?_
  refine g_aload_n (pc := 4) W0 d_c_ref1_4 rfl rfl ?_
  refine g_iconst (pc := 5) (0 : Int32) (by decide) W0 d_c_ref1_5 ?_
  refine g_iaload (pc := 6) (i := 0) (v := .int s0) W0 rfl (by decide) rfl d_c_ref1_6 ?_
  refine g_iload_n (pc := 7) W0 d_c_ref1_7 rfl ?_
  refine g_icmp_ne 13 (pc := 8) W0 d_c_ref1_8 (by decide) (by decide) (fun c1 => ?_) (fun c1 => ?_)
  · refine g_iload_n (pc := 13) W0 d_c_ref1_13 rfl ?_
    refine g_iconst (pc := 14) (1 : Int32) (by decide) W0 d_c_ref1_14 ?_
    refine g_icmpY 27 (pc := 15) W0 d_c_ref1_15 (by decide) (by decide) (by decide) ?_
    refine g_iload_n (pc := 27) W0 d_c_ref1_27 rfl ?_
    refine g_iconst (pc := 28) (2 : Int32) (by decide) W0 d_c_ref1_28 ?_
    refine g_icmpY 41 (pc := 29) W0 d_c_ref1_29 (by decide) (by decide) (by decide) ?_
    refine g_iload_n (pc := 41) W0 d_c_ref1_41 rfl ?_
    refine g_iconst (pc := 42) (3 : Int32) (by decide) W0 d_c_ref1_42 ?_
    refine g_icmpY 55 (pc := 43) W0 d_c_ref1_43 (by decide) (by decide) (by decide) ?_
    refine g_iload_n (pc := 55) W0 d_c_ref1_55 rfl ?_
    refine g_iconst (pc := 56) (4 : Int32) (by decide) W0 d_c_ref1_56 ?_
    refine g_icmpY 69 (pc := 57) W0 d_c_ref1_57 (by decide) (by decide) (by decide) ?_
    refine g_iload_n (pc := 69) W0 d_c_ref1_69 rfl ?_
    refine g_iconst (pc := 70) (5 : Int32) (by decide) W0 d_c_ref1_70 ?_
    refine g_icmpY 83 (pc := 71) W0 d_c_ref1_71 (by decide) (by decide) (by decide) ?_
    refine g_iconst (pc := 83) (-1 : Int32) (by decide) W0 d_c_ref1_83 ?_
    exact g_ireturn (pc := 84) rfl W0 d_c_ref1_84 (by decide) (by decide) ⟨by simp only [rf1, if_neg c1], rfl⟩
  · refine g_iconst (pc := 11) (0 : Int32) (by decide) W0 d_c_ref1_11 ?_
    exact g_ireturn (pc := 12) rfl W0 d_c_ref1_12 (by decide) (by decide) ⟨by simp only [rf1, if_pos c1], rfl⟩
theorem d_c_fst1_0 : decode prog_29_method_5_code 0 = .ok (.iconst 0, 1) := by decide +kernel
theorem d_c_fst1_1 : decode prog_29_method_5_code 1 = .ok (.istore_n 2, 1) := by decide +kernel
theorem d_c_fst1_2 : decode prog_29_method_5_code 2 = .ok (.aload_n 0, 1) := by decide +kernel
theorem d_c_fst1_3 : decode prog_29_method_5_code 3 = .ok (.getfield 7, 3) := by decide +kernel
theorem d_c_fst1_6 : decode prog_29_method_5_code 6 = .ok (.arraylength, 1) := by decide +kernel
theorem d_c_fst1_7 : decode prog_29_method_5_code 7 = .ok (.istore_n 3, 1) := by decide +kernel
theorem d_c_fst1_8 : decode prog_29_method_5_code 8 = .ok (.iload_n 2, 1) := by decide +kernel
theorem d_c_fst1_9 : decode prog_29_method_5_code 9 = .ok (.iload_n 3, 1) := by decide +kernel
theorem d_c_fst1_10 : decode prog_29_method_5_code 10 = .ok (.if_icmp .ge 35, 3) := by decide +kernel
theorem d_c_fst1_13 : decode prog_29_method_5_code 13 = .ok (.iload_n 2, 1) := by decide +kernel
theorem d_c_fst1_14 : decode prog_29_method_5_code 14 = .ok (.iload_n 3, 1) := by decide +kernel
theorem d_c_fst1_15 : decode prog_29_method_5_code 15 = .ok (.iadd, 1) := by decide +kernel
theorem d_c_fst1_16 : decode prog_29_method_5_code 16 = .ok (.iconst 1, 1) := by decide +kernel
theorem d_c_fst1_17 : decode prog_29_method_5_code 17 = .ok (.iushr, 1) := by decide +kernel
theorem d_c_fst1_18 : decode prog_29_method_5_code 18 = .ok (.istore 4, 2) := by decide +kernel
theorem d_c_fst1_20 : decode prog_29_method_5_code 20 = .ok (.aload_n 0, 1) := by decide +kernel
theorem d_c_fst1_21 : decode prog_29_method_5_code 21 = .ok (.getfield 7, 3) := by decide +kernel
theorem d_c_fst1_24 : decode prog_29_method_5_code 24 = .ok (.iload 4, 2) := by decide +kernel
theorem d_c_fst1_26 : decode prog_29_method_5_code 26 = .ok (.iaload, 1) := by decide +kernel
theorem d_c_fst1_27 : decode prog_29_method_5_code 27 = .ok (.iload_n 1, 1) := by decide +kernel
theorem d_c_fst1_28 : decode prog_29_method_5_code 28 = .ok (.if_icmp .ge 11, 3) := by decide +kernel
theorem d_c_fst1_31 : decode prog_29_method_5_code 31 = .ok (.iload 4, 2) := by decide +kernel
theorem d_c_fst1_33 : decode prog_29_method_5_code 33 = .ok (.iconst 1, 1) := by decide +kernel
theorem d_c_fst1_34 : decode prog_29_method_5_code 34 = .ok (.iadd, 1) := by decide +kernel
theorem d_c_fst1_35 : decode prog_29_method_5_code 35 = .ok (.istore_n 2, 1) := by decide +kernel
theorem d_c_fst1_36 : decode prog_29_method_5_code 36 = .ok (.goto 6, 3) := by decide +kernel
theorem d_c_fst1_39 : decode prog_29_method_5_code 39 = .ok (.iload 4, 2) := by decide +kernel
theorem d_c_fst1_41 : decode prog_29_method_5_code 41 = .ok (.istore_n 3, 1) := by decide +kernel
theorem d_c_fst1_42 : decode prog_29_method_5_code 42 = .ok (.goto (-34), 3) := by decide +kernel
theorem d_c_fst1_45 : decode prog_29_method_5_code 45 = .ok (.iload_n 2, 1) := by decide +kernel
theorem d_c_fst1_46 : decode prog_29_method_5_code 46 = .ok (.aload_n 0, 1) := by decide +kernel
theorem d_c_fst1_47 : decode prog_29_method_5_code 47 = .ok (.getfield 7, 3) := by decide +kernel
theorem d_c_fst1_50 : decode prog_29_method_5_code 50 = .ok (.arraylength, 1) := by decide +kernel
theorem d_c_fst1_51 : decode prog_29_method_5_code 51 = .ok (.if_icmp .ge 17, 3) := by decide +kernel
theorem d_c_fst1_54 : decode prog_29_method_5_code 54 = .ok (.aload_n 0, 1) := by decide +kernel
theorem d_c_fst1_55 : decode prog_29_method_5_code 55 = .ok (.getfield 7, 3) := by decide +kernel
theorem d_c_fst1_58 : decode prog_29_method_5_code 58 = .ok (.iload_n 2, 1) := by decide +kernel
theorem d_c_fst1_59 : decode prog_29_method_5_code 59 = .ok (.iaload, 1) := by decide +kernel
theorem d_c_fst1_60 : decode prog_29_method_5_code 60 = .ok (.iload_n 1, 1) := by decide +kernel
theorem d_c_fst1_61 : decode prog_29_method_5_code 61 = .ok (.if_icmp .ne 7, 3) := by decide +kernel
theorem d_c_fst1_64 : decode prog_29_method_5_code 64 = .ok (.iload_n 2, 1) := by decide +kernel
theorem d_c_fst1_65 : decode prog_29_method_5_code 65 = .ok (.goto 4, 3) := by decide +kernel
theorem d_c_fst1_68 : decode prog_29_method_5_code 68 = .ok (.iconst (-1), 1) := by decide +kernel
theorem d_c_fst1_69 : decode prog_29_method_5_code 69 = .ok (.ireturn, 1) := by decide +kernel
set_option maxRecDepth 65536 in
set_option maxHeartbeats 40000000 in
theorem c_fst1 (l : Launch) (Z : State) (a0 : Array Value) (hw : ∀ d ∈ tables_1, d.before a0 Z = true) {B : Nat} (a b c : Addr) (s0 q : Int32)  :
    Con l Z FM B (⟨"com/example/traverso/traverso/graph/Labels", "first", "(I)I"⟩ : MethodName) prog_29_method_5_code 5 (some .int) ({ frames := 0, cells := 0, slots := 0, locals := 0 } : Room) [] #[.ref a, .int q] [(a, (.object "com/example/traverso/traverso/graph/Labels"), [.ref b, .ref c]), (b, (.array .int), [.int s0])] (fun v os => v = some (.int (rf1 s0 q)) ∧ os = [(a, (.object "com/example/traverso/traverso/graph/Labels"), [.ref b, .ref c]), (b, (.array .int), [.int s0])]) := by
  refine Con.of (plainFor_of_name (by first | (simp [plainName, overriddenIn]; done) | decide +kernel)) (ls := #[.val (.ref a), .val (.int q), .unset, .unset, .unset]) (fun m => by first | (simp [entryFrame, mkF, argsToLocals, Value.category]; done) | rfl) ?_
  intro p_ e_ h_ s_ m_ bl_ me_ c_ T0 W0
  refine g_iconst (pc := 0) (0 : Int32) (by decide) W0 d_c_fst1_0 ?_
  refine g_istore_n (pc := 1) (ls' := #[.val (.ref a), .val (.int q), .val (.int (0 : Int32)), .unset, .unset]) W0 d_c_fst1_1 rfl ?_
  refine g_aload_n (pc := 2) W0 d_c_fst1_2 rfl rfl ?_
  refine g_getfield (pc := 3) (i := 0) (j := 0) (host := "") W0 (Or.inl (hw _ (List.mem_of_getElem? (i := 16) rfl))) rfl rfl rfl d_c_fst1_3 (fun T1 W2 => ?_)
  refine g_arraylength (pc := 6) (i := 1) (1 : Int32) W2 rfl rfl d_c_fst1_6 ?_
  refine g_istore_n (pc := 7) (ls' := #[.val (.ref a), .val (.int q), .val (.int (0 : Int32)), .val (.int (1 : Int32)), .unset]) W2 d_c_fst1_7 rfl ?_
  refine g_iload_n (pc := 8) W2 d_c_fst1_8 rfl ?_
  refine g_iload_n (pc := 9) W2 d_c_fst1_9 rfl ?_
  refine g_icmpN (pc := 10) W2 d_c_fst1_10 (by decide) ?_
  refine g_iload_n (pc := 13) W2 d_c_fst1_13 rfl ?_
  refine g_iload_n (pc := 14) W2 d_c_fst1_14 rfl ?_
  refine g_iadd (pc := 15) W2 d_c_fst1_15 ?_
  show Go p_ e_ bl_ _ (T1.setTop (mkF m_ 16 #[.val (.ref a), .val (.int q), .val (.int (0 : Int32)), .val (.int (1 : Int32)), .unset] [.int (1 : Int32)]))
  refine g_iconst (pc := 16) (1 : Int32) (by decide) W2 d_c_fst1_16 ?_
  refine g_iushr (pc := 17) W2 d_c_fst1_17 ?_
  show Go p_ e_ bl_ _ (T1.setTop (mkF m_ 18 #[.val (.ref a), .val (.int q), .val (.int (0 : Int32)), .val (.int (1 : Int32)), .unset] [.int (0 : Int32)]))
  refine g_istore (pc := 18) (ls' := #[.val (.ref a), .val (.int q), .val (.int (0 : Int32)), .val (.int (1 : Int32)), .val (.int (0 : Int32))]) W2 d_c_fst1_18 rfl ?_
  refine g_aload_n (pc := 20) W2 d_c_fst1_20 rfl rfl ?_
  refine g_getfield (pc := 21) (i := 0) (j := 0) (host := "") W2 (Or.inl (hw _ (List.mem_of_getElem? (i := 16) rfl))) rfl rfl rfl d_c_fst1_21 (fun T3 W4 => ?_)
  refine g_iload (pc := 24) W4 d_c_fst1_24 rfl ?_
  refine g_iaload (pc := 26) (i := 1) (v := .int s0) W4 rfl (by decide) rfl d_c_fst1_26 ?_
  refine g_iload_n (pc := 27) W4 d_c_fst1_27 rfl ?_
  refine g_icmp_ge 39 (pc := 28) W4 d_c_fst1_28 (by decide) (by decide) (fun c5 => ?_) (fun c5 => ?_)
  · refine g_iload (pc := 39) W4 d_c_fst1_39 rfl ?_
    refine g_istore_n (pc := 41) (ls' := #[.val (.ref a), .val (.int q), .val (.int (0 : Int32)), .val (.int (0 : Int32)), .val (.int (0 : Int32))]) W4 d_c_fst1_41 rfl ?_
    refine g_goto 8 (pc := 42) W4 d_c_fst1_42 (by decide) (by decide) ?_
    refine g_iload_n (pc := 8) W4 d_c_fst1_8 rfl ?_
    refine g_iload_n (pc := 9) W4 d_c_fst1_9 rfl ?_
    refine g_icmpY 45 (pc := 10) W4 d_c_fst1_10 (by decide) (by decide) (by decide) ?_
    refine g_iload_n (pc := 45) W4 d_c_fst1_45 rfl ?_
    refine g_aload_n (pc := 46) W4 d_c_fst1_46 rfl rfl ?_
    refine g_getfield (pc := 47) (i := 0) (j := 0) (host := "") W4 (Or.inl (hw _ (List.mem_of_getElem? (i := 16) rfl))) rfl rfl rfl d_c_fst1_47 (fun T6 W7 => ?_)
    refine g_arraylength (pc := 50) (i := 1) (1 : Int32) W7 rfl rfl d_c_fst1_50 ?_
    refine g_icmpN (pc := 51) W7 d_c_fst1_51 (by decide) ?_
    refine g_aload_n (pc := 54) W7 d_c_fst1_54 rfl rfl ?_
    refine g_getfield (pc := 55) (i := 0) (j := 0) (host := "") W7 (Or.inl (hw _ (List.mem_of_getElem? (i := 16) rfl))) rfl rfl rfl d_c_fst1_55 (fun T8 W9 => ?_)
    refine g_iload_n (pc := 58) W9 d_c_fst1_58 rfl ?_
    refine g_iaload (pc := 59) (i := 1) (v := .int s0) W9 rfl (by decide) rfl d_c_fst1_59 ?_
    refine g_iload_n (pc := 60) W9 d_c_fst1_60 rfl ?_
    refine g_icmp_ne 68 (pc := 61) W9 d_c_fst1_61 (by decide) (by decide) (fun c10 => ?_) (fun c10 => ?_)
    · refine g_iconst (pc := 68) (-1 : Int32) (by decide) W9 d_c_fst1_68 ?_
      exact g_ireturn (pc := 69) rfl W9 d_c_fst1_69 (by decide) (by decide) ⟨by simp only [Int32.lt_iff_toInt_lt, ← Int32.toInt_inj] at c5 c10; have e : rf1 s0 q = (-1 : Int32) := (by simp only [rf1, ← Int32.toInt_inj]; (repeat' split) <;> first | rfl | (exfalso; omega)); rw [e], rfl⟩
    · refine g_iload_n (pc := 64) W9 d_c_fst1_64 rfl ?_
      refine g_goto 69 (pc := 65) W9 d_c_fst1_65 (by decide) (by decide) ?_
      exact g_ireturn (pc := 69) rfl W9 d_c_fst1_69 (by decide) (by decide) ⟨by simp only [Int32.lt_iff_toInt_lt, ← Int32.toInt_inj] at c5 c10; have e : rf1 s0 q = (0 : Int32) := (by simp only [rf1, ← Int32.toInt_inj]; (repeat' split) <;> first | rfl | (exfalso; omega)); rw [e], rfl⟩
  · refine g_iload (pc := 31) W4 d_c_fst1_31 rfl ?_
    refine g_iconst (pc := 33) (1 : Int32) (by decide) W4 d_c_fst1_33 ?_
    refine g_iadd (pc := 34) W4 d_c_fst1_34 ?_
    show Go p_ e_ bl_ _ (T3.setTop (mkF m_ 35 #[.val (.ref a), .val (.int q), .val (.int (0 : Int32)), .val (.int (1 : Int32)), .val (.int (0 : Int32))] [.int (1 : Int32)]))
    refine g_istore_n (pc := 35) (ls' := #[.val (.ref a), .val (.int q), .val (.int (1 : Int32)), .val (.int (1 : Int32)), .val (.int (0 : Int32))]) W4 d_c_fst1_35 rfl ?_
    refine g_goto 42 (pc := 36) W4 d_c_fst1_36 (by decide) (by decide) ?_
    refine g_goto 8 (pc := 42) W4 d_c_fst1_42 (by decide) (by decide) ?_
    refine g_iload_n (pc := 8) W4 d_c_fst1_8 rfl ?_
    refine g_iload_n (pc := 9) W4 d_c_fst1_9 rfl ?_
    refine g_icmpY 45 (pc := 10) W4 d_c_fst1_10 (by decide) (by decide) (by decide) ?_
    refine g_iload_n (pc := 45) W4 d_c_fst1_45 rfl ?_
    refine g_aload_n (pc := 46) W4 d_c_fst1_46 rfl rfl ?_
    refine g_getfield (pc := 47) (i := 0) (j := 0) (host := "") W4 (Or.inl (hw _ (List.mem_of_getElem? (i := 16) rfl))) rfl rfl rfl d_c_fst1_47 (fun T11 W12 => ?_)
    refine g_arraylength (pc := 50) (i := 1) (1 : Int32) W12 rfl rfl d_c_fst1_50 ?_
    refine g_icmpY 68 (pc := 51) W12 d_c_fst1_51 (by decide) (by decide) (by decide) ?_
    refine g_iconst (pc := 68) (-1 : Int32) (by decide) W12 d_c_fst1_68 ?_
    exact g_ireturn (pc := 69) rfl W12 d_c_fst1_69 (by decide) (by decide) ⟨by simp only [Int32.lt_iff_toInt_lt, ← Int32.toInt_inj] at c5; have e : rf1 s0 q = (-1 : Int32) := (by simp only [rf1, ← Int32.toInt_inj]; (repeat' split) <;> first | rfl | (exfalso; omega)); rw [e], rfl⟩
theorem d_c_ref2_0 : decode method_4_code 0 = .ok (.iload_n 1, 1) := by decide +kernel
theorem d_c_ref2_1 : decode method_4_code 1 = .ok (.ifCond .le 12, 3) := by decide +kernel
theorem d_c_ref2_4 : decode method_4_code 4 = .ok (.aload_n 0, 1) := by decide +kernel
theorem d_c_ref2_5 : decode method_4_code 5 = .ok (.iconst 0, 1) := by decide +kernel
theorem d_c_ref2_6 : decode method_4_code 6 = .ok (.iaload, 1) := by decide +kernel
theorem d_c_ref2_7 : decode method_4_code 7 = .ok (.iload_n 2, 1) := by decide +kernel
theorem d_c_ref2_8 : decode method_4_code 8 = .ok (.if_icmp .ne 5, 3) := by decide +kernel
theorem d_c_ref2_11 : decode method_4_code 11 = .ok (.iconst 0, 1) := by decide +kernel
theorem d_c_ref2_12 : decode method_4_code 12 = .ok (.ireturn, 1) := by decide +kernel
theorem d_c_ref2_13 : decode method_4_code 13 = .ok (.iload_n 1, 1) := by decide +kernel
theorem d_c_ref2_14 : decode method_4_code 14 = .ok (.iconst 1, 1) := by decide +kernel
theorem d_c_ref2_15 : decode method_4_code 15 = .ok (.if_icmp .le 12, 3) := by decide +kernel
theorem d_c_ref2_18 : decode method_4_code 18 = .ok (.aload_n 0, 1) := by decide +kernel
theorem d_c_ref2_19 : decode method_4_code 19 = .ok (.iconst 1, 1) := by decide +kernel
theorem d_c_ref2_20 : decode method_4_code 20 = .ok (.iaload, 1) := by decide +kernel
theorem d_c_ref2_21 : decode method_4_code 21 = .ok (.iload_n 2, 1) := by decide +kernel
theorem d_c_ref2_22 : decode method_4_code 22 = .ok (.if_icmp .ne 5, 3) := by decide +kernel
theorem d_c_ref2_25 : decode method_4_code 25 = .ok (.iconst 1, 1) := by decide +kernel
theorem d_c_ref2_26 : decode method_4_code 26 = .ok (.ireturn, 1) := by decide +kernel
theorem d_c_ref2_27 : decode method_4_code 27 = .ok (.iload_n 1, 1) := by decide +kernel
theorem d_c_ref2_28 : decode method_4_code 28 = .ok (.iconst 2, 1) := by decide +kernel
theorem d_c_ref2_29 : decode method_4_code 29 = .ok (.if_icmp .le 12, 3) := by decide +kernel
theorem d_c_ref2_41 : decode method_4_code 41 = .ok (.iload_n 1, 1) := by decide +kernel
theorem d_c_ref2_42 : decode method_4_code 42 = .ok (.iconst 3, 1) := by decide +kernel
theorem d_c_ref2_43 : decode method_4_code 43 = .ok (.if_icmp .le 12, 3) := by decide +kernel
theorem d_c_ref2_55 : decode method_4_code 55 = .ok (.iload_n 1, 1) := by decide +kernel
theorem d_c_ref2_56 : decode method_4_code 56 = .ok (.iconst 4, 1) := by decide +kernel
theorem d_c_ref2_57 : decode method_4_code 57 = .ok (.if_icmp .le 12, 3) := by decide +kernel
theorem d_c_ref2_69 : decode method_4_code 69 = .ok (.iload_n 1, 1) := by decide +kernel
theorem d_c_ref2_70 : decode method_4_code 70 = .ok (.iconst 5, 1) := by decide +kernel
theorem d_c_ref2_71 : decode method_4_code 71 = .ok (.if_icmp .le 12, 3) := by decide +kernel
theorem d_c_ref2_83 : decode method_4_code 83 = .ok (.iconst (-1), 1) := by decide +kernel
theorem d_c_ref2_84 : decode method_4_code 84 = .ok (.ireturn, 1) := by decide +kernel
set_option maxRecDepth 65536 in
set_option maxHeartbeats 40000000 in
theorem c_ref2 (l : Launch) (Z : State) (a0 : Array Value) (hw : ∀ d ∈ tables_1, d.before a0 Z = true) {B : Nat} (b : Addr) (s0 s1 q : Int32) :
    Con l Z FM B (⟨"com/example/traverso/traverso/graph/LabelsFirstPinLaw", "reference", "([III)I"⟩ : MethodName) method_4_code 3 (some .int) ({ frames := 0, cells := 0, slots := 0, locals := 0 } : Room) [] #[.ref b, .int (2 : Int32), .int q] [(b, (.array .int), [.int s0, .int s1])] (fun v os => v = some (.int (rf2 s0 s1 q)) ∧ os = [(b, (.array .int), [.int s0, .int s1])]) := by
  refine Con.of (plainFor_of_name (by first | (simp [plainName, overriddenIn]; done) | decide +kernel)) (ls := #[.val (.ref b), .val (.int (2 : Int32)), .val (.int q)]) (fun m => by first | (simp [entryFrame, mkF, argsToLocals, Value.category]; done) | rfl) ?_
  intro p_ e_ h_ s_ m_ bl_ me_ c_ T0 W0
  refine g_iload_n (pc := 0) W0 d_c_ref2_0 rfl ?_
  refine g_ifN (pc := 1) W0 d_c_ref2_1 (by decide) ?_
  refine g_aload_n (pc := 4) W0 d_c_ref2_4 rfl rfl ?_
  refine g_iconst (pc := 5) (0 : Int32) (by decide) W0 d_c_ref2_5 ?_
  refine g_iaload (pc := 6) (i := 0) (v := .int s0) W0 rfl (by decide) rfl d_c_ref2_6 ?_
  refine g_iload_n (pc := 7) W0 d_c_ref2_7 rfl ?_
  refine g_icmp_ne 13 (pc := 8) W0 d_c_ref2_8 (by decide) (by decide) (fun c1 => ?_) (fun c1 => ?_)
  · refine g_iload_n (pc := 13) W0 d_c_ref2_13 rfl ?_
    refine g_iconst (pc := 14) (1 : Int32) (by decide) W0 d_c_ref2_14 ?_
    refine g_icmpN (pc := 15) W0 d_c_ref2_15 (by decide) ?_
    refine g_aload_n (pc := 18) W0 d_c_ref2_18 rfl rfl ?_
    refine g_iconst (pc := 19) (1 : Int32) (by decide) W0 d_c_ref2_19 ?_
    refine g_iaload (pc := 20) (i := 0) (v := .int s1) W0 rfl (by decide) rfl d_c_ref2_20 ?_
    refine g_iload_n (pc := 21) W0 d_c_ref2_21 rfl ?_
    refine g_icmp_ne 27 (pc := 22) W0 d_c_ref2_22 (by decide) (by decide) (fun c2 => ?_) (fun c2 => ?_)
    · refine g_iload_n (pc := 27) W0 d_c_ref2_27 rfl ?_
      refine g_iconst (pc := 28) (2 : Int32) (by decide) W0 d_c_ref2_28 ?_
      refine g_icmpY 41 (pc := 29) W0 d_c_ref2_29 (by decide) (by decide) (by decide) ?_
      refine g_iload_n (pc := 41) W0 d_c_ref2_41 rfl ?_
      refine g_iconst (pc := 42) (3 : Int32) (by decide) W0 d_c_ref2_42 ?_
      refine g_icmpY 55 (pc := 43) W0 d_c_ref2_43 (by decide) (by decide) (by decide) ?_
      refine g_iload_n (pc := 55) W0 d_c_ref2_55 rfl ?_
      refine g_iconst (pc := 56) (4 : Int32) (by decide) W0 d_c_ref2_56 ?_
      refine g_icmpY 69 (pc := 57) W0 d_c_ref2_57 (by decide) (by decide) (by decide) ?_
      refine g_iload_n (pc := 69) W0 d_c_ref2_69 rfl ?_
      refine g_iconst (pc := 70) (5 : Int32) (by decide) W0 d_c_ref2_70 ?_
      refine g_icmpY 83 (pc := 71) W0 d_c_ref2_71 (by decide) (by decide) (by decide) ?_
      refine g_iconst (pc := 83) (-1 : Int32) (by decide) W0 d_c_ref2_83 ?_
      exact g_ireturn (pc := 84) rfl W0 d_c_ref2_84 (by decide) (by decide) ⟨by simp only [rf2, if_neg c1, if_neg c2], rfl⟩
    · refine g_iconst (pc := 25) (1 : Int32) (by decide) W0 d_c_ref2_25 ?_
      exact g_ireturn (pc := 26) rfl W0 d_c_ref2_26 (by decide) (by decide) ⟨by simp only [rf2, if_neg c1, if_pos c2], rfl⟩
  · refine g_iconst (pc := 11) (0 : Int32) (by decide) W0 d_c_ref2_11 ?_
    exact g_ireturn (pc := 12) rfl W0 d_c_ref2_12 (by decide) (by decide) ⟨by simp only [rf2, if_pos c1], rfl⟩
theorem d_c_fst2_0 : decode prog_29_method_5_code 0 = .ok (.iconst 0, 1) := by decide +kernel
theorem d_c_fst2_1 : decode prog_29_method_5_code 1 = .ok (.istore_n 2, 1) := by decide +kernel
theorem d_c_fst2_2 : decode prog_29_method_5_code 2 = .ok (.aload_n 0, 1) := by decide +kernel
theorem d_c_fst2_3 : decode prog_29_method_5_code 3 = .ok (.getfield 7, 3) := by decide +kernel
theorem d_c_fst2_6 : decode prog_29_method_5_code 6 = .ok (.arraylength, 1) := by decide +kernel
theorem d_c_fst2_7 : decode prog_29_method_5_code 7 = .ok (.istore_n 3, 1) := by decide +kernel
theorem d_c_fst2_8 : decode prog_29_method_5_code 8 = .ok (.iload_n 2, 1) := by decide +kernel
theorem d_c_fst2_9 : decode prog_29_method_5_code 9 = .ok (.iload_n 3, 1) := by decide +kernel
theorem d_c_fst2_10 : decode prog_29_method_5_code 10 = .ok (.if_icmp .ge 35, 3) := by decide +kernel
theorem d_c_fst2_13 : decode prog_29_method_5_code 13 = .ok (.iload_n 2, 1) := by decide +kernel
theorem d_c_fst2_14 : decode prog_29_method_5_code 14 = .ok (.iload_n 3, 1) := by decide +kernel
theorem d_c_fst2_15 : decode prog_29_method_5_code 15 = .ok (.iadd, 1) := by decide +kernel
theorem d_c_fst2_16 : decode prog_29_method_5_code 16 = .ok (.iconst 1, 1) := by decide +kernel
theorem d_c_fst2_17 : decode prog_29_method_5_code 17 = .ok (.iushr, 1) := by decide +kernel
theorem d_c_fst2_18 : decode prog_29_method_5_code 18 = .ok (.istore 4, 2) := by decide +kernel
theorem d_c_fst2_20 : decode prog_29_method_5_code 20 = .ok (.aload_n 0, 1) := by decide +kernel
theorem d_c_fst2_21 : decode prog_29_method_5_code 21 = .ok (.getfield 7, 3) := by decide +kernel
theorem d_c_fst2_24 : decode prog_29_method_5_code 24 = .ok (.iload 4, 2) := by decide +kernel
theorem d_c_fst2_26 : decode prog_29_method_5_code 26 = .ok (.iaload, 1) := by decide +kernel
theorem d_c_fst2_27 : decode prog_29_method_5_code 27 = .ok (.iload_n 1, 1) := by decide +kernel
theorem d_c_fst2_28 : decode prog_29_method_5_code 28 = .ok (.if_icmp .ge 11, 3) := by decide +kernel
theorem d_c_fst2_31 : decode prog_29_method_5_code 31 = .ok (.iload 4, 2) := by decide +kernel
theorem d_c_fst2_33 : decode prog_29_method_5_code 33 = .ok (.iconst 1, 1) := by decide +kernel
theorem d_c_fst2_34 : decode prog_29_method_5_code 34 = .ok (.iadd, 1) := by decide +kernel
theorem d_c_fst2_35 : decode prog_29_method_5_code 35 = .ok (.istore_n 2, 1) := by decide +kernel
theorem d_c_fst2_36 : decode prog_29_method_5_code 36 = .ok (.goto 6, 3) := by decide +kernel
theorem d_c_fst2_39 : decode prog_29_method_5_code 39 = .ok (.iload 4, 2) := by decide +kernel
theorem d_c_fst2_41 : decode prog_29_method_5_code 41 = .ok (.istore_n 3, 1) := by decide +kernel
theorem d_c_fst2_42 : decode prog_29_method_5_code 42 = .ok (.goto (-34), 3) := by decide +kernel
theorem d_c_fst2_45 : decode prog_29_method_5_code 45 = .ok (.iload_n 2, 1) := by decide +kernel
theorem d_c_fst2_46 : decode prog_29_method_5_code 46 = .ok (.aload_n 0, 1) := by decide +kernel
theorem d_c_fst2_47 : decode prog_29_method_5_code 47 = .ok (.getfield 7, 3) := by decide +kernel
theorem d_c_fst2_50 : decode prog_29_method_5_code 50 = .ok (.arraylength, 1) := by decide +kernel
theorem d_c_fst2_51 : decode prog_29_method_5_code 51 = .ok (.if_icmp .ge 17, 3) := by decide +kernel
theorem d_c_fst2_54 : decode prog_29_method_5_code 54 = .ok (.aload_n 0, 1) := by decide +kernel
theorem d_c_fst2_55 : decode prog_29_method_5_code 55 = .ok (.getfield 7, 3) := by decide +kernel
theorem d_c_fst2_58 : decode prog_29_method_5_code 58 = .ok (.iload_n 2, 1) := by decide +kernel
theorem d_c_fst2_59 : decode prog_29_method_5_code 59 = .ok (.iaload, 1) := by decide +kernel
theorem d_c_fst2_60 : decode prog_29_method_5_code 60 = .ok (.iload_n 1, 1) := by decide +kernel
theorem d_c_fst2_61 : decode prog_29_method_5_code 61 = .ok (.if_icmp .ne 7, 3) := by decide +kernel
theorem d_c_fst2_64 : decode prog_29_method_5_code 64 = .ok (.iload_n 2, 1) := by decide +kernel
theorem d_c_fst2_65 : decode prog_29_method_5_code 65 = .ok (.goto 4, 3) := by decide +kernel
theorem d_c_fst2_68 : decode prog_29_method_5_code 68 = .ok (.iconst (-1), 1) := by decide +kernel
theorem d_c_fst2_69 : decode prog_29_method_5_code 69 = .ok (.ireturn, 1) := by decide +kernel
set_option maxRecDepth 65536 in
set_option maxHeartbeats 40000000 in
theorem c_fst2 (l : Launch) (Z : State) (a0 : Array Value) (hw : ∀ d ∈ tables_1, d.before a0 Z = true) {B : Nat} (a b c : Addr) (s0 s1 q : Int32) (h0 : s0.toInt ≤ s1.toInt) :
    Con l Z FM B (⟨"com/example/traverso/traverso/graph/Labels", "first", "(I)I"⟩ : MethodName) prog_29_method_5_code 5 (some .int) ({ frames := 0, cells := 0, slots := 0, locals := 0 } : Room) [] #[.ref a, .int q] [(a, (.object "com/example/traverso/traverso/graph/Labels"), [.ref b, .ref c]), (b, (.array .int), [.int s0, .int s1])] (fun v os => v = some (.int (rf2 s0 s1 q)) ∧ os = [(a, (.object "com/example/traverso/traverso/graph/Labels"), [.ref b, .ref c]), (b, (.array .int), [.int s0, .int s1])]) := by
  refine Con.of (plainFor_of_name (by first | (simp [plainName, overriddenIn]; done) | decide +kernel)) (ls := #[.val (.ref a), .val (.int q), .unset, .unset, .unset]) (fun m => by first | (simp [entryFrame, mkF, argsToLocals, Value.category]; done) | rfl) ?_
  intro p_ e_ h_ s_ m_ bl_ me_ c_ T0 W0
  refine g_iconst (pc := 0) (0 : Int32) (by decide) W0 d_c_fst2_0 ?_
  refine g_istore_n (pc := 1) (ls' := #[.val (.ref a), .val (.int q), .val (.int (0 : Int32)), .unset, .unset]) W0 d_c_fst2_1 rfl ?_
  refine g_aload_n (pc := 2) W0 d_c_fst2_2 rfl rfl ?_
  refine g_getfield (pc := 3) (i := 0) (j := 0) (host := "") W0 (Or.inl (hw _ (List.mem_of_getElem? (i := 16) rfl))) rfl rfl rfl d_c_fst2_3 (fun T1 W2 => ?_)
  refine g_arraylength (pc := 6) (i := 1) (2 : Int32) W2 rfl rfl d_c_fst2_6 ?_
  refine g_istore_n (pc := 7) (ls' := #[.val (.ref a), .val (.int q), .val (.int (0 : Int32)), .val (.int (2 : Int32)), .unset]) W2 d_c_fst2_7 rfl ?_
  refine g_iload_n (pc := 8) W2 d_c_fst2_8 rfl ?_
  refine g_iload_n (pc := 9) W2 d_c_fst2_9 rfl ?_
  refine g_icmpN (pc := 10) W2 d_c_fst2_10 (by decide) ?_
  refine g_iload_n (pc := 13) W2 d_c_fst2_13 rfl ?_
  refine g_iload_n (pc := 14) W2 d_c_fst2_14 rfl ?_
  refine g_iadd (pc := 15) W2 d_c_fst2_15 ?_
  show Go p_ e_ bl_ _ (T1.setTop (mkF m_ 16 #[.val (.ref a), .val (.int q), .val (.int (0 : Int32)), .val (.int (2 : Int32)), .unset] [.int (2 : Int32)]))
  refine g_iconst (pc := 16) (1 : Int32) (by decide) W2 d_c_fst2_16 ?_
  refine g_iushr (pc := 17) W2 d_c_fst2_17 ?_
  show Go p_ e_ bl_ _ (T1.setTop (mkF m_ 18 #[.val (.ref a), .val (.int q), .val (.int (0 : Int32)), .val (.int (2 : Int32)), .unset] [.int (1 : Int32)]))
  refine g_istore (pc := 18) (ls' := #[.val (.ref a), .val (.int q), .val (.int (0 : Int32)), .val (.int (2 : Int32)), .val (.int (1 : Int32))]) W2 d_c_fst2_18 rfl ?_
  refine g_aload_n (pc := 20) W2 d_c_fst2_20 rfl rfl ?_
  refine g_getfield (pc := 21) (i := 0) (j := 0) (host := "") W2 (Or.inl (hw _ (List.mem_of_getElem? (i := 16) rfl))) rfl rfl rfl d_c_fst2_21 (fun T3 W4 => ?_)
  refine g_iload (pc := 24) W4 d_c_fst2_24 rfl ?_
  refine g_iaload (pc := 26) (i := 1) (v := .int s1) W4 rfl (by decide) rfl d_c_fst2_26 ?_
  refine g_iload_n (pc := 27) W4 d_c_fst2_27 rfl ?_
  refine g_icmp_ge 39 (pc := 28) W4 d_c_fst2_28 (by decide) (by decide) (fun c5 => ?_) (fun c5 => ?_)
  · refine g_iload (pc := 39) W4 d_c_fst2_39 rfl ?_
    refine g_istore_n (pc := 41) (ls' := #[.val (.ref a), .val (.int q), .val (.int (0 : Int32)), .val (.int (1 : Int32)), .val (.int (1 : Int32))]) W4 d_c_fst2_41 rfl ?_
    refine g_goto 8 (pc := 42) W4 d_c_fst2_42 (by decide) (by decide) ?_
    refine g_iload_n (pc := 8) W4 d_c_fst2_8 rfl ?_
    refine g_iload_n (pc := 9) W4 d_c_fst2_9 rfl ?_
    refine g_icmpN (pc := 10) W4 d_c_fst2_10 (by decide) ?_
    refine g_iload_n (pc := 13) W4 d_c_fst2_13 rfl ?_
    refine g_iload_n (pc := 14) W4 d_c_fst2_14 rfl ?_
    refine g_iadd (pc := 15) W4 d_c_fst2_15 ?_
    show Go p_ e_ bl_ _ (T3.setTop (mkF m_ 16 #[.val (.ref a), .val (.int q), .val (.int (0 : Int32)), .val (.int (1 : Int32)), .val (.int (1 : Int32))] [.int (1 : Int32)]))
    refine g_iconst (pc := 16) (1 : Int32) (by decide) W4 d_c_fst2_16 ?_
    refine g_iushr (pc := 17) W4 d_c_fst2_17 ?_
    show Go p_ e_ bl_ _ (T3.setTop (mkF m_ 18 #[.val (.ref a), .val (.int q), .val (.int (0 : Int32)), .val (.int (1 : Int32)), .val (.int (1 : Int32))] [.int (0 : Int32)]))
    refine g_istore (pc := 18) (ls' := #[.val (.ref a), .val (.int q), .val (.int (0 : Int32)), .val (.int (1 : Int32)), .val (.int (0 : Int32))]) W4 d_c_fst2_18 rfl ?_
    refine g_aload_n (pc := 20) W4 d_c_fst2_20 rfl rfl ?_
    refine g_getfield (pc := 21) (i := 0) (j := 0) (host := "") W4 (Or.inl (hw _ (List.mem_of_getElem? (i := 16) rfl))) rfl rfl rfl d_c_fst2_21 (fun T6 W7 => ?_)
    refine g_iload (pc := 24) W7 d_c_fst2_24 rfl ?_
    refine g_iaload (pc := 26) (i := 1) (v := .int s0) W7 rfl (by decide) rfl d_c_fst2_26 ?_
    refine g_iload_n (pc := 27) W7 d_c_fst2_27 rfl ?_
    refine g_icmp_ge 39 (pc := 28) W7 d_c_fst2_28 (by decide) (by decide) (fun c8 => ?_) (fun c8 => ?_)
    · refine g_iload (pc := 39) W7 d_c_fst2_39 rfl ?_
      refine g_istore_n (pc := 41) (ls' := #[.val (.ref a), .val (.int q), .val (.int (0 : Int32)), .val (.int (0 : Int32)), .val (.int (0 : Int32))]) W7 d_c_fst2_41 rfl ?_
      refine g_goto 8 (pc := 42) W7 d_c_fst2_42 (by decide) (by decide) ?_
      refine g_iload_n (pc := 8) W7 d_c_fst2_8 rfl ?_
      refine g_iload_n (pc := 9) W7 d_c_fst2_9 rfl ?_
      refine g_icmpY 45 (pc := 10) W7 d_c_fst2_10 (by decide) (by decide) (by decide) ?_
      refine g_iload_n (pc := 45) W7 d_c_fst2_45 rfl ?_
      refine g_aload_n (pc := 46) W7 d_c_fst2_46 rfl rfl ?_
      refine g_getfield (pc := 47) (i := 0) (j := 0) (host := "") W7 (Or.inl (hw _ (List.mem_of_getElem? (i := 16) rfl))) rfl rfl rfl d_c_fst2_47 (fun T9 W10 => ?_)
      refine g_arraylength (pc := 50) (i := 1) (2 : Int32) W10 rfl rfl d_c_fst2_50 ?_
      refine g_icmpN (pc := 51) W10 d_c_fst2_51 (by decide) ?_
      refine g_aload_n (pc := 54) W10 d_c_fst2_54 rfl rfl ?_
      refine g_getfield (pc := 55) (i := 0) (j := 0) (host := "") W10 (Or.inl (hw _ (List.mem_of_getElem? (i := 16) rfl))) rfl rfl rfl d_c_fst2_55 (fun T11 W12 => ?_)
      refine g_iload_n (pc := 58) W12 d_c_fst2_58 rfl ?_
      refine g_iaload (pc := 59) (i := 1) (v := .int s0) W12 rfl (by decide) rfl d_c_fst2_59 ?_
      refine g_iload_n (pc := 60) W12 d_c_fst2_60 rfl ?_
      refine g_icmp_ne 68 (pc := 61) W12 d_c_fst2_61 (by decide) (by decide) (fun c13 => ?_) (fun c13 => ?_)
      · refine g_iconst (pc := 68) (-1 : Int32) (by decide) W12 d_c_fst2_68 ?_
        exact g_ireturn (pc := 69) rfl W12 d_c_fst2_69 (by decide) (by decide) ⟨by simp only [Int32.lt_iff_toInt_lt, ← Int32.toInt_inj] at c5 c8 c13; have e : rf2 s0 s1 q = (-1 : Int32) := (by simp only [rf2, ← Int32.toInt_inj]; (repeat' split) <;> first | rfl | (exfalso; omega)); rw [e], rfl⟩
      · refine g_iload_n (pc := 64) W12 d_c_fst2_64 rfl ?_
        refine g_goto 69 (pc := 65) W12 d_c_fst2_65 (by decide) (by decide) ?_
        exact g_ireturn (pc := 69) rfl W12 d_c_fst2_69 (by decide) (by decide) ⟨by simp only [Int32.lt_iff_toInt_lt, ← Int32.toInt_inj] at c5 c8 c13; have e : rf2 s0 s1 q = (0 : Int32) := (by simp only [rf2, ← Int32.toInt_inj]; (repeat' split) <;> first | rfl | (exfalso; omega)); rw [e], rfl⟩
    · refine g_iload (pc := 31) W7 d_c_fst2_31 rfl ?_
      refine g_iconst (pc := 33) (1 : Int32) (by decide) W7 d_c_fst2_33 ?_
      refine g_iadd (pc := 34) W7 d_c_fst2_34 ?_
      show Go p_ e_ bl_ _ (T6.setTop (mkF m_ 35 #[.val (.ref a), .val (.int q), .val (.int (0 : Int32)), .val (.int (1 : Int32)), .val (.int (0 : Int32))] [.int (1 : Int32)]))
      refine g_istore_n (pc := 35) (ls' := #[.val (.ref a), .val (.int q), .val (.int (1 : Int32)), .val (.int (1 : Int32)), .val (.int (0 : Int32))]) W7 d_c_fst2_35 rfl ?_
      refine g_goto 42 (pc := 36) W7 d_c_fst2_36 (by decide) (by decide) ?_
      refine g_goto 8 (pc := 42) W7 d_c_fst2_42 (by decide) (by decide) ?_
      refine g_iload_n (pc := 8) W7 d_c_fst2_8 rfl ?_
      refine g_iload_n (pc := 9) W7 d_c_fst2_9 rfl ?_
      refine g_icmpY 45 (pc := 10) W7 d_c_fst2_10 (by decide) (by decide) (by decide) ?_
      refine g_iload_n (pc := 45) W7 d_c_fst2_45 rfl ?_
      refine g_aload_n (pc := 46) W7 d_c_fst2_46 rfl rfl ?_
      refine g_getfield (pc := 47) (i := 0) (j := 0) (host := "") W7 (Or.inl (hw _ (List.mem_of_getElem? (i := 16) rfl))) rfl rfl rfl d_c_fst2_47 (fun T14 W15 => ?_)
      refine g_arraylength (pc := 50) (i := 1) (2 : Int32) W15 rfl rfl d_c_fst2_50 ?_
      refine g_icmpN (pc := 51) W15 d_c_fst2_51 (by decide) ?_
      refine g_aload_n (pc := 54) W15 d_c_fst2_54 rfl rfl ?_
      refine g_getfield (pc := 55) (i := 0) (j := 0) (host := "") W15 (Or.inl (hw _ (List.mem_of_getElem? (i := 16) rfl))) rfl rfl rfl d_c_fst2_55 (fun T16 W17 => ?_)
      refine g_iload_n (pc := 58) W17 d_c_fst2_58 rfl ?_
      refine g_iaload (pc := 59) (i := 1) (v := .int s1) W17 rfl (by decide) rfl d_c_fst2_59 ?_
      refine g_iload_n (pc := 60) W17 d_c_fst2_60 rfl ?_
      refine g_icmp_ne 68 (pc := 61) W17 d_c_fst2_61 (by decide) (by decide) (fun c18 => ?_) (fun c18 => ?_)
      · refine g_iconst (pc := 68) (-1 : Int32) (by decide) W17 d_c_fst2_68 ?_
        exact g_ireturn (pc := 69) rfl W17 d_c_fst2_69 (by decide) (by decide) ⟨by simp only [Int32.lt_iff_toInt_lt, ← Int32.toInt_inj] at c5 c8 c18; have e : rf2 s0 s1 q = (-1 : Int32) := (by simp only [rf2, ← Int32.toInt_inj]; (repeat' split) <;> first | rfl | (exfalso; omega)); rw [e], rfl⟩
      · refine g_iload_n (pc := 64) W17 d_c_fst2_64 rfl ?_
        refine g_goto 69 (pc := 65) W17 d_c_fst2_65 (by decide) (by decide) ?_
        exact g_ireturn (pc := 69) rfl W17 d_c_fst2_69 (by decide) (by decide) ⟨by simp only [Int32.lt_iff_toInt_lt, ← Int32.toInt_inj] at c5 c8 c18; have e : rf2 s0 s1 q = (1 : Int32) := (by simp only [rf2, ← Int32.toInt_inj]; (repeat' split) <;> first | rfl | (exfalso; omega)); rw [e], rfl⟩
  · refine g_iload (pc := 31) W4 d_c_fst2_31 rfl ?_
    refine g_iconst (pc := 33) (1 : Int32) (by decide) W4 d_c_fst2_33 ?_
    refine g_iadd (pc := 34) W4 d_c_fst2_34 ?_
    show Go p_ e_ bl_ _ (T3.setTop (mkF m_ 35 #[.val (.ref a), .val (.int q), .val (.int (0 : Int32)), .val (.int (2 : Int32)), .val (.int (1 : Int32))] [.int (2 : Int32)]))
    refine g_istore_n (pc := 35) (ls' := #[.val (.ref a), .val (.int q), .val (.int (2 : Int32)), .val (.int (2 : Int32)), .val (.int (1 : Int32))]) W4 d_c_fst2_35 rfl ?_
    refine g_goto 42 (pc := 36) W4 d_c_fst2_36 (by decide) (by decide) ?_
    refine g_goto 8 (pc := 42) W4 d_c_fst2_42 (by decide) (by decide) ?_
    refine g_iload_n (pc := 8) W4 d_c_fst2_8 rfl ?_
    refine g_iload_n (pc := 9) W4 d_c_fst2_9 rfl ?_
    refine g_icmpY 45 (pc := 10) W4 d_c_fst2_10 (by decide) (by decide) (by decide) ?_
    refine g_iload_n (pc := 45) W4 d_c_fst2_45 rfl ?_
    refine g_aload_n (pc := 46) W4 d_c_fst2_46 rfl rfl ?_
    refine g_getfield (pc := 47) (i := 0) (j := 0) (host := "") W4 (Or.inl (hw _ (List.mem_of_getElem? (i := 16) rfl))) rfl rfl rfl d_c_fst2_47 (fun T19 W20 => ?_)
    refine g_arraylength (pc := 50) (i := 1) (2 : Int32) W20 rfl rfl d_c_fst2_50 ?_
    refine g_icmpY 68 (pc := 51) W20 d_c_fst2_51 (by decide) (by decide) (by decide) ?_
    refine g_iconst (pc := 68) (-1 : Int32) (by decide) W20 d_c_fst2_68 ?_
    exact g_ireturn (pc := 69) rfl W20 d_c_fst2_69 (by decide) (by decide) ⟨by simp only [Int32.lt_iff_toInt_lt, ← Int32.toInt_inj] at c5; have e : rf2 s0 s1 q = (-1 : Int32) := (by simp only [rf2, ← Int32.toInt_inj]; (repeat' split) <;> first | rfl | (exfalso; omega)); rw [e], rfl⟩
theorem d_c_ref3_0 : decode method_4_code 0 = .ok (.iload_n 1, 1) := by decide +kernel
theorem d_c_ref3_1 : decode method_4_code 1 = .ok (.ifCond .le 12, 3) := by decide +kernel
theorem d_c_ref3_4 : decode method_4_code 4 = .ok (.aload_n 0, 1) := by decide +kernel
theorem d_c_ref3_5 : decode method_4_code 5 = .ok (.iconst 0, 1) := by decide +kernel
theorem d_c_ref3_6 : decode method_4_code 6 = .ok (.iaload, 1) := by decide +kernel
theorem d_c_ref3_7 : decode method_4_code 7 = .ok (.iload_n 2, 1) := by decide +kernel
theorem d_c_ref3_8 : decode method_4_code 8 = .ok (.if_icmp .ne 5, 3) := by decide +kernel
theorem d_c_ref3_11 : decode method_4_code 11 = .ok (.iconst 0, 1) := by decide +kernel
theorem d_c_ref3_12 : decode method_4_code 12 = .ok (.ireturn, 1) := by decide +kernel
theorem d_c_ref3_13 : decode method_4_code 13 = .ok (.iload_n 1, 1) := by decide +kernel
theorem d_c_ref3_14 : decode method_4_code 14 = .ok (.iconst 1, 1) := by decide +kernel
theorem d_c_ref3_15 : decode method_4_code 15 = .ok (.if_icmp .le 12, 3) := by decide +kernel
theorem d_c_ref3_18 : decode method_4_code 18 = .ok (.aload_n 0, 1) := by decide +kernel
theorem d_c_ref3_19 : decode method_4_code 19 = .ok (.iconst 1, 1) := by decide +kernel
theorem d_c_ref3_20 : decode method_4_code 20 = .ok (.iaload, 1) := by decide +kernel
theorem d_c_ref3_21 : decode method_4_code 21 = .ok (.iload_n 2, 1) := by decide +kernel
theorem d_c_ref3_22 : decode method_4_code 22 = .ok (.if_icmp .ne 5, 3) := by decide +kernel
theorem d_c_ref3_25 : decode method_4_code 25 = .ok (.iconst 1, 1) := by decide +kernel
theorem d_c_ref3_26 : decode method_4_code 26 = .ok (.ireturn, 1) := by decide +kernel
theorem d_c_ref3_27 : decode method_4_code 27 = .ok (.iload_n 1, 1) := by decide +kernel
theorem d_c_ref3_28 : decode method_4_code 28 = .ok (.iconst 2, 1) := by decide +kernel
theorem d_c_ref3_29 : decode method_4_code 29 = .ok (.if_icmp .le 12, 3) := by decide +kernel
theorem d_c_ref3_32 : decode method_4_code 32 = .ok (.aload_n 0, 1) := by decide +kernel
theorem d_c_ref3_33 : decode method_4_code 33 = .ok (.iconst 2, 1) := by decide +kernel
theorem d_c_ref3_34 : decode method_4_code 34 = .ok (.iaload, 1) := by decide +kernel
theorem d_c_ref3_35 : decode method_4_code 35 = .ok (.iload_n 2, 1) := by decide +kernel
theorem d_c_ref3_36 : decode method_4_code 36 = .ok (.if_icmp .ne 5, 3) := by decide +kernel
theorem d_c_ref3_39 : decode method_4_code 39 = .ok (.iconst 2, 1) := by decide +kernel
theorem d_c_ref3_40 : decode method_4_code 40 = .ok (.ireturn, 1) := by decide +kernel
theorem d_c_ref3_41 : decode method_4_code 41 = .ok (.iload_n 1, 1) := by decide +kernel
theorem d_c_ref3_42 : decode method_4_code 42 = .ok (.iconst 3, 1) := by decide +kernel
theorem d_c_ref3_43 : decode method_4_code 43 = .ok (.if_icmp .le 12, 3) := by decide +kernel
theorem d_c_ref3_55 : decode method_4_code 55 = .ok (.iload_n 1, 1) := by decide +kernel
theorem d_c_ref3_56 : decode method_4_code 56 = .ok (.iconst 4, 1) := by decide +kernel
theorem d_c_ref3_57 : decode method_4_code 57 = .ok (.if_icmp .le 12, 3) := by decide +kernel
theorem d_c_ref3_69 : decode method_4_code 69 = .ok (.iload_n 1, 1) := by decide +kernel
theorem d_c_ref3_70 : decode method_4_code 70 = .ok (.iconst 5, 1) := by decide +kernel
theorem d_c_ref3_71 : decode method_4_code 71 = .ok (.if_icmp .le 12, 3) := by decide +kernel
theorem d_c_ref3_83 : decode method_4_code 83 = .ok (.iconst (-1), 1) := by decide +kernel
theorem d_c_ref3_84 : decode method_4_code 84 = .ok (.ireturn, 1) := by decide +kernel
set_option maxRecDepth 65536 in
set_option maxHeartbeats 40000000 in
theorem c_ref3 (l : Launch) (Z : State) (a0 : Array Value) (hw : ∀ d ∈ tables_1, d.before a0 Z = true) {B : Nat} (b : Addr) (s0 s1 s2 q : Int32) :
    Con l Z FM B (⟨"com/example/traverso/traverso/graph/LabelsFirstPinLaw", "reference", "([III)I"⟩ : MethodName) method_4_code 3 (some .int) ({ frames := 0, cells := 0, slots := 0, locals := 0 } : Room) [] #[.ref b, .int (3 : Int32), .int q] [(b, (.array .int), [.int s0, .int s1, .int s2])] (fun v os => v = some (.int (rf3 s0 s1 s2 q)) ∧ os = [(b, (.array .int), [.int s0, .int s1, .int s2])]) := by
  refine Con.of (plainFor_of_name (by first | (simp [plainName, overriddenIn]; done) | decide +kernel)) (ls := #[.val (.ref b), .val (.int (3 : Int32)), .val (.int q)]) (fun m => by first | (simp [entryFrame, mkF, argsToLocals, Value.category]; done) | rfl) ?_
  intro p_ e_ h_ s_ m_ bl_ me_ c_ T0 W0
  refine g_iload_n (pc := 0) W0 d_c_ref3_0 rfl ?_
  refine g_ifN (pc := 1) W0 d_c_ref3_1 (by decide) ?_
  refine g_aload_n (pc := 4) W0 d_c_ref3_4 rfl rfl ?_
  refine g_iconst (pc := 5) (0 : Int32) (by decide) W0 d_c_ref3_5 ?_
  refine g_iaload (pc := 6) (i := 0) (v := .int s0) W0 rfl (by decide) rfl d_c_ref3_6 ?_
  refine g_iload_n (pc := 7) W0 d_c_ref3_7 rfl ?_
  refine g_icmp_ne 13 (pc := 8) W0 d_c_ref3_8 (by decide) (by decide) (fun c1 => ?_) (fun c1 => ?_)
  · refine g_iload_n (pc := 13) W0 d_c_ref3_13 rfl ?_
    refine g_iconst (pc := 14) (1 : Int32) (by decide) W0 d_c_ref3_14 ?_
    refine g_icmpN (pc := 15) W0 d_c_ref3_15 (by decide) ?_
    refine g_aload_n (pc := 18) W0 d_c_ref3_18 rfl rfl ?_
    refine g_iconst (pc := 19) (1 : Int32) (by decide) W0 d_c_ref3_19 ?_
    refine g_iaload (pc := 20) (i := 0) (v := .int s1) W0 rfl (by decide) rfl d_c_ref3_20 ?_
    refine g_iload_n (pc := 21) W0 d_c_ref3_21 rfl ?_
    refine g_icmp_ne 27 (pc := 22) W0 d_c_ref3_22 (by decide) (by decide) (fun c2 => ?_) (fun c2 => ?_)
    · refine g_iload_n (pc := 27) W0 d_c_ref3_27 rfl ?_
      refine g_iconst (pc := 28) (2 : Int32) (by decide) W0 d_c_ref3_28 ?_
      refine g_icmpN (pc := 29) W0 d_c_ref3_29 (by decide) ?_
      refine g_aload_n (pc := 32) W0 d_c_ref3_32 rfl rfl ?_
      refine g_iconst (pc := 33) (2 : Int32) (by decide) W0 d_c_ref3_33 ?_
      refine g_iaload (pc := 34) (i := 0) (v := .int s2) W0 rfl (by decide) rfl d_c_ref3_34 ?_
      refine g_iload_n (pc := 35) W0 d_c_ref3_35 rfl ?_
      refine g_icmp_ne 41 (pc := 36) W0 d_c_ref3_36 (by decide) (by decide) (fun c3 => ?_) (fun c3 => ?_)
      · refine g_iload_n (pc := 41) W0 d_c_ref3_41 rfl ?_
        refine g_iconst (pc := 42) (3 : Int32) (by decide) W0 d_c_ref3_42 ?_
        refine g_icmpY 55 (pc := 43) W0 d_c_ref3_43 (by decide) (by decide) (by decide) ?_
        refine g_iload_n (pc := 55) W0 d_c_ref3_55 rfl ?_
        refine g_iconst (pc := 56) (4 : Int32) (by decide) W0 d_c_ref3_56 ?_
        refine g_icmpY 69 (pc := 57) W0 d_c_ref3_57 (by decide) (by decide) (by decide) ?_
        refine g_iload_n (pc := 69) W0 d_c_ref3_69 rfl ?_
        refine g_iconst (pc := 70) (5 : Int32) (by decide) W0 d_c_ref3_70 ?_
        refine g_icmpY 83 (pc := 71) W0 d_c_ref3_71 (by decide) (by decide) (by decide) ?_
        refine g_iconst (pc := 83) (-1 : Int32) (by decide) W0 d_c_ref3_83 ?_
        exact g_ireturn (pc := 84) rfl W0 d_c_ref3_84 (by decide) (by decide) ⟨by simp only [rf3, if_neg c1, if_neg c2, if_neg c3], rfl⟩
      · refine g_iconst (pc := 39) (2 : Int32) (by decide) W0 d_c_ref3_39 ?_
        exact g_ireturn (pc := 40) rfl W0 d_c_ref3_40 (by decide) (by decide) ⟨by simp only [rf3, if_neg c1, if_neg c2, if_pos c3], rfl⟩
    · refine g_iconst (pc := 25) (1 : Int32) (by decide) W0 d_c_ref3_25 ?_
      exact g_ireturn (pc := 26) rfl W0 d_c_ref3_26 (by decide) (by decide) ⟨by simp only [rf3, if_neg c1, if_pos c2], rfl⟩
  · refine g_iconst (pc := 11) (0 : Int32) (by decide) W0 d_c_ref3_11 ?_
    exact g_ireturn (pc := 12) rfl W0 d_c_ref3_12 (by decide) (by decide) ⟨by simp only [rf3, if_pos c1], rfl⟩
theorem d_c_fst3_0 : decode prog_29_method_5_code 0 = .ok (.iconst 0, 1) := by decide +kernel
theorem d_c_fst3_1 : decode prog_29_method_5_code 1 = .ok (.istore_n 2, 1) := by decide +kernel
theorem d_c_fst3_2 : decode prog_29_method_5_code 2 = .ok (.aload_n 0, 1) := by decide +kernel
theorem d_c_fst3_3 : decode prog_29_method_5_code 3 = .ok (.getfield 7, 3) := by decide +kernel
theorem d_c_fst3_6 : decode prog_29_method_5_code 6 = .ok (.arraylength, 1) := by decide +kernel
theorem d_c_fst3_7 : decode prog_29_method_5_code 7 = .ok (.istore_n 3, 1) := by decide +kernel
theorem d_c_fst3_8 : decode prog_29_method_5_code 8 = .ok (.iload_n 2, 1) := by decide +kernel
theorem d_c_fst3_9 : decode prog_29_method_5_code 9 = .ok (.iload_n 3, 1) := by decide +kernel
theorem d_c_fst3_10 : decode prog_29_method_5_code 10 = .ok (.if_icmp .ge 35, 3) := by decide +kernel
theorem d_c_fst3_13 : decode prog_29_method_5_code 13 = .ok (.iload_n 2, 1) := by decide +kernel
theorem d_c_fst3_14 : decode prog_29_method_5_code 14 = .ok (.iload_n 3, 1) := by decide +kernel
theorem d_c_fst3_15 : decode prog_29_method_5_code 15 = .ok (.iadd, 1) := by decide +kernel
theorem d_c_fst3_16 : decode prog_29_method_5_code 16 = .ok (.iconst 1, 1) := by decide +kernel
theorem d_c_fst3_17 : decode prog_29_method_5_code 17 = .ok (.iushr, 1) := by decide +kernel
theorem d_c_fst3_18 : decode prog_29_method_5_code 18 = .ok (.istore 4, 2) := by decide +kernel
theorem d_c_fst3_20 : decode prog_29_method_5_code 20 = .ok (.aload_n 0, 1) := by decide +kernel
theorem d_c_fst3_21 : decode prog_29_method_5_code 21 = .ok (.getfield 7, 3) := by decide +kernel
theorem d_c_fst3_24 : decode prog_29_method_5_code 24 = .ok (.iload 4, 2) := by decide +kernel
theorem d_c_fst3_26 : decode prog_29_method_5_code 26 = .ok (.iaload, 1) := by decide +kernel
theorem d_c_fst3_27 : decode prog_29_method_5_code 27 = .ok (.iload_n 1, 1) := by decide +kernel
theorem d_c_fst3_28 : decode prog_29_method_5_code 28 = .ok (.if_icmp .ge 11, 3) := by decide +kernel
theorem d_c_fst3_31 : decode prog_29_method_5_code 31 = .ok (.iload 4, 2) := by decide +kernel
theorem d_c_fst3_33 : decode prog_29_method_5_code 33 = .ok (.iconst 1, 1) := by decide +kernel
theorem d_c_fst3_34 : decode prog_29_method_5_code 34 = .ok (.iadd, 1) := by decide +kernel
theorem d_c_fst3_35 : decode prog_29_method_5_code 35 = .ok (.istore_n 2, 1) := by decide +kernel
theorem d_c_fst3_36 : decode prog_29_method_5_code 36 = .ok (.goto 6, 3) := by decide +kernel
theorem d_c_fst3_39 : decode prog_29_method_5_code 39 = .ok (.iload 4, 2) := by decide +kernel
theorem d_c_fst3_41 : decode prog_29_method_5_code 41 = .ok (.istore_n 3, 1) := by decide +kernel
theorem d_c_fst3_42 : decode prog_29_method_5_code 42 = .ok (.goto (-34), 3) := by decide +kernel
theorem d_c_fst3_45 : decode prog_29_method_5_code 45 = .ok (.iload_n 2, 1) := by decide +kernel
theorem d_c_fst3_46 : decode prog_29_method_5_code 46 = .ok (.aload_n 0, 1) := by decide +kernel
theorem d_c_fst3_47 : decode prog_29_method_5_code 47 = .ok (.getfield 7, 3) := by decide +kernel
theorem d_c_fst3_50 : decode prog_29_method_5_code 50 = .ok (.arraylength, 1) := by decide +kernel
theorem d_c_fst3_51 : decode prog_29_method_5_code 51 = .ok (.if_icmp .ge 17, 3) := by decide +kernel
theorem d_c_fst3_54 : decode prog_29_method_5_code 54 = .ok (.aload_n 0, 1) := by decide +kernel
theorem d_c_fst3_55 : decode prog_29_method_5_code 55 = .ok (.getfield 7, 3) := by decide +kernel
theorem d_c_fst3_58 : decode prog_29_method_5_code 58 = .ok (.iload_n 2, 1) := by decide +kernel
theorem d_c_fst3_59 : decode prog_29_method_5_code 59 = .ok (.iaload, 1) := by decide +kernel
theorem d_c_fst3_60 : decode prog_29_method_5_code 60 = .ok (.iload_n 1, 1) := by decide +kernel
theorem d_c_fst3_61 : decode prog_29_method_5_code 61 = .ok (.if_icmp .ne 7, 3) := by decide +kernel
theorem d_c_fst3_64 : decode prog_29_method_5_code 64 = .ok (.iload_n 2, 1) := by decide +kernel
theorem d_c_fst3_65 : decode prog_29_method_5_code 65 = .ok (.goto 4, 3) := by decide +kernel
theorem d_c_fst3_68 : decode prog_29_method_5_code 68 = .ok (.iconst (-1), 1) := by decide +kernel
theorem d_c_fst3_69 : decode prog_29_method_5_code 69 = .ok (.ireturn, 1) := by decide +kernel
set_option maxRecDepth 65536 in
set_option maxHeartbeats 40000000 in
theorem c_fst3 (l : Launch) (Z : State) (a0 : Array Value) (hw : ∀ d ∈ tables_1, d.before a0 Z = true) {B : Nat} (a b c : Addr) (s0 s1 s2 q : Int32) (h0 : s0.toInt ≤ s1.toInt) (h1 : s1.toInt ≤ s2.toInt) :
    Con l Z FM B (⟨"com/example/traverso/traverso/graph/Labels", "first", "(I)I"⟩ : MethodName) prog_29_method_5_code 5 (some .int) ({ frames := 0, cells := 0, slots := 0, locals := 0 } : Room) [] #[.ref a, .int q] [(a, (.object "com/example/traverso/traverso/graph/Labels"), [.ref b, .ref c]), (b, (.array .int), [.int s0, .int s1, .int s2])] (fun v os => v = some (.int (rf3 s0 s1 s2 q)) ∧ os = [(a, (.object "com/example/traverso/traverso/graph/Labels"), [.ref b, .ref c]), (b, (.array .int), [.int s0, .int s1, .int s2])]) := by
  refine Con.of (plainFor_of_name (by first | (simp [plainName, overriddenIn]; done) | decide +kernel)) (ls := #[.val (.ref a), .val (.int q), .unset, .unset, .unset]) (fun m => by first | (simp [entryFrame, mkF, argsToLocals, Value.category]; done) | rfl) ?_
  intro p_ e_ h_ s_ m_ bl_ me_ c_ T0 W0
  refine g_iconst (pc := 0) (0 : Int32) (by decide) W0 d_c_fst3_0 ?_
  refine g_istore_n (pc := 1) (ls' := #[.val (.ref a), .val (.int q), .val (.int (0 : Int32)), .unset, .unset]) W0 d_c_fst3_1 rfl ?_
  refine g_aload_n (pc := 2) W0 d_c_fst3_2 rfl rfl ?_
  refine g_getfield (pc := 3) (i := 0) (j := 0) (host := "") W0 (Or.inl (hw _ (List.mem_of_getElem? (i := 16) rfl))) rfl rfl rfl d_c_fst3_3 (fun T1 W2 => ?_)
  refine g_arraylength (pc := 6) (i := 1) (3 : Int32) W2 rfl rfl d_c_fst3_6 ?_
  refine g_istore_n (pc := 7) (ls' := #[.val (.ref a), .val (.int q), .val (.int (0 : Int32)), .val (.int (3 : Int32)), .unset]) W2 d_c_fst3_7 rfl ?_
  refine g_iload_n (pc := 8) W2 d_c_fst3_8 rfl ?_
  refine g_iload_n (pc := 9) W2 d_c_fst3_9 rfl ?_
  refine g_icmpN (pc := 10) W2 d_c_fst3_10 (by decide) ?_
  refine g_iload_n (pc := 13) W2 d_c_fst3_13 rfl ?_
  refine g_iload_n (pc := 14) W2 d_c_fst3_14 rfl ?_
  refine g_iadd (pc := 15) W2 d_c_fst3_15 ?_
  show Go p_ e_ bl_ _ (T1.setTop (mkF m_ 16 #[.val (.ref a), .val (.int q), .val (.int (0 : Int32)), .val (.int (3 : Int32)), .unset] [.int (3 : Int32)]))
  refine g_iconst (pc := 16) (1 : Int32) (by decide) W2 d_c_fst3_16 ?_
  refine g_iushr (pc := 17) W2 d_c_fst3_17 ?_
  show Go p_ e_ bl_ _ (T1.setTop (mkF m_ 18 #[.val (.ref a), .val (.int q), .val (.int (0 : Int32)), .val (.int (3 : Int32)), .unset] [.int (1 : Int32)]))
  refine g_istore (pc := 18) (ls' := #[.val (.ref a), .val (.int q), .val (.int (0 : Int32)), .val (.int (3 : Int32)), .val (.int (1 : Int32))]) W2 d_c_fst3_18 rfl ?_
  refine g_aload_n (pc := 20) W2 d_c_fst3_20 rfl rfl ?_
  refine g_getfield (pc := 21) (i := 0) (j := 0) (host := "") W2 (Or.inl (hw _ (List.mem_of_getElem? (i := 16) rfl))) rfl rfl rfl d_c_fst3_21 (fun T3 W4 => ?_)
  refine g_iload (pc := 24) W4 d_c_fst3_24 rfl ?_
  refine g_iaload (pc := 26) (i := 1) (v := .int s1) W4 rfl (by decide) rfl d_c_fst3_26 ?_
  refine g_iload_n (pc := 27) W4 d_c_fst3_27 rfl ?_
  refine g_icmp_ge 39 (pc := 28) W4 d_c_fst3_28 (by decide) (by decide) (fun c5 => ?_) (fun c5 => ?_)
  · refine g_iload (pc := 39) W4 d_c_fst3_39 rfl ?_
    refine g_istore_n (pc := 41) (ls' := #[.val (.ref a), .val (.int q), .val (.int (0 : Int32)), .val (.int (1 : Int32)), .val (.int (1 : Int32))]) W4 d_c_fst3_41 rfl ?_
    refine g_goto 8 (pc := 42) W4 d_c_fst3_42 (by decide) (by decide) ?_
    refine g_iload_n (pc := 8) W4 d_c_fst3_8 rfl ?_
    refine g_iload_n (pc := 9) W4 d_c_fst3_9 rfl ?_
    refine g_icmpN (pc := 10) W4 d_c_fst3_10 (by decide) ?_
    refine g_iload_n (pc := 13) W4 d_c_fst3_13 rfl ?_
    refine g_iload_n (pc := 14) W4 d_c_fst3_14 rfl ?_
    refine g_iadd (pc := 15) W4 d_c_fst3_15 ?_
    show Go p_ e_ bl_ _ (T3.setTop (mkF m_ 16 #[.val (.ref a), .val (.int q), .val (.int (0 : Int32)), .val (.int (1 : Int32)), .val (.int (1 : Int32))] [.int (1 : Int32)]))
    refine g_iconst (pc := 16) (1 : Int32) (by decide) W4 d_c_fst3_16 ?_
    refine g_iushr (pc := 17) W4 d_c_fst3_17 ?_
    show Go p_ e_ bl_ _ (T3.setTop (mkF m_ 18 #[.val (.ref a), .val (.int q), .val (.int (0 : Int32)), .val (.int (1 : Int32)), .val (.int (1 : Int32))] [.int (0 : Int32)]))
    refine g_istore (pc := 18) (ls' := #[.val (.ref a), .val (.int q), .val (.int (0 : Int32)), .val (.int (1 : Int32)), .val (.int (0 : Int32))]) W4 d_c_fst3_18 rfl ?_
    refine g_aload_n (pc := 20) W4 d_c_fst3_20 rfl rfl ?_
    refine g_getfield (pc := 21) (i := 0) (j := 0) (host := "") W4 (Or.inl (hw _ (List.mem_of_getElem? (i := 16) rfl))) rfl rfl rfl d_c_fst3_21 (fun T6 W7 => ?_)
    refine g_iload (pc := 24) W7 d_c_fst3_24 rfl ?_
    refine g_iaload (pc := 26) (i := 1) (v := .int s0) W7 rfl (by decide) rfl d_c_fst3_26 ?_
    refine g_iload_n (pc := 27) W7 d_c_fst3_27 rfl ?_
    refine g_icmp_ge 39 (pc := 28) W7 d_c_fst3_28 (by decide) (by decide) (fun c8 => ?_) (fun c8 => ?_)
    · refine g_iload (pc := 39) W7 d_c_fst3_39 rfl ?_
      refine g_istore_n (pc := 41) (ls' := #[.val (.ref a), .val (.int q), .val (.int (0 : Int32)), .val (.int (0 : Int32)), .val (.int (0 : Int32))]) W7 d_c_fst3_41 rfl ?_
      refine g_goto 8 (pc := 42) W7 d_c_fst3_42 (by decide) (by decide) ?_
      refine g_iload_n (pc := 8) W7 d_c_fst3_8 rfl ?_
      refine g_iload_n (pc := 9) W7 d_c_fst3_9 rfl ?_
      refine g_icmpY 45 (pc := 10) W7 d_c_fst3_10 (by decide) (by decide) (by decide) ?_
      refine g_iload_n (pc := 45) W7 d_c_fst3_45 rfl ?_
      refine g_aload_n (pc := 46) W7 d_c_fst3_46 rfl rfl ?_
      refine g_getfield (pc := 47) (i := 0) (j := 0) (host := "") W7 (Or.inl (hw _ (List.mem_of_getElem? (i := 16) rfl))) rfl rfl rfl d_c_fst3_47 (fun T9 W10 => ?_)
      refine g_arraylength (pc := 50) (i := 1) (3 : Int32) W10 rfl rfl d_c_fst3_50 ?_
      refine g_icmpN (pc := 51) W10 d_c_fst3_51 (by decide) ?_
      refine g_aload_n (pc := 54) W10 d_c_fst3_54 rfl rfl ?_
      refine g_getfield (pc := 55) (i := 0) (j := 0) (host := "") W10 (Or.inl (hw _ (List.mem_of_getElem? (i := 16) rfl))) rfl rfl rfl d_c_fst3_55 (fun T11 W12 => ?_)
      refine g_iload_n (pc := 58) W12 d_c_fst3_58 rfl ?_
      refine g_iaload (pc := 59) (i := 1) (v := .int s0) W12 rfl (by decide) rfl d_c_fst3_59 ?_
      refine g_iload_n (pc := 60) W12 d_c_fst3_60 rfl ?_
      refine g_icmp_ne 68 (pc := 61) W12 d_c_fst3_61 (by decide) (by decide) (fun c13 => ?_) (fun c13 => ?_)
      · refine g_iconst (pc := 68) (-1 : Int32) (by decide) W12 d_c_fst3_68 ?_
        exact g_ireturn (pc := 69) rfl W12 d_c_fst3_69 (by decide) (by decide) ⟨by simp only [Int32.lt_iff_toInt_lt, ← Int32.toInt_inj] at c5 c8 c13; have e : rf3 s0 s1 s2 q = (-1 : Int32) := (by simp only [rf3, ← Int32.toInt_inj]; (repeat' split) <;> first | rfl | (exfalso; omega)); rw [e], rfl⟩
      · refine g_iload_n (pc := 64) W12 d_c_fst3_64 rfl ?_
        refine g_goto 69 (pc := 65) W12 d_c_fst3_65 (by decide) (by decide) ?_
        exact g_ireturn (pc := 69) rfl W12 d_c_fst3_69 (by decide) (by decide) ⟨by simp only [Int32.lt_iff_toInt_lt, ← Int32.toInt_inj] at c5 c8 c13; have e : rf3 s0 s1 s2 q = (0 : Int32) := (by simp only [rf3, ← Int32.toInt_inj]; (repeat' split) <;> first | rfl | (exfalso; omega)); rw [e], rfl⟩
    · refine g_iload (pc := 31) W7 d_c_fst3_31 rfl ?_
      refine g_iconst (pc := 33) (1 : Int32) (by decide) W7 d_c_fst3_33 ?_
      refine g_iadd (pc := 34) W7 d_c_fst3_34 ?_
      show Go p_ e_ bl_ _ (T6.setTop (mkF m_ 35 #[.val (.ref a), .val (.int q), .val (.int (0 : Int32)), .val (.int (1 : Int32)), .val (.int (0 : Int32))] [.int (1 : Int32)]))
      refine g_istore_n (pc := 35) (ls' := #[.val (.ref a), .val (.int q), .val (.int (1 : Int32)), .val (.int (1 : Int32)), .val (.int (0 : Int32))]) W7 d_c_fst3_35 rfl ?_
      refine g_goto 42 (pc := 36) W7 d_c_fst3_36 (by decide) (by decide) ?_
      refine g_goto 8 (pc := 42) W7 d_c_fst3_42 (by decide) (by decide) ?_
      refine g_iload_n (pc := 8) W7 d_c_fst3_8 rfl ?_
      refine g_iload_n (pc := 9) W7 d_c_fst3_9 rfl ?_
      refine g_icmpY 45 (pc := 10) W7 d_c_fst3_10 (by decide) (by decide) (by decide) ?_
      refine g_iload_n (pc := 45) W7 d_c_fst3_45 rfl ?_
      refine g_aload_n (pc := 46) W7 d_c_fst3_46 rfl rfl ?_
      refine g_getfield (pc := 47) (i := 0) (j := 0) (host := "") W7 (Or.inl (hw _ (List.mem_of_getElem? (i := 16) rfl))) rfl rfl rfl d_c_fst3_47 (fun T14 W15 => ?_)
      refine g_arraylength (pc := 50) (i := 1) (3 : Int32) W15 rfl rfl d_c_fst3_50 ?_
      refine g_icmpN (pc := 51) W15 d_c_fst3_51 (by decide) ?_
      refine g_aload_n (pc := 54) W15 d_c_fst3_54 rfl rfl ?_
      refine g_getfield (pc := 55) (i := 0) (j := 0) (host := "") W15 (Or.inl (hw _ (List.mem_of_getElem? (i := 16) rfl))) rfl rfl rfl d_c_fst3_55 (fun T16 W17 => ?_)
      refine g_iload_n (pc := 58) W17 d_c_fst3_58 rfl ?_
      refine g_iaload (pc := 59) (i := 1) (v := .int s1) W17 rfl (by decide) rfl d_c_fst3_59 ?_
      refine g_iload_n (pc := 60) W17 d_c_fst3_60 rfl ?_
      refine g_icmp_ne 68 (pc := 61) W17 d_c_fst3_61 (by decide) (by decide) (fun c18 => ?_) (fun c18 => ?_)
      · refine g_iconst (pc := 68) (-1 : Int32) (by decide) W17 d_c_fst3_68 ?_
        exact g_ireturn (pc := 69) rfl W17 d_c_fst3_69 (by decide) (by decide) ⟨by simp only [Int32.lt_iff_toInt_lt, ← Int32.toInt_inj] at c5 c8 c18; have e : rf3 s0 s1 s2 q = (-1 : Int32) := (by simp only [rf3, ← Int32.toInt_inj]; (repeat' split) <;> first | rfl | (exfalso; omega)); rw [e], rfl⟩
      · refine g_iload_n (pc := 64) W17 d_c_fst3_64 rfl ?_
        refine g_goto 69 (pc := 65) W17 d_c_fst3_65 (by decide) (by decide) ?_
        exact g_ireturn (pc := 69) rfl W17 d_c_fst3_69 (by decide) (by decide) ⟨by simp only [Int32.lt_iff_toInt_lt, ← Int32.toInt_inj] at c5 c8 c18; have e : rf3 s0 s1 s2 q = (1 : Int32) := (by simp only [rf3, ← Int32.toInt_inj]; (repeat' split) <;> first | rfl | (exfalso; omega)); rw [e], rfl⟩
  · refine g_iload (pc := 31) W4 d_c_fst3_31 rfl ?_
    refine g_iconst (pc := 33) (1 : Int32) (by decide) W4 d_c_fst3_33 ?_
    refine g_iadd (pc := 34) W4 d_c_fst3_34 ?_
    show Go p_ e_ bl_ _ (T3.setTop (mkF m_ 35 #[.val (.ref a), .val (.int q), .val (.int (0 : Int32)), .val (.int (3 : Int32)), .val (.int (1 : Int32))] [.int (2 : Int32)]))
    refine g_istore_n (pc := 35) (ls' := #[.val (.ref a), .val (.int q), .val (.int (2 : Int32)), .val (.int (3 : Int32)), .val (.int (1 : Int32))]) W4 d_c_fst3_35 rfl ?_
    refine g_goto 42 (pc := 36) W4 d_c_fst3_36 (by decide) (by decide) ?_
    refine g_goto 8 (pc := 42) W4 d_c_fst3_42 (by decide) (by decide) ?_
    refine g_iload_n (pc := 8) W4 d_c_fst3_8 rfl ?_
    refine g_iload_n (pc := 9) W4 d_c_fst3_9 rfl ?_
    refine g_icmpN (pc := 10) W4 d_c_fst3_10 (by decide) ?_
    refine g_iload_n (pc := 13) W4 d_c_fst3_13 rfl ?_
    refine g_iload_n (pc := 14) W4 d_c_fst3_14 rfl ?_
    refine g_iadd (pc := 15) W4 d_c_fst3_15 ?_
    show Go p_ e_ bl_ _ (T3.setTop (mkF m_ 16 #[.val (.ref a), .val (.int q), .val (.int (2 : Int32)), .val (.int (3 : Int32)), .val (.int (1 : Int32))] [.int (5 : Int32)]))
    refine g_iconst (pc := 16) (1 : Int32) (by decide) W4 d_c_fst3_16 ?_
    refine g_iushr (pc := 17) W4 d_c_fst3_17 ?_
    show Go p_ e_ bl_ _ (T3.setTop (mkF m_ 18 #[.val (.ref a), .val (.int q), .val (.int (2 : Int32)), .val (.int (3 : Int32)), .val (.int (1 : Int32))] [.int (2 : Int32)]))
    refine g_istore (pc := 18) (ls' := #[.val (.ref a), .val (.int q), .val (.int (2 : Int32)), .val (.int (3 : Int32)), .val (.int (2 : Int32))]) W4 d_c_fst3_18 rfl ?_
    refine g_aload_n (pc := 20) W4 d_c_fst3_20 rfl rfl ?_
    refine g_getfield (pc := 21) (i := 0) (j := 0) (host := "") W4 (Or.inl (hw _ (List.mem_of_getElem? (i := 16) rfl))) rfl rfl rfl d_c_fst3_21 (fun T19 W20 => ?_)
    refine g_iload (pc := 24) W20 d_c_fst3_24 rfl ?_
    refine g_iaload (pc := 26) (i := 1) (v := .int s2) W20 rfl (by decide) rfl d_c_fst3_26 ?_
    refine g_iload_n (pc := 27) W20 d_c_fst3_27 rfl ?_
    refine g_icmp_ge 39 (pc := 28) W20 d_c_fst3_28 (by decide) (by decide) (fun c21 => ?_) (fun c21 => ?_)
    · refine g_iload (pc := 39) W20 d_c_fst3_39 rfl ?_
      refine g_istore_n (pc := 41) (ls' := #[.val (.ref a), .val (.int q), .val (.int (2 : Int32)), .val (.int (2 : Int32)), .val (.int (2 : Int32))]) W20 d_c_fst3_41 rfl ?_
      refine g_goto 8 (pc := 42) W20 d_c_fst3_42 (by decide) (by decide) ?_
      refine g_iload_n (pc := 8) W20 d_c_fst3_8 rfl ?_
      refine g_iload_n (pc := 9) W20 d_c_fst3_9 rfl ?_
      refine g_icmpY 45 (pc := 10) W20 d_c_fst3_10 (by decide) (by decide) (by decide) ?_
      refine g_iload_n (pc := 45) W20 d_c_fst3_45 rfl ?_
      refine g_aload_n (pc := 46) W20 d_c_fst3_46 rfl rfl ?_
      refine g_getfield (pc := 47) (i := 0) (j := 0) (host := "") W20 (Or.inl (hw _ (List.mem_of_getElem? (i := 16) rfl))) rfl rfl rfl d_c_fst3_47 (fun T22 W23 => ?_)
      refine g_arraylength (pc := 50) (i := 1) (3 : Int32) W23 rfl rfl d_c_fst3_50 ?_
      refine g_icmpN (pc := 51) W23 d_c_fst3_51 (by decide) ?_
      refine g_aload_n (pc := 54) W23 d_c_fst3_54 rfl rfl ?_
      refine g_getfield (pc := 55) (i := 0) (j := 0) (host := "") W23 (Or.inl (hw _ (List.mem_of_getElem? (i := 16) rfl))) rfl rfl rfl d_c_fst3_55 (fun T24 W25 => ?_)
      refine g_iload_n (pc := 58) W25 d_c_fst3_58 rfl ?_
      refine g_iaload (pc := 59) (i := 1) (v := .int s2) W25 rfl (by decide) rfl d_c_fst3_59 ?_
      refine g_iload_n (pc := 60) W25 d_c_fst3_60 rfl ?_
      refine g_icmp_ne 68 (pc := 61) W25 d_c_fst3_61 (by decide) (by decide) (fun c26 => ?_) (fun c26 => ?_)
      · refine g_iconst (pc := 68) (-1 : Int32) (by decide) W25 d_c_fst3_68 ?_
        exact g_ireturn (pc := 69) rfl W25 d_c_fst3_69 (by decide) (by decide) ⟨by simp only [Int32.lt_iff_toInt_lt, ← Int32.toInt_inj] at c5 c21 c26; have e : rf3 s0 s1 s2 q = (-1 : Int32) := (by simp only [rf3, ← Int32.toInt_inj]; (repeat' split) <;> first | rfl | (exfalso; omega)); rw [e], rfl⟩
      · refine g_iload_n (pc := 64) W25 d_c_fst3_64 rfl ?_
        refine g_goto 69 (pc := 65) W25 d_c_fst3_65 (by decide) (by decide) ?_
        exact g_ireturn (pc := 69) rfl W25 d_c_fst3_69 (by decide) (by decide) ⟨by simp only [Int32.lt_iff_toInt_lt, ← Int32.toInt_inj] at c5 c21 c26; have e : rf3 s0 s1 s2 q = (2 : Int32) := (by simp only [rf3, ← Int32.toInt_inj]; (repeat' split) <;> first | rfl | (exfalso; omega)); rw [e], rfl⟩
    · refine g_iload (pc := 31) W20 d_c_fst3_31 rfl ?_
      refine g_iconst (pc := 33) (1 : Int32) (by decide) W20 d_c_fst3_33 ?_
      refine g_iadd (pc := 34) W20 d_c_fst3_34 ?_
      show Go p_ e_ bl_ _ (T19.setTop (mkF m_ 35 #[.val (.ref a), .val (.int q), .val (.int (2 : Int32)), .val (.int (3 : Int32)), .val (.int (2 : Int32))] [.int (3 : Int32)]))
      refine g_istore_n (pc := 35) (ls' := #[.val (.ref a), .val (.int q), .val (.int (3 : Int32)), .val (.int (3 : Int32)), .val (.int (2 : Int32))]) W20 d_c_fst3_35 rfl ?_
      refine g_goto 42 (pc := 36) W20 d_c_fst3_36 (by decide) (by decide) ?_
      refine g_goto 8 (pc := 42) W20 d_c_fst3_42 (by decide) (by decide) ?_
      refine g_iload_n (pc := 8) W20 d_c_fst3_8 rfl ?_
      refine g_iload_n (pc := 9) W20 d_c_fst3_9 rfl ?_
      refine g_icmpY 45 (pc := 10) W20 d_c_fst3_10 (by decide) (by decide) (by decide) ?_
      refine g_iload_n (pc := 45) W20 d_c_fst3_45 rfl ?_
      refine g_aload_n (pc := 46) W20 d_c_fst3_46 rfl rfl ?_
      refine g_getfield (pc := 47) (i := 0) (j := 0) (host := "") W20 (Or.inl (hw _ (List.mem_of_getElem? (i := 16) rfl))) rfl rfl rfl d_c_fst3_47 (fun T27 W28 => ?_)
      refine g_arraylength (pc := 50) (i := 1) (3 : Int32) W28 rfl rfl d_c_fst3_50 ?_
      refine g_icmpY 68 (pc := 51) W28 d_c_fst3_51 (by decide) (by decide) (by decide) ?_
      refine g_iconst (pc := 68) (-1 : Int32) (by decide) W28 d_c_fst3_68 ?_
      exact g_ireturn (pc := 69) rfl W28 d_c_fst3_69 (by decide) (by decide) ⟨by simp only [Int32.lt_iff_toInt_lt, ← Int32.toInt_inj] at c5 c21; have e : rf3 s0 s1 s2 q = (-1 : Int32) := (by simp only [rf3, ← Int32.toInt_inj]; (repeat' split) <;> first | rfl | (exfalso; omega)); rw [e], rfl⟩
theorem d_c_ref4_0 : decode method_4_code 0 = .ok (.iload_n 1, 1) := by decide +kernel
theorem d_c_ref4_1 : decode method_4_code 1 = .ok (.ifCond .le 12, 3) := by decide +kernel
theorem d_c_ref4_4 : decode method_4_code 4 = .ok (.aload_n 0, 1) := by decide +kernel
theorem d_c_ref4_5 : decode method_4_code 5 = .ok (.iconst 0, 1) := by decide +kernel
theorem d_c_ref4_6 : decode method_4_code 6 = .ok (.iaload, 1) := by decide +kernel
theorem d_c_ref4_7 : decode method_4_code 7 = .ok (.iload_n 2, 1) := by decide +kernel
theorem d_c_ref4_8 : decode method_4_code 8 = .ok (.if_icmp .ne 5, 3) := by decide +kernel
theorem d_c_ref4_11 : decode method_4_code 11 = .ok (.iconst 0, 1) := by decide +kernel
theorem d_c_ref4_12 : decode method_4_code 12 = .ok (.ireturn, 1) := by decide +kernel
theorem d_c_ref4_13 : decode method_4_code 13 = .ok (.iload_n 1, 1) := by decide +kernel
theorem d_c_ref4_14 : decode method_4_code 14 = .ok (.iconst 1, 1) := by decide +kernel
theorem d_c_ref4_15 : decode method_4_code 15 = .ok (.if_icmp .le 12, 3) := by decide +kernel
theorem d_c_ref4_18 : decode method_4_code 18 = .ok (.aload_n 0, 1) := by decide +kernel
theorem d_c_ref4_19 : decode method_4_code 19 = .ok (.iconst 1, 1) := by decide +kernel
theorem d_c_ref4_20 : decode method_4_code 20 = .ok (.iaload, 1) := by decide +kernel
theorem d_c_ref4_21 : decode method_4_code 21 = .ok (.iload_n 2, 1) := by decide +kernel
theorem d_c_ref4_22 : decode method_4_code 22 = .ok (.if_icmp .ne 5, 3) := by decide +kernel
theorem d_c_ref4_25 : decode method_4_code 25 = .ok (.iconst 1, 1) := by decide +kernel
theorem d_c_ref4_26 : decode method_4_code 26 = .ok (.ireturn, 1) := by decide +kernel
theorem d_c_ref4_27 : decode method_4_code 27 = .ok (.iload_n 1, 1) := by decide +kernel
theorem d_c_ref4_28 : decode method_4_code 28 = .ok (.iconst 2, 1) := by decide +kernel
theorem d_c_ref4_29 : decode method_4_code 29 = .ok (.if_icmp .le 12, 3) := by decide +kernel
theorem d_c_ref4_32 : decode method_4_code 32 = .ok (.aload_n 0, 1) := by decide +kernel
theorem d_c_ref4_33 : decode method_4_code 33 = .ok (.iconst 2, 1) := by decide +kernel
theorem d_c_ref4_34 : decode method_4_code 34 = .ok (.iaload, 1) := by decide +kernel
theorem d_c_ref4_35 : decode method_4_code 35 = .ok (.iload_n 2, 1) := by decide +kernel
theorem d_c_ref4_36 : decode method_4_code 36 = .ok (.if_icmp .ne 5, 3) := by decide +kernel
theorem d_c_ref4_39 : decode method_4_code 39 = .ok (.iconst 2, 1) := by decide +kernel
theorem d_c_ref4_40 : decode method_4_code 40 = .ok (.ireturn, 1) := by decide +kernel
theorem d_c_ref4_41 : decode method_4_code 41 = .ok (.iload_n 1, 1) := by decide +kernel
theorem d_c_ref4_42 : decode method_4_code 42 = .ok (.iconst 3, 1) := by decide +kernel
theorem d_c_ref4_43 : decode method_4_code 43 = .ok (.if_icmp .le 12, 3) := by decide +kernel
theorem d_c_ref4_46 : decode method_4_code 46 = .ok (.aload_n 0, 1) := by decide +kernel
theorem d_c_ref4_47 : decode method_4_code 47 = .ok (.iconst 3, 1) := by decide +kernel
theorem d_c_ref4_48 : decode method_4_code 48 = .ok (.iaload, 1) := by decide +kernel
theorem d_c_ref4_49 : decode method_4_code 49 = .ok (.iload_n 2, 1) := by decide +kernel
theorem d_c_ref4_50 : decode method_4_code 50 = .ok (.if_icmp .ne 5, 3) := by decide +kernel
theorem d_c_ref4_53 : decode method_4_code 53 = .ok (.iconst 3, 1) := by decide +kernel
theorem d_c_ref4_54 : decode method_4_code 54 = .ok (.ireturn, 1) := by decide +kernel
theorem d_c_ref4_55 : decode method_4_code 55 = .ok (.iload_n 1, 1) := by decide +kernel
theorem d_c_ref4_56 : decode method_4_code 56 = .ok (.iconst 4, 1) := by decide +kernel
theorem d_c_ref4_57 : decode method_4_code 57 = .ok (.if_icmp .le 12, 3) := by decide +kernel
theorem d_c_ref4_69 : decode method_4_code 69 = .ok (.iload_n 1, 1) := by decide +kernel
theorem d_c_ref4_70 : decode method_4_code 70 = .ok (.iconst 5, 1) := by decide +kernel
theorem d_c_ref4_71 : decode method_4_code 71 = .ok (.if_icmp .le 12, 3) := by decide +kernel
theorem d_c_ref4_83 : decode method_4_code 83 = .ok (.iconst (-1), 1) := by decide +kernel
theorem d_c_ref4_84 : decode method_4_code 84 = .ok (.ireturn, 1) := by decide +kernel
set_option maxRecDepth 65536 in
set_option maxHeartbeats 40000000 in
theorem c_ref4 (l : Launch) (Z : State) (a0 : Array Value) (hw : ∀ d ∈ tables_1, d.before a0 Z = true) {B : Nat} (b : Addr) (s0 s1 s2 s3 q : Int32) :
    Con l Z FM B (⟨"com/example/traverso/traverso/graph/LabelsFirstPinLaw", "reference", "([III)I"⟩ : MethodName) method_4_code 3 (some .int) ({ frames := 0, cells := 0, slots := 0, locals := 0 } : Room) [] #[.ref b, .int (4 : Int32), .int q] [(b, (.array .int), [.int s0, .int s1, .int s2, .int s3])] (fun v os => v = some (.int (rf4 s0 s1 s2 s3 q)) ∧ os = [(b, (.array .int), [.int s0, .int s1, .int s2, .int s3])]) := by
  refine Con.of (plainFor_of_name (by first | (simp [plainName, overriddenIn]; done) | decide +kernel)) (ls := #[.val (.ref b), .val (.int (4 : Int32)), .val (.int q)]) (fun m => by first | (simp [entryFrame, mkF, argsToLocals, Value.category]; done) | rfl) ?_
  intro p_ e_ h_ s_ m_ bl_ me_ c_ T0 W0
  refine g_iload_n (pc := 0) W0 d_c_ref4_0 rfl ?_
  refine g_ifN (pc := 1) W0 d_c_ref4_1 (by decide) ?_
  refine g_aload_n (pc := 4) W0 d_c_ref4_4 rfl rfl ?_
  refine g_iconst (pc := 5) (0 : Int32) (by decide) W0 d_c_ref4_5 ?_
  refine g_iaload (pc := 6) (i := 0) (v := .int s0) W0 rfl (by decide) rfl d_c_ref4_6 ?_
  refine g_iload_n (pc := 7) W0 d_c_ref4_7 rfl ?_
  refine g_icmp_ne 13 (pc := 8) W0 d_c_ref4_8 (by decide) (by decide) (fun c1 => ?_) (fun c1 => ?_)
  · refine g_iload_n (pc := 13) W0 d_c_ref4_13 rfl ?_
    refine g_iconst (pc := 14) (1 : Int32) (by decide) W0 d_c_ref4_14 ?_
    refine g_icmpN (pc := 15) W0 d_c_ref4_15 (by decide) ?_
    refine g_aload_n (pc := 18) W0 d_c_ref4_18 rfl rfl ?_
    refine g_iconst (pc := 19) (1 : Int32) (by decide) W0 d_c_ref4_19 ?_
    refine g_iaload (pc := 20) (i := 0) (v := .int s1) W0 rfl (by decide) rfl d_c_ref4_20 ?_
    refine g_iload_n (pc := 21) W0 d_c_ref4_21 rfl ?_
    refine g_icmp_ne 27 (pc := 22) W0 d_c_ref4_22 (by decide) (by decide) (fun c2 => ?_) (fun c2 => ?_)
    · refine g_iload_n (pc := 27) W0 d_c_ref4_27 rfl ?_
      refine g_iconst (pc := 28) (2 : Int32) (by decide) W0 d_c_ref4_28 ?_
      refine g_icmpN (pc := 29) W0 d_c_ref4_29 (by decide) ?_
      refine g_aload_n (pc := 32) W0 d_c_ref4_32 rfl rfl ?_
      refine g_iconst (pc := 33) (2 : Int32) (by decide) W0 d_c_ref4_33 ?_
      refine g_iaload (pc := 34) (i := 0) (v := .int s2) W0 rfl (by decide) rfl d_c_ref4_34 ?_
      refine g_iload_n (pc := 35) W0 d_c_ref4_35 rfl ?_
      refine g_icmp_ne 41 (pc := 36) W0 d_c_ref4_36 (by decide) (by decide) (fun c3 => ?_) (fun c3 => ?_)
      · refine g_iload_n (pc := 41) W0 d_c_ref4_41 rfl ?_
        refine g_iconst (pc := 42) (3 : Int32) (by decide) W0 d_c_ref4_42 ?_
        refine g_icmpN (pc := 43) W0 d_c_ref4_43 (by decide) ?_
        refine g_aload_n (pc := 46) W0 d_c_ref4_46 rfl rfl ?_
        refine g_iconst (pc := 47) (3 : Int32) (by decide) W0 d_c_ref4_47 ?_
        refine g_iaload (pc := 48) (i := 0) (v := .int s3) W0 rfl (by decide) rfl d_c_ref4_48 ?_
        refine g_iload_n (pc := 49) W0 d_c_ref4_49 rfl ?_
        refine g_icmp_ne 55 (pc := 50) W0 d_c_ref4_50 (by decide) (by decide) (fun c4 => ?_) (fun c4 => ?_)
        · refine g_iload_n (pc := 55) W0 d_c_ref4_55 rfl ?_
          refine g_iconst (pc := 56) (4 : Int32) (by decide) W0 d_c_ref4_56 ?_
          refine g_icmpY 69 (pc := 57) W0 d_c_ref4_57 (by decide) (by decide) (by decide) ?_
          refine g_iload_n (pc := 69) W0 d_c_ref4_69 rfl ?_
          refine g_iconst (pc := 70) (5 : Int32) (by decide) W0 d_c_ref4_70 ?_
          refine g_icmpY 83 (pc := 71) W0 d_c_ref4_71 (by decide) (by decide) (by decide) ?_
          refine g_iconst (pc := 83) (-1 : Int32) (by decide) W0 d_c_ref4_83 ?_
          exact g_ireturn (pc := 84) rfl W0 d_c_ref4_84 (by decide) (by decide) ⟨by simp only [rf4, if_neg c1, if_neg c2, if_neg c3, if_neg c4], rfl⟩
        · refine g_iconst (pc := 53) (3 : Int32) (by decide) W0 d_c_ref4_53 ?_
          exact g_ireturn (pc := 54) rfl W0 d_c_ref4_54 (by decide) (by decide) ⟨by simp only [rf4, if_neg c1, if_neg c2, if_neg c3, if_pos c4], rfl⟩
      · refine g_iconst (pc := 39) (2 : Int32) (by decide) W0 d_c_ref4_39 ?_
        exact g_ireturn (pc := 40) rfl W0 d_c_ref4_40 (by decide) (by decide) ⟨by simp only [rf4, if_neg c1, if_neg c2, if_pos c3], rfl⟩
    · refine g_iconst (pc := 25) (1 : Int32) (by decide) W0 d_c_ref4_25 ?_
      exact g_ireturn (pc := 26) rfl W0 d_c_ref4_26 (by decide) (by decide) ⟨by simp only [rf4, if_neg c1, if_pos c2], rfl⟩
  · refine g_iconst (pc := 11) (0 : Int32) (by decide) W0 d_c_ref4_11 ?_
    exact g_ireturn (pc := 12) rfl W0 d_c_ref4_12 (by decide) (by decide) ⟨by simp only [rf4, if_pos c1], rfl⟩
theorem d_c_fst4_0 : decode prog_29_method_5_code 0 = .ok (.iconst 0, 1) := by decide +kernel
theorem d_c_fst4_1 : decode prog_29_method_5_code 1 = .ok (.istore_n 2, 1) := by decide +kernel
theorem d_c_fst4_2 : decode prog_29_method_5_code 2 = .ok (.aload_n 0, 1) := by decide +kernel
theorem d_c_fst4_3 : decode prog_29_method_5_code 3 = .ok (.getfield 7, 3) := by decide +kernel
theorem d_c_fst4_6 : decode prog_29_method_5_code 6 = .ok (.arraylength, 1) := by decide +kernel
theorem d_c_fst4_7 : decode prog_29_method_5_code 7 = .ok (.istore_n 3, 1) := by decide +kernel
theorem d_c_fst4_8 : decode prog_29_method_5_code 8 = .ok (.iload_n 2, 1) := by decide +kernel
theorem d_c_fst4_9 : decode prog_29_method_5_code 9 = .ok (.iload_n 3, 1) := by decide +kernel
theorem d_c_fst4_10 : decode prog_29_method_5_code 10 = .ok (.if_icmp .ge 35, 3) := by decide +kernel
theorem d_c_fst4_13 : decode prog_29_method_5_code 13 = .ok (.iload_n 2, 1) := by decide +kernel
theorem d_c_fst4_14 : decode prog_29_method_5_code 14 = .ok (.iload_n 3, 1) := by decide +kernel
theorem d_c_fst4_15 : decode prog_29_method_5_code 15 = .ok (.iadd, 1) := by decide +kernel
theorem d_c_fst4_16 : decode prog_29_method_5_code 16 = .ok (.iconst 1, 1) := by decide +kernel
theorem d_c_fst4_17 : decode prog_29_method_5_code 17 = .ok (.iushr, 1) := by decide +kernel
theorem d_c_fst4_18 : decode prog_29_method_5_code 18 = .ok (.istore 4, 2) := by decide +kernel
theorem d_c_fst4_20 : decode prog_29_method_5_code 20 = .ok (.aload_n 0, 1) := by decide +kernel
theorem d_c_fst4_21 : decode prog_29_method_5_code 21 = .ok (.getfield 7, 3) := by decide +kernel
theorem d_c_fst4_24 : decode prog_29_method_5_code 24 = .ok (.iload 4, 2) := by decide +kernel
theorem d_c_fst4_26 : decode prog_29_method_5_code 26 = .ok (.iaload, 1) := by decide +kernel
theorem d_c_fst4_27 : decode prog_29_method_5_code 27 = .ok (.iload_n 1, 1) := by decide +kernel
theorem d_c_fst4_28 : decode prog_29_method_5_code 28 = .ok (.if_icmp .ge 11, 3) := by decide +kernel
theorem d_c_fst4_31 : decode prog_29_method_5_code 31 = .ok (.iload 4, 2) := by decide +kernel
theorem d_c_fst4_33 : decode prog_29_method_5_code 33 = .ok (.iconst 1, 1) := by decide +kernel
theorem d_c_fst4_34 : decode prog_29_method_5_code 34 = .ok (.iadd, 1) := by decide +kernel
theorem d_c_fst4_35 : decode prog_29_method_5_code 35 = .ok (.istore_n 2, 1) := by decide +kernel
theorem d_c_fst4_36 : decode prog_29_method_5_code 36 = .ok (.goto 6, 3) := by decide +kernel
theorem d_c_fst4_39 : decode prog_29_method_5_code 39 = .ok (.iload 4, 2) := by decide +kernel
theorem d_c_fst4_41 : decode prog_29_method_5_code 41 = .ok (.istore_n 3, 1) := by decide +kernel
theorem d_c_fst4_42 : decode prog_29_method_5_code 42 = .ok (.goto (-34), 3) := by decide +kernel
theorem d_c_fst4_45 : decode prog_29_method_5_code 45 = .ok (.iload_n 2, 1) := by decide +kernel
theorem d_c_fst4_46 : decode prog_29_method_5_code 46 = .ok (.aload_n 0, 1) := by decide +kernel
theorem d_c_fst4_47 : decode prog_29_method_5_code 47 = .ok (.getfield 7, 3) := by decide +kernel
theorem d_c_fst4_50 : decode prog_29_method_5_code 50 = .ok (.arraylength, 1) := by decide +kernel
theorem d_c_fst4_51 : decode prog_29_method_5_code 51 = .ok (.if_icmp .ge 17, 3) := by decide +kernel
theorem d_c_fst4_54 : decode prog_29_method_5_code 54 = .ok (.aload_n 0, 1) := by decide +kernel
theorem d_c_fst4_55 : decode prog_29_method_5_code 55 = .ok (.getfield 7, 3) := by decide +kernel
theorem d_c_fst4_58 : decode prog_29_method_5_code 58 = .ok (.iload_n 2, 1) := by decide +kernel
theorem d_c_fst4_59 : decode prog_29_method_5_code 59 = .ok (.iaload, 1) := by decide +kernel
theorem d_c_fst4_60 : decode prog_29_method_5_code 60 = .ok (.iload_n 1, 1) := by decide +kernel
theorem d_c_fst4_61 : decode prog_29_method_5_code 61 = .ok (.if_icmp .ne 7, 3) := by decide +kernel
theorem d_c_fst4_64 : decode prog_29_method_5_code 64 = .ok (.iload_n 2, 1) := by decide +kernel
theorem d_c_fst4_65 : decode prog_29_method_5_code 65 = .ok (.goto 4, 3) := by decide +kernel
theorem d_c_fst4_68 : decode prog_29_method_5_code 68 = .ok (.iconst (-1), 1) := by decide +kernel
theorem d_c_fst4_69 : decode prog_29_method_5_code 69 = .ok (.ireturn, 1) := by decide +kernel
set_option maxRecDepth 65536 in
set_option maxHeartbeats 40000000 in
theorem c_fst4 (l : Launch) (Z : State) (a0 : Array Value) (hw : ∀ d ∈ tables_1, d.before a0 Z = true) {B : Nat} (a b c : Addr) (s0 s1 s2 s3 q : Int32) (h0 : s0.toInt ≤ s1.toInt) (h1 : s1.toInt ≤ s2.toInt) (h2 : s2.toInt ≤ s3.toInt) :
    Con l Z FM B (⟨"com/example/traverso/traverso/graph/Labels", "first", "(I)I"⟩ : MethodName) prog_29_method_5_code 5 (some .int) ({ frames := 0, cells := 0, slots := 0, locals := 0 } : Room) [] #[.ref a, .int q] [(a, (.object "com/example/traverso/traverso/graph/Labels"), [.ref b, .ref c]), (b, (.array .int), [.int s0, .int s1, .int s2, .int s3])] (fun v os => v = some (.int (rf4 s0 s1 s2 s3 q)) ∧ os = [(a, (.object "com/example/traverso/traverso/graph/Labels"), [.ref b, .ref c]), (b, (.array .int), [.int s0, .int s1, .int s2, .int s3])]) := by
  refine Con.of (plainFor_of_name (by first | (simp [plainName, overriddenIn]; done) | decide +kernel)) (ls := #[.val (.ref a), .val (.int q), .unset, .unset, .unset]) (fun m => by first | (simp [entryFrame, mkF, argsToLocals, Value.category]; done) | rfl) ?_
  intro p_ e_ h_ s_ m_ bl_ me_ c_ T0 W0
  refine g_iconst (pc := 0) (0 : Int32) (by decide) W0 d_c_fst4_0 ?_
  refine g_istore_n (pc := 1) (ls' := #[.val (.ref a), .val (.int q), .val (.int (0 : Int32)), .unset, .unset]) W0 d_c_fst4_1 rfl ?_
  refine g_aload_n (pc := 2) W0 d_c_fst4_2 rfl rfl ?_
  refine g_getfield (pc := 3) (i := 0) (j := 0) (host := "") W0 (Or.inl (hw _ (List.mem_of_getElem? (i := 16) rfl))) rfl rfl rfl d_c_fst4_3 (fun T1 W2 => ?_)
  refine g_arraylength (pc := 6) (i := 1) (4 : Int32) W2 rfl rfl d_c_fst4_6 ?_
  refine g_istore_n (pc := 7) (ls' := #[.val (.ref a), .val (.int q), .val (.int (0 : Int32)), .val (.int (4 : Int32)), .unset]) W2 d_c_fst4_7 rfl ?_
  refine g_iload_n (pc := 8) W2 d_c_fst4_8 rfl ?_
  refine g_iload_n (pc := 9) W2 d_c_fst4_9 rfl ?_
  refine g_icmpN (pc := 10) W2 d_c_fst4_10 (by decide) ?_
  refine g_iload_n (pc := 13) W2 d_c_fst4_13 rfl ?_
  refine g_iload_n (pc := 14) W2 d_c_fst4_14 rfl ?_
  refine g_iadd (pc := 15) W2 d_c_fst4_15 ?_
  show Go p_ e_ bl_ _ (T1.setTop (mkF m_ 16 #[.val (.ref a), .val (.int q), .val (.int (0 : Int32)), .val (.int (4 : Int32)), .unset] [.int (4 : Int32)]))
  refine g_iconst (pc := 16) (1 : Int32) (by decide) W2 d_c_fst4_16 ?_
  refine g_iushr (pc := 17) W2 d_c_fst4_17 ?_
  show Go p_ e_ bl_ _ (T1.setTop (mkF m_ 18 #[.val (.ref a), .val (.int q), .val (.int (0 : Int32)), .val (.int (4 : Int32)), .unset] [.int (2 : Int32)]))
  refine g_istore (pc := 18) (ls' := #[.val (.ref a), .val (.int q), .val (.int (0 : Int32)), .val (.int (4 : Int32)), .val (.int (2 : Int32))]) W2 d_c_fst4_18 rfl ?_
  refine g_aload_n (pc := 20) W2 d_c_fst4_20 rfl rfl ?_
  refine g_getfield (pc := 21) (i := 0) (j := 0) (host := "") W2 (Or.inl (hw _ (List.mem_of_getElem? (i := 16) rfl))) rfl rfl rfl d_c_fst4_21 (fun T3 W4 => ?_)
  refine g_iload (pc := 24) W4 d_c_fst4_24 rfl ?_
  refine g_iaload (pc := 26) (i := 1) (v := .int s2) W4 rfl (by decide) rfl d_c_fst4_26 ?_
  refine g_iload_n (pc := 27) W4 d_c_fst4_27 rfl ?_
  refine g_icmp_ge 39 (pc := 28) W4 d_c_fst4_28 (by decide) (by decide) (fun c5 => ?_) (fun c5 => ?_)
  · refine g_iload (pc := 39) W4 d_c_fst4_39 rfl ?_
    refine g_istore_n (pc := 41) (ls' := #[.val (.ref a), .val (.int q), .val (.int (0 : Int32)), .val (.int (2 : Int32)), .val (.int (2 : Int32))]) W4 d_c_fst4_41 rfl ?_
    refine g_goto 8 (pc := 42) W4 d_c_fst4_42 (by decide) (by decide) ?_
    refine g_iload_n (pc := 8) W4 d_c_fst4_8 rfl ?_
    refine g_iload_n (pc := 9) W4 d_c_fst4_9 rfl ?_
    refine g_icmpN (pc := 10) W4 d_c_fst4_10 (by decide) ?_
    refine g_iload_n (pc := 13) W4 d_c_fst4_13 rfl ?_
    refine g_iload_n (pc := 14) W4 d_c_fst4_14 rfl ?_
    refine g_iadd (pc := 15) W4 d_c_fst4_15 ?_
    show Go p_ e_ bl_ _ (T3.setTop (mkF m_ 16 #[.val (.ref a), .val (.int q), .val (.int (0 : Int32)), .val (.int (2 : Int32)), .val (.int (2 : Int32))] [.int (2 : Int32)]))
    refine g_iconst (pc := 16) (1 : Int32) (by decide) W4 d_c_fst4_16 ?_
    refine g_iushr (pc := 17) W4 d_c_fst4_17 ?_
    show Go p_ e_ bl_ _ (T3.setTop (mkF m_ 18 #[.val (.ref a), .val (.int q), .val (.int (0 : Int32)), .val (.int (2 : Int32)), .val (.int (2 : Int32))] [.int (1 : Int32)]))
    refine g_istore (pc := 18) (ls' := #[.val (.ref a), .val (.int q), .val (.int (0 : Int32)), .val (.int (2 : Int32)), .val (.int (1 : Int32))]) W4 d_c_fst4_18 rfl ?_
    refine g_aload_n (pc := 20) W4 d_c_fst4_20 rfl rfl ?_
    refine g_getfield (pc := 21) (i := 0) (j := 0) (host := "") W4 (Or.inl (hw _ (List.mem_of_getElem? (i := 16) rfl))) rfl rfl rfl d_c_fst4_21 (fun T6 W7 => ?_)
    refine g_iload (pc := 24) W7 d_c_fst4_24 rfl ?_
    refine g_iaload (pc := 26) (i := 1) (v := .int s1) W7 rfl (by decide) rfl d_c_fst4_26 ?_
    refine g_iload_n (pc := 27) W7 d_c_fst4_27 rfl ?_
    refine g_icmp_ge 39 (pc := 28) W7 d_c_fst4_28 (by decide) (by decide) (fun c8 => ?_) (fun c8 => ?_)
    · refine g_iload (pc := 39) W7 d_c_fst4_39 rfl ?_
      refine g_istore_n (pc := 41) (ls' := #[.val (.ref a), .val (.int q), .val (.int (0 : Int32)), .val (.int (1 : Int32)), .val (.int (1 : Int32))]) W7 d_c_fst4_41 rfl ?_
      refine g_goto 8 (pc := 42) W7 d_c_fst4_42 (by decide) (by decide) ?_
      refine g_iload_n (pc := 8) W7 d_c_fst4_8 rfl ?_
      refine g_iload_n (pc := 9) W7 d_c_fst4_9 rfl ?_
      refine g_icmpN (pc := 10) W7 d_c_fst4_10 (by decide) ?_
      refine g_iload_n (pc := 13) W7 d_c_fst4_13 rfl ?_
      refine g_iload_n (pc := 14) W7 d_c_fst4_14 rfl ?_
      refine g_iadd (pc := 15) W7 d_c_fst4_15 ?_
      show Go p_ e_ bl_ _ (T6.setTop (mkF m_ 16 #[.val (.ref a), .val (.int q), .val (.int (0 : Int32)), .val (.int (1 : Int32)), .val (.int (1 : Int32))] [.int (1 : Int32)]))
      refine g_iconst (pc := 16) (1 : Int32) (by decide) W7 d_c_fst4_16 ?_
      refine g_iushr (pc := 17) W7 d_c_fst4_17 ?_
      show Go p_ e_ bl_ _ (T6.setTop (mkF m_ 18 #[.val (.ref a), .val (.int q), .val (.int (0 : Int32)), .val (.int (1 : Int32)), .val (.int (1 : Int32))] [.int (0 : Int32)]))
      refine g_istore (pc := 18) (ls' := #[.val (.ref a), .val (.int q), .val (.int (0 : Int32)), .val (.int (1 : Int32)), .val (.int (0 : Int32))]) W7 d_c_fst4_18 rfl ?_
      refine g_aload_n (pc := 20) W7 d_c_fst4_20 rfl rfl ?_
      refine g_getfield (pc := 21) (i := 0) (j := 0) (host := "") W7 (Or.inl (hw _ (List.mem_of_getElem? (i := 16) rfl))) rfl rfl rfl d_c_fst4_21 (fun T9 W10 => ?_)
      refine g_iload (pc := 24) W10 d_c_fst4_24 rfl ?_
      refine g_iaload (pc := 26) (i := 1) (v := .int s0) W10 rfl (by decide) rfl d_c_fst4_26 ?_
      refine g_iload_n (pc := 27) W10 d_c_fst4_27 rfl ?_
      refine g_icmp_ge 39 (pc := 28) W10 d_c_fst4_28 (by decide) (by decide) (fun c11 => ?_) (fun c11 => ?_)
      · refine g_iload (pc := 39) W10 d_c_fst4_39 rfl ?_
        refine g_istore_n (pc := 41) (ls' := #[.val (.ref a), .val (.int q), .val (.int (0 : Int32)), .val (.int (0 : Int32)), .val (.int (0 : Int32))]) W10 d_c_fst4_41 rfl ?_
        refine g_goto 8 (pc := 42) W10 d_c_fst4_42 (by decide) (by decide) ?_
        refine g_iload_n (pc := 8) W10 d_c_fst4_8 rfl ?_
        refine g_iload_n (pc := 9) W10 d_c_fst4_9 rfl ?_
        refine g_icmpY 45 (pc := 10) W10 d_c_fst4_10 (by decide) (by decide) (by decide) ?_
        refine g_iload_n (pc := 45) W10 d_c_fst4_45 rfl ?_
        refine g_aload_n (pc := 46) W10 d_c_fst4_46 rfl rfl ?_
        refine g_getfield (pc := 47) (i := 0) (j := 0) (host := "") W10 (Or.inl (hw _ (List.mem_of_getElem? (i := 16) rfl))) rfl rfl rfl d_c_fst4_47 (fun T12 W13 => ?_)
        refine g_arraylength (pc := 50) (i := 1) (4 : Int32) W13 rfl rfl d_c_fst4_50 ?_
        refine g_icmpN (pc := 51) W13 d_c_fst4_51 (by decide) ?_
        refine g_aload_n (pc := 54) W13 d_c_fst4_54 rfl rfl ?_
        refine g_getfield (pc := 55) (i := 0) (j := 0) (host := "") W13 (Or.inl (hw _ (List.mem_of_getElem? (i := 16) rfl))) rfl rfl rfl d_c_fst4_55 (fun T14 W15 => ?_)
        refine g_iload_n (pc := 58) W15 d_c_fst4_58 rfl ?_
        refine g_iaload (pc := 59) (i := 1) (v := .int s0) W15 rfl (by decide) rfl d_c_fst4_59 ?_
        refine g_iload_n (pc := 60) W15 d_c_fst4_60 rfl ?_
        refine g_icmp_ne 68 (pc := 61) W15 d_c_fst4_61 (by decide) (by decide) (fun c16 => ?_) (fun c16 => ?_)
        · refine g_iconst (pc := 68) (-1 : Int32) (by decide) W15 d_c_fst4_68 ?_
          exact g_ireturn (pc := 69) rfl W15 d_c_fst4_69 (by decide) (by decide) ⟨by simp only [Int32.lt_iff_toInt_lt, ← Int32.toInt_inj] at c5 c8 c11 c16; have e : rf4 s0 s1 s2 s3 q = (-1 : Int32) := (by simp only [rf4, ← Int32.toInt_inj]; (repeat' split) <;> first | rfl | (exfalso; omega)); rw [e], rfl⟩
        · refine g_iload_n (pc := 64) W15 d_c_fst4_64 rfl ?_
          refine g_goto 69 (pc := 65) W15 d_c_fst4_65 (by decide) (by decide) ?_
          exact g_ireturn (pc := 69) rfl W15 d_c_fst4_69 (by decide) (by decide) ⟨by simp only [Int32.lt_iff_toInt_lt, ← Int32.toInt_inj] at c5 c8 c11 c16; have e : rf4 s0 s1 s2 s3 q = (0 : Int32) := (by simp only [rf4, ← Int32.toInt_inj]; (repeat' split) <;> first | rfl | (exfalso; omega)); rw [e], rfl⟩
      · refine g_iload (pc := 31) W10 d_c_fst4_31 rfl ?_
        refine g_iconst (pc := 33) (1 : Int32) (by decide) W10 d_c_fst4_33 ?_
        refine g_iadd (pc := 34) W10 d_c_fst4_34 ?_
        show Go p_ e_ bl_ _ (T9.setTop (mkF m_ 35 #[.val (.ref a), .val (.int q), .val (.int (0 : Int32)), .val (.int (1 : Int32)), .val (.int (0 : Int32))] [.int (1 : Int32)]))
        refine g_istore_n (pc := 35) (ls' := #[.val (.ref a), .val (.int q), .val (.int (1 : Int32)), .val (.int (1 : Int32)), .val (.int (0 : Int32))]) W10 d_c_fst4_35 rfl ?_
        refine g_goto 42 (pc := 36) W10 d_c_fst4_36 (by decide) (by decide) ?_
        refine g_goto 8 (pc := 42) W10 d_c_fst4_42 (by decide) (by decide) ?_
        refine g_iload_n (pc := 8) W10 d_c_fst4_8 rfl ?_
        refine g_iload_n (pc := 9) W10 d_c_fst4_9 rfl ?_
        refine g_icmpY 45 (pc := 10) W10 d_c_fst4_10 (by decide) (by decide) (by decide) ?_
        refine g_iload_n (pc := 45) W10 d_c_fst4_45 rfl ?_
        refine g_aload_n (pc := 46) W10 d_c_fst4_46 rfl rfl ?_
        refine g_getfield (pc := 47) (i := 0) (j := 0) (host := "") W10 (Or.inl (hw _ (List.mem_of_getElem? (i := 16) rfl))) rfl rfl rfl d_c_fst4_47 (fun T17 W18 => ?_)
        refine g_arraylength (pc := 50) (i := 1) (4 : Int32) W18 rfl rfl d_c_fst4_50 ?_
        refine g_icmpN (pc := 51) W18 d_c_fst4_51 (by decide) ?_
        refine g_aload_n (pc := 54) W18 d_c_fst4_54 rfl rfl ?_
        refine g_getfield (pc := 55) (i := 0) (j := 0) (host := "") W18 (Or.inl (hw _ (List.mem_of_getElem? (i := 16) rfl))) rfl rfl rfl d_c_fst4_55 (fun T19 W20 => ?_)
        refine g_iload_n (pc := 58) W20 d_c_fst4_58 rfl ?_
        refine g_iaload (pc := 59) (i := 1) (v := .int s1) W20 rfl (by decide) rfl d_c_fst4_59 ?_
        refine g_iload_n (pc := 60) W20 d_c_fst4_60 rfl ?_
        refine g_icmp_ne 68 (pc := 61) W20 d_c_fst4_61 (by decide) (by decide) (fun c21 => ?_) (fun c21 => ?_)
        · refine g_iconst (pc := 68) (-1 : Int32) (by decide) W20 d_c_fst4_68 ?_
          exact g_ireturn (pc := 69) rfl W20 d_c_fst4_69 (by decide) (by decide) ⟨by simp only [Int32.lt_iff_toInt_lt, ← Int32.toInt_inj] at c5 c8 c11 c21; have e : rf4 s0 s1 s2 s3 q = (-1 : Int32) := (by simp only [rf4, ← Int32.toInt_inj]; (repeat' split) <;> first | rfl | (exfalso; omega)); rw [e], rfl⟩
        · refine g_iload_n (pc := 64) W20 d_c_fst4_64 rfl ?_
          refine g_goto 69 (pc := 65) W20 d_c_fst4_65 (by decide) (by decide) ?_
          exact g_ireturn (pc := 69) rfl W20 d_c_fst4_69 (by decide) (by decide) ⟨by simp only [Int32.lt_iff_toInt_lt, ← Int32.toInt_inj] at c5 c8 c11 c21; have e : rf4 s0 s1 s2 s3 q = (1 : Int32) := (by simp only [rf4, ← Int32.toInt_inj]; (repeat' split) <;> first | rfl | (exfalso; omega)); rw [e], rfl⟩
    · refine g_iload (pc := 31) W7 d_c_fst4_31 rfl ?_
      refine g_iconst (pc := 33) (1 : Int32) (by decide) W7 d_c_fst4_33 ?_
      refine g_iadd (pc := 34) W7 d_c_fst4_34 ?_
      show Go p_ e_ bl_ _ (T6.setTop (mkF m_ 35 #[.val (.ref a), .val (.int q), .val (.int (0 : Int32)), .val (.int (2 : Int32)), .val (.int (1 : Int32))] [.int (2 : Int32)]))
      refine g_istore_n (pc := 35) (ls' := #[.val (.ref a), .val (.int q), .val (.int (2 : Int32)), .val (.int (2 : Int32)), .val (.int (1 : Int32))]) W7 d_c_fst4_35 rfl ?_
      refine g_goto 42 (pc := 36) W7 d_c_fst4_36 (by decide) (by decide) ?_
      refine g_goto 8 (pc := 42) W7 d_c_fst4_42 (by decide) (by decide) ?_
      refine g_iload_n (pc := 8) W7 d_c_fst4_8 rfl ?_
      refine g_iload_n (pc := 9) W7 d_c_fst4_9 rfl ?_
      refine g_icmpY 45 (pc := 10) W7 d_c_fst4_10 (by decide) (by decide) (by decide) ?_
      refine g_iload_n (pc := 45) W7 d_c_fst4_45 rfl ?_
      refine g_aload_n (pc := 46) W7 d_c_fst4_46 rfl rfl ?_
      refine g_getfield (pc := 47) (i := 0) (j := 0) (host := "") W7 (Or.inl (hw _ (List.mem_of_getElem? (i := 16) rfl))) rfl rfl rfl d_c_fst4_47 (fun T22 W23 => ?_)
      refine g_arraylength (pc := 50) (i := 1) (4 : Int32) W23 rfl rfl d_c_fst4_50 ?_
      refine g_icmpN (pc := 51) W23 d_c_fst4_51 (by decide) ?_
      refine g_aload_n (pc := 54) W23 d_c_fst4_54 rfl rfl ?_
      refine g_getfield (pc := 55) (i := 0) (j := 0) (host := "") W23 (Or.inl (hw _ (List.mem_of_getElem? (i := 16) rfl))) rfl rfl rfl d_c_fst4_55 (fun T24 W25 => ?_)
      refine g_iload_n (pc := 58) W25 d_c_fst4_58 rfl ?_
      refine g_iaload (pc := 59) (i := 1) (v := .int s2) W25 rfl (by decide) rfl d_c_fst4_59 ?_
      refine g_iload_n (pc := 60) W25 d_c_fst4_60 rfl ?_
      refine g_icmp_ne 68 (pc := 61) W25 d_c_fst4_61 (by decide) (by decide) (fun c26 => ?_) (fun c26 => ?_)
      · refine g_iconst (pc := 68) (-1 : Int32) (by decide) W25 d_c_fst4_68 ?_
        exact g_ireturn (pc := 69) rfl W25 d_c_fst4_69 (by decide) (by decide) ⟨by simp only [Int32.lt_iff_toInt_lt, ← Int32.toInt_inj] at c5 c8 c26; have e : rf4 s0 s1 s2 s3 q = (-1 : Int32) := (by simp only [rf4, ← Int32.toInt_inj]; (repeat' split) <;> first | rfl | (exfalso; omega)); rw [e], rfl⟩
      · refine g_iload_n (pc := 64) W25 d_c_fst4_64 rfl ?_
        refine g_goto 69 (pc := 65) W25 d_c_fst4_65 (by decide) (by decide) ?_
        exact g_ireturn (pc := 69) rfl W25 d_c_fst4_69 (by decide) (by decide) ⟨by simp only [Int32.lt_iff_toInt_lt, ← Int32.toInt_inj] at c5 c8 c26; have e : rf4 s0 s1 s2 s3 q = (2 : Int32) := (by simp only [rf4, ← Int32.toInt_inj]; (repeat' split) <;> first | rfl | (exfalso; omega)); rw [e], rfl⟩
  · refine g_iload (pc := 31) W4 d_c_fst4_31 rfl ?_
    refine g_iconst (pc := 33) (1 : Int32) (by decide) W4 d_c_fst4_33 ?_
    refine g_iadd (pc := 34) W4 d_c_fst4_34 ?_
    show Go p_ e_ bl_ _ (T3.setTop (mkF m_ 35 #[.val (.ref a), .val (.int q), .val (.int (0 : Int32)), .val (.int (4 : Int32)), .val (.int (2 : Int32))] [.int (3 : Int32)]))
    refine g_istore_n (pc := 35) (ls' := #[.val (.ref a), .val (.int q), .val (.int (3 : Int32)), .val (.int (4 : Int32)), .val (.int (2 : Int32))]) W4 d_c_fst4_35 rfl ?_
    refine g_goto 42 (pc := 36) W4 d_c_fst4_36 (by decide) (by decide) ?_
    refine g_goto 8 (pc := 42) W4 d_c_fst4_42 (by decide) (by decide) ?_
    refine g_iload_n (pc := 8) W4 d_c_fst4_8 rfl ?_
    refine g_iload_n (pc := 9) W4 d_c_fst4_9 rfl ?_
    refine g_icmpN (pc := 10) W4 d_c_fst4_10 (by decide) ?_
    refine g_iload_n (pc := 13) W4 d_c_fst4_13 rfl ?_
    refine g_iload_n (pc := 14) W4 d_c_fst4_14 rfl ?_
    refine g_iadd (pc := 15) W4 d_c_fst4_15 ?_
    show Go p_ e_ bl_ _ (T3.setTop (mkF m_ 16 #[.val (.ref a), .val (.int q), .val (.int (3 : Int32)), .val (.int (4 : Int32)), .val (.int (2 : Int32))] [.int (7 : Int32)]))
    refine g_iconst (pc := 16) (1 : Int32) (by decide) W4 d_c_fst4_16 ?_
    refine g_iushr (pc := 17) W4 d_c_fst4_17 ?_
    show Go p_ e_ bl_ _ (T3.setTop (mkF m_ 18 #[.val (.ref a), .val (.int q), .val (.int (3 : Int32)), .val (.int (4 : Int32)), .val (.int (2 : Int32))] [.int (3 : Int32)]))
    refine g_istore (pc := 18) (ls' := #[.val (.ref a), .val (.int q), .val (.int (3 : Int32)), .val (.int (4 : Int32)), .val (.int (3 : Int32))]) W4 d_c_fst4_18 rfl ?_
    refine g_aload_n (pc := 20) W4 d_c_fst4_20 rfl rfl ?_
    refine g_getfield (pc := 21) (i := 0) (j := 0) (host := "") W4 (Or.inl (hw _ (List.mem_of_getElem? (i := 16) rfl))) rfl rfl rfl d_c_fst4_21 (fun T27 W28 => ?_)
    refine g_iload (pc := 24) W28 d_c_fst4_24 rfl ?_
    refine g_iaload (pc := 26) (i := 1) (v := .int s3) W28 rfl (by decide) rfl d_c_fst4_26 ?_
    refine g_iload_n (pc := 27) W28 d_c_fst4_27 rfl ?_
    refine g_icmp_ge 39 (pc := 28) W28 d_c_fst4_28 (by decide) (by decide) (fun c29 => ?_) (fun c29 => ?_)
    · refine g_iload (pc := 39) W28 d_c_fst4_39 rfl ?_
      refine g_istore_n (pc := 41) (ls' := #[.val (.ref a), .val (.int q), .val (.int (3 : Int32)), .val (.int (3 : Int32)), .val (.int (3 : Int32))]) W28 d_c_fst4_41 rfl ?_
      refine g_goto 8 (pc := 42) W28 d_c_fst4_42 (by decide) (by decide) ?_
      refine g_iload_n (pc := 8) W28 d_c_fst4_8 rfl ?_
      refine g_iload_n (pc := 9) W28 d_c_fst4_9 rfl ?_
      refine g_icmpY 45 (pc := 10) W28 d_c_fst4_10 (by decide) (by decide) (by decide) ?_
      refine g_iload_n (pc := 45) W28 d_c_fst4_45 rfl ?_
      refine g_aload_n (pc := 46) W28 d_c_fst4_46 rfl rfl ?_
      refine g_getfield (pc := 47) (i := 0) (j := 0) (host := "") W28 (Or.inl (hw _ (List.mem_of_getElem? (i := 16) rfl))) rfl rfl rfl d_c_fst4_47 (fun T30 W31 => ?_)
      refine g_arraylength (pc := 50) (i := 1) (4 : Int32) W31 rfl rfl d_c_fst4_50 ?_
      refine g_icmpN (pc := 51) W31 d_c_fst4_51 (by decide) ?_
      refine g_aload_n (pc := 54) W31 d_c_fst4_54 rfl rfl ?_
      refine g_getfield (pc := 55) (i := 0) (j := 0) (host := "") W31 (Or.inl (hw _ (List.mem_of_getElem? (i := 16) rfl))) rfl rfl rfl d_c_fst4_55 (fun T32 W33 => ?_)
      refine g_iload_n (pc := 58) W33 d_c_fst4_58 rfl ?_
      refine g_iaload (pc := 59) (i := 1) (v := .int s3) W33 rfl (by decide) rfl d_c_fst4_59 ?_
      refine g_iload_n (pc := 60) W33 d_c_fst4_60 rfl ?_
      refine g_icmp_ne 68 (pc := 61) W33 d_c_fst4_61 (by decide) (by decide) (fun c34 => ?_) (fun c34 => ?_)
      · refine g_iconst (pc := 68) (-1 : Int32) (by decide) W33 d_c_fst4_68 ?_
        exact g_ireturn (pc := 69) rfl W33 d_c_fst4_69 (by decide) (by decide) ⟨by simp only [Int32.lt_iff_toInt_lt, ← Int32.toInt_inj] at c5 c29 c34; have e : rf4 s0 s1 s2 s3 q = (-1 : Int32) := (by simp only [rf4, ← Int32.toInt_inj]; (repeat' split) <;> first | rfl | (exfalso; omega)); rw [e], rfl⟩
      · refine g_iload_n (pc := 64) W33 d_c_fst4_64 rfl ?_
        refine g_goto 69 (pc := 65) W33 d_c_fst4_65 (by decide) (by decide) ?_
        exact g_ireturn (pc := 69) rfl W33 d_c_fst4_69 (by decide) (by decide) ⟨by simp only [Int32.lt_iff_toInt_lt, ← Int32.toInt_inj] at c5 c29 c34; have e : rf4 s0 s1 s2 s3 q = (3 : Int32) := (by simp only [rf4, ← Int32.toInt_inj]; (repeat' split) <;> first | rfl | (exfalso; omega)); rw [e], rfl⟩
    · refine g_iload (pc := 31) W28 d_c_fst4_31 rfl ?_
      refine g_iconst (pc := 33) (1 : Int32) (by decide) W28 d_c_fst4_33 ?_
      refine g_iadd (pc := 34) W28 d_c_fst4_34 ?_
      show Go p_ e_ bl_ _ (T27.setTop (mkF m_ 35 #[.val (.ref a), .val (.int q), .val (.int (3 : Int32)), .val (.int (4 : Int32)), .val (.int (3 : Int32))] [.int (4 : Int32)]))
      refine g_istore_n (pc := 35) (ls' := #[.val (.ref a), .val (.int q), .val (.int (4 : Int32)), .val (.int (4 : Int32)), .val (.int (3 : Int32))]) W28 d_c_fst4_35 rfl ?_
      refine g_goto 42 (pc := 36) W28 d_c_fst4_36 (by decide) (by decide) ?_
      refine g_goto 8 (pc := 42) W28 d_c_fst4_42 (by decide) (by decide) ?_
      refine g_iload_n (pc := 8) W28 d_c_fst4_8 rfl ?_
      refine g_iload_n (pc := 9) W28 d_c_fst4_9 rfl ?_
      refine g_icmpY 45 (pc := 10) W28 d_c_fst4_10 (by decide) (by decide) (by decide) ?_
      refine g_iload_n (pc := 45) W28 d_c_fst4_45 rfl ?_
      refine g_aload_n (pc := 46) W28 d_c_fst4_46 rfl rfl ?_
      refine g_getfield (pc := 47) (i := 0) (j := 0) (host := "") W28 (Or.inl (hw _ (List.mem_of_getElem? (i := 16) rfl))) rfl rfl rfl d_c_fst4_47 (fun T35 W36 => ?_)
      refine g_arraylength (pc := 50) (i := 1) (4 : Int32) W36 rfl rfl d_c_fst4_50 ?_
      refine g_icmpY 68 (pc := 51) W36 d_c_fst4_51 (by decide) (by decide) (by decide) ?_
      refine g_iconst (pc := 68) (-1 : Int32) (by decide) W36 d_c_fst4_68 ?_
      exact g_ireturn (pc := 69) rfl W36 d_c_fst4_69 (by decide) (by decide) ⟨by simp only [Int32.lt_iff_toInt_lt, ← Int32.toInt_inj] at c5 c29; have e : rf4 s0 s1 s2 s3 q = (-1 : Int32) := (by simp only [rf4, ← Int32.toInt_inj]; (repeat' split) <;> first | rfl | (exfalso; omega)); rw [e], rfl⟩
theorem d_c_ref5_0 : decode method_4_code 0 = .ok (.iload_n 1, 1) := by decide +kernel
theorem d_c_ref5_1 : decode method_4_code 1 = .ok (.ifCond .le 12, 3) := by decide +kernel
theorem d_c_ref5_4 : decode method_4_code 4 = .ok (.aload_n 0, 1) := by decide +kernel
theorem d_c_ref5_5 : decode method_4_code 5 = .ok (.iconst 0, 1) := by decide +kernel
theorem d_c_ref5_6 : decode method_4_code 6 = .ok (.iaload, 1) := by decide +kernel
theorem d_c_ref5_7 : decode method_4_code 7 = .ok (.iload_n 2, 1) := by decide +kernel
theorem d_c_ref5_8 : decode method_4_code 8 = .ok (.if_icmp .ne 5, 3) := by decide +kernel
theorem d_c_ref5_11 : decode method_4_code 11 = .ok (.iconst 0, 1) := by decide +kernel
theorem d_c_ref5_12 : decode method_4_code 12 = .ok (.ireturn, 1) := by decide +kernel
theorem d_c_ref5_13 : decode method_4_code 13 = .ok (.iload_n 1, 1) := by decide +kernel
theorem d_c_ref5_14 : decode method_4_code 14 = .ok (.iconst 1, 1) := by decide +kernel
theorem d_c_ref5_15 : decode method_4_code 15 = .ok (.if_icmp .le 12, 3) := by decide +kernel
theorem d_c_ref5_18 : decode method_4_code 18 = .ok (.aload_n 0, 1) := by decide +kernel
theorem d_c_ref5_19 : decode method_4_code 19 = .ok (.iconst 1, 1) := by decide +kernel
theorem d_c_ref5_20 : decode method_4_code 20 = .ok (.iaload, 1) := by decide +kernel
theorem d_c_ref5_21 : decode method_4_code 21 = .ok (.iload_n 2, 1) := by decide +kernel
theorem d_c_ref5_22 : decode method_4_code 22 = .ok (.if_icmp .ne 5, 3) := by decide +kernel
theorem d_c_ref5_25 : decode method_4_code 25 = .ok (.iconst 1, 1) := by decide +kernel
theorem d_c_ref5_26 : decode method_4_code 26 = .ok (.ireturn, 1) := by decide +kernel
theorem d_c_ref5_27 : decode method_4_code 27 = .ok (.iload_n 1, 1) := by decide +kernel
theorem d_c_ref5_28 : decode method_4_code 28 = .ok (.iconst 2, 1) := by decide +kernel
theorem d_c_ref5_29 : decode method_4_code 29 = .ok (.if_icmp .le 12, 3) := by decide +kernel
theorem d_c_ref5_32 : decode method_4_code 32 = .ok (.aload_n 0, 1) := by decide +kernel
theorem d_c_ref5_33 : decode method_4_code 33 = .ok (.iconst 2, 1) := by decide +kernel
theorem d_c_ref5_34 : decode method_4_code 34 = .ok (.iaload, 1) := by decide +kernel
theorem d_c_ref5_35 : decode method_4_code 35 = .ok (.iload_n 2, 1) := by decide +kernel
theorem d_c_ref5_36 : decode method_4_code 36 = .ok (.if_icmp .ne 5, 3) := by decide +kernel
theorem d_c_ref5_39 : decode method_4_code 39 = .ok (.iconst 2, 1) := by decide +kernel
theorem d_c_ref5_40 : decode method_4_code 40 = .ok (.ireturn, 1) := by decide +kernel
theorem d_c_ref5_41 : decode method_4_code 41 = .ok (.iload_n 1, 1) := by decide +kernel
theorem d_c_ref5_42 : decode method_4_code 42 = .ok (.iconst 3, 1) := by decide +kernel
theorem d_c_ref5_43 : decode method_4_code 43 = .ok (.if_icmp .le 12, 3) := by decide +kernel
theorem d_c_ref5_46 : decode method_4_code 46 = .ok (.aload_n 0, 1) := by decide +kernel
theorem d_c_ref5_47 : decode method_4_code 47 = .ok (.iconst 3, 1) := by decide +kernel
theorem d_c_ref5_48 : decode method_4_code 48 = .ok (.iaload, 1) := by decide +kernel
theorem d_c_ref5_49 : decode method_4_code 49 = .ok (.iload_n 2, 1) := by decide +kernel
theorem d_c_ref5_50 : decode method_4_code 50 = .ok (.if_icmp .ne 5, 3) := by decide +kernel
theorem d_c_ref5_53 : decode method_4_code 53 = .ok (.iconst 3, 1) := by decide +kernel
theorem d_c_ref5_54 : decode method_4_code 54 = .ok (.ireturn, 1) := by decide +kernel
theorem d_c_ref5_55 : decode method_4_code 55 = .ok (.iload_n 1, 1) := by decide +kernel
theorem d_c_ref5_56 : decode method_4_code 56 = .ok (.iconst 4, 1) := by decide +kernel
theorem d_c_ref5_57 : decode method_4_code 57 = .ok (.if_icmp .le 12, 3) := by decide +kernel
theorem d_c_ref5_60 : decode method_4_code 60 = .ok (.aload_n 0, 1) := by decide +kernel
theorem d_c_ref5_61 : decode method_4_code 61 = .ok (.iconst 4, 1) := by decide +kernel
theorem d_c_ref5_62 : decode method_4_code 62 = .ok (.iaload, 1) := by decide +kernel
theorem d_c_ref5_63 : decode method_4_code 63 = .ok (.iload_n 2, 1) := by decide +kernel
theorem d_c_ref5_64 : decode method_4_code 64 = .ok (.if_icmp .ne 5, 3) := by decide +kernel
theorem d_c_ref5_67 : decode method_4_code 67 = .ok (.iconst 4, 1) := by decide +kernel
theorem d_c_ref5_68 : decode method_4_code 68 = .ok (.ireturn, 1) := by decide +kernel
theorem d_c_ref5_69 : decode method_4_code 69 = .ok (.iload_n 1, 1) := by decide +kernel
theorem d_c_ref5_70 : decode method_4_code 70 = .ok (.iconst 5, 1) := by decide +kernel
theorem d_c_ref5_71 : decode method_4_code 71 = .ok (.if_icmp .le 12, 3) := by decide +kernel
theorem d_c_ref5_83 : decode method_4_code 83 = .ok (.iconst (-1), 1) := by decide +kernel
theorem d_c_ref5_84 : decode method_4_code 84 = .ok (.ireturn, 1) := by decide +kernel
set_option maxRecDepth 65536 in
set_option maxHeartbeats 40000000 in
theorem c_ref5 (l : Launch) (Z : State) (a0 : Array Value) (hw : ∀ d ∈ tables_1, d.before a0 Z = true) {B : Nat} (b : Addr) (s0 s1 s2 s3 s4 q : Int32) :
    Con l Z FM B (⟨"com/example/traverso/traverso/graph/LabelsFirstPinLaw", "reference", "([III)I"⟩ : MethodName) method_4_code 3 (some .int) ({ frames := 0, cells := 0, slots := 0, locals := 0 } : Room) [] #[.ref b, .int (5 : Int32), .int q] [(b, (.array .int), [.int s0, .int s1, .int s2, .int s3, .int s4])] (fun v os => v = some (.int (rf5 s0 s1 s2 s3 s4 q)) ∧ os = [(b, (.array .int), [.int s0, .int s1, .int s2, .int s3, .int s4])]) := by
  refine Con.of (plainFor_of_name (by first | (simp [plainName, overriddenIn]; done) | decide +kernel)) (ls := #[.val (.ref b), .val (.int (5 : Int32)), .val (.int q)]) (fun m => by first | (simp [entryFrame, mkF, argsToLocals, Value.category]; done) | rfl) ?_
  intro p_ e_ h_ s_ m_ bl_ me_ c_ T0 W0
  refine g_iload_n (pc := 0) W0 d_c_ref5_0 rfl ?_
  refine g_ifN (pc := 1) W0 d_c_ref5_1 (by decide) ?_
  refine g_aload_n (pc := 4) W0 d_c_ref5_4 rfl rfl ?_
  refine g_iconst (pc := 5) (0 : Int32) (by decide) W0 d_c_ref5_5 ?_
  refine g_iaload (pc := 6) (i := 0) (v := .int s0) W0 rfl (by decide) rfl d_c_ref5_6 ?_
  refine g_iload_n (pc := 7) W0 d_c_ref5_7 rfl ?_
  refine g_icmp_ne 13 (pc := 8) W0 d_c_ref5_8 (by decide) (by decide) (fun c1 => ?_) (fun c1 => ?_)
  · refine g_iload_n (pc := 13) W0 d_c_ref5_13 rfl ?_
    refine g_iconst (pc := 14) (1 : Int32) (by decide) W0 d_c_ref5_14 ?_
    refine g_icmpN (pc := 15) W0 d_c_ref5_15 (by decide) ?_
    refine g_aload_n (pc := 18) W0 d_c_ref5_18 rfl rfl ?_
    refine g_iconst (pc := 19) (1 : Int32) (by decide) W0 d_c_ref5_19 ?_
    refine g_iaload (pc := 20) (i := 0) (v := .int s1) W0 rfl (by decide) rfl d_c_ref5_20 ?_
    refine g_iload_n (pc := 21) W0 d_c_ref5_21 rfl ?_
    refine g_icmp_ne 27 (pc := 22) W0 d_c_ref5_22 (by decide) (by decide) (fun c2 => ?_) (fun c2 => ?_)
    · refine g_iload_n (pc := 27) W0 d_c_ref5_27 rfl ?_
      refine g_iconst (pc := 28) (2 : Int32) (by decide) W0 d_c_ref5_28 ?_
      refine g_icmpN (pc := 29) W0 d_c_ref5_29 (by decide) ?_
      refine g_aload_n (pc := 32) W0 d_c_ref5_32 rfl rfl ?_
      refine g_iconst (pc := 33) (2 : Int32) (by decide) W0 d_c_ref5_33 ?_
      refine g_iaload (pc := 34) (i := 0) (v := .int s2) W0 rfl (by decide) rfl d_c_ref5_34 ?_
      refine g_iload_n (pc := 35) W0 d_c_ref5_35 rfl ?_
      refine g_icmp_ne 41 (pc := 36) W0 d_c_ref5_36 (by decide) (by decide) (fun c3 => ?_) (fun c3 => ?_)
      · refine g_iload_n (pc := 41) W0 d_c_ref5_41 rfl ?_
        refine g_iconst (pc := 42) (3 : Int32) (by decide) W0 d_c_ref5_42 ?_
        refine g_icmpN (pc := 43) W0 d_c_ref5_43 (by decide) ?_
        refine g_aload_n (pc := 46) W0 d_c_ref5_46 rfl rfl ?_
        refine g_iconst (pc := 47) (3 : Int32) (by decide) W0 d_c_ref5_47 ?_
        refine g_iaload (pc := 48) (i := 0) (v := .int s3) W0 rfl (by decide) rfl d_c_ref5_48 ?_
        refine g_iload_n (pc := 49) W0 d_c_ref5_49 rfl ?_
        refine g_icmp_ne 55 (pc := 50) W0 d_c_ref5_50 (by decide) (by decide) (fun c4 => ?_) (fun c4 => ?_)
        · refine g_iload_n (pc := 55) W0 d_c_ref5_55 rfl ?_
          refine g_iconst (pc := 56) (4 : Int32) (by decide) W0 d_c_ref5_56 ?_
          refine g_icmpN (pc := 57) W0 d_c_ref5_57 (by decide) ?_
          refine g_aload_n (pc := 60) W0 d_c_ref5_60 rfl rfl ?_
          refine g_iconst (pc := 61) (4 : Int32) (by decide) W0 d_c_ref5_61 ?_
          refine g_iaload (pc := 62) (i := 0) (v := .int s4) W0 rfl (by decide) rfl d_c_ref5_62 ?_
          refine g_iload_n (pc := 63) W0 d_c_ref5_63 rfl ?_
          refine g_icmp_ne 69 (pc := 64) W0 d_c_ref5_64 (by decide) (by decide) (fun c5 => ?_) (fun c5 => ?_)
          · refine g_iload_n (pc := 69) W0 d_c_ref5_69 rfl ?_
            refine g_iconst (pc := 70) (5 : Int32) (by decide) W0 d_c_ref5_70 ?_
            refine g_icmpY 83 (pc := 71) W0 d_c_ref5_71 (by decide) (by decide) (by decide) ?_
            refine g_iconst (pc := 83) (-1 : Int32) (by decide) W0 d_c_ref5_83 ?_
            exact g_ireturn (pc := 84) rfl W0 d_c_ref5_84 (by decide) (by decide) ⟨by simp only [rf5, if_neg c1, if_neg c2, if_neg c3, if_neg c4, if_neg c5], rfl⟩
          · refine g_iconst (pc := 67) (4 : Int32) (by decide) W0 d_c_ref5_67 ?_
            exact g_ireturn (pc := 68) rfl W0 d_c_ref5_68 (by decide) (by decide) ⟨by simp only [rf5, if_neg c1, if_neg c2, if_neg c3, if_neg c4, if_pos c5], rfl⟩
        · refine g_iconst (pc := 53) (3 : Int32) (by decide) W0 d_c_ref5_53 ?_
          exact g_ireturn (pc := 54) rfl W0 d_c_ref5_54 (by decide) (by decide) ⟨by simp only [rf5, if_neg c1, if_neg c2, if_neg c3, if_pos c4], rfl⟩
      · refine g_iconst (pc := 39) (2 : Int32) (by decide) W0 d_c_ref5_39 ?_
        exact g_ireturn (pc := 40) rfl W0 d_c_ref5_40 (by decide) (by decide) ⟨by simp only [rf5, if_neg c1, if_neg c2, if_pos c3], rfl⟩
    · refine g_iconst (pc := 25) (1 : Int32) (by decide) W0 d_c_ref5_25 ?_
      exact g_ireturn (pc := 26) rfl W0 d_c_ref5_26 (by decide) (by decide) ⟨by simp only [rf5, if_neg c1, if_pos c2], rfl⟩
  · refine g_iconst (pc := 11) (0 : Int32) (by decide) W0 d_c_ref5_11 ?_
    exact g_ireturn (pc := 12) rfl W0 d_c_ref5_12 (by decide) (by decide) ⟨by simp only [rf5, if_pos c1], rfl⟩
theorem d_c_fst5_0 : decode prog_29_method_5_code 0 = .ok (.iconst 0, 1) := by decide +kernel
theorem d_c_fst5_1 : decode prog_29_method_5_code 1 = .ok (.istore_n 2, 1) := by decide +kernel
theorem d_c_fst5_2 : decode prog_29_method_5_code 2 = .ok (.aload_n 0, 1) := by decide +kernel
theorem d_c_fst5_3 : decode prog_29_method_5_code 3 = .ok (.getfield 7, 3) := by decide +kernel
theorem d_c_fst5_6 : decode prog_29_method_5_code 6 = .ok (.arraylength, 1) := by decide +kernel
theorem d_c_fst5_7 : decode prog_29_method_5_code 7 = .ok (.istore_n 3, 1) := by decide +kernel
theorem d_c_fst5_8 : decode prog_29_method_5_code 8 = .ok (.iload_n 2, 1) := by decide +kernel
theorem d_c_fst5_9 : decode prog_29_method_5_code 9 = .ok (.iload_n 3, 1) := by decide +kernel
theorem d_c_fst5_10 : decode prog_29_method_5_code 10 = .ok (.if_icmp .ge 35, 3) := by decide +kernel
theorem d_c_fst5_13 : decode prog_29_method_5_code 13 = .ok (.iload_n 2, 1) := by decide +kernel
theorem d_c_fst5_14 : decode prog_29_method_5_code 14 = .ok (.iload_n 3, 1) := by decide +kernel
theorem d_c_fst5_15 : decode prog_29_method_5_code 15 = .ok (.iadd, 1) := by decide +kernel
theorem d_c_fst5_16 : decode prog_29_method_5_code 16 = .ok (.iconst 1, 1) := by decide +kernel
theorem d_c_fst5_17 : decode prog_29_method_5_code 17 = .ok (.iushr, 1) := by decide +kernel
theorem d_c_fst5_18 : decode prog_29_method_5_code 18 = .ok (.istore 4, 2) := by decide +kernel
theorem d_c_fst5_20 : decode prog_29_method_5_code 20 = .ok (.aload_n 0, 1) := by decide +kernel
theorem d_c_fst5_21 : decode prog_29_method_5_code 21 = .ok (.getfield 7, 3) := by decide +kernel
theorem d_c_fst5_24 : decode prog_29_method_5_code 24 = .ok (.iload 4, 2) := by decide +kernel
theorem d_c_fst5_26 : decode prog_29_method_5_code 26 = .ok (.iaload, 1) := by decide +kernel
theorem d_c_fst5_27 : decode prog_29_method_5_code 27 = .ok (.iload_n 1, 1) := by decide +kernel
theorem d_c_fst5_28 : decode prog_29_method_5_code 28 = .ok (.if_icmp .ge 11, 3) := by decide +kernel
theorem d_c_fst5_31 : decode prog_29_method_5_code 31 = .ok (.iload 4, 2) := by decide +kernel
theorem d_c_fst5_33 : decode prog_29_method_5_code 33 = .ok (.iconst 1, 1) := by decide +kernel
theorem d_c_fst5_34 : decode prog_29_method_5_code 34 = .ok (.iadd, 1) := by decide +kernel
theorem d_c_fst5_35 : decode prog_29_method_5_code 35 = .ok (.istore_n 2, 1) := by decide +kernel
theorem d_c_fst5_36 : decode prog_29_method_5_code 36 = .ok (.goto 6, 3) := by decide +kernel
theorem d_c_fst5_39 : decode prog_29_method_5_code 39 = .ok (.iload 4, 2) := by decide +kernel
theorem d_c_fst5_41 : decode prog_29_method_5_code 41 = .ok (.istore_n 3, 1) := by decide +kernel
theorem d_c_fst5_42 : decode prog_29_method_5_code 42 = .ok (.goto (-34), 3) := by decide +kernel
theorem d_c_fst5_45 : decode prog_29_method_5_code 45 = .ok (.iload_n 2, 1) := by decide +kernel
theorem d_c_fst5_46 : decode prog_29_method_5_code 46 = .ok (.aload_n 0, 1) := by decide +kernel
theorem d_c_fst5_47 : decode prog_29_method_5_code 47 = .ok (.getfield 7, 3) := by decide +kernel
theorem d_c_fst5_50 : decode prog_29_method_5_code 50 = .ok (.arraylength, 1) := by decide +kernel
theorem d_c_fst5_51 : decode prog_29_method_5_code 51 = .ok (.if_icmp .ge 17, 3) := by decide +kernel
theorem d_c_fst5_54 : decode prog_29_method_5_code 54 = .ok (.aload_n 0, 1) := by decide +kernel
theorem d_c_fst5_55 : decode prog_29_method_5_code 55 = .ok (.getfield 7, 3) := by decide +kernel
theorem d_c_fst5_58 : decode prog_29_method_5_code 58 = .ok (.iload_n 2, 1) := by decide +kernel
theorem d_c_fst5_59 : decode prog_29_method_5_code 59 = .ok (.iaload, 1) := by decide +kernel
theorem d_c_fst5_60 : decode prog_29_method_5_code 60 = .ok (.iload_n 1, 1) := by decide +kernel
theorem d_c_fst5_61 : decode prog_29_method_5_code 61 = .ok (.if_icmp .ne 7, 3) := by decide +kernel
theorem d_c_fst5_64 : decode prog_29_method_5_code 64 = .ok (.iload_n 2, 1) := by decide +kernel
theorem d_c_fst5_65 : decode prog_29_method_5_code 65 = .ok (.goto 4, 3) := by decide +kernel
theorem d_c_fst5_68 : decode prog_29_method_5_code 68 = .ok (.iconst (-1), 1) := by decide +kernel
theorem d_c_fst5_69 : decode prog_29_method_5_code 69 = .ok (.ireturn, 1) := by decide +kernel
set_option maxRecDepth 65536 in
set_option maxHeartbeats 40000000 in
theorem c_fst5 (l : Launch) (Z : State) (a0 : Array Value) (hw : ∀ d ∈ tables_1, d.before a0 Z = true) {B : Nat} (a b c : Addr) (s0 s1 s2 s3 s4 q : Int32) (h0 : s0.toInt ≤ s1.toInt) (h1 : s1.toInt ≤ s2.toInt) (h2 : s2.toInt ≤ s3.toInt) (h3 : s3.toInt ≤ s4.toInt) :
    Con l Z FM B (⟨"com/example/traverso/traverso/graph/Labels", "first", "(I)I"⟩ : MethodName) prog_29_method_5_code 5 (some .int) ({ frames := 0, cells := 0, slots := 0, locals := 0 } : Room) [] #[.ref a, .int q] [(a, (.object "com/example/traverso/traverso/graph/Labels"), [.ref b, .ref c]), (b, (.array .int), [.int s0, .int s1, .int s2, .int s3, .int s4])] (fun v os => v = some (.int (rf5 s0 s1 s2 s3 s4 q)) ∧ os = [(a, (.object "com/example/traverso/traverso/graph/Labels"), [.ref b, .ref c]), (b, (.array .int), [.int s0, .int s1, .int s2, .int s3, .int s4])]) := by
  refine Con.of (plainFor_of_name (by first | (simp [plainName, overriddenIn]; done) | decide +kernel)) (ls := #[.val (.ref a), .val (.int q), .unset, .unset, .unset]) (fun m => by first | (simp [entryFrame, mkF, argsToLocals, Value.category]; done) | rfl) ?_
  intro p_ e_ h_ s_ m_ bl_ me_ c_ T0 W0
  refine g_iconst (pc := 0) (0 : Int32) (by decide) W0 d_c_fst5_0 ?_
  refine g_istore_n (pc := 1) (ls' := #[.val (.ref a), .val (.int q), .val (.int (0 : Int32)), .unset, .unset]) W0 d_c_fst5_1 rfl ?_
  refine g_aload_n (pc := 2) W0 d_c_fst5_2 rfl rfl ?_
  refine g_getfield (pc := 3) (i := 0) (j := 0) (host := "") W0 (Or.inl (hw _ (List.mem_of_getElem? (i := 16) rfl))) rfl rfl rfl d_c_fst5_3 (fun T1 W2 => ?_)
  refine g_arraylength (pc := 6) (i := 1) (5 : Int32) W2 rfl rfl d_c_fst5_6 ?_
  refine g_istore_n (pc := 7) (ls' := #[.val (.ref a), .val (.int q), .val (.int (0 : Int32)), .val (.int (5 : Int32)), .unset]) W2 d_c_fst5_7 rfl ?_
  refine g_iload_n (pc := 8) W2 d_c_fst5_8 rfl ?_
  refine g_iload_n (pc := 9) W2 d_c_fst5_9 rfl ?_
  refine g_icmpN (pc := 10) W2 d_c_fst5_10 (by decide) ?_
  refine g_iload_n (pc := 13) W2 d_c_fst5_13 rfl ?_
  refine g_iload_n (pc := 14) W2 d_c_fst5_14 rfl ?_
  refine g_iadd (pc := 15) W2 d_c_fst5_15 ?_
  show Go p_ e_ bl_ _ (T1.setTop (mkF m_ 16 #[.val (.ref a), .val (.int q), .val (.int (0 : Int32)), .val (.int (5 : Int32)), .unset] [.int (5 : Int32)]))
  refine g_iconst (pc := 16) (1 : Int32) (by decide) W2 d_c_fst5_16 ?_
  refine g_iushr (pc := 17) W2 d_c_fst5_17 ?_
  show Go p_ e_ bl_ _ (T1.setTop (mkF m_ 18 #[.val (.ref a), .val (.int q), .val (.int (0 : Int32)), .val (.int (5 : Int32)), .unset] [.int (2 : Int32)]))
  refine g_istore (pc := 18) (ls' := #[.val (.ref a), .val (.int q), .val (.int (0 : Int32)), .val (.int (5 : Int32)), .val (.int (2 : Int32))]) W2 d_c_fst5_18 rfl ?_
  refine g_aload_n (pc := 20) W2 d_c_fst5_20 rfl rfl ?_
  refine g_getfield (pc := 21) (i := 0) (j := 0) (host := "") W2 (Or.inl (hw _ (List.mem_of_getElem? (i := 16) rfl))) rfl rfl rfl d_c_fst5_21 (fun T3 W4 => ?_)
  refine g_iload (pc := 24) W4 d_c_fst5_24 rfl ?_
  refine g_iaload (pc := 26) (i := 1) (v := .int s2) W4 rfl (by decide) rfl d_c_fst5_26 ?_
  refine g_iload_n (pc := 27) W4 d_c_fst5_27 rfl ?_
  refine g_icmp_ge 39 (pc := 28) W4 d_c_fst5_28 (by decide) (by decide) (fun c5 => ?_) (fun c5 => ?_)
  · refine g_iload (pc := 39) W4 d_c_fst5_39 rfl ?_
    refine g_istore_n (pc := 41) (ls' := #[.val (.ref a), .val (.int q), .val (.int (0 : Int32)), .val (.int (2 : Int32)), .val (.int (2 : Int32))]) W4 d_c_fst5_41 rfl ?_
    refine g_goto 8 (pc := 42) W4 d_c_fst5_42 (by decide) (by decide) ?_
    refine g_iload_n (pc := 8) W4 d_c_fst5_8 rfl ?_
    refine g_iload_n (pc := 9) W4 d_c_fst5_9 rfl ?_
    refine g_icmpN (pc := 10) W4 d_c_fst5_10 (by decide) ?_
    refine g_iload_n (pc := 13) W4 d_c_fst5_13 rfl ?_
    refine g_iload_n (pc := 14) W4 d_c_fst5_14 rfl ?_
    refine g_iadd (pc := 15) W4 d_c_fst5_15 ?_
    show Go p_ e_ bl_ _ (T3.setTop (mkF m_ 16 #[.val (.ref a), .val (.int q), .val (.int (0 : Int32)), .val (.int (2 : Int32)), .val (.int (2 : Int32))] [.int (2 : Int32)]))
    refine g_iconst (pc := 16) (1 : Int32) (by decide) W4 d_c_fst5_16 ?_
    refine g_iushr (pc := 17) W4 d_c_fst5_17 ?_
    show Go p_ e_ bl_ _ (T3.setTop (mkF m_ 18 #[.val (.ref a), .val (.int q), .val (.int (0 : Int32)), .val (.int (2 : Int32)), .val (.int (2 : Int32))] [.int (1 : Int32)]))
    refine g_istore (pc := 18) (ls' := #[.val (.ref a), .val (.int q), .val (.int (0 : Int32)), .val (.int (2 : Int32)), .val (.int (1 : Int32))]) W4 d_c_fst5_18 rfl ?_
    refine g_aload_n (pc := 20) W4 d_c_fst5_20 rfl rfl ?_
    refine g_getfield (pc := 21) (i := 0) (j := 0) (host := "") W4 (Or.inl (hw _ (List.mem_of_getElem? (i := 16) rfl))) rfl rfl rfl d_c_fst5_21 (fun T6 W7 => ?_)
    refine g_iload (pc := 24) W7 d_c_fst5_24 rfl ?_
    refine g_iaload (pc := 26) (i := 1) (v := .int s1) W7 rfl (by decide) rfl d_c_fst5_26 ?_
    refine g_iload_n (pc := 27) W7 d_c_fst5_27 rfl ?_
    refine g_icmp_ge 39 (pc := 28) W7 d_c_fst5_28 (by decide) (by decide) (fun c8 => ?_) (fun c8 => ?_)
    · refine g_iload (pc := 39) W7 d_c_fst5_39 rfl ?_
      refine g_istore_n (pc := 41) (ls' := #[.val (.ref a), .val (.int q), .val (.int (0 : Int32)), .val (.int (1 : Int32)), .val (.int (1 : Int32))]) W7 d_c_fst5_41 rfl ?_
      refine g_goto 8 (pc := 42) W7 d_c_fst5_42 (by decide) (by decide) ?_
      refine g_iload_n (pc := 8) W7 d_c_fst5_8 rfl ?_
      refine g_iload_n (pc := 9) W7 d_c_fst5_9 rfl ?_
      refine g_icmpN (pc := 10) W7 d_c_fst5_10 (by decide) ?_
      refine g_iload_n (pc := 13) W7 d_c_fst5_13 rfl ?_
      refine g_iload_n (pc := 14) W7 d_c_fst5_14 rfl ?_
      refine g_iadd (pc := 15) W7 d_c_fst5_15 ?_
      show Go p_ e_ bl_ _ (T6.setTop (mkF m_ 16 #[.val (.ref a), .val (.int q), .val (.int (0 : Int32)), .val (.int (1 : Int32)), .val (.int (1 : Int32))] [.int (1 : Int32)]))
      refine g_iconst (pc := 16) (1 : Int32) (by decide) W7 d_c_fst5_16 ?_
      refine g_iushr (pc := 17) W7 d_c_fst5_17 ?_
      show Go p_ e_ bl_ _ (T6.setTop (mkF m_ 18 #[.val (.ref a), .val (.int q), .val (.int (0 : Int32)), .val (.int (1 : Int32)), .val (.int (1 : Int32))] [.int (0 : Int32)]))
      refine g_istore (pc := 18) (ls' := #[.val (.ref a), .val (.int q), .val (.int (0 : Int32)), .val (.int (1 : Int32)), .val (.int (0 : Int32))]) W7 d_c_fst5_18 rfl ?_
      refine g_aload_n (pc := 20) W7 d_c_fst5_20 rfl rfl ?_
      refine g_getfield (pc := 21) (i := 0) (j := 0) (host := "") W7 (Or.inl (hw _ (List.mem_of_getElem? (i := 16) rfl))) rfl rfl rfl d_c_fst5_21 (fun T9 W10 => ?_)
      refine g_iload (pc := 24) W10 d_c_fst5_24 rfl ?_
      refine g_iaload (pc := 26) (i := 1) (v := .int s0) W10 rfl (by decide) rfl d_c_fst5_26 ?_
      refine g_iload_n (pc := 27) W10 d_c_fst5_27 rfl ?_
      refine g_icmp_ge 39 (pc := 28) W10 d_c_fst5_28 (by decide) (by decide) (fun c11 => ?_) (fun c11 => ?_)
      · refine g_iload (pc := 39) W10 d_c_fst5_39 rfl ?_
        refine g_istore_n (pc := 41) (ls' := #[.val (.ref a), .val (.int q), .val (.int (0 : Int32)), .val (.int (0 : Int32)), .val (.int (0 : Int32))]) W10 d_c_fst5_41 rfl ?_
        refine g_goto 8 (pc := 42) W10 d_c_fst5_42 (by decide) (by decide) ?_
        refine g_iload_n (pc := 8) W10 d_c_fst5_8 rfl ?_
        refine g_iload_n (pc := 9) W10 d_c_fst5_9 rfl ?_
        refine g_icmpY 45 (pc := 10) W10 d_c_fst5_10 (by decide) (by decide) (by decide) ?_
        refine g_iload_n (pc := 45) W10 d_c_fst5_45 rfl ?_
        refine g_aload_n (pc := 46) W10 d_c_fst5_46 rfl rfl ?_
        refine g_getfield (pc := 47) (i := 0) (j := 0) (host := "") W10 (Or.inl (hw _ (List.mem_of_getElem? (i := 16) rfl))) rfl rfl rfl d_c_fst5_47 (fun T12 W13 => ?_)
        refine g_arraylength (pc := 50) (i := 1) (5 : Int32) W13 rfl rfl d_c_fst5_50 ?_
        refine g_icmpN (pc := 51) W13 d_c_fst5_51 (by decide) ?_
        refine g_aload_n (pc := 54) W13 d_c_fst5_54 rfl rfl ?_
        refine g_getfield (pc := 55) (i := 0) (j := 0) (host := "") W13 (Or.inl (hw _ (List.mem_of_getElem? (i := 16) rfl))) rfl rfl rfl d_c_fst5_55 (fun T14 W15 => ?_)
        refine g_iload_n (pc := 58) W15 d_c_fst5_58 rfl ?_
        refine g_iaload (pc := 59) (i := 1) (v := .int s0) W15 rfl (by decide) rfl d_c_fst5_59 ?_
        refine g_iload_n (pc := 60) W15 d_c_fst5_60 rfl ?_
        refine g_icmp_ne 68 (pc := 61) W15 d_c_fst5_61 (by decide) (by decide) (fun c16 => ?_) (fun c16 => ?_)
        · refine g_iconst (pc := 68) (-1 : Int32) (by decide) W15 d_c_fst5_68 ?_
          exact g_ireturn (pc := 69) rfl W15 d_c_fst5_69 (by decide) (by decide) ⟨by simp only [Int32.lt_iff_toInt_lt, ← Int32.toInt_inj] at c5 c8 c11 c16; have e : rf5 s0 s1 s2 s3 s4 q = (-1 : Int32) := (by simp only [rf5, ← Int32.toInt_inj]; (repeat' split) <;> first | rfl | (exfalso; omega)); rw [e], rfl⟩
        · refine g_iload_n (pc := 64) W15 d_c_fst5_64 rfl ?_
          refine g_goto 69 (pc := 65) W15 d_c_fst5_65 (by decide) (by decide) ?_
          exact g_ireturn (pc := 69) rfl W15 d_c_fst5_69 (by decide) (by decide) ⟨by simp only [Int32.lt_iff_toInt_lt, ← Int32.toInt_inj] at c5 c8 c11 c16; have e : rf5 s0 s1 s2 s3 s4 q = (0 : Int32) := (by simp only [rf5, ← Int32.toInt_inj]; (repeat' split) <;> first | rfl | (exfalso; omega)); rw [e], rfl⟩
      · refine g_iload (pc := 31) W10 d_c_fst5_31 rfl ?_
        refine g_iconst (pc := 33) (1 : Int32) (by decide) W10 d_c_fst5_33 ?_
        refine g_iadd (pc := 34) W10 d_c_fst5_34 ?_
        show Go p_ e_ bl_ _ (T9.setTop (mkF m_ 35 #[.val (.ref a), .val (.int q), .val (.int (0 : Int32)), .val (.int (1 : Int32)), .val (.int (0 : Int32))] [.int (1 : Int32)]))
        refine g_istore_n (pc := 35) (ls' := #[.val (.ref a), .val (.int q), .val (.int (1 : Int32)), .val (.int (1 : Int32)), .val (.int (0 : Int32))]) W10 d_c_fst5_35 rfl ?_
        refine g_goto 42 (pc := 36) W10 d_c_fst5_36 (by decide) (by decide) ?_
        refine g_goto 8 (pc := 42) W10 d_c_fst5_42 (by decide) (by decide) ?_
        refine g_iload_n (pc := 8) W10 d_c_fst5_8 rfl ?_
        refine g_iload_n (pc := 9) W10 d_c_fst5_9 rfl ?_
        refine g_icmpY 45 (pc := 10) W10 d_c_fst5_10 (by decide) (by decide) (by decide) ?_
        refine g_iload_n (pc := 45) W10 d_c_fst5_45 rfl ?_
        refine g_aload_n (pc := 46) W10 d_c_fst5_46 rfl rfl ?_
        refine g_getfield (pc := 47) (i := 0) (j := 0) (host := "") W10 (Or.inl (hw _ (List.mem_of_getElem? (i := 16) rfl))) rfl rfl rfl d_c_fst5_47 (fun T17 W18 => ?_)
        refine g_arraylength (pc := 50) (i := 1) (5 : Int32) W18 rfl rfl d_c_fst5_50 ?_
        refine g_icmpN (pc := 51) W18 d_c_fst5_51 (by decide) ?_
        refine g_aload_n (pc := 54) W18 d_c_fst5_54 rfl rfl ?_
        refine g_getfield (pc := 55) (i := 0) (j := 0) (host := "") W18 (Or.inl (hw _ (List.mem_of_getElem? (i := 16) rfl))) rfl rfl rfl d_c_fst5_55 (fun T19 W20 => ?_)
        refine g_iload_n (pc := 58) W20 d_c_fst5_58 rfl ?_
        refine g_iaload (pc := 59) (i := 1) (v := .int s1) W20 rfl (by decide) rfl d_c_fst5_59 ?_
        refine g_iload_n (pc := 60) W20 d_c_fst5_60 rfl ?_
        refine g_icmp_ne 68 (pc := 61) W20 d_c_fst5_61 (by decide) (by decide) (fun c21 => ?_) (fun c21 => ?_)
        · refine g_iconst (pc := 68) (-1 : Int32) (by decide) W20 d_c_fst5_68 ?_
          exact g_ireturn (pc := 69) rfl W20 d_c_fst5_69 (by decide) (by decide) ⟨by simp only [Int32.lt_iff_toInt_lt, ← Int32.toInt_inj] at c5 c8 c11 c21; have e : rf5 s0 s1 s2 s3 s4 q = (-1 : Int32) := (by simp only [rf5, ← Int32.toInt_inj]; (repeat' split) <;> first | rfl | (exfalso; omega)); rw [e], rfl⟩
        · refine g_iload_n (pc := 64) W20 d_c_fst5_64 rfl ?_
          refine g_goto 69 (pc := 65) W20 d_c_fst5_65 (by decide) (by decide) ?_
          exact g_ireturn (pc := 69) rfl W20 d_c_fst5_69 (by decide) (by decide) ⟨by simp only [Int32.lt_iff_toInt_lt, ← Int32.toInt_inj] at c5 c8 c11 c21; have e : rf5 s0 s1 s2 s3 s4 q = (1 : Int32) := (by simp only [rf5, ← Int32.toInt_inj]; (repeat' split) <;> first | rfl | (exfalso; omega)); rw [e], rfl⟩
    · refine g_iload (pc := 31) W7 d_c_fst5_31 rfl ?_
      refine g_iconst (pc := 33) (1 : Int32) (by decide) W7 d_c_fst5_33 ?_
      refine g_iadd (pc := 34) W7 d_c_fst5_34 ?_
      show Go p_ e_ bl_ _ (T6.setTop (mkF m_ 35 #[.val (.ref a), .val (.int q), .val (.int (0 : Int32)), .val (.int (2 : Int32)), .val (.int (1 : Int32))] [.int (2 : Int32)]))
      refine g_istore_n (pc := 35) (ls' := #[.val (.ref a), .val (.int q), .val (.int (2 : Int32)), .val (.int (2 : Int32)), .val (.int (1 : Int32))]) W7 d_c_fst5_35 rfl ?_
      refine g_goto 42 (pc := 36) W7 d_c_fst5_36 (by decide) (by decide) ?_
      refine g_goto 8 (pc := 42) W7 d_c_fst5_42 (by decide) (by decide) ?_
      refine g_iload_n (pc := 8) W7 d_c_fst5_8 rfl ?_
      refine g_iload_n (pc := 9) W7 d_c_fst5_9 rfl ?_
      refine g_icmpY 45 (pc := 10) W7 d_c_fst5_10 (by decide) (by decide) (by decide) ?_
      refine g_iload_n (pc := 45) W7 d_c_fst5_45 rfl ?_
      refine g_aload_n (pc := 46) W7 d_c_fst5_46 rfl rfl ?_
      refine g_getfield (pc := 47) (i := 0) (j := 0) (host := "") W7 (Or.inl (hw _ (List.mem_of_getElem? (i := 16) rfl))) rfl rfl rfl d_c_fst5_47 (fun T22 W23 => ?_)
      refine g_arraylength (pc := 50) (i := 1) (5 : Int32) W23 rfl rfl d_c_fst5_50 ?_
      refine g_icmpN (pc := 51) W23 d_c_fst5_51 (by decide) ?_
      refine g_aload_n (pc := 54) W23 d_c_fst5_54 rfl rfl ?_
      refine g_getfield (pc := 55) (i := 0) (j := 0) (host := "") W23 (Or.inl (hw _ (List.mem_of_getElem? (i := 16) rfl))) rfl rfl rfl d_c_fst5_55 (fun T24 W25 => ?_)
      refine g_iload_n (pc := 58) W25 d_c_fst5_58 rfl ?_
      refine g_iaload (pc := 59) (i := 1) (v := .int s2) W25 rfl (by decide) rfl d_c_fst5_59 ?_
      refine g_iload_n (pc := 60) W25 d_c_fst5_60 rfl ?_
      refine g_icmp_ne 68 (pc := 61) W25 d_c_fst5_61 (by decide) (by decide) (fun c26 => ?_) (fun c26 => ?_)
      · refine g_iconst (pc := 68) (-1 : Int32) (by decide) W25 d_c_fst5_68 ?_
        exact g_ireturn (pc := 69) rfl W25 d_c_fst5_69 (by decide) (by decide) ⟨by simp only [Int32.lt_iff_toInt_lt, ← Int32.toInt_inj] at c5 c8 c26; have e : rf5 s0 s1 s2 s3 s4 q = (-1 : Int32) := (by simp only [rf5, ← Int32.toInt_inj]; (repeat' split) <;> first | rfl | (exfalso; omega)); rw [e], rfl⟩
      · refine g_iload_n (pc := 64) W25 d_c_fst5_64 rfl ?_
        refine g_goto 69 (pc := 65) W25 d_c_fst5_65 (by decide) (by decide) ?_
        exact g_ireturn (pc := 69) rfl W25 d_c_fst5_69 (by decide) (by decide) ⟨by simp only [Int32.lt_iff_toInt_lt, ← Int32.toInt_inj] at c5 c8 c26; have e : rf5 s0 s1 s2 s3 s4 q = (2 : Int32) := (by simp only [rf5, ← Int32.toInt_inj]; (repeat' split) <;> first | rfl | (exfalso; omega)); rw [e], rfl⟩
  · refine g_iload (pc := 31) W4 d_c_fst5_31 rfl ?_
    refine g_iconst (pc := 33) (1 : Int32) (by decide) W4 d_c_fst5_33 ?_
    refine g_iadd (pc := 34) W4 d_c_fst5_34 ?_
    show Go p_ e_ bl_ _ (T3.setTop (mkF m_ 35 #[.val (.ref a), .val (.int q), .val (.int (0 : Int32)), .val (.int (5 : Int32)), .val (.int (2 : Int32))] [.int (3 : Int32)]))
    refine g_istore_n (pc := 35) (ls' := #[.val (.ref a), .val (.int q), .val (.int (3 : Int32)), .val (.int (5 : Int32)), .val (.int (2 : Int32))]) W4 d_c_fst5_35 rfl ?_
    refine g_goto 42 (pc := 36) W4 d_c_fst5_36 (by decide) (by decide) ?_
    refine g_goto 8 (pc := 42) W4 d_c_fst5_42 (by decide) (by decide) ?_
    refine g_iload_n (pc := 8) W4 d_c_fst5_8 rfl ?_
    refine g_iload_n (pc := 9) W4 d_c_fst5_9 rfl ?_
    refine g_icmpN (pc := 10) W4 d_c_fst5_10 (by decide) ?_
    refine g_iload_n (pc := 13) W4 d_c_fst5_13 rfl ?_
    refine g_iload_n (pc := 14) W4 d_c_fst5_14 rfl ?_
    refine g_iadd (pc := 15) W4 d_c_fst5_15 ?_
    show Go p_ e_ bl_ _ (T3.setTop (mkF m_ 16 #[.val (.ref a), .val (.int q), .val (.int (3 : Int32)), .val (.int (5 : Int32)), .val (.int (2 : Int32))] [.int (8 : Int32)]))
    refine g_iconst (pc := 16) (1 : Int32) (by decide) W4 d_c_fst5_16 ?_
    refine g_iushr (pc := 17) W4 d_c_fst5_17 ?_
    show Go p_ e_ bl_ _ (T3.setTop (mkF m_ 18 #[.val (.ref a), .val (.int q), .val (.int (3 : Int32)), .val (.int (5 : Int32)), .val (.int (2 : Int32))] [.int (4 : Int32)]))
    refine g_istore (pc := 18) (ls' := #[.val (.ref a), .val (.int q), .val (.int (3 : Int32)), .val (.int (5 : Int32)), .val (.int (4 : Int32))]) W4 d_c_fst5_18 rfl ?_
    refine g_aload_n (pc := 20) W4 d_c_fst5_20 rfl rfl ?_
    refine g_getfield (pc := 21) (i := 0) (j := 0) (host := "") W4 (Or.inl (hw _ (List.mem_of_getElem? (i := 16) rfl))) rfl rfl rfl d_c_fst5_21 (fun T27 W28 => ?_)
    refine g_iload (pc := 24) W28 d_c_fst5_24 rfl ?_
    refine g_iaload (pc := 26) (i := 1) (v := .int s4) W28 rfl (by decide) rfl d_c_fst5_26 ?_
    refine g_iload_n (pc := 27) W28 d_c_fst5_27 rfl ?_
    refine g_icmp_ge 39 (pc := 28) W28 d_c_fst5_28 (by decide) (by decide) (fun c29 => ?_) (fun c29 => ?_)
    · refine g_iload (pc := 39) W28 d_c_fst5_39 rfl ?_
      refine g_istore_n (pc := 41) (ls' := #[.val (.ref a), .val (.int q), .val (.int (3 : Int32)), .val (.int (4 : Int32)), .val (.int (4 : Int32))]) W28 d_c_fst5_41 rfl ?_
      refine g_goto 8 (pc := 42) W28 d_c_fst5_42 (by decide) (by decide) ?_
      refine g_iload_n (pc := 8) W28 d_c_fst5_8 rfl ?_
      refine g_iload_n (pc := 9) W28 d_c_fst5_9 rfl ?_
      refine g_icmpN (pc := 10) W28 d_c_fst5_10 (by decide) ?_
      refine g_iload_n (pc := 13) W28 d_c_fst5_13 rfl ?_
      refine g_iload_n (pc := 14) W28 d_c_fst5_14 rfl ?_
      refine g_iadd (pc := 15) W28 d_c_fst5_15 ?_
      show Go p_ e_ bl_ _ (T27.setTop (mkF m_ 16 #[.val (.ref a), .val (.int q), .val (.int (3 : Int32)), .val (.int (4 : Int32)), .val (.int (4 : Int32))] [.int (7 : Int32)]))
      refine g_iconst (pc := 16) (1 : Int32) (by decide) W28 d_c_fst5_16 ?_
      refine g_iushr (pc := 17) W28 d_c_fst5_17 ?_
      show Go p_ e_ bl_ _ (T27.setTop (mkF m_ 18 #[.val (.ref a), .val (.int q), .val (.int (3 : Int32)), .val (.int (4 : Int32)), .val (.int (4 : Int32))] [.int (3 : Int32)]))
      refine g_istore (pc := 18) (ls' := #[.val (.ref a), .val (.int q), .val (.int (3 : Int32)), .val (.int (4 : Int32)), .val (.int (3 : Int32))]) W28 d_c_fst5_18 rfl ?_
      refine g_aload_n (pc := 20) W28 d_c_fst5_20 rfl rfl ?_
      refine g_getfield (pc := 21) (i := 0) (j := 0) (host := "") W28 (Or.inl (hw _ (List.mem_of_getElem? (i := 16) rfl))) rfl rfl rfl d_c_fst5_21 (fun T30 W31 => ?_)
      refine g_iload (pc := 24) W31 d_c_fst5_24 rfl ?_
      refine g_iaload (pc := 26) (i := 1) (v := .int s3) W31 rfl (by decide) rfl d_c_fst5_26 ?_
      refine g_iload_n (pc := 27) W31 d_c_fst5_27 rfl ?_
      refine g_icmp_ge 39 (pc := 28) W31 d_c_fst5_28 (by decide) (by decide) (fun c32 => ?_) (fun c32 => ?_)
      · refine g_iload (pc := 39) W31 d_c_fst5_39 rfl ?_
        refine g_istore_n (pc := 41) (ls' := #[.val (.ref a), .val (.int q), .val (.int (3 : Int32)), .val (.int (3 : Int32)), .val (.int (3 : Int32))]) W31 d_c_fst5_41 rfl ?_
        refine g_goto 8 (pc := 42) W31 d_c_fst5_42 (by decide) (by decide) ?_
        refine g_iload_n (pc := 8) W31 d_c_fst5_8 rfl ?_
        refine g_iload_n (pc := 9) W31 d_c_fst5_9 rfl ?_
        refine g_icmpY 45 (pc := 10) W31 d_c_fst5_10 (by decide) (by decide) (by decide) ?_
        refine g_iload_n (pc := 45) W31 d_c_fst5_45 rfl ?_
        refine g_aload_n (pc := 46) W31 d_c_fst5_46 rfl rfl ?_
        refine g_getfield (pc := 47) (i := 0) (j := 0) (host := "") W31 (Or.inl (hw _ (List.mem_of_getElem? (i := 16) rfl))) rfl rfl rfl d_c_fst5_47 (fun T33 W34 => ?_)
        refine g_arraylength (pc := 50) (i := 1) (5 : Int32) W34 rfl rfl d_c_fst5_50 ?_
        refine g_icmpN (pc := 51) W34 d_c_fst5_51 (by decide) ?_
        refine g_aload_n (pc := 54) W34 d_c_fst5_54 rfl rfl ?_
        refine g_getfield (pc := 55) (i := 0) (j := 0) (host := "") W34 (Or.inl (hw _ (List.mem_of_getElem? (i := 16) rfl))) rfl rfl rfl d_c_fst5_55 (fun T35 W36 => ?_)
        refine g_iload_n (pc := 58) W36 d_c_fst5_58 rfl ?_
        refine g_iaload (pc := 59) (i := 1) (v := .int s3) W36 rfl (by decide) rfl d_c_fst5_59 ?_
        refine g_iload_n (pc := 60) W36 d_c_fst5_60 rfl ?_
        refine g_icmp_ne 68 (pc := 61) W36 d_c_fst5_61 (by decide) (by decide) (fun c37 => ?_) (fun c37 => ?_)
        · refine g_iconst (pc := 68) (-1 : Int32) (by decide) W36 d_c_fst5_68 ?_
          exact g_ireturn (pc := 69) rfl W36 d_c_fst5_69 (by decide) (by decide) ⟨by simp only [Int32.lt_iff_toInt_lt, ← Int32.toInt_inj] at c5 c29 c32 c37; have e : rf5 s0 s1 s2 s3 s4 q = (-1 : Int32) := (by simp only [rf5, ← Int32.toInt_inj]; (repeat' split) <;> first | rfl | (exfalso; omega)); rw [e], rfl⟩
        · refine g_iload_n (pc := 64) W36 d_c_fst5_64 rfl ?_
          refine g_goto 69 (pc := 65) W36 d_c_fst5_65 (by decide) (by decide) ?_
          exact g_ireturn (pc := 69) rfl W36 d_c_fst5_69 (by decide) (by decide) ⟨by simp only [Int32.lt_iff_toInt_lt, ← Int32.toInt_inj] at c5 c29 c32 c37; have e : rf5 s0 s1 s2 s3 s4 q = (3 : Int32) := (by simp only [rf5, ← Int32.toInt_inj]; (repeat' split) <;> first | rfl | (exfalso; omega)); rw [e], rfl⟩
      · refine g_iload (pc := 31) W31 d_c_fst5_31 rfl ?_
        refine g_iconst (pc := 33) (1 : Int32) (by decide) W31 d_c_fst5_33 ?_
        refine g_iadd (pc := 34) W31 d_c_fst5_34 ?_
        show Go p_ e_ bl_ _ (T30.setTop (mkF m_ 35 #[.val (.ref a), .val (.int q), .val (.int (3 : Int32)), .val (.int (4 : Int32)), .val (.int (3 : Int32))] [.int (4 : Int32)]))
        refine g_istore_n (pc := 35) (ls' := #[.val (.ref a), .val (.int q), .val (.int (4 : Int32)), .val (.int (4 : Int32)), .val (.int (3 : Int32))]) W31 d_c_fst5_35 rfl ?_
        refine g_goto 42 (pc := 36) W31 d_c_fst5_36 (by decide) (by decide) ?_
        refine g_goto 8 (pc := 42) W31 d_c_fst5_42 (by decide) (by decide) ?_
        refine g_iload_n (pc := 8) W31 d_c_fst5_8 rfl ?_
        refine g_iload_n (pc := 9) W31 d_c_fst5_9 rfl ?_
        refine g_icmpY 45 (pc := 10) W31 d_c_fst5_10 (by decide) (by decide) (by decide) ?_
        refine g_iload_n (pc := 45) W31 d_c_fst5_45 rfl ?_
        refine g_aload_n (pc := 46) W31 d_c_fst5_46 rfl rfl ?_
        refine g_getfield (pc := 47) (i := 0) (j := 0) (host := "") W31 (Or.inl (hw _ (List.mem_of_getElem? (i := 16) rfl))) rfl rfl rfl d_c_fst5_47 (fun T38 W39 => ?_)
        refine g_arraylength (pc := 50) (i := 1) (5 : Int32) W39 rfl rfl d_c_fst5_50 ?_
        refine g_icmpN (pc := 51) W39 d_c_fst5_51 (by decide) ?_
        refine g_aload_n (pc := 54) W39 d_c_fst5_54 rfl rfl ?_
        refine g_getfield (pc := 55) (i := 0) (j := 0) (host := "") W39 (Or.inl (hw _ (List.mem_of_getElem? (i := 16) rfl))) rfl rfl rfl d_c_fst5_55 (fun T40 W41 => ?_)
        refine g_iload_n (pc := 58) W41 d_c_fst5_58 rfl ?_
        refine g_iaload (pc := 59) (i := 1) (v := .int s4) W41 rfl (by decide) rfl d_c_fst5_59 ?_
        refine g_iload_n (pc := 60) W41 d_c_fst5_60 rfl ?_
        refine g_icmp_ne 68 (pc := 61) W41 d_c_fst5_61 (by decide) (by decide) (fun c42 => ?_) (fun c42 => ?_)
        · refine g_iconst (pc := 68) (-1 : Int32) (by decide) W41 d_c_fst5_68 ?_
          exact g_ireturn (pc := 69) rfl W41 d_c_fst5_69 (by decide) (by decide) ⟨by simp only [Int32.lt_iff_toInt_lt, ← Int32.toInt_inj] at c5 c29 c32 c42; have e : rf5 s0 s1 s2 s3 s4 q = (-1 : Int32) := (by simp only [rf5, ← Int32.toInt_inj]; (repeat' split) <;> first | rfl | (exfalso; omega)); rw [e], rfl⟩
        · refine g_iload_n (pc := 64) W41 d_c_fst5_64 rfl ?_
          refine g_goto 69 (pc := 65) W41 d_c_fst5_65 (by decide) (by decide) ?_
          exact g_ireturn (pc := 69) rfl W41 d_c_fst5_69 (by decide) (by decide) ⟨by simp only [Int32.lt_iff_toInt_lt, ← Int32.toInt_inj] at c5 c29 c32 c42; have e : rf5 s0 s1 s2 s3 s4 q = (4 : Int32) := (by simp only [rf5, ← Int32.toInt_inj]; (repeat' split) <;> first | rfl | (exfalso; omega)); rw [e], rfl⟩
    · refine g_iload (pc := 31) W28 d_c_fst5_31 rfl ?_
      refine g_iconst (pc := 33) (1 : Int32) (by decide) W28 d_c_fst5_33 ?_
      refine g_iadd (pc := 34) W28 d_c_fst5_34 ?_
      show Go p_ e_ bl_ _ (T27.setTop (mkF m_ 35 #[.val (.ref a), .val (.int q), .val (.int (3 : Int32)), .val (.int (5 : Int32)), .val (.int (4 : Int32))] [.int (5 : Int32)]))
      refine g_istore_n (pc := 35) (ls' := #[.val (.ref a), .val (.int q), .val (.int (5 : Int32)), .val (.int (5 : Int32)), .val (.int (4 : Int32))]) W28 d_c_fst5_35 rfl ?_
      refine g_goto 42 (pc := 36) W28 d_c_fst5_36 (by decide) (by decide) ?_
      refine g_goto 8 (pc := 42) W28 d_c_fst5_42 (by decide) (by decide) ?_
      refine g_iload_n (pc := 8) W28 d_c_fst5_8 rfl ?_
      refine g_iload_n (pc := 9) W28 d_c_fst5_9 rfl ?_
      refine g_icmpY 45 (pc := 10) W28 d_c_fst5_10 (by decide) (by decide) (by decide) ?_
      refine g_iload_n (pc := 45) W28 d_c_fst5_45 rfl ?_
      refine g_aload_n (pc := 46) W28 d_c_fst5_46 rfl rfl ?_
      refine g_getfield (pc := 47) (i := 0) (j := 0) (host := "") W28 (Or.inl (hw _ (List.mem_of_getElem? (i := 16) rfl))) rfl rfl rfl d_c_fst5_47 (fun T43 W44 => ?_)
      refine g_arraylength (pc := 50) (i := 1) (5 : Int32) W44 rfl rfl d_c_fst5_50 ?_
      refine g_icmpY 68 (pc := 51) W44 d_c_fst5_51 (by decide) (by decide) (by decide) ?_
      refine g_iconst (pc := 68) (-1 : Int32) (by decide) W44 d_c_fst5_68 ?_
      exact g_ireturn (pc := 69) rfl W44 d_c_fst5_69 (by decide) (by decide) ⟨by simp only [Int32.lt_iff_toInt_lt, ← Int32.toInt_inj] at c5 c29; have e : rf5 s0 s1 s2 s3 s4 q = (-1 : Int32) := (by simp only [rf5, ← Int32.toInt_inj]; (repeat' split) <;> first | rfl | (exfalso; omega)); rw [e], rfl⟩
theorem d_c_ref6_0 : decode method_4_code 0 = .ok (.iload_n 1, 1) := by decide +kernel
theorem d_c_ref6_1 : decode method_4_code 1 = .ok (.ifCond .le 12, 3) := by decide +kernel
theorem d_c_ref6_4 : decode method_4_code 4 = .ok (.aload_n 0, 1) := by decide +kernel
theorem d_c_ref6_5 : decode method_4_code 5 = .ok (.iconst 0, 1) := by decide +kernel
theorem d_c_ref6_6 : decode method_4_code 6 = .ok (.iaload, 1) := by decide +kernel
theorem d_c_ref6_7 : decode method_4_code 7 = .ok (.iload_n 2, 1) := by decide +kernel
theorem d_c_ref6_8 : decode method_4_code 8 = .ok (.if_icmp .ne 5, 3) := by decide +kernel
theorem d_c_ref6_11 : decode method_4_code 11 = .ok (.iconst 0, 1) := by decide +kernel
theorem d_c_ref6_12 : decode method_4_code 12 = .ok (.ireturn, 1) := by decide +kernel
theorem d_c_ref6_13 : decode method_4_code 13 = .ok (.iload_n 1, 1) := by decide +kernel
theorem d_c_ref6_14 : decode method_4_code 14 = .ok (.iconst 1, 1) := by decide +kernel
theorem d_c_ref6_15 : decode method_4_code 15 = .ok (.if_icmp .le 12, 3) := by decide +kernel
theorem d_c_ref6_18 : decode method_4_code 18 = .ok (.aload_n 0, 1) := by decide +kernel
theorem d_c_ref6_19 : decode method_4_code 19 = .ok (.iconst 1, 1) := by decide +kernel
theorem d_c_ref6_20 : decode method_4_code 20 = .ok (.iaload, 1) := by decide +kernel
theorem d_c_ref6_21 : decode method_4_code 21 = .ok (.iload_n 2, 1) := by decide +kernel
theorem d_c_ref6_22 : decode method_4_code 22 = .ok (.if_icmp .ne 5, 3) := by decide +kernel
theorem d_c_ref6_25 : decode method_4_code 25 = .ok (.iconst 1, 1) := by decide +kernel
theorem d_c_ref6_26 : decode method_4_code 26 = .ok (.ireturn, 1) := by decide +kernel
theorem d_c_ref6_27 : decode method_4_code 27 = .ok (.iload_n 1, 1) := by decide +kernel
theorem d_c_ref6_28 : decode method_4_code 28 = .ok (.iconst 2, 1) := by decide +kernel
theorem d_c_ref6_29 : decode method_4_code 29 = .ok (.if_icmp .le 12, 3) := by decide +kernel
theorem d_c_ref6_32 : decode method_4_code 32 = .ok (.aload_n 0, 1) := by decide +kernel
theorem d_c_ref6_33 : decode method_4_code 33 = .ok (.iconst 2, 1) := by decide +kernel
theorem d_c_ref6_34 : decode method_4_code 34 = .ok (.iaload, 1) := by decide +kernel
theorem d_c_ref6_35 : decode method_4_code 35 = .ok (.iload_n 2, 1) := by decide +kernel
theorem d_c_ref6_36 : decode method_4_code 36 = .ok (.if_icmp .ne 5, 3) := by decide +kernel
theorem d_c_ref6_39 : decode method_4_code 39 = .ok (.iconst 2, 1) := by decide +kernel
theorem d_c_ref6_40 : decode method_4_code 40 = .ok (.ireturn, 1) := by decide +kernel
theorem d_c_ref6_41 : decode method_4_code 41 = .ok (.iload_n 1, 1) := by decide +kernel
theorem d_c_ref6_42 : decode method_4_code 42 = .ok (.iconst 3, 1) := by decide +kernel
theorem d_c_ref6_43 : decode method_4_code 43 = .ok (.if_icmp .le 12, 3) := by decide +kernel
theorem d_c_ref6_46 : decode method_4_code 46 = .ok (.aload_n 0, 1) := by decide +kernel
theorem d_c_ref6_47 : decode method_4_code 47 = .ok (.iconst 3, 1) := by decide +kernel
theorem d_c_ref6_48 : decode method_4_code 48 = .ok (.iaload, 1) := by decide +kernel
theorem d_c_ref6_49 : decode method_4_code 49 = .ok (.iload_n 2, 1) := by decide +kernel
theorem d_c_ref6_50 : decode method_4_code 50 = .ok (.if_icmp .ne 5, 3) := by decide +kernel
theorem d_c_ref6_53 : decode method_4_code 53 = .ok (.iconst 3, 1) := by decide +kernel
theorem d_c_ref6_54 : decode method_4_code 54 = .ok (.ireturn, 1) := by decide +kernel
theorem d_c_ref6_55 : decode method_4_code 55 = .ok (.iload_n 1, 1) := by decide +kernel
theorem d_c_ref6_56 : decode method_4_code 56 = .ok (.iconst 4, 1) := by decide +kernel
theorem d_c_ref6_57 : decode method_4_code 57 = .ok (.if_icmp .le 12, 3) := by decide +kernel
theorem d_c_ref6_60 : decode method_4_code 60 = .ok (.aload_n 0, 1) := by decide +kernel
theorem d_c_ref6_61 : decode method_4_code 61 = .ok (.iconst 4, 1) := by decide +kernel
theorem d_c_ref6_62 : decode method_4_code 62 = .ok (.iaload, 1) := by decide +kernel
theorem d_c_ref6_63 : decode method_4_code 63 = .ok (.iload_n 2, 1) := by decide +kernel
theorem d_c_ref6_64 : decode method_4_code 64 = .ok (.if_icmp .ne 5, 3) := by decide +kernel
theorem d_c_ref6_67 : decode method_4_code 67 = .ok (.iconst 4, 1) := by decide +kernel
theorem d_c_ref6_68 : decode method_4_code 68 = .ok (.ireturn, 1) := by decide +kernel
theorem d_c_ref6_69 : decode method_4_code 69 = .ok (.iload_n 1, 1) := by decide +kernel
theorem d_c_ref6_70 : decode method_4_code 70 = .ok (.iconst 5, 1) := by decide +kernel
theorem d_c_ref6_71 : decode method_4_code 71 = .ok (.if_icmp .le 12, 3) := by decide +kernel
theorem d_c_ref6_74 : decode method_4_code 74 = .ok (.aload_n 0, 1) := by decide +kernel
theorem d_c_ref6_75 : decode method_4_code 75 = .ok (.iconst 5, 1) := by decide +kernel
theorem d_c_ref6_76 : decode method_4_code 76 = .ok (.iaload, 1) := by decide +kernel
theorem d_c_ref6_77 : decode method_4_code 77 = .ok (.iload_n 2, 1) := by decide +kernel
theorem d_c_ref6_78 : decode method_4_code 78 = .ok (.if_icmp .ne 5, 3) := by decide +kernel
theorem d_c_ref6_81 : decode method_4_code 81 = .ok (.iconst 5, 1) := by decide +kernel
theorem d_c_ref6_82 : decode method_4_code 82 = .ok (.ireturn, 1) := by decide +kernel
theorem d_c_ref6_83 : decode method_4_code 83 = .ok (.iconst (-1), 1) := by decide +kernel
theorem d_c_ref6_84 : decode method_4_code 84 = .ok (.ireturn, 1) := by decide +kernel
set_option maxRecDepth 65536 in
set_option maxHeartbeats 40000000 in
theorem c_ref6 (l : Launch) (Z : State) (a0 : Array Value) (hw : ∀ d ∈ tables_1, d.before a0 Z = true) {B : Nat} (b : Addr) (s0 s1 s2 s3 s4 s5 q : Int32) :
    Con l Z FM B (⟨"com/example/traverso/traverso/graph/LabelsFirstPinLaw", "reference", "([III)I"⟩ : MethodName) method_4_code 3 (some .int) ({ frames := 0, cells := 0, slots := 0, locals := 0 } : Room) [] #[.ref b, .int (6 : Int32), .int q] [(b, (.array .int), [.int s0, .int s1, .int s2, .int s3, .int s4, .int s5])] (fun v os => v = some (.int (rf6 s0 s1 s2 s3 s4 s5 q)) ∧ os = [(b, (.array .int), [.int s0, .int s1, .int s2, .int s3, .int s4, .int s5])]) := by
  refine Con.of (plainFor_of_name (by first | (simp [plainName, overriddenIn]; done) | decide +kernel)) (ls := #[.val (.ref b), .val (.int (6 : Int32)), .val (.int q)]) (fun m => by first | (simp [entryFrame, mkF, argsToLocals, Value.category]; done) | rfl) ?_
  intro p_ e_ h_ s_ m_ bl_ me_ c_ T0 W0
  refine g_iload_n (pc := 0) W0 d_c_ref6_0 rfl ?_
  refine g_ifN (pc := 1) W0 d_c_ref6_1 (by decide) ?_
  refine g_aload_n (pc := 4) W0 d_c_ref6_4 rfl rfl ?_
  refine g_iconst (pc := 5) (0 : Int32) (by decide) W0 d_c_ref6_5 ?_
  refine g_iaload (pc := 6) (i := 0) (v := .int s0) W0 rfl (by decide) rfl d_c_ref6_6 ?_
  refine g_iload_n (pc := 7) W0 d_c_ref6_7 rfl ?_
  refine g_icmp_ne 13 (pc := 8) W0 d_c_ref6_8 (by decide) (by decide) (fun c1 => ?_) (fun c1 => ?_)
  · refine g_iload_n (pc := 13) W0 d_c_ref6_13 rfl ?_
    refine g_iconst (pc := 14) (1 : Int32) (by decide) W0 d_c_ref6_14 ?_
    refine g_icmpN (pc := 15) W0 d_c_ref6_15 (by decide) ?_
    refine g_aload_n (pc := 18) W0 d_c_ref6_18 rfl rfl ?_
    refine g_iconst (pc := 19) (1 : Int32) (by decide) W0 d_c_ref6_19 ?_
    refine g_iaload (pc := 20) (i := 0) (v := .int s1) W0 rfl (by decide) rfl d_c_ref6_20 ?_
    refine g_iload_n (pc := 21) W0 d_c_ref6_21 rfl ?_
    refine g_icmp_ne 27 (pc := 22) W0 d_c_ref6_22 (by decide) (by decide) (fun c2 => ?_) (fun c2 => ?_)
    · refine g_iload_n (pc := 27) W0 d_c_ref6_27 rfl ?_
      refine g_iconst (pc := 28) (2 : Int32) (by decide) W0 d_c_ref6_28 ?_
      refine g_icmpN (pc := 29) W0 d_c_ref6_29 (by decide) ?_
      refine g_aload_n (pc := 32) W0 d_c_ref6_32 rfl rfl ?_
      refine g_iconst (pc := 33) (2 : Int32) (by decide) W0 d_c_ref6_33 ?_
      refine g_iaload (pc := 34) (i := 0) (v := .int s2) W0 rfl (by decide) rfl d_c_ref6_34 ?_
      refine g_iload_n (pc := 35) W0 d_c_ref6_35 rfl ?_
      refine g_icmp_ne 41 (pc := 36) W0 d_c_ref6_36 (by decide) (by decide) (fun c3 => ?_) (fun c3 => ?_)
      · refine g_iload_n (pc := 41) W0 d_c_ref6_41 rfl ?_
        refine g_iconst (pc := 42) (3 : Int32) (by decide) W0 d_c_ref6_42 ?_
        refine g_icmpN (pc := 43) W0 d_c_ref6_43 (by decide) ?_
        refine g_aload_n (pc := 46) W0 d_c_ref6_46 rfl rfl ?_
        refine g_iconst (pc := 47) (3 : Int32) (by decide) W0 d_c_ref6_47 ?_
        refine g_iaload (pc := 48) (i := 0) (v := .int s3) W0 rfl (by decide) rfl d_c_ref6_48 ?_
        refine g_iload_n (pc := 49) W0 d_c_ref6_49 rfl ?_
        refine g_icmp_ne 55 (pc := 50) W0 d_c_ref6_50 (by decide) (by decide) (fun c4 => ?_) (fun c4 => ?_)
        · refine g_iload_n (pc := 55) W0 d_c_ref6_55 rfl ?_
          refine g_iconst (pc := 56) (4 : Int32) (by decide) W0 d_c_ref6_56 ?_
          refine g_icmpN (pc := 57) W0 d_c_ref6_57 (by decide) ?_
          refine g_aload_n (pc := 60) W0 d_c_ref6_60 rfl rfl ?_
          refine g_iconst (pc := 61) (4 : Int32) (by decide) W0 d_c_ref6_61 ?_
          refine g_iaload (pc := 62) (i := 0) (v := .int s4) W0 rfl (by decide) rfl d_c_ref6_62 ?_
          refine g_iload_n (pc := 63) W0 d_c_ref6_63 rfl ?_
          refine g_icmp_ne 69 (pc := 64) W0 d_c_ref6_64 (by decide) (by decide) (fun c5 => ?_) (fun c5 => ?_)
          · refine g_iload_n (pc := 69) W0 d_c_ref6_69 rfl ?_
            refine g_iconst (pc := 70) (5 : Int32) (by decide) W0 d_c_ref6_70 ?_
            refine g_icmpN (pc := 71) W0 d_c_ref6_71 (by decide) ?_
            refine g_aload_n (pc := 74) W0 d_c_ref6_74 rfl rfl ?_
            refine g_iconst (pc := 75) (5 : Int32) (by decide) W0 d_c_ref6_75 ?_
            refine g_iaload (pc := 76) (i := 0) (v := .int s5) W0 rfl (by decide) rfl d_c_ref6_76 ?_
            refine g_iload_n (pc := 77) W0 d_c_ref6_77 rfl ?_
            refine g_icmp_ne 83 (pc := 78) W0 d_c_ref6_78 (by decide) (by decide) (fun c6 => ?_) (fun c6 => ?_)
            · refine g_iconst (pc := 83) (-1 : Int32) (by decide) W0 d_c_ref6_83 ?_
              exact g_ireturn (pc := 84) rfl W0 d_c_ref6_84 (by decide) (by decide) ⟨by simp only [rf6, if_neg c1, if_neg c2, if_neg c3, if_neg c4, if_neg c5, if_neg c6], rfl⟩
            · refine g_iconst (pc := 81) (5 : Int32) (by decide) W0 d_c_ref6_81 ?_
              exact g_ireturn (pc := 82) rfl W0 d_c_ref6_82 (by decide) (by decide) ⟨by simp only [rf6, if_neg c1, if_neg c2, if_neg c3, if_neg c4, if_neg c5, if_pos c6], rfl⟩
          · refine g_iconst (pc := 67) (4 : Int32) (by decide) W0 d_c_ref6_67 ?_
            exact g_ireturn (pc := 68) rfl W0 d_c_ref6_68 (by decide) (by decide) ⟨by simp only [rf6, if_neg c1, if_neg c2, if_neg c3, if_neg c4, if_pos c5], rfl⟩
        · refine g_iconst (pc := 53) (3 : Int32) (by decide) W0 d_c_ref6_53 ?_
          exact g_ireturn (pc := 54) rfl W0 d_c_ref6_54 (by decide) (by decide) ⟨by simp only [rf6, if_neg c1, if_neg c2, if_neg c3, if_pos c4], rfl⟩
      · refine g_iconst (pc := 39) (2 : Int32) (by decide) W0 d_c_ref6_39 ?_
        exact g_ireturn (pc := 40) rfl W0 d_c_ref6_40 (by decide) (by decide) ⟨by simp only [rf6, if_neg c1, if_neg c2, if_pos c3], rfl⟩
    · refine g_iconst (pc := 25) (1 : Int32) (by decide) W0 d_c_ref6_25 ?_
      exact g_ireturn (pc := 26) rfl W0 d_c_ref6_26 (by decide) (by decide) ⟨by simp only [rf6, if_neg c1, if_pos c2], rfl⟩
  · refine g_iconst (pc := 11) (0 : Int32) (by decide) W0 d_c_ref6_11 ?_
    exact g_ireturn (pc := 12) rfl W0 d_c_ref6_12 (by decide) (by decide) ⟨by simp only [rf6, if_pos c1], rfl⟩
theorem d_c_fst6_0 : decode prog_29_method_5_code 0 = .ok (.iconst 0, 1) := by decide +kernel
theorem d_c_fst6_1 : decode prog_29_method_5_code 1 = .ok (.istore_n 2, 1) := by decide +kernel
theorem d_c_fst6_2 : decode prog_29_method_5_code 2 = .ok (.aload_n 0, 1) := by decide +kernel
theorem d_c_fst6_3 : decode prog_29_method_5_code 3 = .ok (.getfield 7, 3) := by decide +kernel
theorem d_c_fst6_6 : decode prog_29_method_5_code 6 = .ok (.arraylength, 1) := by decide +kernel
theorem d_c_fst6_7 : decode prog_29_method_5_code 7 = .ok (.istore_n 3, 1) := by decide +kernel
theorem d_c_fst6_8 : decode prog_29_method_5_code 8 = .ok (.iload_n 2, 1) := by decide +kernel
theorem d_c_fst6_9 : decode prog_29_method_5_code 9 = .ok (.iload_n 3, 1) := by decide +kernel
theorem d_c_fst6_10 : decode prog_29_method_5_code 10 = .ok (.if_icmp .ge 35, 3) := by decide +kernel
theorem d_c_fst6_13 : decode prog_29_method_5_code 13 = .ok (.iload_n 2, 1) := by decide +kernel
theorem d_c_fst6_14 : decode prog_29_method_5_code 14 = .ok (.iload_n 3, 1) := by decide +kernel
theorem d_c_fst6_15 : decode prog_29_method_5_code 15 = .ok (.iadd, 1) := by decide +kernel
theorem d_c_fst6_16 : decode prog_29_method_5_code 16 = .ok (.iconst 1, 1) := by decide +kernel
theorem d_c_fst6_17 : decode prog_29_method_5_code 17 = .ok (.iushr, 1) := by decide +kernel
theorem d_c_fst6_18 : decode prog_29_method_5_code 18 = .ok (.istore 4, 2) := by decide +kernel
theorem d_c_fst6_20 : decode prog_29_method_5_code 20 = .ok (.aload_n 0, 1) := by decide +kernel
theorem d_c_fst6_21 : decode prog_29_method_5_code 21 = .ok (.getfield 7, 3) := by decide +kernel
theorem d_c_fst6_24 : decode prog_29_method_5_code 24 = .ok (.iload 4, 2) := by decide +kernel
theorem d_c_fst6_26 : decode prog_29_method_5_code 26 = .ok (.iaload, 1) := by decide +kernel
theorem d_c_fst6_27 : decode prog_29_method_5_code 27 = .ok (.iload_n 1, 1) := by decide +kernel
theorem d_c_fst6_28 : decode prog_29_method_5_code 28 = .ok (.if_icmp .ge 11, 3) := by decide +kernel
theorem d_c_fst6_31 : decode prog_29_method_5_code 31 = .ok (.iload 4, 2) := by decide +kernel
theorem d_c_fst6_33 : decode prog_29_method_5_code 33 = .ok (.iconst 1, 1) := by decide +kernel
theorem d_c_fst6_34 : decode prog_29_method_5_code 34 = .ok (.iadd, 1) := by decide +kernel
theorem d_c_fst6_35 : decode prog_29_method_5_code 35 = .ok (.istore_n 2, 1) := by decide +kernel
theorem d_c_fst6_36 : decode prog_29_method_5_code 36 = .ok (.goto 6, 3) := by decide +kernel
theorem d_c_fst6_39 : decode prog_29_method_5_code 39 = .ok (.iload 4, 2) := by decide +kernel
theorem d_c_fst6_41 : decode prog_29_method_5_code 41 = .ok (.istore_n 3, 1) := by decide +kernel
theorem d_c_fst6_42 : decode prog_29_method_5_code 42 = .ok (.goto (-34), 3) := by decide +kernel
theorem d_c_fst6_45 : decode prog_29_method_5_code 45 = .ok (.iload_n 2, 1) := by decide +kernel
theorem d_c_fst6_46 : decode prog_29_method_5_code 46 = .ok (.aload_n 0, 1) := by decide +kernel
theorem d_c_fst6_47 : decode prog_29_method_5_code 47 = .ok (.getfield 7, 3) := by decide +kernel
theorem d_c_fst6_50 : decode prog_29_method_5_code 50 = .ok (.arraylength, 1) := by decide +kernel
theorem d_c_fst6_51 : decode prog_29_method_5_code 51 = .ok (.if_icmp .ge 17, 3) := by decide +kernel
theorem d_c_fst6_54 : decode prog_29_method_5_code 54 = .ok (.aload_n 0, 1) := by decide +kernel
theorem d_c_fst6_55 : decode prog_29_method_5_code 55 = .ok (.getfield 7, 3) := by decide +kernel
theorem d_c_fst6_58 : decode prog_29_method_5_code 58 = .ok (.iload_n 2, 1) := by decide +kernel
theorem d_c_fst6_59 : decode prog_29_method_5_code 59 = .ok (.iaload, 1) := by decide +kernel
theorem d_c_fst6_60 : decode prog_29_method_5_code 60 = .ok (.iload_n 1, 1) := by decide +kernel
theorem d_c_fst6_61 : decode prog_29_method_5_code 61 = .ok (.if_icmp .ne 7, 3) := by decide +kernel
theorem d_c_fst6_64 : decode prog_29_method_5_code 64 = .ok (.iload_n 2, 1) := by decide +kernel
theorem d_c_fst6_65 : decode prog_29_method_5_code 65 = .ok (.goto 4, 3) := by decide +kernel
theorem d_c_fst6_68 : decode prog_29_method_5_code 68 = .ok (.iconst (-1), 1) := by decide +kernel
theorem d_c_fst6_69 : decode prog_29_method_5_code 69 = .ok (.ireturn, 1) := by decide +kernel
set_option maxRecDepth 65536 in
set_option maxHeartbeats 40000000 in
theorem c_fst6 (l : Launch) (Z : State) (a0 : Array Value) (hw : ∀ d ∈ tables_1, d.before a0 Z = true) {B : Nat} (a b c : Addr) (s0 s1 s2 s3 s4 s5 q : Int32) (h0 : s0.toInt ≤ s1.toInt) (h1 : s1.toInt ≤ s2.toInt) (h2 : s2.toInt ≤ s3.toInt) (h3 : s3.toInt ≤ s4.toInt) (h4 : s4.toInt ≤ s5.toInt) :
    Con l Z FM B (⟨"com/example/traverso/traverso/graph/Labels", "first", "(I)I"⟩ : MethodName) prog_29_method_5_code 5 (some .int) ({ frames := 0, cells := 0, slots := 0, locals := 0 } : Room) [] #[.ref a, .int q] [(a, (.object "com/example/traverso/traverso/graph/Labels"), [.ref b, .ref c]), (b, (.array .int), [.int s0, .int s1, .int s2, .int s3, .int s4, .int s5])] (fun v os => v = some (.int (rf6 s0 s1 s2 s3 s4 s5 q)) ∧ os = [(a, (.object "com/example/traverso/traverso/graph/Labels"), [.ref b, .ref c]), (b, (.array .int), [.int s0, .int s1, .int s2, .int s3, .int s4, .int s5])]) := by
  refine Con.of (plainFor_of_name (by first | (simp [plainName, overriddenIn]; done) | decide +kernel)) (ls := #[.val (.ref a), .val (.int q), .unset, .unset, .unset]) (fun m => by first | (simp [entryFrame, mkF, argsToLocals, Value.category]; done) | rfl) ?_
  intro p_ e_ h_ s_ m_ bl_ me_ c_ T0 W0
  refine g_iconst (pc := 0) (0 : Int32) (by decide) W0 d_c_fst6_0 ?_
  refine g_istore_n (pc := 1) (ls' := #[.val (.ref a), .val (.int q), .val (.int (0 : Int32)), .unset, .unset]) W0 d_c_fst6_1 rfl ?_
  refine g_aload_n (pc := 2) W0 d_c_fst6_2 rfl rfl ?_
  refine g_getfield (pc := 3) (i := 0) (j := 0) (host := "") W0 (Or.inl (hw _ (List.mem_of_getElem? (i := 16) rfl))) rfl rfl rfl d_c_fst6_3 (fun T1 W2 => ?_)
  refine g_arraylength (pc := 6) (i := 1) (6 : Int32) W2 rfl rfl d_c_fst6_6 ?_
  refine g_istore_n (pc := 7) (ls' := #[.val (.ref a), .val (.int q), .val (.int (0 : Int32)), .val (.int (6 : Int32)), .unset]) W2 d_c_fst6_7 rfl ?_
  refine g_iload_n (pc := 8) W2 d_c_fst6_8 rfl ?_
  refine g_iload_n (pc := 9) W2 d_c_fst6_9 rfl ?_
  refine g_icmpN (pc := 10) W2 d_c_fst6_10 (by decide) ?_
  refine g_iload_n (pc := 13) W2 d_c_fst6_13 rfl ?_
  refine g_iload_n (pc := 14) W2 d_c_fst6_14 rfl ?_
  refine g_iadd (pc := 15) W2 d_c_fst6_15 ?_
  show Go p_ e_ bl_ _ (T1.setTop (mkF m_ 16 #[.val (.ref a), .val (.int q), .val (.int (0 : Int32)), .val (.int (6 : Int32)), .unset] [.int (6 : Int32)]))
  refine g_iconst (pc := 16) (1 : Int32) (by decide) W2 d_c_fst6_16 ?_
  refine g_iushr (pc := 17) W2 d_c_fst6_17 ?_
  show Go p_ e_ bl_ _ (T1.setTop (mkF m_ 18 #[.val (.ref a), .val (.int q), .val (.int (0 : Int32)), .val (.int (6 : Int32)), .unset] [.int (3 : Int32)]))
  refine g_istore (pc := 18) (ls' := #[.val (.ref a), .val (.int q), .val (.int (0 : Int32)), .val (.int (6 : Int32)), .val (.int (3 : Int32))]) W2 d_c_fst6_18 rfl ?_
  refine g_aload_n (pc := 20) W2 d_c_fst6_20 rfl rfl ?_
  refine g_getfield (pc := 21) (i := 0) (j := 0) (host := "") W2 (Or.inl (hw _ (List.mem_of_getElem? (i := 16) rfl))) rfl rfl rfl d_c_fst6_21 (fun T3 W4 => ?_)
  refine g_iload (pc := 24) W4 d_c_fst6_24 rfl ?_
  refine g_iaload (pc := 26) (i := 1) (v := .int s3) W4 rfl (by decide) rfl d_c_fst6_26 ?_
  refine g_iload_n (pc := 27) W4 d_c_fst6_27 rfl ?_
  refine g_icmp_ge 39 (pc := 28) W4 d_c_fst6_28 (by decide) (by decide) (fun c5 => ?_) (fun c5 => ?_)
  · refine g_iload (pc := 39) W4 d_c_fst6_39 rfl ?_
    refine g_istore_n (pc := 41) (ls' := #[.val (.ref a), .val (.int q), .val (.int (0 : Int32)), .val (.int (3 : Int32)), .val (.int (3 : Int32))]) W4 d_c_fst6_41 rfl ?_
    refine g_goto 8 (pc := 42) W4 d_c_fst6_42 (by decide) (by decide) ?_
    refine g_iload_n (pc := 8) W4 d_c_fst6_8 rfl ?_
    refine g_iload_n (pc := 9) W4 d_c_fst6_9 rfl ?_
    refine g_icmpN (pc := 10) W4 d_c_fst6_10 (by decide) ?_
    refine g_iload_n (pc := 13) W4 d_c_fst6_13 rfl ?_
    refine g_iload_n (pc := 14) W4 d_c_fst6_14 rfl ?_
    refine g_iadd (pc := 15) W4 d_c_fst6_15 ?_
    show Go p_ e_ bl_ _ (T3.setTop (mkF m_ 16 #[.val (.ref a), .val (.int q), .val (.int (0 : Int32)), .val (.int (3 : Int32)), .val (.int (3 : Int32))] [.int (3 : Int32)]))
    refine g_iconst (pc := 16) (1 : Int32) (by decide) W4 d_c_fst6_16 ?_
    refine g_iushr (pc := 17) W4 d_c_fst6_17 ?_
    show Go p_ e_ bl_ _ (T3.setTop (mkF m_ 18 #[.val (.ref a), .val (.int q), .val (.int (0 : Int32)), .val (.int (3 : Int32)), .val (.int (3 : Int32))] [.int (1 : Int32)]))
    refine g_istore (pc := 18) (ls' := #[.val (.ref a), .val (.int q), .val (.int (0 : Int32)), .val (.int (3 : Int32)), .val (.int (1 : Int32))]) W4 d_c_fst6_18 rfl ?_
    refine g_aload_n (pc := 20) W4 d_c_fst6_20 rfl rfl ?_
    refine g_getfield (pc := 21) (i := 0) (j := 0) (host := "") W4 (Or.inl (hw _ (List.mem_of_getElem? (i := 16) rfl))) rfl rfl rfl d_c_fst6_21 (fun T6 W7 => ?_)
    refine g_iload (pc := 24) W7 d_c_fst6_24 rfl ?_
    refine g_iaload (pc := 26) (i := 1) (v := .int s1) W7 rfl (by decide) rfl d_c_fst6_26 ?_
    refine g_iload_n (pc := 27) W7 d_c_fst6_27 rfl ?_
    refine g_icmp_ge 39 (pc := 28) W7 d_c_fst6_28 (by decide) (by decide) (fun c8 => ?_) (fun c8 => ?_)
    · refine g_iload (pc := 39) W7 d_c_fst6_39 rfl ?_
      refine g_istore_n (pc := 41) (ls' := #[.val (.ref a), .val (.int q), .val (.int (0 : Int32)), .val (.int (1 : Int32)), .val (.int (1 : Int32))]) W7 d_c_fst6_41 rfl ?_
      refine g_goto 8 (pc := 42) W7 d_c_fst6_42 (by decide) (by decide) ?_
      refine g_iload_n (pc := 8) W7 d_c_fst6_8 rfl ?_
      refine g_iload_n (pc := 9) W7 d_c_fst6_9 rfl ?_
      refine g_icmpN (pc := 10) W7 d_c_fst6_10 (by decide) ?_
      refine g_iload_n (pc := 13) W7 d_c_fst6_13 rfl ?_
      refine g_iload_n (pc := 14) W7 d_c_fst6_14 rfl ?_
      refine g_iadd (pc := 15) W7 d_c_fst6_15 ?_
      show Go p_ e_ bl_ _ (T6.setTop (mkF m_ 16 #[.val (.ref a), .val (.int q), .val (.int (0 : Int32)), .val (.int (1 : Int32)), .val (.int (1 : Int32))] [.int (1 : Int32)]))
      refine g_iconst (pc := 16) (1 : Int32) (by decide) W7 d_c_fst6_16 ?_
      refine g_iushr (pc := 17) W7 d_c_fst6_17 ?_
      show Go p_ e_ bl_ _ (T6.setTop (mkF m_ 18 #[.val (.ref a), .val (.int q), .val (.int (0 : Int32)), .val (.int (1 : Int32)), .val (.int (1 : Int32))] [.int (0 : Int32)]))
      refine g_istore (pc := 18) (ls' := #[.val (.ref a), .val (.int q), .val (.int (0 : Int32)), .val (.int (1 : Int32)), .val (.int (0 : Int32))]) W7 d_c_fst6_18 rfl ?_
      refine g_aload_n (pc := 20) W7 d_c_fst6_20 rfl rfl ?_
      refine g_getfield (pc := 21) (i := 0) (j := 0) (host := "") W7 (Or.inl (hw _ (List.mem_of_getElem? (i := 16) rfl))) rfl rfl rfl d_c_fst6_21 (fun T9 W10 => ?_)
      refine g_iload (pc := 24) W10 d_c_fst6_24 rfl ?_
      refine g_iaload (pc := 26) (i := 1) (v := .int s0) W10 rfl (by decide) rfl d_c_fst6_26 ?_
      refine g_iload_n (pc := 27) W10 d_c_fst6_27 rfl ?_
      refine g_icmp_ge 39 (pc := 28) W10 d_c_fst6_28 (by decide) (by decide) (fun c11 => ?_) (fun c11 => ?_)
      · refine g_iload (pc := 39) W10 d_c_fst6_39 rfl ?_
        refine g_istore_n (pc := 41) (ls' := #[.val (.ref a), .val (.int q), .val (.int (0 : Int32)), .val (.int (0 : Int32)), .val (.int (0 : Int32))]) W10 d_c_fst6_41 rfl ?_
        refine g_goto 8 (pc := 42) W10 d_c_fst6_42 (by decide) (by decide) ?_
        refine g_iload_n (pc := 8) W10 d_c_fst6_8 rfl ?_
        refine g_iload_n (pc := 9) W10 d_c_fst6_9 rfl ?_
        refine g_icmpY 45 (pc := 10) W10 d_c_fst6_10 (by decide) (by decide) (by decide) ?_
        refine g_iload_n (pc := 45) W10 d_c_fst6_45 rfl ?_
        refine g_aload_n (pc := 46) W10 d_c_fst6_46 rfl rfl ?_
        refine g_getfield (pc := 47) (i := 0) (j := 0) (host := "") W10 (Or.inl (hw _ (List.mem_of_getElem? (i := 16) rfl))) rfl rfl rfl d_c_fst6_47 (fun T12 W13 => ?_)
        refine g_arraylength (pc := 50) (i := 1) (6 : Int32) W13 rfl rfl d_c_fst6_50 ?_
        refine g_icmpN (pc := 51) W13 d_c_fst6_51 (by decide) ?_
        refine g_aload_n (pc := 54) W13 d_c_fst6_54 rfl rfl ?_
        refine g_getfield (pc := 55) (i := 0) (j := 0) (host := "") W13 (Or.inl (hw _ (List.mem_of_getElem? (i := 16) rfl))) rfl rfl rfl d_c_fst6_55 (fun T14 W15 => ?_)
        refine g_iload_n (pc := 58) W15 d_c_fst6_58 rfl ?_
        refine g_iaload (pc := 59) (i := 1) (v := .int s0) W15 rfl (by decide) rfl d_c_fst6_59 ?_
        refine g_iload_n (pc := 60) W15 d_c_fst6_60 rfl ?_
        refine g_icmp_ne 68 (pc := 61) W15 d_c_fst6_61 (by decide) (by decide) (fun c16 => ?_) (fun c16 => ?_)
        · refine g_iconst (pc := 68) (-1 : Int32) (by decide) W15 d_c_fst6_68 ?_
          exact g_ireturn (pc := 69) rfl W15 d_c_fst6_69 (by decide) (by decide) ⟨by simp only [Int32.lt_iff_toInt_lt, ← Int32.toInt_inj] at c5 c8 c11 c16; have e : rf6 s0 s1 s2 s3 s4 s5 q = (-1 : Int32) := (by simp only [rf6, ← Int32.toInt_inj]; (repeat' split) <;> first | rfl | (exfalso; omega)); rw [e], rfl⟩
        · refine g_iload_n (pc := 64) W15 d_c_fst6_64 rfl ?_
          refine g_goto 69 (pc := 65) W15 d_c_fst6_65 (by decide) (by decide) ?_
          exact g_ireturn (pc := 69) rfl W15 d_c_fst6_69 (by decide) (by decide) ⟨by simp only [Int32.lt_iff_toInt_lt, ← Int32.toInt_inj] at c5 c8 c11 c16; have e : rf6 s0 s1 s2 s3 s4 s5 q = (0 : Int32) := (by simp only [rf6, ← Int32.toInt_inj]; (repeat' split) <;> first | rfl | (exfalso; omega)); rw [e], rfl⟩
      · refine g_iload (pc := 31) W10 d_c_fst6_31 rfl ?_
        refine g_iconst (pc := 33) (1 : Int32) (by decide) W10 d_c_fst6_33 ?_
        refine g_iadd (pc := 34) W10 d_c_fst6_34 ?_
        show Go p_ e_ bl_ _ (T9.setTop (mkF m_ 35 #[.val (.ref a), .val (.int q), .val (.int (0 : Int32)), .val (.int (1 : Int32)), .val (.int (0 : Int32))] [.int (1 : Int32)]))
        refine g_istore_n (pc := 35) (ls' := #[.val (.ref a), .val (.int q), .val (.int (1 : Int32)), .val (.int (1 : Int32)), .val (.int (0 : Int32))]) W10 d_c_fst6_35 rfl ?_
        refine g_goto 42 (pc := 36) W10 d_c_fst6_36 (by decide) (by decide) ?_
        refine g_goto 8 (pc := 42) W10 d_c_fst6_42 (by decide) (by decide) ?_
        refine g_iload_n (pc := 8) W10 d_c_fst6_8 rfl ?_
        refine g_iload_n (pc := 9) W10 d_c_fst6_9 rfl ?_
        refine g_icmpY 45 (pc := 10) W10 d_c_fst6_10 (by decide) (by decide) (by decide) ?_
        refine g_iload_n (pc := 45) W10 d_c_fst6_45 rfl ?_
        refine g_aload_n (pc := 46) W10 d_c_fst6_46 rfl rfl ?_
        refine g_getfield (pc := 47) (i := 0) (j := 0) (host := "") W10 (Or.inl (hw _ (List.mem_of_getElem? (i := 16) rfl))) rfl rfl rfl d_c_fst6_47 (fun T17 W18 => ?_)
        refine g_arraylength (pc := 50) (i := 1) (6 : Int32) W18 rfl rfl d_c_fst6_50 ?_
        refine g_icmpN (pc := 51) W18 d_c_fst6_51 (by decide) ?_
        refine g_aload_n (pc := 54) W18 d_c_fst6_54 rfl rfl ?_
        refine g_getfield (pc := 55) (i := 0) (j := 0) (host := "") W18 (Or.inl (hw _ (List.mem_of_getElem? (i := 16) rfl))) rfl rfl rfl d_c_fst6_55 (fun T19 W20 => ?_)
        refine g_iload_n (pc := 58) W20 d_c_fst6_58 rfl ?_
        refine g_iaload (pc := 59) (i := 1) (v := .int s1) W20 rfl (by decide) rfl d_c_fst6_59 ?_
        refine g_iload_n (pc := 60) W20 d_c_fst6_60 rfl ?_
        refine g_icmp_ne 68 (pc := 61) W20 d_c_fst6_61 (by decide) (by decide) (fun c21 => ?_) (fun c21 => ?_)
        · refine g_iconst (pc := 68) (-1 : Int32) (by decide) W20 d_c_fst6_68 ?_
          exact g_ireturn (pc := 69) rfl W20 d_c_fst6_69 (by decide) (by decide) ⟨by simp only [Int32.lt_iff_toInt_lt, ← Int32.toInt_inj] at c5 c8 c11 c21; have e : rf6 s0 s1 s2 s3 s4 s5 q = (-1 : Int32) := (by simp only [rf6, ← Int32.toInt_inj]; (repeat' split) <;> first | rfl | (exfalso; omega)); rw [e], rfl⟩
        · refine g_iload_n (pc := 64) W20 d_c_fst6_64 rfl ?_
          refine g_goto 69 (pc := 65) W20 d_c_fst6_65 (by decide) (by decide) ?_
          exact g_ireturn (pc := 69) rfl W20 d_c_fst6_69 (by decide) (by decide) ⟨by simp only [Int32.lt_iff_toInt_lt, ← Int32.toInt_inj] at c5 c8 c11 c21; have e : rf6 s0 s1 s2 s3 s4 s5 q = (1 : Int32) := (by simp only [rf6, ← Int32.toInt_inj]; (repeat' split) <;> first | rfl | (exfalso; omega)); rw [e], rfl⟩
    · refine g_iload (pc := 31) W7 d_c_fst6_31 rfl ?_
      refine g_iconst (pc := 33) (1 : Int32) (by decide) W7 d_c_fst6_33 ?_
      refine g_iadd (pc := 34) W7 d_c_fst6_34 ?_
      show Go p_ e_ bl_ _ (T6.setTop (mkF m_ 35 #[.val (.ref a), .val (.int q), .val (.int (0 : Int32)), .val (.int (3 : Int32)), .val (.int (1 : Int32))] [.int (2 : Int32)]))
      refine g_istore_n (pc := 35) (ls' := #[.val (.ref a), .val (.int q), .val (.int (2 : Int32)), .val (.int (3 : Int32)), .val (.int (1 : Int32))]) W7 d_c_fst6_35 rfl ?_
      refine g_goto 42 (pc := 36) W7 d_c_fst6_36 (by decide) (by decide) ?_
      refine g_goto 8 (pc := 42) W7 d_c_fst6_42 (by decide) (by decide) ?_
      refine g_iload_n (pc := 8) W7 d_c_fst6_8 rfl ?_
      refine g_iload_n (pc := 9) W7 d_c_fst6_9 rfl ?_
      refine g_icmpN (pc := 10) W7 d_c_fst6_10 (by decide) ?_
      refine g_iload_n (pc := 13) W7 d_c_fst6_13 rfl ?_
      refine g_iload_n (pc := 14) W7 d_c_fst6_14 rfl ?_
      refine g_iadd (pc := 15) W7 d_c_fst6_15 ?_
      show Go p_ e_ bl_ _ (T6.setTop (mkF m_ 16 #[.val (.ref a), .val (.int q), .val (.int (2 : Int32)), .val (.int (3 : Int32)), .val (.int (1 : Int32))] [.int (5 : Int32)]))
      refine g_iconst (pc := 16) (1 : Int32) (by decide) W7 d_c_fst6_16 ?_
      refine g_iushr (pc := 17) W7 d_c_fst6_17 ?_
      show Go p_ e_ bl_ _ (T6.setTop (mkF m_ 18 #[.val (.ref a), .val (.int q), .val (.int (2 : Int32)), .val (.int (3 : Int32)), .val (.int (1 : Int32))] [.int (2 : Int32)]))
      refine g_istore (pc := 18) (ls' := #[.val (.ref a), .val (.int q), .val (.int (2 : Int32)), .val (.int (3 : Int32)), .val (.int (2 : Int32))]) W7 d_c_fst6_18 rfl ?_
      refine g_aload_n (pc := 20) W7 d_c_fst6_20 rfl rfl ?_
      refine g_getfield (pc := 21) (i := 0) (j := 0) (host := "") W7 (Or.inl (hw _ (List.mem_of_getElem? (i := 16) rfl))) rfl rfl rfl d_c_fst6_21 (fun T22 W23 => ?_)
      refine g_iload (pc := 24) W23 d_c_fst6_24 rfl ?_
      refine g_iaload (pc := 26) (i := 1) (v := .int s2) W23 rfl (by decide) rfl d_c_fst6_26 ?_
      refine g_iload_n (pc := 27) W23 d_c_fst6_27 rfl ?_
      refine g_icmp_ge 39 (pc := 28) W23 d_c_fst6_28 (by decide) (by decide) (fun c24 => ?_) (fun c24 => ?_)
      · refine g_iload (pc := 39) W23 d_c_fst6_39 rfl ?_
        refine g_istore_n (pc := 41) (ls' := #[.val (.ref a), .val (.int q), .val (.int (2 : Int32)), .val (.int (2 : Int32)), .val (.int (2 : Int32))]) W23 d_c_fst6_41 rfl ?_
        refine g_goto 8 (pc := 42) W23 d_c_fst6_42 (by decide) (by decide) ?_
        refine g_iload_n (pc := 8) W23 d_c_fst6_8 rfl ?_
        refine g_iload_n (pc := 9) W23 d_c_fst6_9 rfl ?_
        refine g_icmpY 45 (pc := 10) W23 d_c_fst6_10 (by decide) (by decide) (by decide) ?_
        refine g_iload_n (pc := 45) W23 d_c_fst6_45 rfl ?_
        refine g_aload_n (pc := 46) W23 d_c_fst6_46 rfl rfl ?_
        refine g_getfield (pc := 47) (i := 0) (j := 0) (host := "") W23 (Or.inl (hw _ (List.mem_of_getElem? (i := 16) rfl))) rfl rfl rfl d_c_fst6_47 (fun T25 W26 => ?_)
        refine g_arraylength (pc := 50) (i := 1) (6 : Int32) W26 rfl rfl d_c_fst6_50 ?_
        refine g_icmpN (pc := 51) W26 d_c_fst6_51 (by decide) ?_
        refine g_aload_n (pc := 54) W26 d_c_fst6_54 rfl rfl ?_
        refine g_getfield (pc := 55) (i := 0) (j := 0) (host := "") W26 (Or.inl (hw _ (List.mem_of_getElem? (i := 16) rfl))) rfl rfl rfl d_c_fst6_55 (fun T27 W28 => ?_)
        refine g_iload_n (pc := 58) W28 d_c_fst6_58 rfl ?_
        refine g_iaload (pc := 59) (i := 1) (v := .int s2) W28 rfl (by decide) rfl d_c_fst6_59 ?_
        refine g_iload_n (pc := 60) W28 d_c_fst6_60 rfl ?_
        refine g_icmp_ne 68 (pc := 61) W28 d_c_fst6_61 (by decide) (by decide) (fun c29 => ?_) (fun c29 => ?_)
        · refine g_iconst (pc := 68) (-1 : Int32) (by decide) W28 d_c_fst6_68 ?_
          exact g_ireturn (pc := 69) rfl W28 d_c_fst6_69 (by decide) (by decide) ⟨by simp only [Int32.lt_iff_toInt_lt, ← Int32.toInt_inj] at c5 c8 c24 c29; have e : rf6 s0 s1 s2 s3 s4 s5 q = (-1 : Int32) := (by simp only [rf6, ← Int32.toInt_inj]; (repeat' split) <;> first | rfl | (exfalso; omega)); rw [e], rfl⟩
        · refine g_iload_n (pc := 64) W28 d_c_fst6_64 rfl ?_
          refine g_goto 69 (pc := 65) W28 d_c_fst6_65 (by decide) (by decide) ?_
          exact g_ireturn (pc := 69) rfl W28 d_c_fst6_69 (by decide) (by decide) ⟨by simp only [Int32.lt_iff_toInt_lt, ← Int32.toInt_inj] at c5 c8 c24 c29; have e : rf6 s0 s1 s2 s3 s4 s5 q = (2 : Int32) := (by simp only [rf6, ← Int32.toInt_inj]; (repeat' split) <;> first | rfl | (exfalso; omega)); rw [e], rfl⟩
      · refine g_iload (pc := 31) W23 d_c_fst6_31 rfl ?_
        refine g_iconst (pc := 33) (1 : Int32) (by decide) W23 d_c_fst6_33 ?_
        refine g_iadd (pc := 34) W23 d_c_fst6_34 ?_
        show Go p_ e_ bl_ _ (T22.setTop (mkF m_ 35 #[.val (.ref a), .val (.int q), .val (.int (2 : Int32)), .val (.int (3 : Int32)), .val (.int (2 : Int32))] [.int (3 : Int32)]))
        refine g_istore_n (pc := 35) (ls' := #[.val (.ref a), .val (.int q), .val (.int (3 : Int32)), .val (.int (3 : Int32)), .val (.int (2 : Int32))]) W23 d_c_fst6_35 rfl ?_
        refine g_goto 42 (pc := 36) W23 d_c_fst6_36 (by decide) (by decide) ?_
        refine g_goto 8 (pc := 42) W23 d_c_fst6_42 (by decide) (by decide) ?_
        refine g_iload_n (pc := 8) W23 d_c_fst6_8 rfl ?_
        refine g_iload_n (pc := 9) W23 d_c_fst6_9 rfl ?_
        refine g_icmpY 45 (pc := 10) W23 d_c_fst6_10 (by decide) (by decide) (by decide) ?_
        refine g_iload_n (pc := 45) W23 d_c_fst6_45 rfl ?_
        refine g_aload_n (pc := 46) W23 d_c_fst6_46 rfl rfl ?_
        refine g_getfield (pc := 47) (i := 0) (j := 0) (host := "") W23 (Or.inl (hw _ (List.mem_of_getElem? (i := 16) rfl))) rfl rfl rfl d_c_fst6_47 (fun T30 W31 => ?_)
        refine g_arraylength (pc := 50) (i := 1) (6 : Int32) W31 rfl rfl d_c_fst6_50 ?_
        refine g_icmpN (pc := 51) W31 d_c_fst6_51 (by decide) ?_
        refine g_aload_n (pc := 54) W31 d_c_fst6_54 rfl rfl ?_
        refine g_getfield (pc := 55) (i := 0) (j := 0) (host := "") W31 (Or.inl (hw _ (List.mem_of_getElem? (i := 16) rfl))) rfl rfl rfl d_c_fst6_55 (fun T32 W33 => ?_)
        refine g_iload_n (pc := 58) W33 d_c_fst6_58 rfl ?_
        refine g_iaload (pc := 59) (i := 1) (v := .int s3) W33 rfl (by decide) rfl d_c_fst6_59 ?_
        refine g_iload_n (pc := 60) W33 d_c_fst6_60 rfl ?_
        refine g_icmp_ne 68 (pc := 61) W33 d_c_fst6_61 (by decide) (by decide) (fun c34 => ?_) (fun c34 => ?_)
        · refine g_iconst (pc := 68) (-1 : Int32) (by decide) W33 d_c_fst6_68 ?_
          exact g_ireturn (pc := 69) rfl W33 d_c_fst6_69 (by decide) (by decide) ⟨by simp only [Int32.lt_iff_toInt_lt, ← Int32.toInt_inj] at c5 c8 c24 c34; have e : rf6 s0 s1 s2 s3 s4 s5 q = (-1 : Int32) := (by simp only [rf6, ← Int32.toInt_inj]; (repeat' split) <;> first | rfl | (exfalso; omega)); rw [e], rfl⟩
        · refine g_iload_n (pc := 64) W33 d_c_fst6_64 rfl ?_
          refine g_goto 69 (pc := 65) W33 d_c_fst6_65 (by decide) (by decide) ?_
          exact g_ireturn (pc := 69) rfl W33 d_c_fst6_69 (by decide) (by decide) ⟨by simp only [Int32.lt_iff_toInt_lt, ← Int32.toInt_inj] at c5 c8 c24 c34; have e : rf6 s0 s1 s2 s3 s4 s5 q = (3 : Int32) := (by simp only [rf6, ← Int32.toInt_inj]; (repeat' split) <;> first | rfl | (exfalso; omega)); rw [e], rfl⟩
  · refine g_iload (pc := 31) W4 d_c_fst6_31 rfl ?_
    refine g_iconst (pc := 33) (1 : Int32) (by decide) W4 d_c_fst6_33 ?_
    refine g_iadd (pc := 34) W4 d_c_fst6_34 ?_
    show Go p_ e_ bl_ _ (T3.setTop (mkF m_ 35 #[.val (.ref a), .val (.int q), .val (.int (0 : Int32)), .val (.int (6 : Int32)), .val (.int (3 : Int32))] [.int (4 : Int32)]))
    refine g_istore_n (pc := 35) (ls' := #[.val (.ref a), .val (.int q), .val (.int (4 : Int32)), .val (.int (6 : Int32)), .val (.int (3 : Int32))]) W4 d_c_fst6_35 rfl ?_
    refine g_goto 42 (pc := 36) W4 d_c_fst6_36 (by decide) (by decide) ?_
    refine g_goto 8 (pc := 42) W4 d_c_fst6_42 (by decide) (by decide) ?_
    refine g_iload_n (pc := 8) W4 d_c_fst6_8 rfl ?_
    refine g_iload_n (pc := 9) W4 d_c_fst6_9 rfl ?_
    refine g_icmpN (pc := 10) W4 d_c_fst6_10 (by decide) ?_
    refine g_iload_n (pc := 13) W4 d_c_fst6_13 rfl ?_
    refine g_iload_n (pc := 14) W4 d_c_fst6_14 rfl ?_
    refine g_iadd (pc := 15) W4 d_c_fst6_15 ?_
    show Go p_ e_ bl_ _ (T3.setTop (mkF m_ 16 #[.val (.ref a), .val (.int q), .val (.int (4 : Int32)), .val (.int (6 : Int32)), .val (.int (3 : Int32))] [.int (10 : Int32)]))
    refine g_iconst (pc := 16) (1 : Int32) (by decide) W4 d_c_fst6_16 ?_
    refine g_iushr (pc := 17) W4 d_c_fst6_17 ?_
    show Go p_ e_ bl_ _ (T3.setTop (mkF m_ 18 #[.val (.ref a), .val (.int q), .val (.int (4 : Int32)), .val (.int (6 : Int32)), .val (.int (3 : Int32))] [.int (5 : Int32)]))
    refine g_istore (pc := 18) (ls' := #[.val (.ref a), .val (.int q), .val (.int (4 : Int32)), .val (.int (6 : Int32)), .val (.int (5 : Int32))]) W4 d_c_fst6_18 rfl ?_
    refine g_aload_n (pc := 20) W4 d_c_fst6_20 rfl rfl ?_
    refine g_getfield (pc := 21) (i := 0) (j := 0) (host := "") W4 (Or.inl (hw _ (List.mem_of_getElem? (i := 16) rfl))) rfl rfl rfl d_c_fst6_21 (fun T35 W36 => ?_)
    refine g_iload (pc := 24) W36 d_c_fst6_24 rfl ?_
    refine g_iaload (pc := 26) (i := 1) (v := .int s5) W36 rfl (by decide) rfl d_c_fst6_26 ?_
    refine g_iload_n (pc := 27) W36 d_c_fst6_27 rfl ?_
    refine g_icmp_ge 39 (pc := 28) W36 d_c_fst6_28 (by decide) (by decide) (fun c37 => ?_) (fun c37 => ?_)
    · refine g_iload (pc := 39) W36 d_c_fst6_39 rfl ?_
      refine g_istore_n (pc := 41) (ls' := #[.val (.ref a), .val (.int q), .val (.int (4 : Int32)), .val (.int (5 : Int32)), .val (.int (5 : Int32))]) W36 d_c_fst6_41 rfl ?_
      refine g_goto 8 (pc := 42) W36 d_c_fst6_42 (by decide) (by decide) ?_
      refine g_iload_n (pc := 8) W36 d_c_fst6_8 rfl ?_
      refine g_iload_n (pc := 9) W36 d_c_fst6_9 rfl ?_
      refine g_icmpN (pc := 10) W36 d_c_fst6_10 (by decide) ?_
      refine g_iload_n (pc := 13) W36 d_c_fst6_13 rfl ?_
      refine g_iload_n (pc := 14) W36 d_c_fst6_14 rfl ?_
      refine g_iadd (pc := 15) W36 d_c_fst6_15 ?_
      show Go p_ e_ bl_ _ (T35.setTop (mkF m_ 16 #[.val (.ref a), .val (.int q), .val (.int (4 : Int32)), .val (.int (5 : Int32)), .val (.int (5 : Int32))] [.int (9 : Int32)]))
      refine g_iconst (pc := 16) (1 : Int32) (by decide) W36 d_c_fst6_16 ?_
      refine g_iushr (pc := 17) W36 d_c_fst6_17 ?_
      show Go p_ e_ bl_ _ (T35.setTop (mkF m_ 18 #[.val (.ref a), .val (.int q), .val (.int (4 : Int32)), .val (.int (5 : Int32)), .val (.int (5 : Int32))] [.int (4 : Int32)]))
      refine g_istore (pc := 18) (ls' := #[.val (.ref a), .val (.int q), .val (.int (4 : Int32)), .val (.int (5 : Int32)), .val (.int (4 : Int32))]) W36 d_c_fst6_18 rfl ?_
      refine g_aload_n (pc := 20) W36 d_c_fst6_20 rfl rfl ?_
      refine g_getfield (pc := 21) (i := 0) (j := 0) (host := "") W36 (Or.inl (hw _ (List.mem_of_getElem? (i := 16) rfl))) rfl rfl rfl d_c_fst6_21 (fun T38 W39 => ?_)
      refine g_iload (pc := 24) W39 d_c_fst6_24 rfl ?_
      refine g_iaload (pc := 26) (i := 1) (v := .int s4) W39 rfl (by decide) rfl d_c_fst6_26 ?_
      refine g_iload_n (pc := 27) W39 d_c_fst6_27 rfl ?_
      refine g_icmp_ge 39 (pc := 28) W39 d_c_fst6_28 (by decide) (by decide) (fun c40 => ?_) (fun c40 => ?_)
      · refine g_iload (pc := 39) W39 d_c_fst6_39 rfl ?_
        refine g_istore_n (pc := 41) (ls' := #[.val (.ref a), .val (.int q), .val (.int (4 : Int32)), .val (.int (4 : Int32)), .val (.int (4 : Int32))]) W39 d_c_fst6_41 rfl ?_
        refine g_goto 8 (pc := 42) W39 d_c_fst6_42 (by decide) (by decide) ?_
        refine g_iload_n (pc := 8) W39 d_c_fst6_8 rfl ?_
        refine g_iload_n (pc := 9) W39 d_c_fst6_9 rfl ?_
        refine g_icmpY 45 (pc := 10) W39 d_c_fst6_10 (by decide) (by decide) (by decide) ?_
        refine g_iload_n (pc := 45) W39 d_c_fst6_45 rfl ?_
        refine g_aload_n (pc := 46) W39 d_c_fst6_46 rfl rfl ?_
        refine g_getfield (pc := 47) (i := 0) (j := 0) (host := "") W39 (Or.inl (hw _ (List.mem_of_getElem? (i := 16) rfl))) rfl rfl rfl d_c_fst6_47 (fun T41 W42 => ?_)
        refine g_arraylength (pc := 50) (i := 1) (6 : Int32) W42 rfl rfl d_c_fst6_50 ?_
        refine g_icmpN (pc := 51) W42 d_c_fst6_51 (by decide) ?_
        refine g_aload_n (pc := 54) W42 d_c_fst6_54 rfl rfl ?_
        refine g_getfield (pc := 55) (i := 0) (j := 0) (host := "") W42 (Or.inl (hw _ (List.mem_of_getElem? (i := 16) rfl))) rfl rfl rfl d_c_fst6_55 (fun T43 W44 => ?_)
        refine g_iload_n (pc := 58) W44 d_c_fst6_58 rfl ?_
        refine g_iaload (pc := 59) (i := 1) (v := .int s4) W44 rfl (by decide) rfl d_c_fst6_59 ?_
        refine g_iload_n (pc := 60) W44 d_c_fst6_60 rfl ?_
        refine g_icmp_ne 68 (pc := 61) W44 d_c_fst6_61 (by decide) (by decide) (fun c45 => ?_) (fun c45 => ?_)
        · refine g_iconst (pc := 68) (-1 : Int32) (by decide) W44 d_c_fst6_68 ?_
          exact g_ireturn (pc := 69) rfl W44 d_c_fst6_69 (by decide) (by decide) ⟨by simp only [Int32.lt_iff_toInt_lt, ← Int32.toInt_inj] at c5 c37 c40 c45; have e : rf6 s0 s1 s2 s3 s4 s5 q = (-1 : Int32) := (by simp only [rf6, ← Int32.toInt_inj]; (repeat' split) <;> first | rfl | (exfalso; omega)); rw [e], rfl⟩
        · refine g_iload_n (pc := 64) W44 d_c_fst6_64 rfl ?_
          refine g_goto 69 (pc := 65) W44 d_c_fst6_65 (by decide) (by decide) ?_
          exact g_ireturn (pc := 69) rfl W44 d_c_fst6_69 (by decide) (by decide) ⟨by simp only [Int32.lt_iff_toInt_lt, ← Int32.toInt_inj] at c5 c37 c40 c45; have e : rf6 s0 s1 s2 s3 s4 s5 q = (4 : Int32) := (by simp only [rf6, ← Int32.toInt_inj]; (repeat' split) <;> first | rfl | (exfalso; omega)); rw [e], rfl⟩
      · refine g_iload (pc := 31) W39 d_c_fst6_31 rfl ?_
        refine g_iconst (pc := 33) (1 : Int32) (by decide) W39 d_c_fst6_33 ?_
        refine g_iadd (pc := 34) W39 d_c_fst6_34 ?_
        show Go p_ e_ bl_ _ (T38.setTop (mkF m_ 35 #[.val (.ref a), .val (.int q), .val (.int (4 : Int32)), .val (.int (5 : Int32)), .val (.int (4 : Int32))] [.int (5 : Int32)]))
        refine g_istore_n (pc := 35) (ls' := #[.val (.ref a), .val (.int q), .val (.int (5 : Int32)), .val (.int (5 : Int32)), .val (.int (4 : Int32))]) W39 d_c_fst6_35 rfl ?_
        refine g_goto 42 (pc := 36) W39 d_c_fst6_36 (by decide) (by decide) ?_
        refine g_goto 8 (pc := 42) W39 d_c_fst6_42 (by decide) (by decide) ?_
        refine g_iload_n (pc := 8) W39 d_c_fst6_8 rfl ?_
        refine g_iload_n (pc := 9) W39 d_c_fst6_9 rfl ?_
        refine g_icmpY 45 (pc := 10) W39 d_c_fst6_10 (by decide) (by decide) (by decide) ?_
        refine g_iload_n (pc := 45) W39 d_c_fst6_45 rfl ?_
        refine g_aload_n (pc := 46) W39 d_c_fst6_46 rfl rfl ?_
        refine g_getfield (pc := 47) (i := 0) (j := 0) (host := "") W39 (Or.inl (hw _ (List.mem_of_getElem? (i := 16) rfl))) rfl rfl rfl d_c_fst6_47 (fun T46 W47 => ?_)
        refine g_arraylength (pc := 50) (i := 1) (6 : Int32) W47 rfl rfl d_c_fst6_50 ?_
        refine g_icmpN (pc := 51) W47 d_c_fst6_51 (by decide) ?_
        refine g_aload_n (pc := 54) W47 d_c_fst6_54 rfl rfl ?_
        refine g_getfield (pc := 55) (i := 0) (j := 0) (host := "") W47 (Or.inl (hw _ (List.mem_of_getElem? (i := 16) rfl))) rfl rfl rfl d_c_fst6_55 (fun T48 W49 => ?_)
        refine g_iload_n (pc := 58) W49 d_c_fst6_58 rfl ?_
        refine g_iaload (pc := 59) (i := 1) (v := .int s5) W49 rfl (by decide) rfl d_c_fst6_59 ?_
        refine g_iload_n (pc := 60) W49 d_c_fst6_60 rfl ?_
        refine g_icmp_ne 68 (pc := 61) W49 d_c_fst6_61 (by decide) (by decide) (fun c50 => ?_) (fun c50 => ?_)
        · refine g_iconst (pc := 68) (-1 : Int32) (by decide) W49 d_c_fst6_68 ?_
          exact g_ireturn (pc := 69) rfl W49 d_c_fst6_69 (by decide) (by decide) ⟨by simp only [Int32.lt_iff_toInt_lt, ← Int32.toInt_inj] at c5 c37 c40 c50; have e : rf6 s0 s1 s2 s3 s4 s5 q = (-1 : Int32) := (by simp only [rf6, ← Int32.toInt_inj]; (repeat' split) <;> first | rfl | (exfalso; omega)); rw [e], rfl⟩
        · refine g_iload_n (pc := 64) W49 d_c_fst6_64 rfl ?_
          refine g_goto 69 (pc := 65) W49 d_c_fst6_65 (by decide) (by decide) ?_
          exact g_ireturn (pc := 69) rfl W49 d_c_fst6_69 (by decide) (by decide) ⟨by simp only [Int32.lt_iff_toInt_lt, ← Int32.toInt_inj] at c5 c37 c40 c50; have e : rf6 s0 s1 s2 s3 s4 s5 q = (5 : Int32) := (by simp only [rf6, ← Int32.toInt_inj]; (repeat' split) <;> first | rfl | (exfalso; omega)); rw [e], rfl⟩
    · refine g_iload (pc := 31) W36 d_c_fst6_31 rfl ?_
      refine g_iconst (pc := 33) (1 : Int32) (by decide) W36 d_c_fst6_33 ?_
      refine g_iadd (pc := 34) W36 d_c_fst6_34 ?_
      show Go p_ e_ bl_ _ (T35.setTop (mkF m_ 35 #[.val (.ref a), .val (.int q), .val (.int (4 : Int32)), .val (.int (6 : Int32)), .val (.int (5 : Int32))] [.int (6 : Int32)]))
      refine g_istore_n (pc := 35) (ls' := #[.val (.ref a), .val (.int q), .val (.int (6 : Int32)), .val (.int (6 : Int32)), .val (.int (5 : Int32))]) W36 d_c_fst6_35 rfl ?_
      refine g_goto 42 (pc := 36) W36 d_c_fst6_36 (by decide) (by decide) ?_
      refine g_goto 8 (pc := 42) W36 d_c_fst6_42 (by decide) (by decide) ?_
      refine g_iload_n (pc := 8) W36 d_c_fst6_8 rfl ?_
      refine g_iload_n (pc := 9) W36 d_c_fst6_9 rfl ?_
      refine g_icmpY 45 (pc := 10) W36 d_c_fst6_10 (by decide) (by decide) (by decide) ?_
      refine g_iload_n (pc := 45) W36 d_c_fst6_45 rfl ?_
      refine g_aload_n (pc := 46) W36 d_c_fst6_46 rfl rfl ?_
      refine g_getfield (pc := 47) (i := 0) (j := 0) (host := "") W36 (Or.inl (hw _ (List.mem_of_getElem? (i := 16) rfl))) rfl rfl rfl d_c_fst6_47 (fun T51 W52 => ?_)
      refine g_arraylength (pc := 50) (i := 1) (6 : Int32) W52 rfl rfl d_c_fst6_50 ?_
      refine g_icmpY 68 (pc := 51) W52 d_c_fst6_51 (by decide) (by decide) (by decide) ?_
      refine g_iconst (pc := 68) (-1 : Int32) (by decide) W52 d_c_fst6_68 ?_
      exact g_ireturn (pc := 69) rfl W52 d_c_fst6_69 (by decide) (by decide) ⟨by simp only [Int32.lt_iff_toInt_lt, ← Int32.toInt_inj] at c5 c37; have e : rf6 s0 s1 s2 s3 s4 s5 q = (-1 : Int32) := (by simp only [rf6, ← Int32.toInt_inj]; (repeat' split) <;> first | rfl | (exfalso; omega)); rw [e], rfl⟩
set_option maxRecDepth 65536 in
set_option maxHeartbeats 40000000 in
theorem c_law (l : Launch) (Z : State) (a0 : Array Value) (hw : ∀ d ∈ tables_1, d.before a0 Z = true) {B : Nat} (p0 p1 p2 p3 p4 p5 : Int32) :
    Con l Z FM B x code maxLocals ret room_1 tables_1 #[.int p0, .int p1, .int p2, .int p3, .int p4, .int p5] [] (fun v os => v = some (.int 1)) := by
  refine Con.of (plainFor_of_name (by first | (simp [plainName, overriddenIn]; done) | decide +kernel)) (ls := #[.val (.int p0), .val (.int p1), .val (.int p2), .val (.int p3), .val (.int p4), .val (.int p5), .unset, .unset, .unset, .unset, .unset, .unset, .unset, .unset, .unset, .unset, .unset, .unset, .unset, .unset, .unset]) (fun m => by first | (simp [entryFrame, mkF, argsToLocals, Value.category, maxLocals]; done) | rfl) ?_
  intro p_ e_ h_ s_ m_ bl_ me_ c_ T0 W0
  refine g_iload_n (pc := 0) W0 at_0 rfl ?_
  refine g_istore (pc := 1) (ls' := #[.val (.int p0), .val (.int p1), .val (.int p2), .val (.int p3), .val (.int p4), .val (.int p5), .val (.int p0), .unset, .unset, .unset, .unset, .unset, .unset, .unset, .unset, .unset, .unset, .unset, .unset, .unset, .unset]) W0 at_1 rfl ?_
  refine g_iload_n (pc := 3) W0 at_3 rfl ?_
  refine g_istore (pc := 4) (ls' := #[.val (.int p0), .val (.int p1), .val (.int p2), .val (.int p3), .val (.int p4), .val (.int p5), .val (.int p0), .val (.int p1), .unset, .unset, .unset, .unset, .unset, .unset, .unset, .unset, .unset, .unset, .unset, .unset, .unset]) W0 at_4 rfl ?_
  refine g_iload_n (pc := 6) W0 at_6 rfl ?_
  refine g_istore (pc := 7) (ls' := #[.val (.int p0), .val (.int p1), .val (.int p2), .val (.int p3), .val (.int p4), .val (.int p5), .val (.int p0), .val (.int p1), .val (.int p2), .unset, .unset, .unset, .unset, .unset, .unset, .unset, .unset, .unset, .unset, .unset, .unset]) W0 at_7 rfl ?_
  refine g_iload_n (pc := 9) W0 at_9 rfl ?_
  refine g_istore (pc := 10) (ls' := #[.val (.int p0), .val (.int p1), .val (.int p2), .val (.int p3), .val (.int p4), .val (.int p5), .val (.int p0), .val (.int p1), .val (.int p2), .val (.int p3), .unset, .unset, .unset, .unset, .unset, .unset, .unset, .unset, .unset, .unset, .unset]) W0 at_10 rfl ?_
  refine Go.cut (T := T0) (fr := fun z1 : Int32 × Int32 × Int32 × Int32 × Slot => (mkF m_ 107 #[.val (.int p0), .val (.int p1), .val (.int p2), .val (.int p3), .val (.int p4), .val (.int p5), .val (.int z1.1), .val (.int z1.2.1), .val (.int z1.2.2.1), .val (.int z1.2.2.2.1), z1.2.2.2.2, .unset, .unset, .unset, .unset, .unset, .unset, .unset, .unset, .unset, .unset] [])) (fun ⟨va, vb, vc, vd, vt⟩ => va.toInt ≤ vb.toInt ∧ vb.toInt ≤ vc.toInt ∧ vc.toInt ≤ vd.toInt) ?_ (fun cut2 => ?_)
  · rintro ⟨va, vb, vc, vd, vt⟩ hq3
    change va.toInt ≤ vb.toInt ∧ vb.toInt ≤ vc.toInt ∧ vc.toInt ≤ vd.toInt at hq3
    show Go p_ e_ bl_ _ (T0.setTop (mkF m_ 107 #[.val (.int p0), .val (.int p1), .val (.int p2), .val (.int p3), .val (.int p4), .val (.int p5), .val (.int va), .val (.int vb), .val (.int vc), .val (.int vd), vt, .unset, .unset, .unset, .unset, .unset, .unset, .unset, .unset, .unset, .unset] []))
    refine g_iconst (pc := 107) (4 : Int32) (by decide) W0 at_107 ?_
    refine g_newarray (pc := 108) (ty := .int) (vs := [.int (0 : Int32), .int (0 : Int32), .int (0 : Int32), .int (0 : Int32)]) 4 W0 (hw _ (List.mem_of_getElem? (i := 0) rfl)) rfl (by decide) (by decide) (by decide) rfl at_108 (by decide) (by decide) (fun T5 b4 W6 => ?_)
    have W7 := W6.re (os' := [(b4, (.array .int), [.int (0 : Int32), .int (0 : Int32), .int (0 : Int32), .int (0 : Int32)])]) rfl
    refine g_dup (pc := 110) W7 at_110 rfl ?_
    refine g_iconst (pc := 111) (0 : Int32) (by decide) W7 at_111 ?_
    refine g_iload (pc := 112) W7 at_112 rfl ?_
    refine g_iastore (pc := 114) (i := 0) (os' := [(b4, (.array .int), [.int va, .int (0 : Int32), .int (0 : Int32), .int (0 : Int32)])]) 0 W7 rfl (by decide) (by decide) (Nat.le_of_ble_eq_true rfl) rfl at_114 (fun T8 W9 => ?_)
    refine g_dup (pc := 115) W9 at_115 rfl ?_
    refine g_iconst (pc := 116) (1 : Int32) (by decide) W9 at_116 ?_
    refine g_iload (pc := 117) W9 at_117 rfl ?_
    refine g_iastore (pc := 119) (i := 0) (os' := [(b4, (.array .int), [.int va, .int vb, .int (0 : Int32), .int (0 : Int32)])]) 1 W9 rfl (by decide) (by decide) (Nat.le_of_ble_eq_true rfl) rfl at_119 (fun T10 W11 => ?_)
    refine g_dup (pc := 120) W11 at_120 rfl ?_
    refine g_iconst (pc := 121) (2 : Int32) (by decide) W11 at_121 ?_
    refine g_iload (pc := 122) W11 at_122 rfl ?_
    refine g_iastore (pc := 124) (i := 0) (os' := [(b4, (.array .int), [.int va, .int vb, .int vc, .int (0 : Int32)])]) 2 W11 rfl (by decide) (by decide) (Nat.le_of_ble_eq_true rfl) rfl at_124 (fun T12 W13 => ?_)
    refine g_dup (pc := 125) W13 at_125 rfl ?_
    refine g_iconst (pc := 126) (3 : Int32) (by decide) W13 at_126 ?_
    refine g_iload (pc := 127) W13 at_127 rfl ?_
    refine g_iastore (pc := 129) (i := 0) (os' := [(b4, (.array .int), [.int va, .int vb, .int vc, .int vd])]) 3 W13 rfl (by decide) (by decide) (Nat.le_of_ble_eq_true rfl) rfl at_129 (fun T14 W15 => ?_)
    refine g_astore (pc := 130) (ls' := #[.val (.int p0), .val (.int p1), .val (.int p2), .val (.int p3), .val (.int p4), .val (.int p5), .val (.int va), .val (.int vb), .val (.int vc), .val (.int vd), vt, .val (.ref b4), .unset, .unset, .unset, .unset, .unset, .unset, .unset, .unset, .unset]) W15 at_130 rfl rfl ?_
    refine g_bipush (pc := 132) (6 : Int32) (by decide) W15 at_132 ?_
    refine g_newarray (pc := 134) (ty := .int) (vs := [.int (0 : Int32), .int (0 : Int32), .int (0 : Int32), .int (0 : Int32), .int (0 : Int32), .int (0 : Int32)]) 6 W15 (hw _ (List.mem_of_getElem? (i := 0) rfl)) rfl (by decide) (by decide) (by decide) rfl at_134 (by decide) (by decide) (fun T17 b16 W18 => ?_)
    have W19 := W18.re (os' := [(b4, (.array .int), [.int va, .int vb, .int vc, .int vd]), (b16, (.array .int), [.int (0 : Int32), .int (0 : Int32), .int (0 : Int32), .int (0 : Int32), .int (0 : Int32), .int (0 : Int32)])]) rfl
    refine g_astore (pc := 136) (ls' := #[.val (.int p0), .val (.int p1), .val (.int p2), .val (.int p3), .val (.int p4), .val (.int p5), .val (.int va), .val (.int vb), .val (.int vc), .val (.int vd), vt, .val (.ref b4), .val (.ref b16), .unset, .unset, .unset, .unset, .unset, .unset, .unset, .unset]) W19 at_136 rfl rfl ?_
    refine g_iconst (pc := 138) (0 : Int32) (by decide) W19 at_138 ?_
    refine g_istore (pc := 139) (ls' := #[.val (.int p0), .val (.int p1), .val (.int p2), .val (.int p3), .val (.int p4), .val (.int p5), .val (.int va), .val (.int vb), .val (.int vc), .val (.int vd), vt, .val (.ref b4), .val (.ref b16), .val (.int (0 : Int32)), .unset, .unset, .unset, .unset, .unset, .unset, .unset]) W19 at_139 rfl ?_
    refine g_aload (pc := 141) W19 at_141 rfl rfl ?_
    refine g_iconst (pc := 143) (0 : Int32) (by decide) W19 at_143 ?_
    refine g_aload (pc := 144) W19 at_144 rfl rfl ?_
    refine g_iload (pc := 146) W19 at_146 rfl ?_
    refine g_iaload (pc := 148) (i := 0) (v := .int va) W19 rfl (by decide) rfl at_148 ?_
    refine g_iastore (pc := 149) (i := 1) (os' := [(b4, (.array .int), [.int va, .int vb, .int vc, .int vd]), (b16, (.array .int), [.int va, .int (0 : Int32), .int (0 : Int32), .int (0 : Int32), .int (0 : Int32), .int (0 : Int32)])]) 0 W19 rfl (by decide) (by decide) (Nat.le_of_ble_eq_true rfl) rfl at_149 (fun T20 W21 => ?_)
    refine g_iload (pc := 150) W21 at_150 rfl ?_
    refine g_iload (pc := 152) W21 at_152 rfl ?_
    refine g_iconst (pc := 154) (0 : Int32) (by decide) W21 at_154 ?_
    refine g_static (pc := 155) (Wt := 0) (argsL := [.int (0 : Int32), .int p5, .int (0 : Int32)]) (rest := []) (loc := []) (rst := [(b4, (.array .int), [.int va, .int vb, .int vc, .int vd]), (b16, (.array .int), [.int va, .int (0 : Int32), .int (0 : Int32), .int (0 : Int32), .int (0 : Int32), .int (0 : Int32)])]) W21 (hw _ (List.mem_of_getElem? (i := 1) rfl)) (hw _ (List.mem_of_getElem? (i := 2) rfl)) (hw _ (List.mem_of_getElem? (i := 3) rfl)) (hw _ (List.mem_of_getElem? (i := 4) rfl)) (by decide) (c_step l Z a0 hw (0 : Int32) p5 (0 : Int32)) Spl.none rfl pd_III__I rfl rfl rfl (Nat.le_of_ble_eq_true rfl) (by decide) (by decide) (by decide) (by decide) at_155 ?_
    rintro T22 _ _ ⟨rfl, rfl⟩ W23
    have W24 := W23.re (os' := [(b4, (.array .int), [.int va, .int vb, .int vc, .int vd]), (b16, (.array .int), [.int va, .int (0 : Int32), .int (0 : Int32), .int (0 : Int32), .int (0 : Int32), .int (0 : Int32)])]) rfl
    show Go p_ e_ bl_ _ (T22.setTop (mkF m_ 158 #[.val (.int p0), .val (.int p1), .val (.int p2), .val (.int p3), .val (.int p4), .val (.int p5), .val (.int va), .val (.int vb), .val (.int vc), .val (.int vd), vt, .val (.ref b4), .val (.ref b16), .val (.int (0 : Int32)), .unset, .unset, .unset, .unset, .unset, .unset, .unset] [.int (stp (0 : Int32) p5 (0 : Int32))]))
    have hi1 := own_stp (i := (0 : Int32)) p5 (0 : Int32) ⟨by decide, by decide⟩
    generalize (stp (0 : Int32) p5 (0 : Int32)) = i1 at hi1 ⊢
    refine g_istore (pc := 158) (ls' := #[.val (.int p0), .val (.int p1), .val (.int p2), .val (.int p3), .val (.int p4), .val (.int p5), .val (.int va), .val (.int vb), .val (.int vc), .val (.int vd), vt, .val (.ref b4), .val (.ref b16), .val (.int i1), .unset, .unset, .unset, .unset, .unset, .unset, .unset]) W24 at_158 rfl ?_
    refine g_aload (pc := 160) W24 at_160 rfl rfl ?_
    refine g_iconst (pc := 162) (1 : Int32) (by decide) W24 at_162 ?_
    refine g_aload (pc := 163) W24 at_163 rfl rfl ?_
    refine g_iload (pc := 165) W24 at_165 rfl ?_
    refine g_iaload (pc := 167) (i := 0) (v := .int (sel va vb vc vd i1)) W24 rfl (own_nn hi1.1) (own_sel ⟨hi1.1, hi1.2.1⟩) at_167 ?_
    refine g_iastore (pc := 168) (i := 1) (os' := [(b4, (.array .int), [.int va, .int vb, .int vc, .int vd]), (b16, (.array .int), [.int va, .int (sel va vb vc vd i1), .int (0 : Int32), .int (0 : Int32), .int (0 : Int32), .int (0 : Int32)])]) 1 W24 rfl (by decide) (by decide) (Nat.le_of_ble_eq_true rfl) rfl at_168 (fun T25 W26 => ?_)
    refine g_iload (pc := 169) W26 at_169 rfl ?_
    refine g_iload (pc := 171) W26 at_171 rfl ?_
    refine g_iconst (pc := 173) (1 : Int32) (by decide) W26 at_173 ?_
    refine g_static (pc := 174) (Wt := 0) (argsL := [.int i1, .int p5, .int (1 : Int32)]) (rest := []) (loc := []) (rst := [(b4, (.array .int), [.int va, .int vb, .int vc, .int vd]), (b16, (.array .int), [.int va, .int (sel va vb vc vd i1), .int (0 : Int32), .int (0 : Int32), .int (0 : Int32), .int (0 : Int32)])]) W26 (hw _ (List.mem_of_getElem? (i := 1) rfl)) (hw _ (List.mem_of_getElem? (i := 2) rfl)) (hw _ (List.mem_of_getElem? (i := 3) rfl)) (hw _ (List.mem_of_getElem? (i := 4) rfl)) (by decide) (c_step l Z a0 hw i1 p5 (1 : Int32)) Spl.none rfl pd_III__I rfl rfl rfl (Nat.le_of_ble_eq_true rfl) (by decide) (by decide) (by decide) (by decide) at_174 ?_
    rintro T27 _ _ ⟨rfl, rfl⟩ W28
    have W29 := W28.re (os' := [(b4, (.array .int), [.int va, .int vb, .int vc, .int vd]), (b16, (.array .int), [.int va, .int (sel va vb vc vd i1), .int (0 : Int32), .int (0 : Int32), .int (0 : Int32), .int (0 : Int32)])]) rfl
    show Go p_ e_ bl_ _ (T27.setTop (mkF m_ 177 #[.val (.int p0), .val (.int p1), .val (.int p2), .val (.int p3), .val (.int p4), .val (.int p5), .val (.int va), .val (.int vb), .val (.int vc), .val (.int vd), vt, .val (.ref b4), .val (.ref b16), .val (.int i1), .unset, .unset, .unset, .unset, .unset, .unset, .unset] [.int (stp i1 p5 (1 : Int32))]))
    have hi2 := own_stp (i := i1) p5 (1 : Int32) ⟨hi1.1, hi1.2.1⟩
    generalize (stp i1 p5 (1 : Int32)) = i2 at hi2 ⊢
    refine g_istore (pc := 177) (ls' := #[.val (.int p0), .val (.int p1), .val (.int p2), .val (.int p3), .val (.int p4), .val (.int p5), .val (.int va), .val (.int vb), .val (.int vc), .val (.int vd), vt, .val (.ref b4), .val (.ref b16), .val (.int i2), .unset, .unset, .unset, .unset, .unset, .unset, .unset]) W29 at_177 rfl ?_
    refine g_aload (pc := 179) W29 at_179 rfl rfl ?_
    refine g_iconst (pc := 181) (2 : Int32) (by decide) W29 at_181 ?_
    refine g_aload (pc := 182) W29 at_182 rfl rfl ?_
    refine g_iload (pc := 184) W29 at_184 rfl ?_
    refine g_iaload (pc := 186) (i := 0) (v := .int (sel va vb vc vd i2)) W29 rfl (own_nn hi2.1) (own_sel ⟨hi2.1, hi2.2.1⟩) at_186 ?_
    refine g_iastore (pc := 187) (i := 1) (os' := [(b4, (.array .int), [.int va, .int vb, .int vc, .int vd]), (b16, (.array .int), [.int va, .int (sel va vb vc vd i1), .int (sel va vb vc vd i2), .int (0 : Int32), .int (0 : Int32), .int (0 : Int32)])]) 2 W29 rfl (by decide) (by decide) (Nat.le_of_ble_eq_true rfl) rfl at_187 (fun T30 W31 => ?_)
    refine g_iload (pc := 188) W31 at_188 rfl ?_
    refine g_iload (pc := 190) W31 at_190 rfl ?_
    refine g_iconst (pc := 192) (2 : Int32) (by decide) W31 at_192 ?_
    refine g_static (pc := 193) (Wt := 0) (argsL := [.int i2, .int p5, .int (2 : Int32)]) (rest := []) (loc := []) (rst := [(b4, (.array .int), [.int va, .int vb, .int vc, .int vd]), (b16, (.array .int), [.int va, .int (sel va vb vc vd i1), .int (sel va vb vc vd i2), .int (0 : Int32), .int (0 : Int32), .int (0 : Int32)])]) W31 (hw _ (List.mem_of_getElem? (i := 1) rfl)) (hw _ (List.mem_of_getElem? (i := 2) rfl)) (hw _ (List.mem_of_getElem? (i := 3) rfl)) (hw _ (List.mem_of_getElem? (i := 4) rfl)) (by decide) (c_step l Z a0 hw i2 p5 (2 : Int32)) Spl.none rfl pd_III__I rfl rfl rfl (Nat.le_of_ble_eq_true rfl) (by decide) (by decide) (by decide) (by decide) at_193 ?_
    rintro T32 _ _ ⟨rfl, rfl⟩ W33
    have W34 := W33.re (os' := [(b4, (.array .int), [.int va, .int vb, .int vc, .int vd]), (b16, (.array .int), [.int va, .int (sel va vb vc vd i1), .int (sel va vb vc vd i2), .int (0 : Int32), .int (0 : Int32), .int (0 : Int32)])]) rfl
    show Go p_ e_ bl_ _ (T32.setTop (mkF m_ 196 #[.val (.int p0), .val (.int p1), .val (.int p2), .val (.int p3), .val (.int p4), .val (.int p5), .val (.int va), .val (.int vb), .val (.int vc), .val (.int vd), vt, .val (.ref b4), .val (.ref b16), .val (.int i2), .unset, .unset, .unset, .unset, .unset, .unset, .unset] [.int (stp i2 p5 (2 : Int32))]))
    have hi3 := own_stp (i := i2) p5 (2 : Int32) ⟨hi2.1, hi2.2.1⟩
    generalize (stp i2 p5 (2 : Int32)) = i3 at hi3 ⊢
    refine g_istore (pc := 196) (ls' := #[.val (.int p0), .val (.int p1), .val (.int p2), .val (.int p3), .val (.int p4), .val (.int p5), .val (.int va), .val (.int vb), .val (.int vc), .val (.int vd), vt, .val (.ref b4), .val (.ref b16), .val (.int i3), .unset, .unset, .unset, .unset, .unset, .unset, .unset]) W34 at_196 rfl ?_
    refine g_aload (pc := 198) W34 at_198 rfl rfl ?_
    refine g_iconst (pc := 200) (3 : Int32) (by decide) W34 at_200 ?_
    refine g_aload (pc := 201) W34 at_201 rfl rfl ?_
    refine g_iload (pc := 203) W34 at_203 rfl ?_
    refine g_iaload (pc := 205) (i := 0) (v := .int (sel va vb vc vd i3)) W34 rfl (own_nn hi3.1) (own_sel ⟨hi3.1, hi3.2.1⟩) at_205 ?_
    refine g_iastore (pc := 206) (i := 1) (os' := [(b4, (.array .int), [.int va, .int vb, .int vc, .int vd]), (b16, (.array .int), [.int va, .int (sel va vb vc vd i1), .int (sel va vb vc vd i2), .int (sel va vb vc vd i3), .int (0 : Int32), .int (0 : Int32)])]) 3 W34 rfl (by decide) (by decide) (Nat.le_of_ble_eq_true rfl) rfl at_206 (fun T35 W36 => ?_)
    refine g_iload (pc := 207) W36 at_207 rfl ?_
    refine g_iload (pc := 209) W36 at_209 rfl ?_
    refine g_iconst (pc := 211) (3 : Int32) (by decide) W36 at_211 ?_
    refine g_static (pc := 212) (Wt := 0) (argsL := [.int i3, .int p5, .int (3 : Int32)]) (rest := []) (loc := []) (rst := [(b4, (.array .int), [.int va, .int vb, .int vc, .int vd]), (b16, (.array .int), [.int va, .int (sel va vb vc vd i1), .int (sel va vb vc vd i2), .int (sel va vb vc vd i3), .int (0 : Int32), .int (0 : Int32)])]) W36 (hw _ (List.mem_of_getElem? (i := 1) rfl)) (hw _ (List.mem_of_getElem? (i := 2) rfl)) (hw _ (List.mem_of_getElem? (i := 3) rfl)) (hw _ (List.mem_of_getElem? (i := 4) rfl)) (by decide) (c_step l Z a0 hw i3 p5 (3 : Int32)) Spl.none rfl pd_III__I rfl rfl rfl (Nat.le_of_ble_eq_true rfl) (by decide) (by decide) (by decide) (by decide) at_212 ?_
    rintro T37 _ _ ⟨rfl, rfl⟩ W38
    have W39 := W38.re (os' := [(b4, (.array .int), [.int va, .int vb, .int vc, .int vd]), (b16, (.array .int), [.int va, .int (sel va vb vc vd i1), .int (sel va vb vc vd i2), .int (sel va vb vc vd i3), .int (0 : Int32), .int (0 : Int32)])]) rfl
    show Go p_ e_ bl_ _ (T37.setTop (mkF m_ 215 #[.val (.int p0), .val (.int p1), .val (.int p2), .val (.int p3), .val (.int p4), .val (.int p5), .val (.int va), .val (.int vb), .val (.int vc), .val (.int vd), vt, .val (.ref b4), .val (.ref b16), .val (.int i3), .unset, .unset, .unset, .unset, .unset, .unset, .unset] [.int (stp i3 p5 (3 : Int32))]))
    have hi4 := own_stp (i := i3) p5 (3 : Int32) ⟨hi3.1, hi3.2.1⟩
    generalize (stp i3 p5 (3 : Int32)) = i4 at hi4 ⊢
    refine g_istore (pc := 215) (ls' := #[.val (.int p0), .val (.int p1), .val (.int p2), .val (.int p3), .val (.int p4), .val (.int p5), .val (.int va), .val (.int vb), .val (.int vc), .val (.int vd), vt, .val (.ref b4), .val (.ref b16), .val (.int i4), .unset, .unset, .unset, .unset, .unset, .unset, .unset]) W39 at_215 rfl ?_
    refine g_aload (pc := 217) W39 at_217 rfl rfl ?_
    refine g_iconst (pc := 219) (4 : Int32) (by decide) W39 at_219 ?_
    refine g_aload (pc := 220) W39 at_220 rfl rfl ?_
    refine g_iload (pc := 222) W39 at_222 rfl ?_
    refine g_iaload (pc := 224) (i := 0) (v := .int (sel va vb vc vd i4)) W39 rfl (own_nn hi4.1) (own_sel ⟨hi4.1, hi4.2.1⟩) at_224 ?_
    refine g_iastore (pc := 225) (i := 1) (os' := [(b4, (.array .int), [.int va, .int vb, .int vc, .int vd]), (b16, (.array .int), [.int va, .int (sel va vb vc vd i1), .int (sel va vb vc vd i2), .int (sel va vb vc vd i3), .int (sel va vb vc vd i4), .int (0 : Int32)])]) 4 W39 rfl (by decide) (by decide) (Nat.le_of_ble_eq_true rfl) rfl at_225 (fun T40 W41 => ?_)
    refine g_iload (pc := 226) W41 at_226 rfl ?_
    refine g_iload (pc := 228) W41 at_228 rfl ?_
    refine g_iconst (pc := 230) (4 : Int32) (by decide) W41 at_230 ?_
    refine g_static (pc := 231) (Wt := 0) (argsL := [.int i4, .int p5, .int (4 : Int32)]) (rest := []) (loc := []) (rst := [(b4, (.array .int), [.int va, .int vb, .int vc, .int vd]), (b16, (.array .int), [.int va, .int (sel va vb vc vd i1), .int (sel va vb vc vd i2), .int (sel va vb vc vd i3), .int (sel va vb vc vd i4), .int (0 : Int32)])]) W41 (hw _ (List.mem_of_getElem? (i := 1) rfl)) (hw _ (List.mem_of_getElem? (i := 2) rfl)) (hw _ (List.mem_of_getElem? (i := 3) rfl)) (hw _ (List.mem_of_getElem? (i := 4) rfl)) (by decide) (c_step l Z a0 hw i4 p5 (4 : Int32)) Spl.none rfl pd_III__I rfl rfl rfl (Nat.le_of_ble_eq_true rfl) (by decide) (by decide) (by decide) (by decide) at_231 ?_
    rintro T42 _ _ ⟨rfl, rfl⟩ W43
    have W44 := W43.re (os' := [(b4, (.array .int), [.int va, .int vb, .int vc, .int vd]), (b16, (.array .int), [.int va, .int (sel va vb vc vd i1), .int (sel va vb vc vd i2), .int (sel va vb vc vd i3), .int (sel va vb vc vd i4), .int (0 : Int32)])]) rfl
    show Go p_ e_ bl_ _ (T42.setTop (mkF m_ 234 #[.val (.int p0), .val (.int p1), .val (.int p2), .val (.int p3), .val (.int p4), .val (.int p5), .val (.int va), .val (.int vb), .val (.int vc), .val (.int vd), vt, .val (.ref b4), .val (.ref b16), .val (.int i4), .unset, .unset, .unset, .unset, .unset, .unset, .unset] [.int (stp i4 p5 (4 : Int32))]))
    have hi5 := own_stp (i := i4) p5 (4 : Int32) ⟨hi4.1, hi4.2.1⟩
    generalize (stp i4 p5 (4 : Int32)) = i5 at hi5 ⊢
    refine g_istore (pc := 234) (ls' := #[.val (.int p0), .val (.int p1), .val (.int p2), .val (.int p3), .val (.int p4), .val (.int p5), .val (.int va), .val (.int vb), .val (.int vc), .val (.int vd), vt, .val (.ref b4), .val (.ref b16), .val (.int i5), .unset, .unset, .unset, .unset, .unset, .unset, .unset]) W44 at_234 rfl ?_
    refine g_aload (pc := 236) W44 at_236 rfl rfl ?_
    refine g_iconst (pc := 238) (5 : Int32) (by decide) W44 at_238 ?_
    refine g_aload (pc := 239) W44 at_239 rfl rfl ?_
    refine g_iload (pc := 241) W44 at_241 rfl ?_
    refine g_iaload (pc := 243) (i := 0) (v := .int (sel va vb vc vd i5)) W44 rfl (own_nn hi5.1) (own_sel ⟨hi5.1, hi5.2.1⟩) at_243 ?_
    refine g_iastore (pc := 244) (i := 1) (os' := [(b4, (.array .int), [.int va, .int vb, .int vc, .int vd]), (b16, (.array .int), [.int va, .int (sel va vb vc vd i1), .int (sel va vb vc vd i2), .int (sel va vb vc vd i3), .int (sel va vb vc vd i4), .int (sel va vb vc vd i5)])]) 5 W44 rfl (by decide) (by decide) (Nat.le_of_ble_eq_true rfl) rfl at_244 (fun T45 W46 => ?_)
    have hm0 : (sel va vb vc vd (0 : Int32)).toInt ≤ (sel va vb vc vd i1).toInt := own_mono hq3 ⟨by decide, by decide⟩ ⟨hi1.1, hi1.2.1⟩ hi1.2.2
    have hm1 : (sel va vb vc vd i1).toInt ≤ (sel va vb vc vd i2).toInt := own_mono hq3 ⟨hi1.1, hi1.2.1⟩ ⟨hi2.1, hi2.2.1⟩ hi2.2.2
    have hm2 : (sel va vb vc vd i2).toInt ≤ (sel va vb vc vd i3).toInt := own_mono hq3 ⟨hi2.1, hi2.2.1⟩ ⟨hi3.1, hi3.2.1⟩ hi3.2.2
    have hm3 : (sel va vb vc vd i3).toInt ≤ (sel va vb vc vd i4).toInt := own_mono hq3 ⟨hi3.1, hi3.2.1⟩ ⟨hi4.1, hi4.2.1⟩ hi4.2.2
    have hm4 : (sel va vb vc vd i4).toInt ≤ (sel va vb vc vd i5).toInt := own_mono hq3 ⟨hi4.1, hi4.2.1⟩ ⟨hi5.1, hi5.2.1⟩ hi5.2.2
    rw [show sel va vb vc vd (0 : Int32) = va from rfl] at hm0
    generalize (sel va vb vc vd i1) = s1 at hm0 hm1 W46 ⊢
    generalize (sel va vb vc vd i2) = s2 at hm1 hm2 W46 ⊢
    generalize (sel va vb vc vd i3) = s3 at hm2 hm3 W46 ⊢
    generalize (sel va vb vc vd i4) = s4 at hm3 hm4 W46 ⊢
    generalize (sel va vb vc vd i5) = s5 at hm4 W46 ⊢
    generalize va = s0 at hm0 W46 ⊢
    refine g_iload (pc := 245) W46 at_245 rfl ?_
    refine g_iconst (pc := 247) (5 : Int32) (by decide) W46 at_247 ?_
    refine g_iushr (pc := 248) W46 at_248 ?_
    refine g_bipush (pc := 249) (7 : Int32) (by decide) W46 at_249 ?_
    refine g_iand (pc := 251) W46 at_251 ?_
    refine g_istore (pc := 252) (ls' := #[.val (.int p0), .val (.int p1), .val (.int p2), .val (.int p3), .val (.int p4), .val (.int p5), .val (.int s0), .val (.int vb), .val (.int vc), .val (.int vd), vt, .val (.ref b4), .val (.ref b16), .val (.int i5), .val (.int ((XT.ushr p5 (5 : Int32)) &&& (7 : Int32))), .unset, .unset, .unset, .unset, .unset, .unset]) W46 at_252 rfl ?_
    rcases own_n (XT.ushr p5 (5 : Int32)) with hl | hl | hl | hl | hl | hl | hl | hl
    · rw [hl]
      refine g_iload (pc := 254) W46 at_254 rfl ?_
      refine g_bipush (pc := 256) (6 : Int32) (by decide) W46 at_256 ?_
      refine g_icmpY 265 (pc := 258) W46 at_258 (by decide) (by decide) (by decide) ?_
      refine g_iload (pc := 265) W46 at_265 rfl ?_
      refine g_newarray (pc := 267) (ty := .int) (vs := []) 0 W46 (hw _ (List.mem_of_getElem? (i := 0) rfl)) rfl (by decide) (by decide) (by decide) rfl at_267 (by decide) (by decide) (fun T48 b47 W49 => ?_)
      have W50 := W49.re (os' := [(b4, (.array .int), [.int s0, .int vb, .int vc, .int vd]), (b16, (.array .int), [.int s0, .int s1, .int s2, .int s3, .int s4, .int s5]), (b47, (.array .int), [])]) rfl
      refine g_astore (pc := 269) (ls' := #[.val (.int p0), .val (.int p1), .val (.int p2), .val (.int p3), .val (.int p4), .val (.int p5), .val (.int s0), .val (.int vb), .val (.int vc), .val (.int vd), vt, .val (.ref b4), .val (.ref b16), .val (.int i5), .val (.int (0 : Int32)), .val (.ref b47), .unset, .unset, .unset, .unset, .unset]) W50 at_269 rfl rfl ?_
      refine g_iload (pc := 271) W50 at_271 rfl ?_
      refine g_ifY 284 (pc := 273) W50 at_273 (by decide) (by decide) (by decide) ?_
      refine g_iload (pc := 284) W50 at_284 rfl ?_
      refine g_iconst (pc := 286) (1 : Int32) (by decide) W50 at_286 ?_
      refine g_icmpY 298 (pc := 287) W50 at_287 (by decide) (by decide) (by decide) ?_
      refine g_iload (pc := 298) W50 at_298 rfl ?_
      refine g_iconst (pc := 300) (2 : Int32) (by decide) W50 at_300 ?_
      refine g_icmpY 312 (pc := 301) W50 at_301 (by decide) (by decide) (by decide) ?_
      refine g_iload (pc := 312) W50 at_312 rfl ?_
      refine g_iconst (pc := 314) (3 : Int32) (by decide) W50 at_314 ?_
      refine g_icmpY 326 (pc := 315) W50 at_315 (by decide) (by decide) (by decide) ?_
      refine g_iload (pc := 326) W50 at_326 rfl ?_
      refine g_iconst (pc := 328) (4 : Int32) (by decide) W50 at_328 ?_
      refine g_icmpY 340 (pc := 329) W50 at_329 (by decide) (by decide) (by decide) ?_
      refine g_iload (pc := 340) W50 at_340 rfl ?_
      refine g_iconst (pc := 342) (5 : Int32) (by decide) W50 at_342 ?_
      refine g_icmpY 354 (pc := 343) W50 at_343 (by decide) (by decide) (by decide) ?_
      refine g_iload (pc := 354) W50 at_354 rfl ?_
      refine g_anewarray (pc := 356) (vs := []) 0 W50 (hw _ (List.mem_of_getElem? (i := 5) rfl)) (hw _ (List.mem_of_getElem? (i := 6) rfl)) (by decide) (by decide) (by decide) rfl at_356 (by decide) (by decide) (fun T52 b51 W53 => ?_)
      have W54 := W53.re (os' := [(b4, (.array .int), [.int s0, .int vb, .int vc, .int vd]), (b16, (.array .int), [.int s0, .int s1, .int s2, .int s3, .int s4, .int s5]), (b47, (.array .int), []), (b51, (.array (.object "java/lang/String")), [])]) rfl
      refine g_astore (pc := 359) (ls' := #[.val (.int p0), .val (.int p1), .val (.int p2), .val (.int p3), .val (.int p4), .val (.int p5), .val (.int s0), .val (.int vb), .val (.int vc), .val (.int vd), vt, .val (.ref b4), .val (.ref b16), .val (.int i5), .val (.int (0 : Int32)), .val (.ref b47), .val (.ref b51), .unset, .unset, .unset, .unset]) W54 at_359 rfl rfl ?_
      refine g_new (pc := 361) (vs := [.null, .null]) W54 (hw _ (List.mem_of_getElem? (i := 7) rfl)) (hw _ (List.mem_of_getElem? (i := 8) rfl)) (hw _ (List.mem_of_getElem? (i := 9) rfl)) (cls_Labels hw) (by decide) at_361 (by decide) (by decide) (fun T56 b55 W57 => ?_)
      have W58 := W57.re (os' := [(b4, (.array .int), [.int s0, .int vb, .int vc, .int vd]), (b16, (.array .int), [.int s0, .int s1, .int s2, .int s3, .int s4, .int s5]), (b47, (.array .int), []), (b51, (.array (.object "java/lang/String")), []), (b55, (.object "com/example/traverso/traverso/graph/Labels"), [.null, .null])]) rfl
      refine g_dup (pc := 364) W58 at_364 rfl ?_
      refine g_aload (pc := 365) W58 at_365 rfl rfl ?_
      refine g_aload (pc := 367) W58 at_367 rfl rfl ?_
      refine g_init (pc := 369) (Wt := 1) (argsL := [.ref b47, .ref b51]) (rest := [.ref b55]) (loc := [(b55, (.object "com/example/traverso/traverso/graph/Labels"), [.null, .null])]) (rst := [(b4, (.array .int), [.int s0, .int vb, .int vc, .int vd]), (b16, (.array .int), [.int s0, .int s1, .int s2, .int s3, .int s4, .int s5]), (b47, (.array .int), []), (b51, (.array (.object "java/lang/String")), [])]) W58 rfl (hw _ (List.mem_of_getElem? (i := 10) rfl)) (hw _ (List.mem_of_getElem? (i := 11) rfl)) (hw _ (List.mem_of_getElem? (i := 9) rfl)) (hw _ (List.mem_of_getElem? (i := 12) rfl)) (by decide) (c_init l Z a0 hw b55 b47 b51) ⟨[4, 0, 1, 2, 3], by decide, rfl⟩ rfl pd_AIALjava_lang_String___V rfl rfl rfl (Nat.le_of_ble_eq_true rfl) (by decide) (by decide) (by decide) (by decide) at_369 ?_
      rintro T59 _ _ ⟨rfl, rfl⟩ W60
      have W61 := W60.re (os' := [(b55, (.object "com/example/traverso/traverso/graph/Labels"), [.ref b47, .ref b51]), (b4, (.array .int), [.int s0, .int vb, .int vc, .int vd]), (b16, (.array .int), [.int s0, .int s1, .int s2, .int s3, .int s4, .int s5]), (b47, (.array .int), []), (b51, (.array (.object "java/lang/String")), [])]) rfl
      show Go p_ e_ bl_ _ (T59.setTop (mkF m_ 372 #[.val (.int p0), .val (.int p1), .val (.int p2), .val (.int p3), .val (.int p4), .val (.int p5), .val (.int s0), .val (.int vb), .val (.int vc), .val (.int vd), vt, .val (.ref b4), .val (.ref b16), .val (.int i5), .val (.int (0 : Int32)), .val (.ref b47), .val (.ref b51), .unset, .unset, .unset, .unset] [.ref b55]))
      refine g_astore (pc := 372) (ls' := #[.val (.int p0), .val (.int p1), .val (.int p2), .val (.int p3), .val (.int p4), .val (.int p5), .val (.int s0), .val (.int vb), .val (.int vc), .val (.int vd), vt, .val (.ref b4), .val (.ref b16), .val (.int i5), .val (.int (0 : Int32)), .val (.ref b47), .val (.ref b51), .val (.ref b55), .unset, .unset, .unset]) W61 at_372 rfl rfl ?_
      refine g_iload (pc := 374) W61 at_374 rfl ?_
      refine g_bipush (pc := 376) (8 : Int32) (by decide) W61 at_376 ?_
      refine g_iushr (pc := 378) W61 at_378 ?_
      refine g_iconst (pc := 379) (3 : Int32) (by decide) W61 at_379 ?_
      refine g_iand (pc := 380) W61 at_380 ?_
      refine g_istore (pc := 381) (ls' := #[.val (.int p0), .val (.int p1), .val (.int p2), .val (.int p3), .val (.int p4), .val (.int p5), .val (.int s0), .val (.int vb), .val (.int vc), .val (.int vd), vt, .val (.ref b4), .val (.ref b16), .val (.int i5), .val (.int (0 : Int32)), .val (.ref b47), .val (.ref b51), .val (.ref b55), .val (.int ((XT.ushr p5 (8 : Int32)) &&& (3 : Int32))), .unset, .unset]) W61 at_381 rfl ?_
      refine g_iload (pc := 383) W61 at_383 rfl ?_
      refine g_istore (pc := 385) (ls' := #[.val (.int p0), .val (.int p1), .val (.int p2), .val (.int p3), .val (.int p4), .val (.int p5), .val (.int s0), .val (.int vb), .val (.int vc), .val (.int vd), vt, .val (.ref b4), .val (.ref b16), .val (.int i5), .val (.int (0 : Int32)), .val (.ref b47), .val (.ref b51), .val (.ref b55), .val (.int ((XT.ushr p5 (8 : Int32)) &&& (3 : Int32))), .val (.int p4), .unset]) W61 at_385 rfl ?_
      refine Go.cut (T := T59) (fr := fun z62 : Int32 × Slot => (mkF m_ 444 #[.val (.int p0), .val (.int p1), .val (.int p2), .val (.int p3), .val (.int p4), .val (.int p5), .val (.int s0), .val (.int vb), .val (.int vc), .val (.int vd), vt, .val (.ref b4), .val (.ref b16), .val (.int i5), .val (.int (0 : Int32)), .val (.ref b47), .val (.ref b51), .val (.ref b55), .val (.int ((XT.ushr p5 (8 : Int32)) &&& (3 : Int32))), .val (.int z62.1), z62.2] [])) (fun ⟨qq, pk⟩ => pk = .unset ∨ ∃ zz, pk = .val (.int zz)) ?_ (fun cut63 => ?_)
      · rintro ⟨qq, pk⟩ hq64
        change pk = .unset ∨ ∃ zz, pk = .val (.int zz) at hq64
        show Go p_ e_ bl_ _ (T59.setTop (mkF m_ 444 #[.val (.int p0), .val (.int p1), .val (.int p2), .val (.int p3), .val (.int p4), .val (.int p5), .val (.int s0), .val (.int vb), .val (.int vc), .val (.int vd), vt, .val (.ref b4), .val (.ref b16), .val (.int i5), .val (.int (0 : Int32)), .val (.ref b47), .val (.ref b51), .val (.ref b55), .val (.int ((XT.ushr p5 (8 : Int32)) &&& (3 : Int32))), .val (.int qq), pk] []))
        refine g_aload (pc := 444) W61 at_444 rfl rfl ?_
        refine g_iload (pc := 446) W61 at_446 rfl ?_
        refine g_iload (pc := 448) W61 at_448 rfl ?_
        refine g_static (pc := 450) (Wt := 0) (argsL := [.ref b47, .int (0 : Int32), .int qq]) (rest := []) (loc := [(b47, (.array .int), [])]) (rst := [(b55, (.object "com/example/traverso/traverso/graph/Labels"), [.ref b47, .ref b51]), (b4, (.array .int), [.int s0, .int vb, .int vc, .int vd]), (b16, (.array .int), [.int s0, .int s1, .int s2, .int s3, .int s4, .int s5]), (b51, (.array (.object "java/lang/String")), [])]) W61 (hw _ (List.mem_of_getElem? (i := 20) rfl)) (hw _ (List.mem_of_getElem? (i := 21) rfl)) (hw _ (List.mem_of_getElem? (i := 3) rfl)) (hw _ (List.mem_of_getElem? (i := 22) rfl)) (by decide) (c_ref0 l Z a0 hw b47 qq) ⟨[3, 0, 1, 2, 4], by decide, rfl⟩ rfl pd_AIII__I rfl rfl rfl (Nat.le_of_ble_eq_true rfl) (by decide) (by decide) (by decide) (by decide) at_450 ?_
        rintro T65 _ _ ⟨rfl, rfl⟩ W66
        have W67 := W66.re (os' := [(b47, (.array .int), []), (b55, (.object "com/example/traverso/traverso/graph/Labels"), [.ref b47, .ref b51]), (b4, (.array .int), [.int s0, .int vb, .int vc, .int vd]), (b16, (.array .int), [.int s0, .int s1, .int s2, .int s3, .int s4, .int s5]), (b51, (.array (.object "java/lang/String")), [])]) rfl
        show Go p_ e_ bl_ _ (T65.setTop (mkF m_ 453 #[.val (.int p0), .val (.int p1), .val (.int p2), .val (.int p3), .val (.int p4), .val (.int p5), .val (.int s0), .val (.int vb), .val (.int vc), .val (.int vd), vt, .val (.ref b4), .val (.ref b16), .val (.int i5), .val (.int (0 : Int32)), .val (.ref b47), .val (.ref b51), .val (.ref b55), .val (.int ((XT.ushr p5 (8 : Int32)) &&& (3 : Int32))), .val (.int qq), pk] [.int (rf0 qq)]))
        refine g_istore (pc := 453) (ls' := #[.val (.int p0), .val (.int p1), .val (.int p2), .val (.int p3), .val (.int p4), .val (.int p5), .val (.int s0), .val (.int vb), .val (.int vc), .val (.int vd), vt, .val (.ref b4), .val (.ref b16), .val (.int i5), .val (.int (0 : Int32)), .val (.ref b47), .val (.ref b51), .val (.ref b55), .val (.int ((XT.ushr p5 (8 : Int32)) &&& (3 : Int32))), .val (.int qq), .val (.int (rf0 qq))]) W67 at_453 (by rcases hq64 with rfl | ⟨zz, rfl⟩ <;> rfl) ?_
        refine g_aload (pc := 455) W67 at_455 rfl rfl ?_
        refine g_iload (pc := 457) W67 at_457 rfl ?_
        refine g_virtual (i := 1) (pc := 459) (Wt := 0) (argsL := [.int qq]) (rest := []) (loc := [(b55, (.object "com/example/traverso/traverso/graph/Labels"), [.ref b47, .ref b51]), (b47, (.array .int), [])]) (rst := [(b4, (.array .int), [.int s0, .int vb, .int vc, .int vd]), (b16, (.array .int), [.int s0, .int s1, .int s2, .int s3, .int s4, .int s5]), (b51, (.array (.object "java/lang/String")), [])]) W67 (hw _ (List.mem_of_getElem? (i := 23) rfl)) (hw _ (List.mem_of_getElem? (i := 25) rfl)) (hw _ (List.mem_of_getElem? (i := 9) rfl)) (hw _ (List.mem_of_getElem? (i := 27) rfl)) (hw _ (List.mem_of_getElem? (i := 24) rfl)) (hw _ (List.mem_of_getElem? (i := 26) rfl)) rfl (by decide) (c_fst0 l Z a0 hw b55 b47 b51 qq) ⟨[1, 0, 2, 3, 4], by decide, rfl⟩ rfl pd_I__I rfl rfl rfl (Nat.le_of_ble_eq_true rfl) (by decide) (by decide) (by decide) (by decide) at_459 ?_
        rintro T68 _ _ ⟨rfl, rfl⟩ W69
        have W70 := W69.re (os' := [(b55, (.object "com/example/traverso/traverso/graph/Labels"), [.ref b47, .ref b51]), (b47, (.array .int), []), (b4, (.array .int), [.int s0, .int vb, .int vc, .int vd]), (b16, (.array .int), [.int s0, .int s1, .int s2, .int s3, .int s4, .int s5]), (b51, (.array (.object "java/lang/String")), [])]) rfl
        show Go p_ e_ bl_ _ (T68.setTop (mkF m_ 462 #[.val (.int p0), .val (.int p1), .val (.int p2), .val (.int p3), .val (.int p4), .val (.int p5), .val (.int s0), .val (.int vb), .val (.int vc), .val (.int vd), vt, .val (.ref b4), .val (.ref b16), .val (.int i5), .val (.int (0 : Int32)), .val (.ref b47), .val (.ref b51), .val (.ref b55), .val (.int ((XT.ushr p5 (8 : Int32)) &&& (3 : Int32))), .val (.int qq), .val (.int (rf0 qq))] [.int (rf0 qq)]))
        refine g_iload (pc := 462) W70 at_462 rfl ?_
        refine g_icmpN (pc := 464) W70 at_464 (by first | exact (teq rfl).1 | exact (teq rfl).2 | exact (flt (by simp)).1 | exact (flt (by simp)).2.1 | exact (flt (by simp)).2.2.1 | exact (flt (by simp)).2.2.2) ?_
        refine g_iconst (pc := 467) (1 : Int32) (by decide) W70 at_467 ?_
        refine g_goto 472 (pc := 468) W70 at_468 (by decide) (by decide) ?_
        exact g_zreturn (pc := 472) rfl (by decide) W70 at_472 (by decide) (by decide) rfl
      · refine g_iload (pc := 387) W61 at_387 rfl ?_
        refine g_if_eq 444 (pc := 389) W61 at_389 (by decide) (by decide) (fun c71 => ?_) (fun c71 => ?_)
        · exact cut63 (p4, (.unset : Slot)) (Or.inl rfl)
        · refine g_iload (pc := 392) W61 at_392 rfl ?_
          refine g_ifY 444 (pc := 394) W61 at_394 (by decide) (by decide) (by decide) ?_
          exact cut63 (p4, (.unset : Slot)) (Or.inl rfl)
    · rw [hl]
      refine g_iload (pc := 254) W46 at_254 rfl ?_
      refine g_bipush (pc := 256) (6 : Int32) (by decide) W46 at_256 ?_
      refine g_icmpY 265 (pc := 258) W46 at_258 (by decide) (by decide) (by decide) ?_
      refine g_iload (pc := 265) W46 at_265 rfl ?_
      refine g_newarray (pc := 267) (ty := .int) (vs := [.int (0 : Int32)]) 1 W46 (hw _ (List.mem_of_getElem? (i := 0) rfl)) rfl (by decide) (by decide) (by decide) rfl at_267 (by decide) (by decide) (fun T73 b72 W74 => ?_)
      have W75 := W74.re (os' := [(b4, (.array .int), [.int s0, .int vb, .int vc, .int vd]), (b16, (.array .int), [.int s0, .int s1, .int s2, .int s3, .int s4, .int s5]), (b72, (.array .int), [.int (0 : Int32)])]) rfl
      refine g_astore (pc := 269) (ls' := #[.val (.int p0), .val (.int p1), .val (.int p2), .val (.int p3), .val (.int p4), .val (.int p5), .val (.int s0), .val (.int vb), .val (.int vc), .val (.int vd), vt, .val (.ref b4), .val (.ref b16), .val (.int i5), .val (.int (1 : Int32)), .val (.ref b72), .unset, .unset, .unset, .unset, .unset]) W75 at_269 rfl rfl ?_
      refine g_iload (pc := 271) W75 at_271 rfl ?_
      refine g_ifN (pc := 273) W75 at_273 (by decide) ?_
      refine g_aload (pc := 276) W75 at_276 rfl rfl ?_
      refine g_iconst (pc := 278) (0 : Int32) (by decide) W75 at_278 ?_
      refine g_aload (pc := 279) W75 at_279 rfl rfl ?_
      refine g_iconst (pc := 281) (0 : Int32) (by decide) W75 at_281 ?_
      refine g_iaload (pc := 282) (i := 1) (v := .int s0) W75 rfl (by decide) rfl at_282 ?_
      refine g_iastore (pc := 283) (i := 2) (os' := [(b4, (.array .int), [.int s0, .int vb, .int vc, .int vd]), (b16, (.array .int), [.int s0, .int s1, .int s2, .int s3, .int s4, .int s5]), (b72, (.array .int), [.int s0])]) 0 W75 rfl (by decide) (by decide) (Nat.le_of_ble_eq_true rfl) rfl at_283 (fun T76 W77 => ?_)
      refine g_iload (pc := 284) W77 at_284 rfl ?_
      refine g_iconst (pc := 286) (1 : Int32) (by decide) W77 at_286 ?_
      refine g_icmpY 298 (pc := 287) W77 at_287 (by decide) (by decide) (by decide) ?_
      refine g_iload (pc := 298) W77 at_298 rfl ?_
      refine g_iconst (pc := 300) (2 : Int32) (by decide) W77 at_300 ?_
      refine g_icmpY 312 (pc := 301) W77 at_301 (by decide) (by decide) (by decide) ?_
      refine g_iload (pc := 312) W77 at_312 rfl ?_
      refine g_iconst (pc := 314) (3 : Int32) (by decide) W77 at_314 ?_
      refine g_icmpY 326 (pc := 315) W77 at_315 (by decide) (by decide) (by decide) ?_
      refine g_iload (pc := 326) W77 at_326 rfl ?_
      refine g_iconst (pc := 328) (4 : Int32) (by decide) W77 at_328 ?_
      refine g_icmpY 340 (pc := 329) W77 at_329 (by decide) (by decide) (by decide) ?_
      refine g_iload (pc := 340) W77 at_340 rfl ?_
      refine g_iconst (pc := 342) (5 : Int32) (by decide) W77 at_342 ?_
      refine g_icmpY 354 (pc := 343) W77 at_343 (by decide) (by decide) (by decide) ?_
      refine g_iload (pc := 354) W77 at_354 rfl ?_
      refine g_anewarray (pc := 356) (vs := [.null]) 1 W77 (hw _ (List.mem_of_getElem? (i := 5) rfl)) (hw _ (List.mem_of_getElem? (i := 6) rfl)) (by decide) (by decide) (by decide) rfl at_356 (by decide) (by decide) (fun T79 b78 W80 => ?_)
      have W81 := W80.re (os' := [(b4, (.array .int), [.int s0, .int vb, .int vc, .int vd]), (b16, (.array .int), [.int s0, .int s1, .int s2, .int s3, .int s4, .int s5]), (b72, (.array .int), [.int s0]), (b78, (.array (.object "java/lang/String")), [.null])]) rfl
      refine g_astore (pc := 359) (ls' := #[.val (.int p0), .val (.int p1), .val (.int p2), .val (.int p3), .val (.int p4), .val (.int p5), .val (.int s0), .val (.int vb), .val (.int vc), .val (.int vd), vt, .val (.ref b4), .val (.ref b16), .val (.int i5), .val (.int (1 : Int32)), .val (.ref b72), .val (.ref b78), .unset, .unset, .unset, .unset]) W81 at_359 rfl rfl ?_
      refine g_new (pc := 361) (vs := [.null, .null]) W81 (hw _ (List.mem_of_getElem? (i := 7) rfl)) (hw _ (List.mem_of_getElem? (i := 8) rfl)) (hw _ (List.mem_of_getElem? (i := 9) rfl)) (cls_Labels hw) (by decide) at_361 (by decide) (by decide) (fun T83 b82 W84 => ?_)
      have W85 := W84.re (os' := [(b4, (.array .int), [.int s0, .int vb, .int vc, .int vd]), (b16, (.array .int), [.int s0, .int s1, .int s2, .int s3, .int s4, .int s5]), (b72, (.array .int), [.int s0]), (b78, (.array (.object "java/lang/String")), [.null]), (b82, (.object "com/example/traverso/traverso/graph/Labels"), [.null, .null])]) rfl
      refine g_dup (pc := 364) W85 at_364 rfl ?_
      refine g_aload (pc := 365) W85 at_365 rfl rfl ?_
      refine g_aload (pc := 367) W85 at_367 rfl rfl ?_
      refine g_init (pc := 369) (Wt := 1) (argsL := [.ref b72, .ref b78]) (rest := [.ref b82]) (loc := [(b82, (.object "com/example/traverso/traverso/graph/Labels"), [.null, .null])]) (rst := [(b4, (.array .int), [.int s0, .int vb, .int vc, .int vd]), (b16, (.array .int), [.int s0, .int s1, .int s2, .int s3, .int s4, .int s5]), (b72, (.array .int), [.int s0]), (b78, (.array (.object "java/lang/String")), [.null])]) W85 rfl (hw _ (List.mem_of_getElem? (i := 10) rfl)) (hw _ (List.mem_of_getElem? (i := 11) rfl)) (hw _ (List.mem_of_getElem? (i := 9) rfl)) (hw _ (List.mem_of_getElem? (i := 12) rfl)) (by decide) (c_init l Z a0 hw b82 b72 b78) ⟨[4, 0, 1, 2, 3], by decide, rfl⟩ rfl pd_AIALjava_lang_String___V rfl rfl rfl (Nat.le_of_ble_eq_true rfl) (by decide) (by decide) (by decide) (by decide) at_369 ?_
      rintro T86 _ _ ⟨rfl, rfl⟩ W87
      have W88 := W87.re (os' := [(b82, (.object "com/example/traverso/traverso/graph/Labels"), [.ref b72, .ref b78]), (b4, (.array .int), [.int s0, .int vb, .int vc, .int vd]), (b16, (.array .int), [.int s0, .int s1, .int s2, .int s3, .int s4, .int s5]), (b72, (.array .int), [.int s0]), (b78, (.array (.object "java/lang/String")), [.null])]) rfl
      show Go p_ e_ bl_ _ (T86.setTop (mkF m_ 372 #[.val (.int p0), .val (.int p1), .val (.int p2), .val (.int p3), .val (.int p4), .val (.int p5), .val (.int s0), .val (.int vb), .val (.int vc), .val (.int vd), vt, .val (.ref b4), .val (.ref b16), .val (.int i5), .val (.int (1 : Int32)), .val (.ref b72), .val (.ref b78), .unset, .unset, .unset, .unset] [.ref b82]))
      refine g_astore (pc := 372) (ls' := #[.val (.int p0), .val (.int p1), .val (.int p2), .val (.int p3), .val (.int p4), .val (.int p5), .val (.int s0), .val (.int vb), .val (.int vc), .val (.int vd), vt, .val (.ref b4), .val (.ref b16), .val (.int i5), .val (.int (1 : Int32)), .val (.ref b72), .val (.ref b78), .val (.ref b82), .unset, .unset, .unset]) W88 at_372 rfl rfl ?_
      refine g_iload (pc := 374) W88 at_374 rfl ?_
      refine g_bipush (pc := 376) (8 : Int32) (by decide) W88 at_376 ?_
      refine g_iushr (pc := 378) W88 at_378 ?_
      refine g_iconst (pc := 379) (3 : Int32) (by decide) W88 at_379 ?_
      refine g_iand (pc := 380) W88 at_380 ?_
      refine g_istore (pc := 381) (ls' := #[.val (.int p0), .val (.int p1), .val (.int p2), .val (.int p3), .val (.int p4), .val (.int p5), .val (.int s0), .val (.int vb), .val (.int vc), .val (.int vd), vt, .val (.ref b4), .val (.ref b16), .val (.int i5), .val (.int (1 : Int32)), .val (.ref b72), .val (.ref b78), .val (.ref b82), .val (.int ((XT.ushr p5 (8 : Int32)) &&& (3 : Int32))), .unset, .unset]) W88 at_381 rfl ?_
      refine g_iload (pc := 383) W88 at_383 rfl ?_
      refine g_istore (pc := 385) (ls' := #[.val (.int p0), .val (.int p1), .val (.int p2), .val (.int p3), .val (.int p4), .val (.int p5), .val (.int s0), .val (.int vb), .val (.int vc), .val (.int vd), vt, .val (.ref b4), .val (.ref b16), .val (.int i5), .val (.int (1 : Int32)), .val (.ref b72), .val (.ref b78), .val (.ref b82), .val (.int ((XT.ushr p5 (8 : Int32)) &&& (3 : Int32))), .val (.int p4), .unset]) W88 at_385 rfl ?_
      refine Go.cut (T := T86) (fr := fun z89 : Int32 × Slot => (mkF m_ 444 #[.val (.int p0), .val (.int p1), .val (.int p2), .val (.int p3), .val (.int p4), .val (.int p5), .val (.int s0), .val (.int vb), .val (.int vc), .val (.int vd), vt, .val (.ref b4), .val (.ref b16), .val (.int i5), .val (.int (1 : Int32)), .val (.ref b72), .val (.ref b78), .val (.ref b82), .val (.int ((XT.ushr p5 (8 : Int32)) &&& (3 : Int32))), .val (.int z89.1), z89.2] [])) (fun ⟨qq, pk⟩ => pk = .unset ∨ ∃ zz, pk = .val (.int zz)) ?_ (fun cut90 => ?_)
      · rintro ⟨qq, pk⟩ hq91
        change pk = .unset ∨ ∃ zz, pk = .val (.int zz) at hq91
        show Go p_ e_ bl_ _ (T86.setTop (mkF m_ 444 #[.val (.int p0), .val (.int p1), .val (.int p2), .val (.int p3), .val (.int p4), .val (.int p5), .val (.int s0), .val (.int vb), .val (.int vc), .val (.int vd), vt, .val (.ref b4), .val (.ref b16), .val (.int i5), .val (.int (1 : Int32)), .val (.ref b72), .val (.ref b78), .val (.ref b82), .val (.int ((XT.ushr p5 (8 : Int32)) &&& (3 : Int32))), .val (.int qq), pk] []))
        refine g_aload (pc := 444) W88 at_444 rfl rfl ?_
        refine g_iload (pc := 446) W88 at_446 rfl ?_
        refine g_iload (pc := 448) W88 at_448 rfl ?_
        refine g_static (pc := 450) (Wt := 0) (argsL := [.ref b72, .int (1 : Int32), .int qq]) (rest := []) (loc := [(b72, (.array .int), [.int s0])]) (rst := [(b82, (.object "com/example/traverso/traverso/graph/Labels"), [.ref b72, .ref b78]), (b4, (.array .int), [.int s0, .int vb, .int vc, .int vd]), (b16, (.array .int), [.int s0, .int s1, .int s2, .int s3, .int s4, .int s5]), (b78, (.array (.object "java/lang/String")), [.null])]) W88 (hw _ (List.mem_of_getElem? (i := 20) rfl)) (hw _ (List.mem_of_getElem? (i := 21) rfl)) (hw _ (List.mem_of_getElem? (i := 3) rfl)) (hw _ (List.mem_of_getElem? (i := 22) rfl)) (by decide) (c_ref1 l Z a0 hw b72 s0 qq) ⟨[3, 0, 1, 2, 4], by decide, rfl⟩ rfl pd_AIII__I rfl rfl rfl (Nat.le_of_ble_eq_true rfl) (by decide) (by decide) (by decide) (by decide) at_450 ?_
        rintro T92 _ _ ⟨rfl, rfl⟩ W93
        have W94 := W93.re (os' := [(b72, (.array .int), [.int s0]), (b82, (.object "com/example/traverso/traverso/graph/Labels"), [.ref b72, .ref b78]), (b4, (.array .int), [.int s0, .int vb, .int vc, .int vd]), (b16, (.array .int), [.int s0, .int s1, .int s2, .int s3, .int s4, .int s5]), (b78, (.array (.object "java/lang/String")), [.null])]) rfl
        show Go p_ e_ bl_ _ (T92.setTop (mkF m_ 453 #[.val (.int p0), .val (.int p1), .val (.int p2), .val (.int p3), .val (.int p4), .val (.int p5), .val (.int s0), .val (.int vb), .val (.int vc), .val (.int vd), vt, .val (.ref b4), .val (.ref b16), .val (.int i5), .val (.int (1 : Int32)), .val (.ref b72), .val (.ref b78), .val (.ref b82), .val (.int ((XT.ushr p5 (8 : Int32)) &&& (3 : Int32))), .val (.int qq), pk] [.int (rf1 s0 qq)]))
        refine g_istore (pc := 453) (ls' := #[.val (.int p0), .val (.int p1), .val (.int p2), .val (.int p3), .val (.int p4), .val (.int p5), .val (.int s0), .val (.int vb), .val (.int vc), .val (.int vd), vt, .val (.ref b4), .val (.ref b16), .val (.int i5), .val (.int (1 : Int32)), .val (.ref b72), .val (.ref b78), .val (.ref b82), .val (.int ((XT.ushr p5 (8 : Int32)) &&& (3 : Int32))), .val (.int qq), .val (.int (rf1 s0 qq))]) W94 at_453 (by rcases hq91 with rfl | ⟨zz, rfl⟩ <;> rfl) ?_
        refine g_aload (pc := 455) W94 at_455 rfl rfl ?_
        refine g_iload (pc := 457) W94 at_457 rfl ?_
        refine g_virtual (i := 1) (pc := 459) (Wt := 0) (argsL := [.int qq]) (rest := []) (loc := [(b82, (.object "com/example/traverso/traverso/graph/Labels"), [.ref b72, .ref b78]), (b72, (.array .int), [.int s0])]) (rst := [(b4, (.array .int), [.int s0, .int vb, .int vc, .int vd]), (b16, (.array .int), [.int s0, .int s1, .int s2, .int s3, .int s4, .int s5]), (b78, (.array (.object "java/lang/String")), [.null])]) W94 (hw _ (List.mem_of_getElem? (i := 23) rfl)) (hw _ (List.mem_of_getElem? (i := 25) rfl)) (hw _ (List.mem_of_getElem? (i := 9) rfl)) (hw _ (List.mem_of_getElem? (i := 27) rfl)) (hw _ (List.mem_of_getElem? (i := 24) rfl)) (hw _ (List.mem_of_getElem? (i := 26) rfl)) rfl (by decide) (c_fst1 l Z a0 hw b82 b72 b78 s0 qq) ⟨[1, 0, 2, 3, 4], by decide, rfl⟩ rfl pd_I__I rfl rfl rfl (Nat.le_of_ble_eq_true rfl) (by decide) (by decide) (by decide) (by decide) at_459 ?_
        rintro T95 _ _ ⟨rfl, rfl⟩ W96
        have W97 := W96.re (os' := [(b82, (.object "com/example/traverso/traverso/graph/Labels"), [.ref b72, .ref b78]), (b72, (.array .int), [.int s0]), (b4, (.array .int), [.int s0, .int vb, .int vc, .int vd]), (b16, (.array .int), [.int s0, .int s1, .int s2, .int s3, .int s4, .int s5]), (b78, (.array (.object "java/lang/String")), [.null])]) rfl
        show Go p_ e_ bl_ _ (T95.setTop (mkF m_ 462 #[.val (.int p0), .val (.int p1), .val (.int p2), .val (.int p3), .val (.int p4), .val (.int p5), .val (.int s0), .val (.int vb), .val (.int vc), .val (.int vd), vt, .val (.ref b4), .val (.ref b16), .val (.int i5), .val (.int (1 : Int32)), .val (.ref b72), .val (.ref b78), .val (.ref b82), .val (.int ((XT.ushr p5 (8 : Int32)) &&& (3 : Int32))), .val (.int qq), .val (.int (rf1 s0 qq))] [.int (rf1 s0 qq)]))
        refine g_iload (pc := 462) W97 at_462 rfl ?_
        refine g_icmpN (pc := 464) W97 at_464 (by first | exact (teq rfl).1 | exact (teq rfl).2 | exact (flt (by simp)).1 | exact (flt (by simp)).2.1 | exact (flt (by simp)).2.2.1 | exact (flt (by simp)).2.2.2) ?_
        refine g_iconst (pc := 467) (1 : Int32) (by decide) W97 at_467 ?_
        refine g_goto 472 (pc := 468) W97 at_468 (by decide) (by decide) ?_
        exact g_zreturn (pc := 472) rfl (by decide) W97 at_472 (by decide) (by decide) rfl
      · refine g_iload (pc := 387) W88 at_387 rfl ?_
        refine g_if_eq 444 (pc := 389) W88 at_389 (by decide) (by decide) (fun c98 => ?_) (fun c98 => ?_)
        · exact cut90 (p4, (.unset : Slot)) (Or.inl rfl)
        · refine g_iload (pc := 392) W88 at_392 rfl ?_
          refine g_ifN (pc := 394) W88 at_394 (by decide) ?_
          refine g_aload (pc := 397) W88 at_397 rfl rfl ?_
          refine g_iload (pc := 399) W88 at_399 rfl ?_
          refine g_ldc_int (pc := 401) (v := (2147483647 : Int32)) W88 (hw _ (List.mem_of_getElem? (i := 28) rfl)) at_401 ?_
          refine g_iand (pc := 403) W88 at_403 ?_
          refine g_iload (pc := 404) W88 at_404 rfl ?_
          refine g_irem (pc := 406) W88 at_406 (by decide) ?_
          obtain ⟨wv, hwv⟩ := own_pick (s0 := s0) (s1 := s1) (s2 := s2) (s3 := s3) (s4 := s4) (s5 := s5) (by have q := own_rem p4 (n := (1 : Int32)) 1 (by decide) (by decide); exact ⟨q.1, by omega⟩ : 0 ≤ (((p4 &&& (2147483647 : Int32)) % (1 : Int32))).toInt ∧ (((p4 &&& (2147483647 : Int32)) % (1 : Int32))).toInt < 6)
          refine g_iaload (pc := 407) (i := 2) (v := .int wv) W88 rfl (own_nn (own_rem p4 (n := (1 : Int32)) 1 (by decide) (by decide)).1) hwv at_407 ?_
          refine g_istore (pc := 408) (ls' := #[.val (.int p0), .val (.int p1), .val (.int p2), .val (.int p3), .val (.int p4), .val (.int p5), .val (.int s0), .val (.int vb), .val (.int vc), .val (.int vd), vt, .val (.ref b4), .val (.ref b16), .val (.int i5), .val (.int (1 : Int32)), .val (.ref b72), .val (.ref b78), .val (.ref b82), .val (.int ((XT.ushr p5 (8 : Int32)) &&& (3 : Int32))), .val (.int p4), .val (.int wv)]) W88 at_408 rfl ?_
          refine g_iload (pc := 410) W88 at_410 rfl ?_
          refine g_iconst (pc := 412) (1 : Int32) (by decide) W88 at_412 ?_
          refine g_icmp_ne 423 (pc := 413) W88 at_413 (by decide) (by decide) (fun c99 => ?_) (fun c99 => ?_)
          · refine g_iload (pc := 423) W88 at_423 rfl ?_
            refine g_iconst (pc := 425) (2 : Int32) (by decide) W88 at_425 ?_
            refine g_icmp_ne 438 (pc := 426) W88 at_426 (by decide) (by decide) (fun c100 => ?_) (fun c100 => ?_)
            · refine g_iload (pc := 438) W88 at_438 rfl ?_
              refine g_iconst (pc := 440) (1 : Int32) (by decide) W88 at_440 ?_
              refine g_isub (pc := 441) W88 at_441 ?_
              refine g_istore (pc := 442) (ls' := #[.val (.int p0), .val (.int p1), .val (.int p2), .val (.int p3), .val (.int p4), .val (.int p5), .val (.int s0), .val (.int vb), .val (.int vc), .val (.int vd), vt, .val (.ref b4), .val (.ref b16), .val (.int i5), .val (.int (1 : Int32)), .val (.ref b72), .val (.ref b78), .val (.ref b82), .val (.int ((XT.ushr p5 (8 : Int32)) &&& (3 : Int32))), .val (.int (wv - (1 : Int32))), .val (.int wv)]) W88 at_442 rfl ?_
              exact cut90 ((wv - (1 : Int32)), (.val (.int wv) : Slot)) (Or.inr ⟨_, rfl⟩)
            · refine g_iload (pc := 429) W88 at_429 rfl ?_
              refine g_iconst (pc := 431) (1 : Int32) (by decide) W88 at_431 ?_
              refine g_iadd (pc := 432) W88 at_432 ?_
              refine g_istore (pc := 433) (ls' := #[.val (.int p0), .val (.int p1), .val (.int p2), .val (.int p3), .val (.int p4), .val (.int p5), .val (.int s0), .val (.int vb), .val (.int vc), .val (.int vd), vt, .val (.ref b4), .val (.ref b16), .val (.int i5), .val (.int (1 : Int32)), .val (.ref b72), .val (.ref b78), .val (.ref b82), .val (.int ((XT.ushr p5 (8 : Int32)) &&& (3 : Int32))), .val (.int (wv + (1 : Int32))), .val (.int wv)]) W88 at_433 rfl ?_
              refine g_goto 444 (pc := 435) W88 at_435 (by decide) (by decide) ?_
              exact cut90 ((wv + (1 : Int32)), (.val (.int wv) : Slot)) (Or.inr ⟨_, rfl⟩)
          · refine g_iload (pc := 416) W88 at_416 rfl ?_
            refine g_istore (pc := 418) (ls' := #[.val (.int p0), .val (.int p1), .val (.int p2), .val (.int p3), .val (.int p4), .val (.int p5), .val (.int s0), .val (.int vb), .val (.int vc), .val (.int vd), vt, .val (.ref b4), .val (.ref b16), .val (.int i5), .val (.int (1 : Int32)), .val (.ref b72), .val (.ref b78), .val (.ref b82), .val (.int ((XT.ushr p5 (8 : Int32)) &&& (3 : Int32))), .val (.int wv), .val (.int wv)]) W88 at_418 rfl ?_
            refine g_goto 444 (pc := 420) W88 at_420 (by decide) (by decide) ?_
            exact cut90 (wv, (.val (.int wv) : Slot)) (Or.inr ⟨_, rfl⟩)
    · rw [hl]
      refine g_iload (pc := 254) W46 at_254 rfl ?_
      refine g_bipush (pc := 256) (6 : Int32) (by decide) W46 at_256 ?_
      refine g_icmpY 265 (pc := 258) W46 at_258 (by decide) (by decide) (by decide) ?_
      refine g_iload (pc := 265) W46 at_265 rfl ?_
      refine g_newarray (pc := 267) (ty := .int) (vs := [.int (0 : Int32), .int (0 : Int32)]) 2 W46 (hw _ (List.mem_of_getElem? (i := 0) rfl)) rfl (by decide) (by decide) (by decide) rfl at_267 (by decide) (by decide) (fun T102 b101 W103 => ?_)
      have W104 := W103.re (os' := [(b4, (.array .int), [.int s0, .int vb, .int vc, .int vd]), (b16, (.array .int), [.int s0, .int s1, .int s2, .int s3, .int s4, .int s5]), (b101, (.array .int), [.int (0 : Int32), .int (0 : Int32)])]) rfl
      refine g_astore (pc := 269) (ls' := #[.val (.int p0), .val (.int p1), .val (.int p2), .val (.int p3), .val (.int p4), .val (.int p5), .val (.int s0), .val (.int vb), .val (.int vc), .val (.int vd), vt, .val (.ref b4), .val (.ref b16), .val (.int i5), .val (.int (2 : Int32)), .val (.ref b101), .unset, .unset, .unset, .unset, .unset]) W104 at_269 rfl rfl ?_
      refine g_iload (pc := 271) W104 at_271 rfl ?_
      refine g_ifN (pc := 273) W104 at_273 (by decide) ?_
      refine g_aload (pc := 276) W104 at_276 rfl rfl ?_
      refine g_iconst (pc := 278) (0 : Int32) (by decide) W104 at_278 ?_
      refine g_aload (pc := 279) W104 at_279 rfl rfl ?_
      refine g_iconst (pc := 281) (0 : Int32) (by decide) W104 at_281 ?_
      refine g_iaload (pc := 282) (i := 1) (v := .int s0) W104 rfl (by decide) rfl at_282 ?_
      refine g_iastore (pc := 283) (i := 2) (os' := [(b4, (.array .int), [.int s0, .int vb, .int vc, .int vd]), (b16, (.array .int), [.int s0, .int s1, .int s2, .int s3, .int s4, .int s5]), (b101, (.array .int), [.int s0, .int (0 : Int32)])]) 0 W104 rfl (by decide) (by decide) (Nat.le_of_ble_eq_true rfl) rfl at_283 (fun T105 W106 => ?_)
      refine g_iload (pc := 284) W106 at_284 rfl ?_
      refine g_iconst (pc := 286) (1 : Int32) (by decide) W106 at_286 ?_
      refine g_icmpN (pc := 287) W106 at_287 (by decide) ?_
      refine g_aload (pc := 290) W106 at_290 rfl rfl ?_
      refine g_iconst (pc := 292) (1 : Int32) (by decide) W106 at_292 ?_
      refine g_aload (pc := 293) W106 at_293 rfl rfl ?_
      refine g_iconst (pc := 295) (1 : Int32) (by decide) W106 at_295 ?_
      refine g_iaload (pc := 296) (i := 1) (v := .int s1) W106 rfl (by decide) rfl at_296 ?_
      refine g_iastore (pc := 297) (i := 2) (os' := [(b4, (.array .int), [.int s0, .int vb, .int vc, .int vd]), (b16, (.array .int), [.int s0, .int s1, .int s2, .int s3, .int s4, .int s5]), (b101, (.array .int), [.int s0, .int s1])]) 1 W106 rfl (by decide) (by decide) (Nat.le_of_ble_eq_true rfl) rfl at_297 (fun T107 W108 => ?_)
      refine g_iload (pc := 298) W108 at_298 rfl ?_
      refine g_iconst (pc := 300) (2 : Int32) (by decide) W108 at_300 ?_
      refine g_icmpY 312 (pc := 301) W108 at_301 (by decide) (by decide) (by decide) ?_
      refine g_iload (pc := 312) W108 at_312 rfl ?_
      refine g_iconst (pc := 314) (3 : Int32) (by decide) W108 at_314 ?_
      refine g_icmpY 326 (pc := 315) W108 at_315 (by decide) (by decide) (by decide) ?_
      refine g_iload (pc := 326) W108 at_326 rfl ?_
      refine g_iconst (pc := 328) (4 : Int32) (by decide) W108 at_328 ?_
      refine g_icmpY 340 (pc := 329) W108 at_329 (by decide) (by decide) (by decide) ?_
      refine g_iload (pc := 340) W108 at_340 rfl ?_
      refine g_iconst (pc := 342) (5 : Int32) (by decide) W108 at_342 ?_
      refine g_icmpY 354 (pc := 343) W108 at_343 (by decide) (by decide) (by decide) ?_
      refine g_iload (pc := 354) W108 at_354 rfl ?_
      refine g_anewarray (pc := 356) (vs := [.null, .null]) 2 W108 (hw _ (List.mem_of_getElem? (i := 5) rfl)) (hw _ (List.mem_of_getElem? (i := 6) rfl)) (by decide) (by decide) (by decide) rfl at_356 (by decide) (by decide) (fun T110 b109 W111 => ?_)
      have W112 := W111.re (os' := [(b4, (.array .int), [.int s0, .int vb, .int vc, .int vd]), (b16, (.array .int), [.int s0, .int s1, .int s2, .int s3, .int s4, .int s5]), (b101, (.array .int), [.int s0, .int s1]), (b109, (.array (.object "java/lang/String")), [.null, .null])]) rfl
      refine g_astore (pc := 359) (ls' := #[.val (.int p0), .val (.int p1), .val (.int p2), .val (.int p3), .val (.int p4), .val (.int p5), .val (.int s0), .val (.int vb), .val (.int vc), .val (.int vd), vt, .val (.ref b4), .val (.ref b16), .val (.int i5), .val (.int (2 : Int32)), .val (.ref b101), .val (.ref b109), .unset, .unset, .unset, .unset]) W112 at_359 rfl rfl ?_
      refine g_new (pc := 361) (vs := [.null, .null]) W112 (hw _ (List.mem_of_getElem? (i := 7) rfl)) (hw _ (List.mem_of_getElem? (i := 8) rfl)) (hw _ (List.mem_of_getElem? (i := 9) rfl)) (cls_Labels hw) (by decide) at_361 (by decide) (by decide) (fun T114 b113 W115 => ?_)
      have W116 := W115.re (os' := [(b4, (.array .int), [.int s0, .int vb, .int vc, .int vd]), (b16, (.array .int), [.int s0, .int s1, .int s2, .int s3, .int s4, .int s5]), (b101, (.array .int), [.int s0, .int s1]), (b109, (.array (.object "java/lang/String")), [.null, .null]), (b113, (.object "com/example/traverso/traverso/graph/Labels"), [.null, .null])]) rfl
      refine g_dup (pc := 364) W116 at_364 rfl ?_
      refine g_aload (pc := 365) W116 at_365 rfl rfl ?_
      refine g_aload (pc := 367) W116 at_367 rfl rfl ?_
      refine g_init (pc := 369) (Wt := 1) (argsL := [.ref b101, .ref b109]) (rest := [.ref b113]) (loc := [(b113, (.object "com/example/traverso/traverso/graph/Labels"), [.null, .null])]) (rst := [(b4, (.array .int), [.int s0, .int vb, .int vc, .int vd]), (b16, (.array .int), [.int s0, .int s1, .int s2, .int s3, .int s4, .int s5]), (b101, (.array .int), [.int s0, .int s1]), (b109, (.array (.object "java/lang/String")), [.null, .null])]) W116 rfl (hw _ (List.mem_of_getElem? (i := 10) rfl)) (hw _ (List.mem_of_getElem? (i := 11) rfl)) (hw _ (List.mem_of_getElem? (i := 9) rfl)) (hw _ (List.mem_of_getElem? (i := 12) rfl)) (by decide) (c_init l Z a0 hw b113 b101 b109) ⟨[4, 0, 1, 2, 3], by decide, rfl⟩ rfl pd_AIALjava_lang_String___V rfl rfl rfl (Nat.le_of_ble_eq_true rfl) (by decide) (by decide) (by decide) (by decide) at_369 ?_
      rintro T117 _ _ ⟨rfl, rfl⟩ W118
      have W119 := W118.re (os' := [(b113, (.object "com/example/traverso/traverso/graph/Labels"), [.ref b101, .ref b109]), (b4, (.array .int), [.int s0, .int vb, .int vc, .int vd]), (b16, (.array .int), [.int s0, .int s1, .int s2, .int s3, .int s4, .int s5]), (b101, (.array .int), [.int s0, .int s1]), (b109, (.array (.object "java/lang/String")), [.null, .null])]) rfl
      show Go p_ e_ bl_ _ (T117.setTop (mkF m_ 372 #[.val (.int p0), .val (.int p1), .val (.int p2), .val (.int p3), .val (.int p4), .val (.int p5), .val (.int s0), .val (.int vb), .val (.int vc), .val (.int vd), vt, .val (.ref b4), .val (.ref b16), .val (.int i5), .val (.int (2 : Int32)), .val (.ref b101), .val (.ref b109), .unset, .unset, .unset, .unset] [.ref b113]))
      refine g_astore (pc := 372) (ls' := #[.val (.int p0), .val (.int p1), .val (.int p2), .val (.int p3), .val (.int p4), .val (.int p5), .val (.int s0), .val (.int vb), .val (.int vc), .val (.int vd), vt, .val (.ref b4), .val (.ref b16), .val (.int i5), .val (.int (2 : Int32)), .val (.ref b101), .val (.ref b109), .val (.ref b113), .unset, .unset, .unset]) W119 at_372 rfl rfl ?_
      refine g_iload (pc := 374) W119 at_374 rfl ?_
      refine g_bipush (pc := 376) (8 : Int32) (by decide) W119 at_376 ?_
      refine g_iushr (pc := 378) W119 at_378 ?_
      refine g_iconst (pc := 379) (3 : Int32) (by decide) W119 at_379 ?_
      refine g_iand (pc := 380) W119 at_380 ?_
      refine g_istore (pc := 381) (ls' := #[.val (.int p0), .val (.int p1), .val (.int p2), .val (.int p3), .val (.int p4), .val (.int p5), .val (.int s0), .val (.int vb), .val (.int vc), .val (.int vd), vt, .val (.ref b4), .val (.ref b16), .val (.int i5), .val (.int (2 : Int32)), .val (.ref b101), .val (.ref b109), .val (.ref b113), .val (.int ((XT.ushr p5 (8 : Int32)) &&& (3 : Int32))), .unset, .unset]) W119 at_381 rfl ?_
      refine g_iload (pc := 383) W119 at_383 rfl ?_
      refine g_istore (pc := 385) (ls' := #[.val (.int p0), .val (.int p1), .val (.int p2), .val (.int p3), .val (.int p4), .val (.int p5), .val (.int s0), .val (.int vb), .val (.int vc), .val (.int vd), vt, .val (.ref b4), .val (.ref b16), .val (.int i5), .val (.int (2 : Int32)), .val (.ref b101), .val (.ref b109), .val (.ref b113), .val (.int ((XT.ushr p5 (8 : Int32)) &&& (3 : Int32))), .val (.int p4), .unset]) W119 at_385 rfl ?_
      refine Go.cut (T := T117) (fr := fun z120 : Int32 × Slot => (mkF m_ 444 #[.val (.int p0), .val (.int p1), .val (.int p2), .val (.int p3), .val (.int p4), .val (.int p5), .val (.int s0), .val (.int vb), .val (.int vc), .val (.int vd), vt, .val (.ref b4), .val (.ref b16), .val (.int i5), .val (.int (2 : Int32)), .val (.ref b101), .val (.ref b109), .val (.ref b113), .val (.int ((XT.ushr p5 (8 : Int32)) &&& (3 : Int32))), .val (.int z120.1), z120.2] [])) (fun ⟨qq, pk⟩ => pk = .unset ∨ ∃ zz, pk = .val (.int zz)) ?_ (fun cut121 => ?_)
      · rintro ⟨qq, pk⟩ hq122
        change pk = .unset ∨ ∃ zz, pk = .val (.int zz) at hq122
        show Go p_ e_ bl_ _ (T117.setTop (mkF m_ 444 #[.val (.int p0), .val (.int p1), .val (.int p2), .val (.int p3), .val (.int p4), .val (.int p5), .val (.int s0), .val (.int vb), .val (.int vc), .val (.int vd), vt, .val (.ref b4), .val (.ref b16), .val (.int i5), .val (.int (2 : Int32)), .val (.ref b101), .val (.ref b109), .val (.ref b113), .val (.int ((XT.ushr p5 (8 : Int32)) &&& (3 : Int32))), .val (.int qq), pk] []))
        refine g_aload (pc := 444) W119 at_444 rfl rfl ?_
        refine g_iload (pc := 446) W119 at_446 rfl ?_
        refine g_iload (pc := 448) W119 at_448 rfl ?_
        refine g_static (pc := 450) (Wt := 0) (argsL := [.ref b101, .int (2 : Int32), .int qq]) (rest := []) (loc := [(b101, (.array .int), [.int s0, .int s1])]) (rst := [(b113, (.object "com/example/traverso/traverso/graph/Labels"), [.ref b101, .ref b109]), (b4, (.array .int), [.int s0, .int vb, .int vc, .int vd]), (b16, (.array .int), [.int s0, .int s1, .int s2, .int s3, .int s4, .int s5]), (b109, (.array (.object "java/lang/String")), [.null, .null])]) W119 (hw _ (List.mem_of_getElem? (i := 20) rfl)) (hw _ (List.mem_of_getElem? (i := 21) rfl)) (hw _ (List.mem_of_getElem? (i := 3) rfl)) (hw _ (List.mem_of_getElem? (i := 22) rfl)) (by decide) (c_ref2 l Z a0 hw b101 s0 s1 qq) ⟨[3, 0, 1, 2, 4], by decide, rfl⟩ rfl pd_AIII__I rfl rfl rfl (Nat.le_of_ble_eq_true rfl) (by decide) (by decide) (by decide) (by decide) at_450 ?_
        rintro T123 _ _ ⟨rfl, rfl⟩ W124
        have W125 := W124.re (os' := [(b101, (.array .int), [.int s0, .int s1]), (b113, (.object "com/example/traverso/traverso/graph/Labels"), [.ref b101, .ref b109]), (b4, (.array .int), [.int s0, .int vb, .int vc, .int vd]), (b16, (.array .int), [.int s0, .int s1, .int s2, .int s3, .int s4, .int s5]), (b109, (.array (.object "java/lang/String")), [.null, .null])]) rfl
        show Go p_ e_ bl_ _ (T123.setTop (mkF m_ 453 #[.val (.int p0), .val (.int p1), .val (.int p2), .val (.int p3), .val (.int p4), .val (.int p5), .val (.int s0), .val (.int vb), .val (.int vc), .val (.int vd), vt, .val (.ref b4), .val (.ref b16), .val (.int i5), .val (.int (2 : Int32)), .val (.ref b101), .val (.ref b109), .val (.ref b113), .val (.int ((XT.ushr p5 (8 : Int32)) &&& (3 : Int32))), .val (.int qq), pk] [.int (rf2 s0 s1 qq)]))
        refine g_istore (pc := 453) (ls' := #[.val (.int p0), .val (.int p1), .val (.int p2), .val (.int p3), .val (.int p4), .val (.int p5), .val (.int s0), .val (.int vb), .val (.int vc), .val (.int vd), vt, .val (.ref b4), .val (.ref b16), .val (.int i5), .val (.int (2 : Int32)), .val (.ref b101), .val (.ref b109), .val (.ref b113), .val (.int ((XT.ushr p5 (8 : Int32)) &&& (3 : Int32))), .val (.int qq), .val (.int (rf2 s0 s1 qq))]) W125 at_453 (by rcases hq122 with rfl | ⟨zz, rfl⟩ <;> rfl) ?_
        refine g_aload (pc := 455) W125 at_455 rfl rfl ?_
        refine g_iload (pc := 457) W125 at_457 rfl ?_
        refine g_virtual (i := 1) (pc := 459) (Wt := 0) (argsL := [.int qq]) (rest := []) (loc := [(b113, (.object "com/example/traverso/traverso/graph/Labels"), [.ref b101, .ref b109]), (b101, (.array .int), [.int s0, .int s1])]) (rst := [(b4, (.array .int), [.int s0, .int vb, .int vc, .int vd]), (b16, (.array .int), [.int s0, .int s1, .int s2, .int s3, .int s4, .int s5]), (b109, (.array (.object "java/lang/String")), [.null, .null])]) W125 (hw _ (List.mem_of_getElem? (i := 23) rfl)) (hw _ (List.mem_of_getElem? (i := 25) rfl)) (hw _ (List.mem_of_getElem? (i := 9) rfl)) (hw _ (List.mem_of_getElem? (i := 27) rfl)) (hw _ (List.mem_of_getElem? (i := 24) rfl)) (hw _ (List.mem_of_getElem? (i := 26) rfl)) rfl (by decide) (c_fst2 l Z a0 hw b113 b101 b109 s0 s1 qq hm0) ⟨[1, 0, 2, 3, 4], by decide, rfl⟩ rfl pd_I__I rfl rfl rfl (Nat.le_of_ble_eq_true rfl) (by decide) (by decide) (by decide) (by decide) at_459 ?_
        rintro T126 _ _ ⟨rfl, rfl⟩ W127
        have W128 := W127.re (os' := [(b113, (.object "com/example/traverso/traverso/graph/Labels"), [.ref b101, .ref b109]), (b101, (.array .int), [.int s0, .int s1]), (b4, (.array .int), [.int s0, .int vb, .int vc, .int vd]), (b16, (.array .int), [.int s0, .int s1, .int s2, .int s3, .int s4, .int s5]), (b109, (.array (.object "java/lang/String")), [.null, .null])]) rfl
        show Go p_ e_ bl_ _ (T126.setTop (mkF m_ 462 #[.val (.int p0), .val (.int p1), .val (.int p2), .val (.int p3), .val (.int p4), .val (.int p5), .val (.int s0), .val (.int vb), .val (.int vc), .val (.int vd), vt, .val (.ref b4), .val (.ref b16), .val (.int i5), .val (.int (2 : Int32)), .val (.ref b101), .val (.ref b109), .val (.ref b113), .val (.int ((XT.ushr p5 (8 : Int32)) &&& (3 : Int32))), .val (.int qq), .val (.int (rf2 s0 s1 qq))] [.int (rf2 s0 s1 qq)]))
        refine g_iload (pc := 462) W128 at_462 rfl ?_
        refine g_icmpN (pc := 464) W128 at_464 (by first | exact (teq rfl).1 | exact (teq rfl).2 | exact (flt (by simp)).1 | exact (flt (by simp)).2.1 | exact (flt (by simp)).2.2.1 | exact (flt (by simp)).2.2.2) ?_
        refine g_iconst (pc := 467) (1 : Int32) (by decide) W128 at_467 ?_
        refine g_goto 472 (pc := 468) W128 at_468 (by decide) (by decide) ?_
        exact g_zreturn (pc := 472) rfl (by decide) W128 at_472 (by decide) (by decide) rfl
      · refine g_iload (pc := 387) W119 at_387 rfl ?_
        refine g_if_eq 444 (pc := 389) W119 at_389 (by decide) (by decide) (fun c129 => ?_) (fun c129 => ?_)
        · exact cut121 (p4, (.unset : Slot)) (Or.inl rfl)
        · refine g_iload (pc := 392) W119 at_392 rfl ?_
          refine g_ifN (pc := 394) W119 at_394 (by decide) ?_
          refine g_aload (pc := 397) W119 at_397 rfl rfl ?_
          refine g_iload (pc := 399) W119 at_399 rfl ?_
          refine g_ldc_int (pc := 401) (v := (2147483647 : Int32)) W119 (hw _ (List.mem_of_getElem? (i := 28) rfl)) at_401 ?_
          refine g_iand (pc := 403) W119 at_403 ?_
          refine g_iload (pc := 404) W119 at_404 rfl ?_
          refine g_irem (pc := 406) W119 at_406 (by decide) ?_
          obtain ⟨wv, hwv⟩ := own_pick (s0 := s0) (s1 := s1) (s2 := s2) (s3 := s3) (s4 := s4) (s5 := s5) (by have q := own_rem p4 (n := (2 : Int32)) 2 (by decide) (by decide); exact ⟨q.1, by omega⟩ : 0 ≤ (((p4 &&& (2147483647 : Int32)) % (2 : Int32))).toInt ∧ (((p4 &&& (2147483647 : Int32)) % (2 : Int32))).toInt < 6)
          refine g_iaload (pc := 407) (i := 2) (v := .int wv) W119 rfl (own_nn (own_rem p4 (n := (2 : Int32)) 2 (by decide) (by decide)).1) hwv at_407 ?_
          refine g_istore (pc := 408) (ls' := #[.val (.int p0), .val (.int p1), .val (.int p2), .val (.int p3), .val (.int p4), .val (.int p5), .val (.int s0), .val (.int vb), .val (.int vc), .val (.int vd), vt, .val (.ref b4), .val (.ref b16), .val (.int i5), .val (.int (2 : Int32)), .val (.ref b101), .val (.ref b109), .val (.ref b113), .val (.int ((XT.ushr p5 (8 : Int32)) &&& (3 : Int32))), .val (.int p4), .val (.int wv)]) W119 at_408 rfl ?_
          refine g_iload (pc := 410) W119 at_410 rfl ?_
          refine g_iconst (pc := 412) (1 : Int32) (by decide) W119 at_412 ?_
          refine g_icmp_ne 423 (pc := 413) W119 at_413 (by decide) (by decide) (fun c130 => ?_) (fun c130 => ?_)
          · refine g_iload (pc := 423) W119 at_423 rfl ?_
            refine g_iconst (pc := 425) (2 : Int32) (by decide) W119 at_425 ?_
            refine g_icmp_ne 438 (pc := 426) W119 at_426 (by decide) (by decide) (fun c131 => ?_) (fun c131 => ?_)
            · refine g_iload (pc := 438) W119 at_438 rfl ?_
              refine g_iconst (pc := 440) (1 : Int32) (by decide) W119 at_440 ?_
              refine g_isub (pc := 441) W119 at_441 ?_
              refine g_istore (pc := 442) (ls' := #[.val (.int p0), .val (.int p1), .val (.int p2), .val (.int p3), .val (.int p4), .val (.int p5), .val (.int s0), .val (.int vb), .val (.int vc), .val (.int vd), vt, .val (.ref b4), .val (.ref b16), .val (.int i5), .val (.int (2 : Int32)), .val (.ref b101), .val (.ref b109), .val (.ref b113), .val (.int ((XT.ushr p5 (8 : Int32)) &&& (3 : Int32))), .val (.int (wv - (1 : Int32))), .val (.int wv)]) W119 at_442 rfl ?_
              exact cut121 ((wv - (1 : Int32)), (.val (.int wv) : Slot)) (Or.inr ⟨_, rfl⟩)
            · refine g_iload (pc := 429) W119 at_429 rfl ?_
              refine g_iconst (pc := 431) (1 : Int32) (by decide) W119 at_431 ?_
              refine g_iadd (pc := 432) W119 at_432 ?_
              refine g_istore (pc := 433) (ls' := #[.val (.int p0), .val (.int p1), .val (.int p2), .val (.int p3), .val (.int p4), .val (.int p5), .val (.int s0), .val (.int vb), .val (.int vc), .val (.int vd), vt, .val (.ref b4), .val (.ref b16), .val (.int i5), .val (.int (2 : Int32)), .val (.ref b101), .val (.ref b109), .val (.ref b113), .val (.int ((XT.ushr p5 (8 : Int32)) &&& (3 : Int32))), .val (.int (wv + (1 : Int32))), .val (.int wv)]) W119 at_433 rfl ?_
              refine g_goto 444 (pc := 435) W119 at_435 (by decide) (by decide) ?_
              exact cut121 ((wv + (1 : Int32)), (.val (.int wv) : Slot)) (Or.inr ⟨_, rfl⟩)
          · refine g_iload (pc := 416) W119 at_416 rfl ?_
            refine g_istore (pc := 418) (ls' := #[.val (.int p0), .val (.int p1), .val (.int p2), .val (.int p3), .val (.int p4), .val (.int p5), .val (.int s0), .val (.int vb), .val (.int vc), .val (.int vd), vt, .val (.ref b4), .val (.ref b16), .val (.int i5), .val (.int (2 : Int32)), .val (.ref b101), .val (.ref b109), .val (.ref b113), .val (.int ((XT.ushr p5 (8 : Int32)) &&& (3 : Int32))), .val (.int wv), .val (.int wv)]) W119 at_418 rfl ?_
            refine g_goto 444 (pc := 420) W119 at_420 (by decide) (by decide) ?_
            exact cut121 (wv, (.val (.int wv) : Slot)) (Or.inr ⟨_, rfl⟩)
    · rw [hl]
      refine g_iload (pc := 254) W46 at_254 rfl ?_
      refine g_bipush (pc := 256) (6 : Int32) (by decide) W46 at_256 ?_
      refine g_icmpY 265 (pc := 258) W46 at_258 (by decide) (by decide) (by decide) ?_
      refine g_iload (pc := 265) W46 at_265 rfl ?_
      refine g_newarray (pc := 267) (ty := .int) (vs := [.int (0 : Int32), .int (0 : Int32), .int (0 : Int32)]) 3 W46 (hw _ (List.mem_of_getElem? (i := 0) rfl)) rfl (by decide) (by decide) (by decide) rfl at_267 (by decide) (by decide) (fun T133 b132 W134 => ?_)
      have W135 := W134.re (os' := [(b4, (.array .int), [.int s0, .int vb, .int vc, .int vd]), (b16, (.array .int), [.int s0, .int s1, .int s2, .int s3, .int s4, .int s5]), (b132, (.array .int), [.int (0 : Int32), .int (0 : Int32), .int (0 : Int32)])]) rfl
      refine g_astore (pc := 269) (ls' := #[.val (.int p0), .val (.int p1), .val (.int p2), .val (.int p3), .val (.int p4), .val (.int p5), .val (.int s0), .val (.int vb), .val (.int vc), .val (.int vd), vt, .val (.ref b4), .val (.ref b16), .val (.int i5), .val (.int (3 : Int32)), .val (.ref b132), .unset, .unset, .unset, .unset, .unset]) W135 at_269 rfl rfl ?_
      refine g_iload (pc := 271) W135 at_271 rfl ?_
      refine g_ifN (pc := 273) W135 at_273 (by decide) ?_
      refine g_aload (pc := 276) W135 at_276 rfl rfl ?_
      refine g_iconst (pc := 278) (0 : Int32) (by decide) W135 at_278 ?_
      refine g_aload (pc := 279) W135 at_279 rfl rfl ?_
      refine g_iconst (pc := 281) (0 : Int32) (by decide) W135 at_281 ?_
      refine g_iaload (pc := 282) (i := 1) (v := .int s0) W135 rfl (by decide) rfl at_282 ?_
      refine g_iastore (pc := 283) (i := 2) (os' := [(b4, (.array .int), [.int s0, .int vb, .int vc, .int vd]), (b16, (.array .int), [.int s0, .int s1, .int s2, .int s3, .int s4, .int s5]), (b132, (.array .int), [.int s0, .int (0 : Int32), .int (0 : Int32)])]) 0 W135 rfl (by decide) (by decide) (Nat.le_of_ble_eq_true rfl) rfl at_283 (fun T136 W137 => ?_)
      refine g_iload (pc := 284) W137 at_284 rfl ?_
      refine g_iconst (pc := 286) (1 : Int32) (by decide) W137 at_286 ?_
      refine g_icmpN (pc := 287) W137 at_287 (by decide) ?_
      refine g_aload (pc := 290) W137 at_290 rfl rfl ?_
      refine g_iconst (pc := 292) (1 : Int32) (by decide) W137 at_292 ?_
      refine g_aload (pc := 293) W137 at_293 rfl rfl ?_
      refine g_iconst (pc := 295) (1 : Int32) (by decide) W137 at_295 ?_
      refine g_iaload (pc := 296) (i := 1) (v := .int s1) W137 rfl (by decide) rfl at_296 ?_
      refine g_iastore (pc := 297) (i := 2) (os' := [(b4, (.array .int), [.int s0, .int vb, .int vc, .int vd]), (b16, (.array .int), [.int s0, .int s1, .int s2, .int s3, .int s4, .int s5]), (b132, (.array .int), [.int s0, .int s1, .int (0 : Int32)])]) 1 W137 rfl (by decide) (by decide) (Nat.le_of_ble_eq_true rfl) rfl at_297 (fun T138 W139 => ?_)
      refine g_iload (pc := 298) W139 at_298 rfl ?_
      refine g_iconst (pc := 300) (2 : Int32) (by decide) W139 at_300 ?_
      refine g_icmpN (pc := 301) W139 at_301 (by decide) ?_
      refine g_aload (pc := 304) W139 at_304 rfl rfl ?_
      refine g_iconst (pc := 306) (2 : Int32) (by decide) W139 at_306 ?_
      refine g_aload (pc := 307) W139 at_307 rfl rfl ?_
      refine g_iconst (pc := 309) (2 : Int32) (by decide) W139 at_309 ?_
      refine g_iaload (pc := 310) (i := 1) (v := .int s2) W139 rfl (by decide) rfl at_310 ?_
      refine g_iastore (pc := 311) (i := 2) (os' := [(b4, (.array .int), [.int s0, .int vb, .int vc, .int vd]), (b16, (.array .int), [.int s0, .int s1, .int s2, .int s3, .int s4, .int s5]), (b132, (.array .int), [.int s0, .int s1, .int s2])]) 2 W139 rfl (by decide) (by decide) (Nat.le_of_ble_eq_true rfl) rfl at_311 (fun T140 W141 => ?_)
      refine g_iload (pc := 312) W141 at_312 rfl ?_
      refine g_iconst (pc := 314) (3 : Int32) (by decide) W141 at_314 ?_
      refine g_icmpY 326 (pc := 315) W141 at_315 (by decide) (by decide) (by decide) ?_
      refine g_iload (pc := 326) W141 at_326 rfl ?_
      refine g_iconst (pc := 328) (4 : Int32) (by decide) W141 at_328 ?_
      refine g_icmpY 340 (pc := 329) W141 at_329 (by decide) (by decide) (by decide) ?_
      refine g_iload (pc := 340) W141 at_340 rfl ?_
      refine g_iconst (pc := 342) (5 : Int32) (by decide) W141 at_342 ?_
      refine g_icmpY 354 (pc := 343) W141 at_343 (by decide) (by decide) (by decide) ?_
      refine g_iload (pc := 354) W141 at_354 rfl ?_
      refine g_anewarray (pc := 356) (vs := [.null, .null, .null]) 3 W141 (hw _ (List.mem_of_getElem? (i := 5) rfl)) (hw _ (List.mem_of_getElem? (i := 6) rfl)) (by decide) (by decide) (by decide) rfl at_356 (by decide) (by decide) (fun T143 b142 W144 => ?_)
      have W145 := W144.re (os' := [(b4, (.array .int), [.int s0, .int vb, .int vc, .int vd]), (b16, (.array .int), [.int s0, .int s1, .int s2, .int s3, .int s4, .int s5]), (b132, (.array .int), [.int s0, .int s1, .int s2]), (b142, (.array (.object "java/lang/String")), [.null, .null, .null])]) rfl
      refine g_astore (pc := 359) (ls' := #[.val (.int p0), .val (.int p1), .val (.int p2), .val (.int p3), .val (.int p4), .val (.int p5), .val (.int s0), .val (.int vb), .val (.int vc), .val (.int vd), vt, .val (.ref b4), .val (.ref b16), .val (.int i5), .val (.int (3 : Int32)), .val (.ref b132), .val (.ref b142), .unset, .unset, .unset, .unset]) W145 at_359 rfl rfl ?_
      refine g_new (pc := 361) (vs := [.null, .null]) W145 (hw _ (List.mem_of_getElem? (i := 7) rfl)) (hw _ (List.mem_of_getElem? (i := 8) rfl)) (hw _ (List.mem_of_getElem? (i := 9) rfl)) (cls_Labels hw) (by decide) at_361 (by decide) (by decide) (fun T147 b146 W148 => ?_)
      have W149 := W148.re (os' := [(b4, (.array .int), [.int s0, .int vb, .int vc, .int vd]), (b16, (.array .int), [.int s0, .int s1, .int s2, .int s3, .int s4, .int s5]), (b132, (.array .int), [.int s0, .int s1, .int s2]), (b142, (.array (.object "java/lang/String")), [.null, .null, .null]), (b146, (.object "com/example/traverso/traverso/graph/Labels"), [.null, .null])]) rfl
      refine g_dup (pc := 364) W149 at_364 rfl ?_
      refine g_aload (pc := 365) W149 at_365 rfl rfl ?_
      refine g_aload (pc := 367) W149 at_367 rfl rfl ?_
      refine g_init (pc := 369) (Wt := 1) (argsL := [.ref b132, .ref b142]) (rest := [.ref b146]) (loc := [(b146, (.object "com/example/traverso/traverso/graph/Labels"), [.null, .null])]) (rst := [(b4, (.array .int), [.int s0, .int vb, .int vc, .int vd]), (b16, (.array .int), [.int s0, .int s1, .int s2, .int s3, .int s4, .int s5]), (b132, (.array .int), [.int s0, .int s1, .int s2]), (b142, (.array (.object "java/lang/String")), [.null, .null, .null])]) W149 rfl (hw _ (List.mem_of_getElem? (i := 10) rfl)) (hw _ (List.mem_of_getElem? (i := 11) rfl)) (hw _ (List.mem_of_getElem? (i := 9) rfl)) (hw _ (List.mem_of_getElem? (i := 12) rfl)) (by decide) (c_init l Z a0 hw b146 b132 b142) ⟨[4, 0, 1, 2, 3], by decide, rfl⟩ rfl pd_AIALjava_lang_String___V rfl rfl rfl (Nat.le_of_ble_eq_true rfl) (by decide) (by decide) (by decide) (by decide) at_369 ?_
      rintro T150 _ _ ⟨rfl, rfl⟩ W151
      have W152 := W151.re (os' := [(b146, (.object "com/example/traverso/traverso/graph/Labels"), [.ref b132, .ref b142]), (b4, (.array .int), [.int s0, .int vb, .int vc, .int vd]), (b16, (.array .int), [.int s0, .int s1, .int s2, .int s3, .int s4, .int s5]), (b132, (.array .int), [.int s0, .int s1, .int s2]), (b142, (.array (.object "java/lang/String")), [.null, .null, .null])]) rfl
      show Go p_ e_ bl_ _ (T150.setTop (mkF m_ 372 #[.val (.int p0), .val (.int p1), .val (.int p2), .val (.int p3), .val (.int p4), .val (.int p5), .val (.int s0), .val (.int vb), .val (.int vc), .val (.int vd), vt, .val (.ref b4), .val (.ref b16), .val (.int i5), .val (.int (3 : Int32)), .val (.ref b132), .val (.ref b142), .unset, .unset, .unset, .unset] [.ref b146]))
      refine g_astore (pc := 372) (ls' := #[.val (.int p0), .val (.int p1), .val (.int p2), .val (.int p3), .val (.int p4), .val (.int p5), .val (.int s0), .val (.int vb), .val (.int vc), .val (.int vd), vt, .val (.ref b4), .val (.ref b16), .val (.int i5), .val (.int (3 : Int32)), .val (.ref b132), .val (.ref b142), .val (.ref b146), .unset, .unset, .unset]) W152 at_372 rfl rfl ?_
      refine g_iload (pc := 374) W152 at_374 rfl ?_
      refine g_bipush (pc := 376) (8 : Int32) (by decide) W152 at_376 ?_
      refine g_iushr (pc := 378) W152 at_378 ?_
      refine g_iconst (pc := 379) (3 : Int32) (by decide) W152 at_379 ?_
      refine g_iand (pc := 380) W152 at_380 ?_
      refine g_istore (pc := 381) (ls' := #[.val (.int p0), .val (.int p1), .val (.int p2), .val (.int p3), .val (.int p4), .val (.int p5), .val (.int s0), .val (.int vb), .val (.int vc), .val (.int vd), vt, .val (.ref b4), .val (.ref b16), .val (.int i5), .val (.int (3 : Int32)), .val (.ref b132), .val (.ref b142), .val (.ref b146), .val (.int ((XT.ushr p5 (8 : Int32)) &&& (3 : Int32))), .unset, .unset]) W152 at_381 rfl ?_
      refine g_iload (pc := 383) W152 at_383 rfl ?_
      refine g_istore (pc := 385) (ls' := #[.val (.int p0), .val (.int p1), .val (.int p2), .val (.int p3), .val (.int p4), .val (.int p5), .val (.int s0), .val (.int vb), .val (.int vc), .val (.int vd), vt, .val (.ref b4), .val (.ref b16), .val (.int i5), .val (.int (3 : Int32)), .val (.ref b132), .val (.ref b142), .val (.ref b146), .val (.int ((XT.ushr p5 (8 : Int32)) &&& (3 : Int32))), .val (.int p4), .unset]) W152 at_385 rfl ?_
      refine Go.cut (T := T150) (fr := fun z153 : Int32 × Slot => (mkF m_ 444 #[.val (.int p0), .val (.int p1), .val (.int p2), .val (.int p3), .val (.int p4), .val (.int p5), .val (.int s0), .val (.int vb), .val (.int vc), .val (.int vd), vt, .val (.ref b4), .val (.ref b16), .val (.int i5), .val (.int (3 : Int32)), .val (.ref b132), .val (.ref b142), .val (.ref b146), .val (.int ((XT.ushr p5 (8 : Int32)) &&& (3 : Int32))), .val (.int z153.1), z153.2] [])) (fun ⟨qq, pk⟩ => pk = .unset ∨ ∃ zz, pk = .val (.int zz)) ?_ (fun cut154 => ?_)
      · rintro ⟨qq, pk⟩ hq155
        change pk = .unset ∨ ∃ zz, pk = .val (.int zz) at hq155
        show Go p_ e_ bl_ _ (T150.setTop (mkF m_ 444 #[.val (.int p0), .val (.int p1), .val (.int p2), .val (.int p3), .val (.int p4), .val (.int p5), .val (.int s0), .val (.int vb), .val (.int vc), .val (.int vd), vt, .val (.ref b4), .val (.ref b16), .val (.int i5), .val (.int (3 : Int32)), .val (.ref b132), .val (.ref b142), .val (.ref b146), .val (.int ((XT.ushr p5 (8 : Int32)) &&& (3 : Int32))), .val (.int qq), pk] []))
        refine g_aload (pc := 444) W152 at_444 rfl rfl ?_
        refine g_iload (pc := 446) W152 at_446 rfl ?_
        refine g_iload (pc := 448) W152 at_448 rfl ?_
        refine g_static (pc := 450) (Wt := 0) (argsL := [.ref b132, .int (3 : Int32), .int qq]) (rest := []) (loc := [(b132, (.array .int), [.int s0, .int s1, .int s2])]) (rst := [(b146, (.object "com/example/traverso/traverso/graph/Labels"), [.ref b132, .ref b142]), (b4, (.array .int), [.int s0, .int vb, .int vc, .int vd]), (b16, (.array .int), [.int s0, .int s1, .int s2, .int s3, .int s4, .int s5]), (b142, (.array (.object "java/lang/String")), [.null, .null, .null])]) W152 (hw _ (List.mem_of_getElem? (i := 20) rfl)) (hw _ (List.mem_of_getElem? (i := 21) rfl)) (hw _ (List.mem_of_getElem? (i := 3) rfl)) (hw _ (List.mem_of_getElem? (i := 22) rfl)) (by decide) (c_ref3 l Z a0 hw b132 s0 s1 s2 qq) ⟨[3, 0, 1, 2, 4], by decide, rfl⟩ rfl pd_AIII__I rfl rfl rfl (Nat.le_of_ble_eq_true rfl) (by decide) (by decide) (by decide) (by decide) at_450 ?_
        rintro T156 _ _ ⟨rfl, rfl⟩ W157
        have W158 := W157.re (os' := [(b132, (.array .int), [.int s0, .int s1, .int s2]), (b146, (.object "com/example/traverso/traverso/graph/Labels"), [.ref b132, .ref b142]), (b4, (.array .int), [.int s0, .int vb, .int vc, .int vd]), (b16, (.array .int), [.int s0, .int s1, .int s2, .int s3, .int s4, .int s5]), (b142, (.array (.object "java/lang/String")), [.null, .null, .null])]) rfl
        show Go p_ e_ bl_ _ (T156.setTop (mkF m_ 453 #[.val (.int p0), .val (.int p1), .val (.int p2), .val (.int p3), .val (.int p4), .val (.int p5), .val (.int s0), .val (.int vb), .val (.int vc), .val (.int vd), vt, .val (.ref b4), .val (.ref b16), .val (.int i5), .val (.int (3 : Int32)), .val (.ref b132), .val (.ref b142), .val (.ref b146), .val (.int ((XT.ushr p5 (8 : Int32)) &&& (3 : Int32))), .val (.int qq), pk] [.int (rf3 s0 s1 s2 qq)]))
        refine g_istore (pc := 453) (ls' := #[.val (.int p0), .val (.int p1), .val (.int p2), .val (.int p3), .val (.int p4), .val (.int p5), .val (.int s0), .val (.int vb), .val (.int vc), .val (.int vd), vt, .val (.ref b4), .val (.ref b16), .val (.int i5), .val (.int (3 : Int32)), .val (.ref b132), .val (.ref b142), .val (.ref b146), .val (.int ((XT.ushr p5 (8 : Int32)) &&& (3 : Int32))), .val (.int qq), .val (.int (rf3 s0 s1 s2 qq))]) W158 at_453 (by rcases hq155 with rfl | ⟨zz, rfl⟩ <;> rfl) ?_
        refine g_aload (pc := 455) W158 at_455 rfl rfl ?_
        refine g_iload (pc := 457) W158 at_457 rfl ?_
        refine g_virtual (i := 1) (pc := 459) (Wt := 0) (argsL := [.int qq]) (rest := []) (loc := [(b146, (.object "com/example/traverso/traverso/graph/Labels"), [.ref b132, .ref b142]), (b132, (.array .int), [.int s0, .int s1, .int s2])]) (rst := [(b4, (.array .int), [.int s0, .int vb, .int vc, .int vd]), (b16, (.array .int), [.int s0, .int s1, .int s2, .int s3, .int s4, .int s5]), (b142, (.array (.object "java/lang/String")), [.null, .null, .null])]) W158 (hw _ (List.mem_of_getElem? (i := 23) rfl)) (hw _ (List.mem_of_getElem? (i := 25) rfl)) (hw _ (List.mem_of_getElem? (i := 9) rfl)) (hw _ (List.mem_of_getElem? (i := 27) rfl)) (hw _ (List.mem_of_getElem? (i := 24) rfl)) (hw _ (List.mem_of_getElem? (i := 26) rfl)) rfl (by decide) (c_fst3 l Z a0 hw b146 b132 b142 s0 s1 s2 qq hm0 hm1) ⟨[1, 0, 2, 3, 4], by decide, rfl⟩ rfl pd_I__I rfl rfl rfl (Nat.le_of_ble_eq_true rfl) (by decide) (by decide) (by decide) (by decide) at_459 ?_
        rintro T159 _ _ ⟨rfl, rfl⟩ W160
        have W161 := W160.re (os' := [(b146, (.object "com/example/traverso/traverso/graph/Labels"), [.ref b132, .ref b142]), (b132, (.array .int), [.int s0, .int s1, .int s2]), (b4, (.array .int), [.int s0, .int vb, .int vc, .int vd]), (b16, (.array .int), [.int s0, .int s1, .int s2, .int s3, .int s4, .int s5]), (b142, (.array (.object "java/lang/String")), [.null, .null, .null])]) rfl
        show Go p_ e_ bl_ _ (T159.setTop (mkF m_ 462 #[.val (.int p0), .val (.int p1), .val (.int p2), .val (.int p3), .val (.int p4), .val (.int p5), .val (.int s0), .val (.int vb), .val (.int vc), .val (.int vd), vt, .val (.ref b4), .val (.ref b16), .val (.int i5), .val (.int (3 : Int32)), .val (.ref b132), .val (.ref b142), .val (.ref b146), .val (.int ((XT.ushr p5 (8 : Int32)) &&& (3 : Int32))), .val (.int qq), .val (.int (rf3 s0 s1 s2 qq))] [.int (rf3 s0 s1 s2 qq)]))
        refine g_iload (pc := 462) W161 at_462 rfl ?_
        refine g_icmpN (pc := 464) W161 at_464 (by first | exact (teq rfl).1 | exact (teq rfl).2 | exact (flt (by simp)).1 | exact (flt (by simp)).2.1 | exact (flt (by simp)).2.2.1 | exact (flt (by simp)).2.2.2) ?_
        refine g_iconst (pc := 467) (1 : Int32) (by decide) W161 at_467 ?_
        refine g_goto 472 (pc := 468) W161 at_468 (by decide) (by decide) ?_
        exact g_zreturn (pc := 472) rfl (by decide) W161 at_472 (by decide) (by decide) rfl
      · refine g_iload (pc := 387) W152 at_387 rfl ?_
        refine g_if_eq 444 (pc := 389) W152 at_389 (by decide) (by decide) (fun c162 => ?_) (fun c162 => ?_)
        · exact cut154 (p4, (.unset : Slot)) (Or.inl rfl)
        · refine g_iload (pc := 392) W152 at_392 rfl ?_
          refine g_ifN (pc := 394) W152 at_394 (by decide) ?_
          refine g_aload (pc := 397) W152 at_397 rfl rfl ?_
          refine g_iload (pc := 399) W152 at_399 rfl ?_
          refine g_ldc_int (pc := 401) (v := (2147483647 : Int32)) W152 (hw _ (List.mem_of_getElem? (i := 28) rfl)) at_401 ?_
          refine g_iand (pc := 403) W152 at_403 ?_
          refine g_iload (pc := 404) W152 at_404 rfl ?_
          refine g_irem (pc := 406) W152 at_406 (by decide) ?_
          obtain ⟨wv, hwv⟩ := own_pick (s0 := s0) (s1 := s1) (s2 := s2) (s3 := s3) (s4 := s4) (s5 := s5) (by have q := own_rem p4 (n := (3 : Int32)) 3 (by decide) (by decide); exact ⟨q.1, by omega⟩ : 0 ≤ (((p4 &&& (2147483647 : Int32)) % (3 : Int32))).toInt ∧ (((p4 &&& (2147483647 : Int32)) % (3 : Int32))).toInt < 6)
          refine g_iaload (pc := 407) (i := 2) (v := .int wv) W152 rfl (own_nn (own_rem p4 (n := (3 : Int32)) 3 (by decide) (by decide)).1) hwv at_407 ?_
          refine g_istore (pc := 408) (ls' := #[.val (.int p0), .val (.int p1), .val (.int p2), .val (.int p3), .val (.int p4), .val (.int p5), .val (.int s0), .val (.int vb), .val (.int vc), .val (.int vd), vt, .val (.ref b4), .val (.ref b16), .val (.int i5), .val (.int (3 : Int32)), .val (.ref b132), .val (.ref b142), .val (.ref b146), .val (.int ((XT.ushr p5 (8 : Int32)) &&& (3 : Int32))), .val (.int p4), .val (.int wv)]) W152 at_408 rfl ?_
          refine g_iload (pc := 410) W152 at_410 rfl ?_
          refine g_iconst (pc := 412) (1 : Int32) (by decide) W152 at_412 ?_
          refine g_icmp_ne 423 (pc := 413) W152 at_413 (by decide) (by decide) (fun c163 => ?_) (fun c163 => ?_)
          · refine g_iload (pc := 423) W152 at_423 rfl ?_
            refine g_iconst (pc := 425) (2 : Int32) (by decide) W152 at_425 ?_
            refine g_icmp_ne 438 (pc := 426) W152 at_426 (by decide) (by decide) (fun c164 => ?_) (fun c164 => ?_)
            · refine g_iload (pc := 438) W152 at_438 rfl ?_
              refine g_iconst (pc := 440) (1 : Int32) (by decide) W152 at_440 ?_
              refine g_isub (pc := 441) W152 at_441 ?_
              refine g_istore (pc := 442) (ls' := #[.val (.int p0), .val (.int p1), .val (.int p2), .val (.int p3), .val (.int p4), .val (.int p5), .val (.int s0), .val (.int vb), .val (.int vc), .val (.int vd), vt, .val (.ref b4), .val (.ref b16), .val (.int i5), .val (.int (3 : Int32)), .val (.ref b132), .val (.ref b142), .val (.ref b146), .val (.int ((XT.ushr p5 (8 : Int32)) &&& (3 : Int32))), .val (.int (wv - (1 : Int32))), .val (.int wv)]) W152 at_442 rfl ?_
              exact cut154 ((wv - (1 : Int32)), (.val (.int wv) : Slot)) (Or.inr ⟨_, rfl⟩)
            · refine g_iload (pc := 429) W152 at_429 rfl ?_
              refine g_iconst (pc := 431) (1 : Int32) (by decide) W152 at_431 ?_
              refine g_iadd (pc := 432) W152 at_432 ?_
              refine g_istore (pc := 433) (ls' := #[.val (.int p0), .val (.int p1), .val (.int p2), .val (.int p3), .val (.int p4), .val (.int p5), .val (.int s0), .val (.int vb), .val (.int vc), .val (.int vd), vt, .val (.ref b4), .val (.ref b16), .val (.int i5), .val (.int (3 : Int32)), .val (.ref b132), .val (.ref b142), .val (.ref b146), .val (.int ((XT.ushr p5 (8 : Int32)) &&& (3 : Int32))), .val (.int (wv + (1 : Int32))), .val (.int wv)]) W152 at_433 rfl ?_
              refine g_goto 444 (pc := 435) W152 at_435 (by decide) (by decide) ?_
              exact cut154 ((wv + (1 : Int32)), (.val (.int wv) : Slot)) (Or.inr ⟨_, rfl⟩)
          · refine g_iload (pc := 416) W152 at_416 rfl ?_
            refine g_istore (pc := 418) (ls' := #[.val (.int p0), .val (.int p1), .val (.int p2), .val (.int p3), .val (.int p4), .val (.int p5), .val (.int s0), .val (.int vb), .val (.int vc), .val (.int vd), vt, .val (.ref b4), .val (.ref b16), .val (.int i5), .val (.int (3 : Int32)), .val (.ref b132), .val (.ref b142), .val (.ref b146), .val (.int ((XT.ushr p5 (8 : Int32)) &&& (3 : Int32))), .val (.int wv), .val (.int wv)]) W152 at_418 rfl ?_
            refine g_goto 444 (pc := 420) W152 at_420 (by decide) (by decide) ?_
            exact cut154 (wv, (.val (.int wv) : Slot)) (Or.inr ⟨_, rfl⟩)
    · rw [hl]
      refine g_iload (pc := 254) W46 at_254 rfl ?_
      refine g_bipush (pc := 256) (6 : Int32) (by decide) W46 at_256 ?_
      refine g_icmpY 265 (pc := 258) W46 at_258 (by decide) (by decide) (by decide) ?_
      refine g_iload (pc := 265) W46 at_265 rfl ?_
      refine g_newarray (pc := 267) (ty := .int) (vs := [.int (0 : Int32), .int (0 : Int32), .int (0 : Int32), .int (0 : Int32)]) 4 W46 (hw _ (List.mem_of_getElem? (i := 0) rfl)) rfl (by decide) (by decide) (by decide) rfl at_267 (by decide) (by decide) (fun T166 b165 W167 => ?_)
      have W168 := W167.re (os' := [(b4, (.array .int), [.int s0, .int vb, .int vc, .int vd]), (b16, (.array .int), [.int s0, .int s1, .int s2, .int s3, .int s4, .int s5]), (b165, (.array .int), [.int (0 : Int32), .int (0 : Int32), .int (0 : Int32), .int (0 : Int32)])]) rfl
      refine g_astore (pc := 269) (ls' := #[.val (.int p0), .val (.int p1), .val (.int p2), .val (.int p3), .val (.int p4), .val (.int p5), .val (.int s0), .val (.int vb), .val (.int vc), .val (.int vd), vt, .val (.ref b4), .val (.ref b16), .val (.int i5), .val (.int (4 : Int32)), .val (.ref b165), .unset, .unset, .unset, .unset, .unset]) W168 at_269 rfl rfl ?_
      refine g_iload (pc := 271) W168 at_271 rfl ?_
      refine g_ifN (pc := 273) W168 at_273 (by decide) ?_
      refine g_aload (pc := 276) W168 at_276 rfl rfl ?_
      refine g_iconst (pc := 278) (0 : Int32) (by decide) W168 at_278 ?_
      refine g_aload (pc := 279) W168 at_279 rfl rfl ?_
      refine g_iconst (pc := 281) (0 : Int32) (by decide) W168 at_281 ?_
      refine g_iaload (pc := 282) (i := 1) (v := .int s0) W168 rfl (by decide) rfl at_282 ?_
      refine g_iastore (pc := 283) (i := 2) (os' := [(b4, (.array .int), [.int s0, .int vb, .int vc, .int vd]), (b16, (.array .int), [.int s0, .int s1, .int s2, .int s3, .int s4, .int s5]), (b165, (.array .int), [.int s0, .int (0 : Int32), .int (0 : Int32), .int (0 : Int32)])]) 0 W168 rfl (by decide) (by decide) (Nat.le_of_ble_eq_true rfl) rfl at_283 (fun T169 W170 => ?_)
      refine g_iload (pc := 284) W170 at_284 rfl ?_
      refine g_iconst (pc := 286) (1 : Int32) (by decide) W170 at_286 ?_
      refine g_icmpN (pc := 287) W170 at_287 (by decide) ?_
      refine g_aload (pc := 290) W170 at_290 rfl rfl ?_
      refine g_iconst (pc := 292) (1 : Int32) (by decide) W170 at_292 ?_
      refine g_aload (pc := 293) W170 at_293 rfl rfl ?_
      refine g_iconst (pc := 295) (1 : Int32) (by decide) W170 at_295 ?_
      refine g_iaload (pc := 296) (i := 1) (v := .int s1) W170 rfl (by decide) rfl at_296 ?_
      refine g_iastore (pc := 297) (i := 2) (os' := [(b4, (.array .int), [.int s0, .int vb, .int vc, .int vd]), (b16, (.array .int), [.int s0, .int s1, .int s2, .int s3, .int s4, .int s5]), (b165, (.array .int), [.int s0, .int s1, .int (0 : Int32), .int (0 : Int32)])]) 1 W170 rfl (by decide) (by decide) (Nat.le_of_ble_eq_true rfl) rfl at_297 (fun T171 W172 => ?_)
      refine g_iload (pc := 298) W172 at_298 rfl ?_
      refine g_iconst (pc := 300) (2 : Int32) (by decide) W172 at_300 ?_
      refine g_icmpN (pc := 301) W172 at_301 (by decide) ?_
      refine g_aload (pc := 304) W172 at_304 rfl rfl ?_
      refine g_iconst (pc := 306) (2 : Int32) (by decide) W172 at_306 ?_
      refine g_aload (pc := 307) W172 at_307 rfl rfl ?_
      refine g_iconst (pc := 309) (2 : Int32) (by decide) W172 at_309 ?_
      refine g_iaload (pc := 310) (i := 1) (v := .int s2) W172 rfl (by decide) rfl at_310 ?_
      refine g_iastore (pc := 311) (i := 2) (os' := [(b4, (.array .int), [.int s0, .int vb, .int vc, .int vd]), (b16, (.array .int), [.int s0, .int s1, .int s2, .int s3, .int s4, .int s5]), (b165, (.array .int), [.int s0, .int s1, .int s2, .int (0 : Int32)])]) 2 W172 rfl (by decide) (by decide) (Nat.le_of_ble_eq_true rfl) rfl at_311 (fun T173 W174 => ?_)
      refine g_iload (pc := 312) W174 at_312 rfl ?_
      refine g_iconst (pc := 314) (3 : Int32) (by decide) W174 at_314 ?_
      refine g_icmpN (pc := 315) W174 at_315 (by decide) ?_
      refine g_aload (pc := 318) W174 at_318 rfl rfl ?_
      refine g_iconst (pc := 320) (3 : Int32) (by decide) W174 at_320 ?_
      refine g_aload (pc := 321) W174 at_321 rfl rfl ?_
      refine g_iconst (pc := 323) (3 : Int32) (by decide) W174 at_323 ?_
      refine g_iaload (pc := 324) (i := 1) (v := .int s3) W174 rfl (by decide) rfl at_324 ?_
      refine g_iastore (pc := 325) (i := 2) (os' := [(b4, (.array .int), [.int s0, .int vb, .int vc, .int vd]), (b16, (.array .int), [.int s0, .int s1, .int s2, .int s3, .int s4, .int s5]), (b165, (.array .int), [.int s0, .int s1, .int s2, .int s3])]) 3 W174 rfl (by decide) (by decide) (Nat.le_of_ble_eq_true rfl) rfl at_325 (fun T175 W176 => ?_)
      refine g_iload (pc := 326) W176 at_326 rfl ?_
      refine g_iconst (pc := 328) (4 : Int32) (by decide) W176 at_328 ?_
      refine g_icmpY 340 (pc := 329) W176 at_329 (by decide) (by decide) (by decide) ?_
      refine g_iload (pc := 340) W176 at_340 rfl ?_
      refine g_iconst (pc := 342) (5 : Int32) (by decide) W176 at_342 ?_
      refine g_icmpY 354 (pc := 343) W176 at_343 (by decide) (by decide) (by decide) ?_
      refine g_iload (pc := 354) W176 at_354 rfl ?_
      refine g_anewarray (pc := 356) (vs := [.null, .null, .null, .null]) 4 W176 (hw _ (List.mem_of_getElem? (i := 5) rfl)) (hw _ (List.mem_of_getElem? (i := 6) rfl)) (by decide) (by decide) (by decide) rfl at_356 (by decide) (by decide) (fun T178 b177 W179 => ?_)
      have W180 := W179.re (os' := [(b4, (.array .int), [.int s0, .int vb, .int vc, .int vd]), (b16, (.array .int), [.int s0, .int s1, .int s2, .int s3, .int s4, .int s5]), (b165, (.array .int), [.int s0, .int s1, .int s2, .int s3]), (b177, (.array (.object "java/lang/String")), [.null, .null, .null, .null])]) rfl
      refine g_astore (pc := 359) (ls' := #[.val (.int p0), .val (.int p1), .val (.int p2), .val (.int p3), .val (.int p4), .val (.int p5), .val (.int s0), .val (.int vb), .val (.int vc), .val (.int vd), vt, .val (.ref b4), .val (.ref b16), .val (.int i5), .val (.int (4 : Int32)), .val (.ref b165), .val (.ref b177), .unset, .unset, .unset, .unset]) W180 at_359 rfl rfl ?_
      refine g_new (pc := 361) (vs := [.null, .null]) W180 (hw _ (List.mem_of_getElem? (i := 7) rfl)) (hw _ (List.mem_of_getElem? (i := 8) rfl)) (hw _ (List.mem_of_getElem? (i := 9) rfl)) (cls_Labels hw) (by decide) at_361 (by decide) (by decide) (fun T182 b181 W183 => ?_)
      have W184 := W183.re (os' := [(b4, (.array .int), [.int s0, .int vb, .int vc, .int vd]), (b16, (.array .int), [.int s0, .int s1, .int s2, .int s3, .int s4, .int s5]), (b165, (.array .int), [.int s0, .int s1, .int s2, .int s3]), (b177, (.array (.object "java/lang/String")), [.null, .null, .null, .null]), (b181, (.object "com/example/traverso/traverso/graph/Labels"), [.null, .null])]) rfl
      refine g_dup (pc := 364) W184 at_364 rfl ?_
      refine g_aload (pc := 365) W184 at_365 rfl rfl ?_
      refine g_aload (pc := 367) W184 at_367 rfl rfl ?_
      refine g_init (pc := 369) (Wt := 1) (argsL := [.ref b165, .ref b177]) (rest := [.ref b181]) (loc := [(b181, (.object "com/example/traverso/traverso/graph/Labels"), [.null, .null])]) (rst := [(b4, (.array .int), [.int s0, .int vb, .int vc, .int vd]), (b16, (.array .int), [.int s0, .int s1, .int s2, .int s3, .int s4, .int s5]), (b165, (.array .int), [.int s0, .int s1, .int s2, .int s3]), (b177, (.array (.object "java/lang/String")), [.null, .null, .null, .null])]) W184 rfl (hw _ (List.mem_of_getElem? (i := 10) rfl)) (hw _ (List.mem_of_getElem? (i := 11) rfl)) (hw _ (List.mem_of_getElem? (i := 9) rfl)) (hw _ (List.mem_of_getElem? (i := 12) rfl)) (by decide) (c_init l Z a0 hw b181 b165 b177) ⟨[4, 0, 1, 2, 3], by decide, rfl⟩ rfl pd_AIALjava_lang_String___V rfl rfl rfl (Nat.le_of_ble_eq_true rfl) (by decide) (by decide) (by decide) (by decide) at_369 ?_
      rintro T185 _ _ ⟨rfl, rfl⟩ W186
      have W187 := W186.re (os' := [(b181, (.object "com/example/traverso/traverso/graph/Labels"), [.ref b165, .ref b177]), (b4, (.array .int), [.int s0, .int vb, .int vc, .int vd]), (b16, (.array .int), [.int s0, .int s1, .int s2, .int s3, .int s4, .int s5]), (b165, (.array .int), [.int s0, .int s1, .int s2, .int s3]), (b177, (.array (.object "java/lang/String")), [.null, .null, .null, .null])]) rfl
      show Go p_ e_ bl_ _ (T185.setTop (mkF m_ 372 #[.val (.int p0), .val (.int p1), .val (.int p2), .val (.int p3), .val (.int p4), .val (.int p5), .val (.int s0), .val (.int vb), .val (.int vc), .val (.int vd), vt, .val (.ref b4), .val (.ref b16), .val (.int i5), .val (.int (4 : Int32)), .val (.ref b165), .val (.ref b177), .unset, .unset, .unset, .unset] [.ref b181]))
      refine g_astore (pc := 372) (ls' := #[.val (.int p0), .val (.int p1), .val (.int p2), .val (.int p3), .val (.int p4), .val (.int p5), .val (.int s0), .val (.int vb), .val (.int vc), .val (.int vd), vt, .val (.ref b4), .val (.ref b16), .val (.int i5), .val (.int (4 : Int32)), .val (.ref b165), .val (.ref b177), .val (.ref b181), .unset, .unset, .unset]) W187 at_372 rfl rfl ?_
      refine g_iload (pc := 374) W187 at_374 rfl ?_
      refine g_bipush (pc := 376) (8 : Int32) (by decide) W187 at_376 ?_
      refine g_iushr (pc := 378) W187 at_378 ?_
      refine g_iconst (pc := 379) (3 : Int32) (by decide) W187 at_379 ?_
      refine g_iand (pc := 380) W187 at_380 ?_
      refine g_istore (pc := 381) (ls' := #[.val (.int p0), .val (.int p1), .val (.int p2), .val (.int p3), .val (.int p4), .val (.int p5), .val (.int s0), .val (.int vb), .val (.int vc), .val (.int vd), vt, .val (.ref b4), .val (.ref b16), .val (.int i5), .val (.int (4 : Int32)), .val (.ref b165), .val (.ref b177), .val (.ref b181), .val (.int ((XT.ushr p5 (8 : Int32)) &&& (3 : Int32))), .unset, .unset]) W187 at_381 rfl ?_
      refine g_iload (pc := 383) W187 at_383 rfl ?_
      refine g_istore (pc := 385) (ls' := #[.val (.int p0), .val (.int p1), .val (.int p2), .val (.int p3), .val (.int p4), .val (.int p5), .val (.int s0), .val (.int vb), .val (.int vc), .val (.int vd), vt, .val (.ref b4), .val (.ref b16), .val (.int i5), .val (.int (4 : Int32)), .val (.ref b165), .val (.ref b177), .val (.ref b181), .val (.int ((XT.ushr p5 (8 : Int32)) &&& (3 : Int32))), .val (.int p4), .unset]) W187 at_385 rfl ?_
      refine Go.cut (T := T185) (fr := fun z188 : Int32 × Slot => (mkF m_ 444 #[.val (.int p0), .val (.int p1), .val (.int p2), .val (.int p3), .val (.int p4), .val (.int p5), .val (.int s0), .val (.int vb), .val (.int vc), .val (.int vd), vt, .val (.ref b4), .val (.ref b16), .val (.int i5), .val (.int (4 : Int32)), .val (.ref b165), .val (.ref b177), .val (.ref b181), .val (.int ((XT.ushr p5 (8 : Int32)) &&& (3 : Int32))), .val (.int z188.1), z188.2] [])) (fun ⟨qq, pk⟩ => pk = .unset ∨ ∃ zz, pk = .val (.int zz)) ?_ (fun cut189 => ?_)
      · rintro ⟨qq, pk⟩ hq190
        change pk = .unset ∨ ∃ zz, pk = .val (.int zz) at hq190
        show Go p_ e_ bl_ _ (T185.setTop (mkF m_ 444 #[.val (.int p0), .val (.int p1), .val (.int p2), .val (.int p3), .val (.int p4), .val (.int p5), .val (.int s0), .val (.int vb), .val (.int vc), .val (.int vd), vt, .val (.ref b4), .val (.ref b16), .val (.int i5), .val (.int (4 : Int32)), .val (.ref b165), .val (.ref b177), .val (.ref b181), .val (.int ((XT.ushr p5 (8 : Int32)) &&& (3 : Int32))), .val (.int qq), pk] []))
        refine g_aload (pc := 444) W187 at_444 rfl rfl ?_
        refine g_iload (pc := 446) W187 at_446 rfl ?_
        refine g_iload (pc := 448) W187 at_448 rfl ?_
        refine g_static (pc := 450) (Wt := 0) (argsL := [.ref b165, .int (4 : Int32), .int qq]) (rest := []) (loc := [(b165, (.array .int), [.int s0, .int s1, .int s2, .int s3])]) (rst := [(b181, (.object "com/example/traverso/traverso/graph/Labels"), [.ref b165, .ref b177]), (b4, (.array .int), [.int s0, .int vb, .int vc, .int vd]), (b16, (.array .int), [.int s0, .int s1, .int s2, .int s3, .int s4, .int s5]), (b177, (.array (.object "java/lang/String")), [.null, .null, .null, .null])]) W187 (hw _ (List.mem_of_getElem? (i := 20) rfl)) (hw _ (List.mem_of_getElem? (i := 21) rfl)) (hw _ (List.mem_of_getElem? (i := 3) rfl)) (hw _ (List.mem_of_getElem? (i := 22) rfl)) (by decide) (c_ref4 l Z a0 hw b165 s0 s1 s2 s3 qq) ⟨[3, 0, 1, 2, 4], by decide, rfl⟩ rfl pd_AIII__I rfl rfl rfl (Nat.le_of_ble_eq_true rfl) (by decide) (by decide) (by decide) (by decide) at_450 ?_
        rintro T191 _ _ ⟨rfl, rfl⟩ W192
        have W193 := W192.re (os' := [(b165, (.array .int), [.int s0, .int s1, .int s2, .int s3]), (b181, (.object "com/example/traverso/traverso/graph/Labels"), [.ref b165, .ref b177]), (b4, (.array .int), [.int s0, .int vb, .int vc, .int vd]), (b16, (.array .int), [.int s0, .int s1, .int s2, .int s3, .int s4, .int s5]), (b177, (.array (.object "java/lang/String")), [.null, .null, .null, .null])]) rfl
        show Go p_ e_ bl_ _ (T191.setTop (mkF m_ 453 #[.val (.int p0), .val (.int p1), .val (.int p2), .val (.int p3), .val (.int p4), .val (.int p5), .val (.int s0), .val (.int vb), .val (.int vc), .val (.int vd), vt, .val (.ref b4), .val (.ref b16), .val (.int i5), .val (.int (4 : Int32)), .val (.ref b165), .val (.ref b177), .val (.ref b181), .val (.int ((XT.ushr p5 (8 : Int32)) &&& (3 : Int32))), .val (.int qq), pk] [.int (rf4 s0 s1 s2 s3 qq)]))
        refine g_istore (pc := 453) (ls' := #[.val (.int p0), .val (.int p1), .val (.int p2), .val (.int p3), .val (.int p4), .val (.int p5), .val (.int s0), .val (.int vb), .val (.int vc), .val (.int vd), vt, .val (.ref b4), .val (.ref b16), .val (.int i5), .val (.int (4 : Int32)), .val (.ref b165), .val (.ref b177), .val (.ref b181), .val (.int ((XT.ushr p5 (8 : Int32)) &&& (3 : Int32))), .val (.int qq), .val (.int (rf4 s0 s1 s2 s3 qq))]) W193 at_453 (by rcases hq190 with rfl | ⟨zz, rfl⟩ <;> rfl) ?_
        refine g_aload (pc := 455) W193 at_455 rfl rfl ?_
        refine g_iload (pc := 457) W193 at_457 rfl ?_
        refine g_virtual (i := 1) (pc := 459) (Wt := 0) (argsL := [.int qq]) (rest := []) (loc := [(b181, (.object "com/example/traverso/traverso/graph/Labels"), [.ref b165, .ref b177]), (b165, (.array .int), [.int s0, .int s1, .int s2, .int s3])]) (rst := [(b4, (.array .int), [.int s0, .int vb, .int vc, .int vd]), (b16, (.array .int), [.int s0, .int s1, .int s2, .int s3, .int s4, .int s5]), (b177, (.array (.object "java/lang/String")), [.null, .null, .null, .null])]) W193 (hw _ (List.mem_of_getElem? (i := 23) rfl)) (hw _ (List.mem_of_getElem? (i := 25) rfl)) (hw _ (List.mem_of_getElem? (i := 9) rfl)) (hw _ (List.mem_of_getElem? (i := 27) rfl)) (hw _ (List.mem_of_getElem? (i := 24) rfl)) (hw _ (List.mem_of_getElem? (i := 26) rfl)) rfl (by decide) (c_fst4 l Z a0 hw b181 b165 b177 s0 s1 s2 s3 qq hm0 hm1 hm2) ⟨[1, 0, 2, 3, 4], by decide, rfl⟩ rfl pd_I__I rfl rfl rfl (Nat.le_of_ble_eq_true rfl) (by decide) (by decide) (by decide) (by decide) at_459 ?_
        rintro T194 _ _ ⟨rfl, rfl⟩ W195
        have W196 := W195.re (os' := [(b181, (.object "com/example/traverso/traverso/graph/Labels"), [.ref b165, .ref b177]), (b165, (.array .int), [.int s0, .int s1, .int s2, .int s3]), (b4, (.array .int), [.int s0, .int vb, .int vc, .int vd]), (b16, (.array .int), [.int s0, .int s1, .int s2, .int s3, .int s4, .int s5]), (b177, (.array (.object "java/lang/String")), [.null, .null, .null, .null])]) rfl
        show Go p_ e_ bl_ _ (T194.setTop (mkF m_ 462 #[.val (.int p0), .val (.int p1), .val (.int p2), .val (.int p3), .val (.int p4), .val (.int p5), .val (.int s0), .val (.int vb), .val (.int vc), .val (.int vd), vt, .val (.ref b4), .val (.ref b16), .val (.int i5), .val (.int (4 : Int32)), .val (.ref b165), .val (.ref b177), .val (.ref b181), .val (.int ((XT.ushr p5 (8 : Int32)) &&& (3 : Int32))), .val (.int qq), .val (.int (rf4 s0 s1 s2 s3 qq))] [.int (rf4 s0 s1 s2 s3 qq)]))
        refine g_iload (pc := 462) W196 at_462 rfl ?_
        refine g_icmpN (pc := 464) W196 at_464 (by first | exact (teq rfl).1 | exact (teq rfl).2 | exact (flt (by simp)).1 | exact (flt (by simp)).2.1 | exact (flt (by simp)).2.2.1 | exact (flt (by simp)).2.2.2) ?_
        refine g_iconst (pc := 467) (1 : Int32) (by decide) W196 at_467 ?_
        refine g_goto 472 (pc := 468) W196 at_468 (by decide) (by decide) ?_
        exact g_zreturn (pc := 472) rfl (by decide) W196 at_472 (by decide) (by decide) rfl
      · refine g_iload (pc := 387) W187 at_387 rfl ?_
        refine g_if_eq 444 (pc := 389) W187 at_389 (by decide) (by decide) (fun c197 => ?_) (fun c197 => ?_)
        · exact cut189 (p4, (.unset : Slot)) (Or.inl rfl)
        · refine g_iload (pc := 392) W187 at_392 rfl ?_
          refine g_ifN (pc := 394) W187 at_394 (by decide) ?_
          refine g_aload (pc := 397) W187 at_397 rfl rfl ?_
          refine g_iload (pc := 399) W187 at_399 rfl ?_
          refine g_ldc_int (pc := 401) (v := (2147483647 : Int32)) W187 (hw _ (List.mem_of_getElem? (i := 28) rfl)) at_401 ?_
          refine g_iand (pc := 403) W187 at_403 ?_
          refine g_iload (pc := 404) W187 at_404 rfl ?_
          refine g_irem (pc := 406) W187 at_406 (by decide) ?_
          obtain ⟨wv, hwv⟩ := own_pick (s0 := s0) (s1 := s1) (s2 := s2) (s3 := s3) (s4 := s4) (s5 := s5) (by have q := own_rem p4 (n := (4 : Int32)) 4 (by decide) (by decide); exact ⟨q.1, by omega⟩ : 0 ≤ (((p4 &&& (2147483647 : Int32)) % (4 : Int32))).toInt ∧ (((p4 &&& (2147483647 : Int32)) % (4 : Int32))).toInt < 6)
          refine g_iaload (pc := 407) (i := 2) (v := .int wv) W187 rfl (own_nn (own_rem p4 (n := (4 : Int32)) 4 (by decide) (by decide)).1) hwv at_407 ?_
          refine g_istore (pc := 408) (ls' := #[.val (.int p0), .val (.int p1), .val (.int p2), .val (.int p3), .val (.int p4), .val (.int p5), .val (.int s0), .val (.int vb), .val (.int vc), .val (.int vd), vt, .val (.ref b4), .val (.ref b16), .val (.int i5), .val (.int (4 : Int32)), .val (.ref b165), .val (.ref b177), .val (.ref b181), .val (.int ((XT.ushr p5 (8 : Int32)) &&& (3 : Int32))), .val (.int p4), .val (.int wv)]) W187 at_408 rfl ?_
          refine g_iload (pc := 410) W187 at_410 rfl ?_
          refine g_iconst (pc := 412) (1 : Int32) (by decide) W187 at_412 ?_
          refine g_icmp_ne 423 (pc := 413) W187 at_413 (by decide) (by decide) (fun c198 => ?_) (fun c198 => ?_)
          · refine g_iload (pc := 423) W187 at_423 rfl ?_
            refine g_iconst (pc := 425) (2 : Int32) (by decide) W187 at_425 ?_
            refine g_icmp_ne 438 (pc := 426) W187 at_426 (by decide) (by decide) (fun c199 => ?_) (fun c199 => ?_)
            · refine g_iload (pc := 438) W187 at_438 rfl ?_
              refine g_iconst (pc := 440) (1 : Int32) (by decide) W187 at_440 ?_
              refine g_isub (pc := 441) W187 at_441 ?_
              refine g_istore (pc := 442) (ls' := #[.val (.int p0), .val (.int p1), .val (.int p2), .val (.int p3), .val (.int p4), .val (.int p5), .val (.int s0), .val (.int vb), .val (.int vc), .val (.int vd), vt, .val (.ref b4), .val (.ref b16), .val (.int i5), .val (.int (4 : Int32)), .val (.ref b165), .val (.ref b177), .val (.ref b181), .val (.int ((XT.ushr p5 (8 : Int32)) &&& (3 : Int32))), .val (.int (wv - (1 : Int32))), .val (.int wv)]) W187 at_442 rfl ?_
              exact cut189 ((wv - (1 : Int32)), (.val (.int wv) : Slot)) (Or.inr ⟨_, rfl⟩)
            · refine g_iload (pc := 429) W187 at_429 rfl ?_
              refine g_iconst (pc := 431) (1 : Int32) (by decide) W187 at_431 ?_
              refine g_iadd (pc := 432) W187 at_432 ?_
              refine g_istore (pc := 433) (ls' := #[.val (.int p0), .val (.int p1), .val (.int p2), .val (.int p3), .val (.int p4), .val (.int p5), .val (.int s0), .val (.int vb), .val (.int vc), .val (.int vd), vt, .val (.ref b4), .val (.ref b16), .val (.int i5), .val (.int (4 : Int32)), .val (.ref b165), .val (.ref b177), .val (.ref b181), .val (.int ((XT.ushr p5 (8 : Int32)) &&& (3 : Int32))), .val (.int (wv + (1 : Int32))), .val (.int wv)]) W187 at_433 rfl ?_
              refine g_goto 444 (pc := 435) W187 at_435 (by decide) (by decide) ?_
              exact cut189 ((wv + (1 : Int32)), (.val (.int wv) : Slot)) (Or.inr ⟨_, rfl⟩)
          · refine g_iload (pc := 416) W187 at_416 rfl ?_
            refine g_istore (pc := 418) (ls' := #[.val (.int p0), .val (.int p1), .val (.int p2), .val (.int p3), .val (.int p4), .val (.int p5), .val (.int s0), .val (.int vb), .val (.int vc), .val (.int vd), vt, .val (.ref b4), .val (.ref b16), .val (.int i5), .val (.int (4 : Int32)), .val (.ref b165), .val (.ref b177), .val (.ref b181), .val (.int ((XT.ushr p5 (8 : Int32)) &&& (3 : Int32))), .val (.int wv), .val (.int wv)]) W187 at_418 rfl ?_
            refine g_goto 444 (pc := 420) W187 at_420 (by decide) (by decide) ?_
            exact cut189 (wv, (.val (.int wv) : Slot)) (Or.inr ⟨_, rfl⟩)
    · rw [hl]
      refine g_iload (pc := 254) W46 at_254 rfl ?_
      refine g_bipush (pc := 256) (6 : Int32) (by decide) W46 at_256 ?_
      refine g_icmpY 265 (pc := 258) W46 at_258 (by decide) (by decide) (by decide) ?_
      refine g_iload (pc := 265) W46 at_265 rfl ?_
      refine g_newarray (pc := 267) (ty := .int) (vs := [.int (0 : Int32), .int (0 : Int32), .int (0 : Int32), .int (0 : Int32), .int (0 : Int32)]) 5 W46 (hw _ (List.mem_of_getElem? (i := 0) rfl)) rfl (by decide) (by decide) (by decide) rfl at_267 (by decide) (by decide) (fun T201 b200 W202 => ?_)
      have W203 := W202.re (os' := [(b4, (.array .int), [.int s0, .int vb, .int vc, .int vd]), (b16, (.array .int), [.int s0, .int s1, .int s2, .int s3, .int s4, .int s5]), (b200, (.array .int), [.int (0 : Int32), .int (0 : Int32), .int (0 : Int32), .int (0 : Int32), .int (0 : Int32)])]) rfl
      refine g_astore (pc := 269) (ls' := #[.val (.int p0), .val (.int p1), .val (.int p2), .val (.int p3), .val (.int p4), .val (.int p5), .val (.int s0), .val (.int vb), .val (.int vc), .val (.int vd), vt, .val (.ref b4), .val (.ref b16), .val (.int i5), .val (.int (5 : Int32)), .val (.ref b200), .unset, .unset, .unset, .unset, .unset]) W203 at_269 rfl rfl ?_
      refine g_iload (pc := 271) W203 at_271 rfl ?_
      refine g_ifN (pc := 273) W203 at_273 (by decide) ?_
      refine g_aload (pc := 276) W203 at_276 rfl rfl ?_
      refine g_iconst (pc := 278) (0 : Int32) (by decide) W203 at_278 ?_
      refine g_aload (pc := 279) W203 at_279 rfl rfl ?_
      refine g_iconst (pc := 281) (0 : Int32) (by decide) W203 at_281 ?_
      refine g_iaload (pc := 282) (i := 1) (v := .int s0) W203 rfl (by decide) rfl at_282 ?_
      refine g_iastore (pc := 283) (i := 2) (os' := [(b4, (.array .int), [.int s0, .int vb, .int vc, .int vd]), (b16, (.array .int), [.int s0, .int s1, .int s2, .int s3, .int s4, .int s5]), (b200, (.array .int), [.int s0, .int (0 : Int32), .int (0 : Int32), .int (0 : Int32), .int (0 : Int32)])]) 0 W203 rfl (by decide) (by decide) (Nat.le_of_ble_eq_true rfl) rfl at_283 (fun T204 W205 => ?_)
      refine g_iload (pc := 284) W205 at_284 rfl ?_
      refine g_iconst (pc := 286) (1 : Int32) (by decide) W205 at_286 ?_
      refine g_icmpN (pc := 287) W205 at_287 (by decide) ?_
      refine g_aload (pc := 290) W205 at_290 rfl rfl ?_
      refine g_iconst (pc := 292) (1 : Int32) (by decide) W205 at_292 ?_
      refine g_aload (pc := 293) W205 at_293 rfl rfl ?_
      refine g_iconst (pc := 295) (1 : Int32) (by decide) W205 at_295 ?_
      refine g_iaload (pc := 296) (i := 1) (v := .int s1) W205 rfl (by decide) rfl at_296 ?_
      refine g_iastore (pc := 297) (i := 2) (os' := [(b4, (.array .int), [.int s0, .int vb, .int vc, .int vd]), (b16, (.array .int), [.int s0, .int s1, .int s2, .int s3, .int s4, .int s5]), (b200, (.array .int), [.int s0, .int s1, .int (0 : Int32), .int (0 : Int32), .int (0 : Int32)])]) 1 W205 rfl (by decide) (by decide) (Nat.le_of_ble_eq_true rfl) rfl at_297 (fun T206 W207 => ?_)
      refine g_iload (pc := 298) W207 at_298 rfl ?_
      refine g_iconst (pc := 300) (2 : Int32) (by decide) W207 at_300 ?_
      refine g_icmpN (pc := 301) W207 at_301 (by decide) ?_
      refine g_aload (pc := 304) W207 at_304 rfl rfl ?_
      refine g_iconst (pc := 306) (2 : Int32) (by decide) W207 at_306 ?_
      refine g_aload (pc := 307) W207 at_307 rfl rfl ?_
      refine g_iconst (pc := 309) (2 : Int32) (by decide) W207 at_309 ?_
      refine g_iaload (pc := 310) (i := 1) (v := .int s2) W207 rfl (by decide) rfl at_310 ?_
      refine g_iastore (pc := 311) (i := 2) (os' := [(b4, (.array .int), [.int s0, .int vb, .int vc, .int vd]), (b16, (.array .int), [.int s0, .int s1, .int s2, .int s3, .int s4, .int s5]), (b200, (.array .int), [.int s0, .int s1, .int s2, .int (0 : Int32), .int (0 : Int32)])]) 2 W207 rfl (by decide) (by decide) (Nat.le_of_ble_eq_true rfl) rfl at_311 (fun T208 W209 => ?_)
      refine g_iload (pc := 312) W209 at_312 rfl ?_
      refine g_iconst (pc := 314) (3 : Int32) (by decide) W209 at_314 ?_
      refine g_icmpN (pc := 315) W209 at_315 (by decide) ?_
      refine g_aload (pc := 318) W209 at_318 rfl rfl ?_
      refine g_iconst (pc := 320) (3 : Int32) (by decide) W209 at_320 ?_
      refine g_aload (pc := 321) W209 at_321 rfl rfl ?_
      refine g_iconst (pc := 323) (3 : Int32) (by decide) W209 at_323 ?_
      refine g_iaload (pc := 324) (i := 1) (v := .int s3) W209 rfl (by decide) rfl at_324 ?_
      refine g_iastore (pc := 325) (i := 2) (os' := [(b4, (.array .int), [.int s0, .int vb, .int vc, .int vd]), (b16, (.array .int), [.int s0, .int s1, .int s2, .int s3, .int s4, .int s5]), (b200, (.array .int), [.int s0, .int s1, .int s2, .int s3, .int (0 : Int32)])]) 3 W209 rfl (by decide) (by decide) (Nat.le_of_ble_eq_true rfl) rfl at_325 (fun T210 W211 => ?_)
      refine g_iload (pc := 326) W211 at_326 rfl ?_
      refine g_iconst (pc := 328) (4 : Int32) (by decide) W211 at_328 ?_
      refine g_icmpN (pc := 329) W211 at_329 (by decide) ?_
      refine g_aload (pc := 332) W211 at_332 rfl rfl ?_
      refine g_iconst (pc := 334) (4 : Int32) (by decide) W211 at_334 ?_
      refine g_aload (pc := 335) W211 at_335 rfl rfl ?_
      refine g_iconst (pc := 337) (4 : Int32) (by decide) W211 at_337 ?_
      refine g_iaload (pc := 338) (i := 1) (v := .int s4) W211 rfl (by decide) rfl at_338 ?_
      refine g_iastore (pc := 339) (i := 2) (os' := [(b4, (.array .int), [.int s0, .int vb, .int vc, .int vd]), (b16, (.array .int), [.int s0, .int s1, .int s2, .int s3, .int s4, .int s5]), (b200, (.array .int), [.int s0, .int s1, .int s2, .int s3, .int s4])]) 4 W211 rfl (by decide) (by decide) (Nat.le_of_ble_eq_true rfl) rfl at_339 (fun T212 W213 => ?_)
      refine g_iload (pc := 340) W213 at_340 rfl ?_
      refine g_iconst (pc := 342) (5 : Int32) (by decide) W213 at_342 ?_
      refine g_icmpY 354 (pc := 343) W213 at_343 (by decide) (by decide) (by decide) ?_
      refine g_iload (pc := 354) W213 at_354 rfl ?_
      refine g_anewarray (pc := 356) (vs := [.null, .null, .null, .null, .null]) 5 W213 (hw _ (List.mem_of_getElem? (i := 5) rfl)) (hw _ (List.mem_of_getElem? (i := 6) rfl)) (by decide) (by decide) (by decide) rfl at_356 (by decide) (by decide) (fun T215 b214 W216 => ?_)
      have W217 := W216.re (os' := [(b4, (.array .int), [.int s0, .int vb, .int vc, .int vd]), (b16, (.array .int), [.int s0, .int s1, .int s2, .int s3, .int s4, .int s5]), (b200, (.array .int), [.int s0, .int s1, .int s2, .int s3, .int s4]), (b214, (.array (.object "java/lang/String")), [.null, .null, .null, .null, .null])]) rfl
      refine g_astore (pc := 359) (ls' := #[.val (.int p0), .val (.int p1), .val (.int p2), .val (.int p3), .val (.int p4), .val (.int p5), .val (.int s0), .val (.int vb), .val (.int vc), .val (.int vd), vt, .val (.ref b4), .val (.ref b16), .val (.int i5), .val (.int (5 : Int32)), .val (.ref b200), .val (.ref b214), .unset, .unset, .unset, .unset]) W217 at_359 rfl rfl ?_
      refine g_new (pc := 361) (vs := [.null, .null]) W217 (hw _ (List.mem_of_getElem? (i := 7) rfl)) (hw _ (List.mem_of_getElem? (i := 8) rfl)) (hw _ (List.mem_of_getElem? (i := 9) rfl)) (cls_Labels hw) (by decide) at_361 (by decide) (by decide) (fun T219 b218 W220 => ?_)
      have W221 := W220.re (os' := [(b4, (.array .int), [.int s0, .int vb, .int vc, .int vd]), (b16, (.array .int), [.int s0, .int s1, .int s2, .int s3, .int s4, .int s5]), (b200, (.array .int), [.int s0, .int s1, .int s2, .int s3, .int s4]), (b214, (.array (.object "java/lang/String")), [.null, .null, .null, .null, .null]), (b218, (.object "com/example/traverso/traverso/graph/Labels"), [.null, .null])]) rfl
      refine g_dup (pc := 364) W221 at_364 rfl ?_
      refine g_aload (pc := 365) W221 at_365 rfl rfl ?_
      refine g_aload (pc := 367) W221 at_367 rfl rfl ?_
      refine g_init (pc := 369) (Wt := 1) (argsL := [.ref b200, .ref b214]) (rest := [.ref b218]) (loc := [(b218, (.object "com/example/traverso/traverso/graph/Labels"), [.null, .null])]) (rst := [(b4, (.array .int), [.int s0, .int vb, .int vc, .int vd]), (b16, (.array .int), [.int s0, .int s1, .int s2, .int s3, .int s4, .int s5]), (b200, (.array .int), [.int s0, .int s1, .int s2, .int s3, .int s4]), (b214, (.array (.object "java/lang/String")), [.null, .null, .null, .null, .null])]) W221 rfl (hw _ (List.mem_of_getElem? (i := 10) rfl)) (hw _ (List.mem_of_getElem? (i := 11) rfl)) (hw _ (List.mem_of_getElem? (i := 9) rfl)) (hw _ (List.mem_of_getElem? (i := 12) rfl)) (by decide) (c_init l Z a0 hw b218 b200 b214) ⟨[4, 0, 1, 2, 3], by decide, rfl⟩ rfl pd_AIALjava_lang_String___V rfl rfl rfl (Nat.le_of_ble_eq_true rfl) (by decide) (by decide) (by decide) (by decide) at_369 ?_
      rintro T222 _ _ ⟨rfl, rfl⟩ W223
      have W224 := W223.re (os' := [(b218, (.object "com/example/traverso/traverso/graph/Labels"), [.ref b200, .ref b214]), (b4, (.array .int), [.int s0, .int vb, .int vc, .int vd]), (b16, (.array .int), [.int s0, .int s1, .int s2, .int s3, .int s4, .int s5]), (b200, (.array .int), [.int s0, .int s1, .int s2, .int s3, .int s4]), (b214, (.array (.object "java/lang/String")), [.null, .null, .null, .null, .null])]) rfl
      show Go p_ e_ bl_ _ (T222.setTop (mkF m_ 372 #[.val (.int p0), .val (.int p1), .val (.int p2), .val (.int p3), .val (.int p4), .val (.int p5), .val (.int s0), .val (.int vb), .val (.int vc), .val (.int vd), vt, .val (.ref b4), .val (.ref b16), .val (.int i5), .val (.int (5 : Int32)), .val (.ref b200), .val (.ref b214), .unset, .unset, .unset, .unset] [.ref b218]))
      refine g_astore (pc := 372) (ls' := #[.val (.int p0), .val (.int p1), .val (.int p2), .val (.int p3), .val (.int p4), .val (.int p5), .val (.int s0), .val (.int vb), .val (.int vc), .val (.int vd), vt, .val (.ref b4), .val (.ref b16), .val (.int i5), .val (.int (5 : Int32)), .val (.ref b200), .val (.ref b214), .val (.ref b218), .unset, .unset, .unset]) W224 at_372 rfl rfl ?_
      refine g_iload (pc := 374) W224 at_374 rfl ?_
      refine g_bipush (pc := 376) (8 : Int32) (by decide) W224 at_376 ?_
      refine g_iushr (pc := 378) W224 at_378 ?_
      refine g_iconst (pc := 379) (3 : Int32) (by decide) W224 at_379 ?_
      refine g_iand (pc := 380) W224 at_380 ?_
      refine g_istore (pc := 381) (ls' := #[.val (.int p0), .val (.int p1), .val (.int p2), .val (.int p3), .val (.int p4), .val (.int p5), .val (.int s0), .val (.int vb), .val (.int vc), .val (.int vd), vt, .val (.ref b4), .val (.ref b16), .val (.int i5), .val (.int (5 : Int32)), .val (.ref b200), .val (.ref b214), .val (.ref b218), .val (.int ((XT.ushr p5 (8 : Int32)) &&& (3 : Int32))), .unset, .unset]) W224 at_381 rfl ?_
      refine g_iload (pc := 383) W224 at_383 rfl ?_
      refine g_istore (pc := 385) (ls' := #[.val (.int p0), .val (.int p1), .val (.int p2), .val (.int p3), .val (.int p4), .val (.int p5), .val (.int s0), .val (.int vb), .val (.int vc), .val (.int vd), vt, .val (.ref b4), .val (.ref b16), .val (.int i5), .val (.int (5 : Int32)), .val (.ref b200), .val (.ref b214), .val (.ref b218), .val (.int ((XT.ushr p5 (8 : Int32)) &&& (3 : Int32))), .val (.int p4), .unset]) W224 at_385 rfl ?_
      refine Go.cut (T := T222) (fr := fun z225 : Int32 × Slot => (mkF m_ 444 #[.val (.int p0), .val (.int p1), .val (.int p2), .val (.int p3), .val (.int p4), .val (.int p5), .val (.int s0), .val (.int vb), .val (.int vc), .val (.int vd), vt, .val (.ref b4), .val (.ref b16), .val (.int i5), .val (.int (5 : Int32)), .val (.ref b200), .val (.ref b214), .val (.ref b218), .val (.int ((XT.ushr p5 (8 : Int32)) &&& (3 : Int32))), .val (.int z225.1), z225.2] [])) (fun ⟨qq, pk⟩ => pk = .unset ∨ ∃ zz, pk = .val (.int zz)) ?_ (fun cut226 => ?_)
      · rintro ⟨qq, pk⟩ hq227
        change pk = .unset ∨ ∃ zz, pk = .val (.int zz) at hq227
        show Go p_ e_ bl_ _ (T222.setTop (mkF m_ 444 #[.val (.int p0), .val (.int p1), .val (.int p2), .val (.int p3), .val (.int p4), .val (.int p5), .val (.int s0), .val (.int vb), .val (.int vc), .val (.int vd), vt, .val (.ref b4), .val (.ref b16), .val (.int i5), .val (.int (5 : Int32)), .val (.ref b200), .val (.ref b214), .val (.ref b218), .val (.int ((XT.ushr p5 (8 : Int32)) &&& (3 : Int32))), .val (.int qq), pk] []))
        refine g_aload (pc := 444) W224 at_444 rfl rfl ?_
        refine g_iload (pc := 446) W224 at_446 rfl ?_
        refine g_iload (pc := 448) W224 at_448 rfl ?_
        refine g_static (pc := 450) (Wt := 0) (argsL := [.ref b200, .int (5 : Int32), .int qq]) (rest := []) (loc := [(b200, (.array .int), [.int s0, .int s1, .int s2, .int s3, .int s4])]) (rst := [(b218, (.object "com/example/traverso/traverso/graph/Labels"), [.ref b200, .ref b214]), (b4, (.array .int), [.int s0, .int vb, .int vc, .int vd]), (b16, (.array .int), [.int s0, .int s1, .int s2, .int s3, .int s4, .int s5]), (b214, (.array (.object "java/lang/String")), [.null, .null, .null, .null, .null])]) W224 (hw _ (List.mem_of_getElem? (i := 20) rfl)) (hw _ (List.mem_of_getElem? (i := 21) rfl)) (hw _ (List.mem_of_getElem? (i := 3) rfl)) (hw _ (List.mem_of_getElem? (i := 22) rfl)) (by decide) (c_ref5 l Z a0 hw b200 s0 s1 s2 s3 s4 qq) ⟨[3, 0, 1, 2, 4], by decide, rfl⟩ rfl pd_AIII__I rfl rfl rfl (Nat.le_of_ble_eq_true rfl) (by decide) (by decide) (by decide) (by decide) at_450 ?_
        rintro T228 _ _ ⟨rfl, rfl⟩ W229
        have W230 := W229.re (os' := [(b200, (.array .int), [.int s0, .int s1, .int s2, .int s3, .int s4]), (b218, (.object "com/example/traverso/traverso/graph/Labels"), [.ref b200, .ref b214]), (b4, (.array .int), [.int s0, .int vb, .int vc, .int vd]), (b16, (.array .int), [.int s0, .int s1, .int s2, .int s3, .int s4, .int s5]), (b214, (.array (.object "java/lang/String")), [.null, .null, .null, .null, .null])]) rfl
        show Go p_ e_ bl_ _ (T228.setTop (mkF m_ 453 #[.val (.int p0), .val (.int p1), .val (.int p2), .val (.int p3), .val (.int p4), .val (.int p5), .val (.int s0), .val (.int vb), .val (.int vc), .val (.int vd), vt, .val (.ref b4), .val (.ref b16), .val (.int i5), .val (.int (5 : Int32)), .val (.ref b200), .val (.ref b214), .val (.ref b218), .val (.int ((XT.ushr p5 (8 : Int32)) &&& (3 : Int32))), .val (.int qq), pk] [.int (rf5 s0 s1 s2 s3 s4 qq)]))
        refine g_istore (pc := 453) (ls' := #[.val (.int p0), .val (.int p1), .val (.int p2), .val (.int p3), .val (.int p4), .val (.int p5), .val (.int s0), .val (.int vb), .val (.int vc), .val (.int vd), vt, .val (.ref b4), .val (.ref b16), .val (.int i5), .val (.int (5 : Int32)), .val (.ref b200), .val (.ref b214), .val (.ref b218), .val (.int ((XT.ushr p5 (8 : Int32)) &&& (3 : Int32))), .val (.int qq), .val (.int (rf5 s0 s1 s2 s3 s4 qq))]) W230 at_453 (by rcases hq227 with rfl | ⟨zz, rfl⟩ <;> rfl) ?_
        refine g_aload (pc := 455) W230 at_455 rfl rfl ?_
        refine g_iload (pc := 457) W230 at_457 rfl ?_
        refine g_virtual (i := 1) (pc := 459) (Wt := 0) (argsL := [.int qq]) (rest := []) (loc := [(b218, (.object "com/example/traverso/traverso/graph/Labels"), [.ref b200, .ref b214]), (b200, (.array .int), [.int s0, .int s1, .int s2, .int s3, .int s4])]) (rst := [(b4, (.array .int), [.int s0, .int vb, .int vc, .int vd]), (b16, (.array .int), [.int s0, .int s1, .int s2, .int s3, .int s4, .int s5]), (b214, (.array (.object "java/lang/String")), [.null, .null, .null, .null, .null])]) W230 (hw _ (List.mem_of_getElem? (i := 23) rfl)) (hw _ (List.mem_of_getElem? (i := 25) rfl)) (hw _ (List.mem_of_getElem? (i := 9) rfl)) (hw _ (List.mem_of_getElem? (i := 27) rfl)) (hw _ (List.mem_of_getElem? (i := 24) rfl)) (hw _ (List.mem_of_getElem? (i := 26) rfl)) rfl (by decide) (c_fst5 l Z a0 hw b218 b200 b214 s0 s1 s2 s3 s4 qq hm0 hm1 hm2 hm3) ⟨[1, 0, 2, 3, 4], by decide, rfl⟩ rfl pd_I__I rfl rfl rfl (Nat.le_of_ble_eq_true rfl) (by decide) (by decide) (by decide) (by decide) at_459 ?_
        rintro T231 _ _ ⟨rfl, rfl⟩ W232
        have W233 := W232.re (os' := [(b218, (.object "com/example/traverso/traverso/graph/Labels"), [.ref b200, .ref b214]), (b200, (.array .int), [.int s0, .int s1, .int s2, .int s3, .int s4]), (b4, (.array .int), [.int s0, .int vb, .int vc, .int vd]), (b16, (.array .int), [.int s0, .int s1, .int s2, .int s3, .int s4, .int s5]), (b214, (.array (.object "java/lang/String")), [.null, .null, .null, .null, .null])]) rfl
        show Go p_ e_ bl_ _ (T231.setTop (mkF m_ 462 #[.val (.int p0), .val (.int p1), .val (.int p2), .val (.int p3), .val (.int p4), .val (.int p5), .val (.int s0), .val (.int vb), .val (.int vc), .val (.int vd), vt, .val (.ref b4), .val (.ref b16), .val (.int i5), .val (.int (5 : Int32)), .val (.ref b200), .val (.ref b214), .val (.ref b218), .val (.int ((XT.ushr p5 (8 : Int32)) &&& (3 : Int32))), .val (.int qq), .val (.int (rf5 s0 s1 s2 s3 s4 qq))] [.int (rf5 s0 s1 s2 s3 s4 qq)]))
        refine g_iload (pc := 462) W233 at_462 rfl ?_
        refine g_icmpN (pc := 464) W233 at_464 (by first | exact (teq rfl).1 | exact (teq rfl).2 | exact (flt (by simp)).1 | exact (flt (by simp)).2.1 | exact (flt (by simp)).2.2.1 | exact (flt (by simp)).2.2.2) ?_
        refine g_iconst (pc := 467) (1 : Int32) (by decide) W233 at_467 ?_
        refine g_goto 472 (pc := 468) W233 at_468 (by decide) (by decide) ?_
        exact g_zreturn (pc := 472) rfl (by decide) W233 at_472 (by decide) (by decide) rfl
      · refine g_iload (pc := 387) W224 at_387 rfl ?_
        refine g_if_eq 444 (pc := 389) W224 at_389 (by decide) (by decide) (fun c234 => ?_) (fun c234 => ?_)
        · exact cut226 (p4, (.unset : Slot)) (Or.inl rfl)
        · refine g_iload (pc := 392) W224 at_392 rfl ?_
          refine g_ifN (pc := 394) W224 at_394 (by decide) ?_
          refine g_aload (pc := 397) W224 at_397 rfl rfl ?_
          refine g_iload (pc := 399) W224 at_399 rfl ?_
          refine g_ldc_int (pc := 401) (v := (2147483647 : Int32)) W224 (hw _ (List.mem_of_getElem? (i := 28) rfl)) at_401 ?_
          refine g_iand (pc := 403) W224 at_403 ?_
          refine g_iload (pc := 404) W224 at_404 rfl ?_
          refine g_irem (pc := 406) W224 at_406 (by decide) ?_
          obtain ⟨wv, hwv⟩ := own_pick (s0 := s0) (s1 := s1) (s2 := s2) (s3 := s3) (s4 := s4) (s5 := s5) (by have q := own_rem p4 (n := (5 : Int32)) 5 (by decide) (by decide); exact ⟨q.1, by omega⟩ : 0 ≤ (((p4 &&& (2147483647 : Int32)) % (5 : Int32))).toInt ∧ (((p4 &&& (2147483647 : Int32)) % (5 : Int32))).toInt < 6)
          refine g_iaload (pc := 407) (i := 2) (v := .int wv) W224 rfl (own_nn (own_rem p4 (n := (5 : Int32)) 5 (by decide) (by decide)).1) hwv at_407 ?_
          refine g_istore (pc := 408) (ls' := #[.val (.int p0), .val (.int p1), .val (.int p2), .val (.int p3), .val (.int p4), .val (.int p5), .val (.int s0), .val (.int vb), .val (.int vc), .val (.int vd), vt, .val (.ref b4), .val (.ref b16), .val (.int i5), .val (.int (5 : Int32)), .val (.ref b200), .val (.ref b214), .val (.ref b218), .val (.int ((XT.ushr p5 (8 : Int32)) &&& (3 : Int32))), .val (.int p4), .val (.int wv)]) W224 at_408 rfl ?_
          refine g_iload (pc := 410) W224 at_410 rfl ?_
          refine g_iconst (pc := 412) (1 : Int32) (by decide) W224 at_412 ?_
          refine g_icmp_ne 423 (pc := 413) W224 at_413 (by decide) (by decide) (fun c235 => ?_) (fun c235 => ?_)
          · refine g_iload (pc := 423) W224 at_423 rfl ?_
            refine g_iconst (pc := 425) (2 : Int32) (by decide) W224 at_425 ?_
            refine g_icmp_ne 438 (pc := 426) W224 at_426 (by decide) (by decide) (fun c236 => ?_) (fun c236 => ?_)
            · refine g_iload (pc := 438) W224 at_438 rfl ?_
              refine g_iconst (pc := 440) (1 : Int32) (by decide) W224 at_440 ?_
              refine g_isub (pc := 441) W224 at_441 ?_
              refine g_istore (pc := 442) (ls' := #[.val (.int p0), .val (.int p1), .val (.int p2), .val (.int p3), .val (.int p4), .val (.int p5), .val (.int s0), .val (.int vb), .val (.int vc), .val (.int vd), vt, .val (.ref b4), .val (.ref b16), .val (.int i5), .val (.int (5 : Int32)), .val (.ref b200), .val (.ref b214), .val (.ref b218), .val (.int ((XT.ushr p5 (8 : Int32)) &&& (3 : Int32))), .val (.int (wv - (1 : Int32))), .val (.int wv)]) W224 at_442 rfl ?_
              exact cut226 ((wv - (1 : Int32)), (.val (.int wv) : Slot)) (Or.inr ⟨_, rfl⟩)
            · refine g_iload (pc := 429) W224 at_429 rfl ?_
              refine g_iconst (pc := 431) (1 : Int32) (by decide) W224 at_431 ?_
              refine g_iadd (pc := 432) W224 at_432 ?_
              refine g_istore (pc := 433) (ls' := #[.val (.int p0), .val (.int p1), .val (.int p2), .val (.int p3), .val (.int p4), .val (.int p5), .val (.int s0), .val (.int vb), .val (.int vc), .val (.int vd), vt, .val (.ref b4), .val (.ref b16), .val (.int i5), .val (.int (5 : Int32)), .val (.ref b200), .val (.ref b214), .val (.ref b218), .val (.int ((XT.ushr p5 (8 : Int32)) &&& (3 : Int32))), .val (.int (wv + (1 : Int32))), .val (.int wv)]) W224 at_433 rfl ?_
              refine g_goto 444 (pc := 435) W224 at_435 (by decide) (by decide) ?_
              exact cut226 ((wv + (1 : Int32)), (.val (.int wv) : Slot)) (Or.inr ⟨_, rfl⟩)
          · refine g_iload (pc := 416) W224 at_416 rfl ?_
            refine g_istore (pc := 418) (ls' := #[.val (.int p0), .val (.int p1), .val (.int p2), .val (.int p3), .val (.int p4), .val (.int p5), .val (.int s0), .val (.int vb), .val (.int vc), .val (.int vd), vt, .val (.ref b4), .val (.ref b16), .val (.int i5), .val (.int (5 : Int32)), .val (.ref b200), .val (.ref b214), .val (.ref b218), .val (.int ((XT.ushr p5 (8 : Int32)) &&& (3 : Int32))), .val (.int wv), .val (.int wv)]) W224 at_418 rfl ?_
            refine g_goto 444 (pc := 420) W224 at_420 (by decide) (by decide) ?_
            exact cut226 (wv, (.val (.int wv) : Slot)) (Or.inr ⟨_, rfl⟩)
    · rw [hl]
      refine g_iload (pc := 254) W46 at_254 rfl ?_
      refine g_bipush (pc := 256) (6 : Int32) (by decide) W46 at_256 ?_
      refine g_icmpY 265 (pc := 258) W46 at_258 (by decide) (by decide) (by decide) ?_
      refine g_iload (pc := 265) W46 at_265 rfl ?_
      refine g_newarray (pc := 267) (ty := .int) (vs := [.int (0 : Int32), .int (0 : Int32), .int (0 : Int32), .int (0 : Int32), .int (0 : Int32), .int (0 : Int32)]) 6 W46 (hw _ (List.mem_of_getElem? (i := 0) rfl)) rfl (by decide) (by decide) (by decide) rfl at_267 (by decide) (by decide) (fun T238 b237 W239 => ?_)
      have W240 := W239.re (os' := [(b4, (.array .int), [.int s0, .int vb, .int vc, .int vd]), (b16, (.array .int), [.int s0, .int s1, .int s2, .int s3, .int s4, .int s5]), (b237, (.array .int), [.int (0 : Int32), .int (0 : Int32), .int (0 : Int32), .int (0 : Int32), .int (0 : Int32), .int (0 : Int32)])]) rfl
      refine g_astore (pc := 269) (ls' := #[.val (.int p0), .val (.int p1), .val (.int p2), .val (.int p3), .val (.int p4), .val (.int p5), .val (.int s0), .val (.int vb), .val (.int vc), .val (.int vd), vt, .val (.ref b4), .val (.ref b16), .val (.int i5), .val (.int (6 : Int32)), .val (.ref b237), .unset, .unset, .unset, .unset, .unset]) W240 at_269 rfl rfl ?_
      refine g_iload (pc := 271) W240 at_271 rfl ?_
      refine g_ifN (pc := 273) W240 at_273 (by decide) ?_
      refine g_aload (pc := 276) W240 at_276 rfl rfl ?_
      refine g_iconst (pc := 278) (0 : Int32) (by decide) W240 at_278 ?_
      refine g_aload (pc := 279) W240 at_279 rfl rfl ?_
      refine g_iconst (pc := 281) (0 : Int32) (by decide) W240 at_281 ?_
      refine g_iaload (pc := 282) (i := 1) (v := .int s0) W240 rfl (by decide) rfl at_282 ?_
      refine g_iastore (pc := 283) (i := 2) (os' := [(b4, (.array .int), [.int s0, .int vb, .int vc, .int vd]), (b16, (.array .int), [.int s0, .int s1, .int s2, .int s3, .int s4, .int s5]), (b237, (.array .int), [.int s0, .int (0 : Int32), .int (0 : Int32), .int (0 : Int32), .int (0 : Int32), .int (0 : Int32)])]) 0 W240 rfl (by decide) (by decide) (Nat.le_of_ble_eq_true rfl) rfl at_283 (fun T241 W242 => ?_)
      refine g_iload (pc := 284) W242 at_284 rfl ?_
      refine g_iconst (pc := 286) (1 : Int32) (by decide) W242 at_286 ?_
      refine g_icmpN (pc := 287) W242 at_287 (by decide) ?_
      refine g_aload (pc := 290) W242 at_290 rfl rfl ?_
      refine g_iconst (pc := 292) (1 : Int32) (by decide) W242 at_292 ?_
      refine g_aload (pc := 293) W242 at_293 rfl rfl ?_
      refine g_iconst (pc := 295) (1 : Int32) (by decide) W242 at_295 ?_
      refine g_iaload (pc := 296) (i := 1) (v := .int s1) W242 rfl (by decide) rfl at_296 ?_
      refine g_iastore (pc := 297) (i := 2) (os' := [(b4, (.array .int), [.int s0, .int vb, .int vc, .int vd]), (b16, (.array .int), [.int s0, .int s1, .int s2, .int s3, .int s4, .int s5]), (b237, (.array .int), [.int s0, .int s1, .int (0 : Int32), .int (0 : Int32), .int (0 : Int32), .int (0 : Int32)])]) 1 W242 rfl (by decide) (by decide) (Nat.le_of_ble_eq_true rfl) rfl at_297 (fun T243 W244 => ?_)
      refine g_iload (pc := 298) W244 at_298 rfl ?_
      refine g_iconst (pc := 300) (2 : Int32) (by decide) W244 at_300 ?_
      refine g_icmpN (pc := 301) W244 at_301 (by decide) ?_
      refine g_aload (pc := 304) W244 at_304 rfl rfl ?_
      refine g_iconst (pc := 306) (2 : Int32) (by decide) W244 at_306 ?_
      refine g_aload (pc := 307) W244 at_307 rfl rfl ?_
      refine g_iconst (pc := 309) (2 : Int32) (by decide) W244 at_309 ?_
      refine g_iaload (pc := 310) (i := 1) (v := .int s2) W244 rfl (by decide) rfl at_310 ?_
      refine g_iastore (pc := 311) (i := 2) (os' := [(b4, (.array .int), [.int s0, .int vb, .int vc, .int vd]), (b16, (.array .int), [.int s0, .int s1, .int s2, .int s3, .int s4, .int s5]), (b237, (.array .int), [.int s0, .int s1, .int s2, .int (0 : Int32), .int (0 : Int32), .int (0 : Int32)])]) 2 W244 rfl (by decide) (by decide) (Nat.le_of_ble_eq_true rfl) rfl at_311 (fun T245 W246 => ?_)
      refine g_iload (pc := 312) W246 at_312 rfl ?_
      refine g_iconst (pc := 314) (3 : Int32) (by decide) W246 at_314 ?_
      refine g_icmpN (pc := 315) W246 at_315 (by decide) ?_
      refine g_aload (pc := 318) W246 at_318 rfl rfl ?_
      refine g_iconst (pc := 320) (3 : Int32) (by decide) W246 at_320 ?_
      refine g_aload (pc := 321) W246 at_321 rfl rfl ?_
      refine g_iconst (pc := 323) (3 : Int32) (by decide) W246 at_323 ?_
      refine g_iaload (pc := 324) (i := 1) (v := .int s3) W246 rfl (by decide) rfl at_324 ?_
      refine g_iastore (pc := 325) (i := 2) (os' := [(b4, (.array .int), [.int s0, .int vb, .int vc, .int vd]), (b16, (.array .int), [.int s0, .int s1, .int s2, .int s3, .int s4, .int s5]), (b237, (.array .int), [.int s0, .int s1, .int s2, .int s3, .int (0 : Int32), .int (0 : Int32)])]) 3 W246 rfl (by decide) (by decide) (Nat.le_of_ble_eq_true rfl) rfl at_325 (fun T247 W248 => ?_)
      refine g_iload (pc := 326) W248 at_326 rfl ?_
      refine g_iconst (pc := 328) (4 : Int32) (by decide) W248 at_328 ?_
      refine g_icmpN (pc := 329) W248 at_329 (by decide) ?_
      refine g_aload (pc := 332) W248 at_332 rfl rfl ?_
      refine g_iconst (pc := 334) (4 : Int32) (by decide) W248 at_334 ?_
      refine g_aload (pc := 335) W248 at_335 rfl rfl ?_
      refine g_iconst (pc := 337) (4 : Int32) (by decide) W248 at_337 ?_
      refine g_iaload (pc := 338) (i := 1) (v := .int s4) W248 rfl (by decide) rfl at_338 ?_
      refine g_iastore (pc := 339) (i := 2) (os' := [(b4, (.array .int), [.int s0, .int vb, .int vc, .int vd]), (b16, (.array .int), [.int s0, .int s1, .int s2, .int s3, .int s4, .int s5]), (b237, (.array .int), [.int s0, .int s1, .int s2, .int s3, .int s4, .int (0 : Int32)])]) 4 W248 rfl (by decide) (by decide) (Nat.le_of_ble_eq_true rfl) rfl at_339 (fun T249 W250 => ?_)
      refine g_iload (pc := 340) W250 at_340 rfl ?_
      refine g_iconst (pc := 342) (5 : Int32) (by decide) W250 at_342 ?_
      refine g_icmpN (pc := 343) W250 at_343 (by decide) ?_
      refine g_aload (pc := 346) W250 at_346 rfl rfl ?_
      refine g_iconst (pc := 348) (5 : Int32) (by decide) W250 at_348 ?_
      refine g_aload (pc := 349) W250 at_349 rfl rfl ?_
      refine g_iconst (pc := 351) (5 : Int32) (by decide) W250 at_351 ?_
      refine g_iaload (pc := 352) (i := 1) (v := .int s5) W250 rfl (by decide) rfl at_352 ?_
      refine g_iastore (pc := 353) (i := 2) (os' := [(b4, (.array .int), [.int s0, .int vb, .int vc, .int vd]), (b16, (.array .int), [.int s0, .int s1, .int s2, .int s3, .int s4, .int s5]), (b237, (.array .int), [.int s0, .int s1, .int s2, .int s3, .int s4, .int s5])]) 5 W250 rfl (by decide) (by decide) (Nat.le_of_ble_eq_true rfl) rfl at_353 (fun T251 W252 => ?_)
      refine g_iload (pc := 354) W252 at_354 rfl ?_
      refine g_anewarray (pc := 356) (vs := [.null, .null, .null, .null, .null, .null]) 6 W252 (hw _ (List.mem_of_getElem? (i := 5) rfl)) (hw _ (List.mem_of_getElem? (i := 6) rfl)) (by decide) (by decide) (by decide) rfl at_356 (by decide) (by decide) (fun T254 b253 W255 => ?_)
      have W256 := W255.re (os' := [(b4, (.array .int), [.int s0, .int vb, .int vc, .int vd]), (b16, (.array .int), [.int s0, .int s1, .int s2, .int s3, .int s4, .int s5]), (b237, (.array .int), [.int s0, .int s1, .int s2, .int s3, .int s4, .int s5]), (b253, (.array (.object "java/lang/String")), [.null, .null, .null, .null, .null, .null])]) rfl
      refine g_astore (pc := 359) (ls' := #[.val (.int p0), .val (.int p1), .val (.int p2), .val (.int p3), .val (.int p4), .val (.int p5), .val (.int s0), .val (.int vb), .val (.int vc), .val (.int vd), vt, .val (.ref b4), .val (.ref b16), .val (.int i5), .val (.int (6 : Int32)), .val (.ref b237), .val (.ref b253), .unset, .unset, .unset, .unset]) W256 at_359 rfl rfl ?_
      refine g_new (pc := 361) (vs := [.null, .null]) W256 (hw _ (List.mem_of_getElem? (i := 7) rfl)) (hw _ (List.mem_of_getElem? (i := 8) rfl)) (hw _ (List.mem_of_getElem? (i := 9) rfl)) (cls_Labels hw) (by decide) at_361 (by decide) (by decide) (fun T258 b257 W259 => ?_)
      have W260 := W259.re (os' := [(b4, (.array .int), [.int s0, .int vb, .int vc, .int vd]), (b16, (.array .int), [.int s0, .int s1, .int s2, .int s3, .int s4, .int s5]), (b237, (.array .int), [.int s0, .int s1, .int s2, .int s3, .int s4, .int s5]), (b253, (.array (.object "java/lang/String")), [.null, .null, .null, .null, .null, .null]), (b257, (.object "com/example/traverso/traverso/graph/Labels"), [.null, .null])]) rfl
      refine g_dup (pc := 364) W260 at_364 rfl ?_
      refine g_aload (pc := 365) W260 at_365 rfl rfl ?_
      refine g_aload (pc := 367) W260 at_367 rfl rfl ?_
      refine g_init (pc := 369) (Wt := 1) (argsL := [.ref b237, .ref b253]) (rest := [.ref b257]) (loc := [(b257, (.object "com/example/traverso/traverso/graph/Labels"), [.null, .null])]) (rst := [(b4, (.array .int), [.int s0, .int vb, .int vc, .int vd]), (b16, (.array .int), [.int s0, .int s1, .int s2, .int s3, .int s4, .int s5]), (b237, (.array .int), [.int s0, .int s1, .int s2, .int s3, .int s4, .int s5]), (b253, (.array (.object "java/lang/String")), [.null, .null, .null, .null, .null, .null])]) W260 rfl (hw _ (List.mem_of_getElem? (i := 10) rfl)) (hw _ (List.mem_of_getElem? (i := 11) rfl)) (hw _ (List.mem_of_getElem? (i := 9) rfl)) (hw _ (List.mem_of_getElem? (i := 12) rfl)) (by decide) (c_init l Z a0 hw b257 b237 b253) ⟨[4, 0, 1, 2, 3], by decide, rfl⟩ rfl pd_AIALjava_lang_String___V rfl rfl rfl (Nat.le_of_ble_eq_true rfl) (by decide) (by decide) (by decide) (by decide) at_369 ?_
      rintro T261 _ _ ⟨rfl, rfl⟩ W262
      have W263 := W262.re (os' := [(b257, (.object "com/example/traverso/traverso/graph/Labels"), [.ref b237, .ref b253]), (b4, (.array .int), [.int s0, .int vb, .int vc, .int vd]), (b16, (.array .int), [.int s0, .int s1, .int s2, .int s3, .int s4, .int s5]), (b237, (.array .int), [.int s0, .int s1, .int s2, .int s3, .int s4, .int s5]), (b253, (.array (.object "java/lang/String")), [.null, .null, .null, .null, .null, .null])]) rfl
      show Go p_ e_ bl_ _ (T261.setTop (mkF m_ 372 #[.val (.int p0), .val (.int p1), .val (.int p2), .val (.int p3), .val (.int p4), .val (.int p5), .val (.int s0), .val (.int vb), .val (.int vc), .val (.int vd), vt, .val (.ref b4), .val (.ref b16), .val (.int i5), .val (.int (6 : Int32)), .val (.ref b237), .val (.ref b253), .unset, .unset, .unset, .unset] [.ref b257]))
      refine g_astore (pc := 372) (ls' := #[.val (.int p0), .val (.int p1), .val (.int p2), .val (.int p3), .val (.int p4), .val (.int p5), .val (.int s0), .val (.int vb), .val (.int vc), .val (.int vd), vt, .val (.ref b4), .val (.ref b16), .val (.int i5), .val (.int (6 : Int32)), .val (.ref b237), .val (.ref b253), .val (.ref b257), .unset, .unset, .unset]) W263 at_372 rfl rfl ?_
      refine g_iload (pc := 374) W263 at_374 rfl ?_
      refine g_bipush (pc := 376) (8 : Int32) (by decide) W263 at_376 ?_
      refine g_iushr (pc := 378) W263 at_378 ?_
      refine g_iconst (pc := 379) (3 : Int32) (by decide) W263 at_379 ?_
      refine g_iand (pc := 380) W263 at_380 ?_
      refine g_istore (pc := 381) (ls' := #[.val (.int p0), .val (.int p1), .val (.int p2), .val (.int p3), .val (.int p4), .val (.int p5), .val (.int s0), .val (.int vb), .val (.int vc), .val (.int vd), vt, .val (.ref b4), .val (.ref b16), .val (.int i5), .val (.int (6 : Int32)), .val (.ref b237), .val (.ref b253), .val (.ref b257), .val (.int ((XT.ushr p5 (8 : Int32)) &&& (3 : Int32))), .unset, .unset]) W263 at_381 rfl ?_
      refine g_iload (pc := 383) W263 at_383 rfl ?_
      refine g_istore (pc := 385) (ls' := #[.val (.int p0), .val (.int p1), .val (.int p2), .val (.int p3), .val (.int p4), .val (.int p5), .val (.int s0), .val (.int vb), .val (.int vc), .val (.int vd), vt, .val (.ref b4), .val (.ref b16), .val (.int i5), .val (.int (6 : Int32)), .val (.ref b237), .val (.ref b253), .val (.ref b257), .val (.int ((XT.ushr p5 (8 : Int32)) &&& (3 : Int32))), .val (.int p4), .unset]) W263 at_385 rfl ?_
      refine Go.cut (T := T261) (fr := fun z264 : Int32 × Slot => (mkF m_ 444 #[.val (.int p0), .val (.int p1), .val (.int p2), .val (.int p3), .val (.int p4), .val (.int p5), .val (.int s0), .val (.int vb), .val (.int vc), .val (.int vd), vt, .val (.ref b4), .val (.ref b16), .val (.int i5), .val (.int (6 : Int32)), .val (.ref b237), .val (.ref b253), .val (.ref b257), .val (.int ((XT.ushr p5 (8 : Int32)) &&& (3 : Int32))), .val (.int z264.1), z264.2] [])) (fun ⟨qq, pk⟩ => pk = .unset ∨ ∃ zz, pk = .val (.int zz)) ?_ (fun cut265 => ?_)
      · rintro ⟨qq, pk⟩ hq266
        change pk = .unset ∨ ∃ zz, pk = .val (.int zz) at hq266
        show Go p_ e_ bl_ _ (T261.setTop (mkF m_ 444 #[.val (.int p0), .val (.int p1), .val (.int p2), .val (.int p3), .val (.int p4), .val (.int p5), .val (.int s0), .val (.int vb), .val (.int vc), .val (.int vd), vt, .val (.ref b4), .val (.ref b16), .val (.int i5), .val (.int (6 : Int32)), .val (.ref b237), .val (.ref b253), .val (.ref b257), .val (.int ((XT.ushr p5 (8 : Int32)) &&& (3 : Int32))), .val (.int qq), pk] []))
        refine g_aload (pc := 444) W263 at_444 rfl rfl ?_
        refine g_iload (pc := 446) W263 at_446 rfl ?_
        refine g_iload (pc := 448) W263 at_448 rfl ?_
        refine g_static (pc := 450) (Wt := 0) (argsL := [.ref b237, .int (6 : Int32), .int qq]) (rest := []) (loc := [(b237, (.array .int), [.int s0, .int s1, .int s2, .int s3, .int s4, .int s5])]) (rst := [(b257, (.object "com/example/traverso/traverso/graph/Labels"), [.ref b237, .ref b253]), (b4, (.array .int), [.int s0, .int vb, .int vc, .int vd]), (b16, (.array .int), [.int s0, .int s1, .int s2, .int s3, .int s4, .int s5]), (b253, (.array (.object "java/lang/String")), [.null, .null, .null, .null, .null, .null])]) W263 (hw _ (List.mem_of_getElem? (i := 20) rfl)) (hw _ (List.mem_of_getElem? (i := 21) rfl)) (hw _ (List.mem_of_getElem? (i := 3) rfl)) (hw _ (List.mem_of_getElem? (i := 22) rfl)) (by decide) (c_ref6 l Z a0 hw b237 s0 s1 s2 s3 s4 s5 qq) ⟨[3, 0, 1, 2, 4], by decide, rfl⟩ rfl pd_AIII__I rfl rfl rfl (Nat.le_of_ble_eq_true rfl) (by decide) (by decide) (by decide) (by decide) at_450 ?_
        rintro T267 _ _ ⟨rfl, rfl⟩ W268
        have W269 := W268.re (os' := [(b237, (.array .int), [.int s0, .int s1, .int s2, .int s3, .int s4, .int s5]), (b257, (.object "com/example/traverso/traverso/graph/Labels"), [.ref b237, .ref b253]), (b4, (.array .int), [.int s0, .int vb, .int vc, .int vd]), (b16, (.array .int), [.int s0, .int s1, .int s2, .int s3, .int s4, .int s5]), (b253, (.array (.object "java/lang/String")), [.null, .null, .null, .null, .null, .null])]) rfl
        show Go p_ e_ bl_ _ (T267.setTop (mkF m_ 453 #[.val (.int p0), .val (.int p1), .val (.int p2), .val (.int p3), .val (.int p4), .val (.int p5), .val (.int s0), .val (.int vb), .val (.int vc), .val (.int vd), vt, .val (.ref b4), .val (.ref b16), .val (.int i5), .val (.int (6 : Int32)), .val (.ref b237), .val (.ref b253), .val (.ref b257), .val (.int ((XT.ushr p5 (8 : Int32)) &&& (3 : Int32))), .val (.int qq), pk] [.int (rf6 s0 s1 s2 s3 s4 s5 qq)]))
        refine g_istore (pc := 453) (ls' := #[.val (.int p0), .val (.int p1), .val (.int p2), .val (.int p3), .val (.int p4), .val (.int p5), .val (.int s0), .val (.int vb), .val (.int vc), .val (.int vd), vt, .val (.ref b4), .val (.ref b16), .val (.int i5), .val (.int (6 : Int32)), .val (.ref b237), .val (.ref b253), .val (.ref b257), .val (.int ((XT.ushr p5 (8 : Int32)) &&& (3 : Int32))), .val (.int qq), .val (.int (rf6 s0 s1 s2 s3 s4 s5 qq))]) W269 at_453 (by rcases hq266 with rfl | ⟨zz, rfl⟩ <;> rfl) ?_
        refine g_aload (pc := 455) W269 at_455 rfl rfl ?_
        refine g_iload (pc := 457) W269 at_457 rfl ?_
        refine g_virtual (i := 1) (pc := 459) (Wt := 0) (argsL := [.int qq]) (rest := []) (loc := [(b257, (.object "com/example/traverso/traverso/graph/Labels"), [.ref b237, .ref b253]), (b237, (.array .int), [.int s0, .int s1, .int s2, .int s3, .int s4, .int s5])]) (rst := [(b4, (.array .int), [.int s0, .int vb, .int vc, .int vd]), (b16, (.array .int), [.int s0, .int s1, .int s2, .int s3, .int s4, .int s5]), (b253, (.array (.object "java/lang/String")), [.null, .null, .null, .null, .null, .null])]) W269 (hw _ (List.mem_of_getElem? (i := 23) rfl)) (hw _ (List.mem_of_getElem? (i := 25) rfl)) (hw _ (List.mem_of_getElem? (i := 9) rfl)) (hw _ (List.mem_of_getElem? (i := 27) rfl)) (hw _ (List.mem_of_getElem? (i := 24) rfl)) (hw _ (List.mem_of_getElem? (i := 26) rfl)) rfl (by decide) (c_fst6 l Z a0 hw b257 b237 b253 s0 s1 s2 s3 s4 s5 qq hm0 hm1 hm2 hm3 hm4) ⟨[1, 0, 2, 3, 4], by decide, rfl⟩ rfl pd_I__I rfl rfl rfl (Nat.le_of_ble_eq_true rfl) (by decide) (by decide) (by decide) (by decide) at_459 ?_
        rintro T270 _ _ ⟨rfl, rfl⟩ W271
        have W272 := W271.re (os' := [(b257, (.object "com/example/traverso/traverso/graph/Labels"), [.ref b237, .ref b253]), (b237, (.array .int), [.int s0, .int s1, .int s2, .int s3, .int s4, .int s5]), (b4, (.array .int), [.int s0, .int vb, .int vc, .int vd]), (b16, (.array .int), [.int s0, .int s1, .int s2, .int s3, .int s4, .int s5]), (b253, (.array (.object "java/lang/String")), [.null, .null, .null, .null, .null, .null])]) rfl
        show Go p_ e_ bl_ _ (T270.setTop (mkF m_ 462 #[.val (.int p0), .val (.int p1), .val (.int p2), .val (.int p3), .val (.int p4), .val (.int p5), .val (.int s0), .val (.int vb), .val (.int vc), .val (.int vd), vt, .val (.ref b4), .val (.ref b16), .val (.int i5), .val (.int (6 : Int32)), .val (.ref b237), .val (.ref b253), .val (.ref b257), .val (.int ((XT.ushr p5 (8 : Int32)) &&& (3 : Int32))), .val (.int qq), .val (.int (rf6 s0 s1 s2 s3 s4 s5 qq))] [.int (rf6 s0 s1 s2 s3 s4 s5 qq)]))
        refine g_iload (pc := 462) W272 at_462 rfl ?_
        refine g_icmpN (pc := 464) W272 at_464 (by first | exact (teq rfl).1 | exact (teq rfl).2 | exact (flt (by simp)).1 | exact (flt (by simp)).2.1 | exact (flt (by simp)).2.2.1 | exact (flt (by simp)).2.2.2) ?_
        refine g_iconst (pc := 467) (1 : Int32) (by decide) W272 at_467 ?_
        refine g_goto 472 (pc := 468) W272 at_468 (by decide) (by decide) ?_
        exact g_zreturn (pc := 472) rfl (by decide) W272 at_472 (by decide) (by decide) rfl
      · refine g_iload (pc := 387) W263 at_387 rfl ?_
        refine g_if_eq 444 (pc := 389) W263 at_389 (by decide) (by decide) (fun c273 => ?_) (fun c273 => ?_)
        · exact cut265 (p4, (.unset : Slot)) (Or.inl rfl)
        · refine g_iload (pc := 392) W263 at_392 rfl ?_
          refine g_ifN (pc := 394) W263 at_394 (by decide) ?_
          refine g_aload (pc := 397) W263 at_397 rfl rfl ?_
          refine g_iload (pc := 399) W263 at_399 rfl ?_
          refine g_ldc_int (pc := 401) (v := (2147483647 : Int32)) W263 (hw _ (List.mem_of_getElem? (i := 28) rfl)) at_401 ?_
          refine g_iand (pc := 403) W263 at_403 ?_
          refine g_iload (pc := 404) W263 at_404 rfl ?_
          refine g_irem (pc := 406) W263 at_406 (by decide) ?_
          obtain ⟨wv, hwv⟩ := own_pick (s0 := s0) (s1 := s1) (s2 := s2) (s3 := s3) (s4 := s4) (s5 := s5) (by have q := own_rem p4 (n := (6 : Int32)) 6 (by decide) (by decide); exact ⟨q.1, by omega⟩ : 0 ≤ (((p4 &&& (2147483647 : Int32)) % (6 : Int32))).toInt ∧ (((p4 &&& (2147483647 : Int32)) % (6 : Int32))).toInt < 6)
          refine g_iaload (pc := 407) (i := 2) (v := .int wv) W263 rfl (own_nn (own_rem p4 (n := (6 : Int32)) 6 (by decide) (by decide)).1) hwv at_407 ?_
          refine g_istore (pc := 408) (ls' := #[.val (.int p0), .val (.int p1), .val (.int p2), .val (.int p3), .val (.int p4), .val (.int p5), .val (.int s0), .val (.int vb), .val (.int vc), .val (.int vd), vt, .val (.ref b4), .val (.ref b16), .val (.int i5), .val (.int (6 : Int32)), .val (.ref b237), .val (.ref b253), .val (.ref b257), .val (.int ((XT.ushr p5 (8 : Int32)) &&& (3 : Int32))), .val (.int p4), .val (.int wv)]) W263 at_408 rfl ?_
          refine g_iload (pc := 410) W263 at_410 rfl ?_
          refine g_iconst (pc := 412) (1 : Int32) (by decide) W263 at_412 ?_
          refine g_icmp_ne 423 (pc := 413) W263 at_413 (by decide) (by decide) (fun c274 => ?_) (fun c274 => ?_)
          · refine g_iload (pc := 423) W263 at_423 rfl ?_
            refine g_iconst (pc := 425) (2 : Int32) (by decide) W263 at_425 ?_
            refine g_icmp_ne 438 (pc := 426) W263 at_426 (by decide) (by decide) (fun c275 => ?_) (fun c275 => ?_)
            · refine g_iload (pc := 438) W263 at_438 rfl ?_
              refine g_iconst (pc := 440) (1 : Int32) (by decide) W263 at_440 ?_
              refine g_isub (pc := 441) W263 at_441 ?_
              refine g_istore (pc := 442) (ls' := #[.val (.int p0), .val (.int p1), .val (.int p2), .val (.int p3), .val (.int p4), .val (.int p5), .val (.int s0), .val (.int vb), .val (.int vc), .val (.int vd), vt, .val (.ref b4), .val (.ref b16), .val (.int i5), .val (.int (6 : Int32)), .val (.ref b237), .val (.ref b253), .val (.ref b257), .val (.int ((XT.ushr p5 (8 : Int32)) &&& (3 : Int32))), .val (.int (wv - (1 : Int32))), .val (.int wv)]) W263 at_442 rfl ?_
              exact cut265 ((wv - (1 : Int32)), (.val (.int wv) : Slot)) (Or.inr ⟨_, rfl⟩)
            · refine g_iload (pc := 429) W263 at_429 rfl ?_
              refine g_iconst (pc := 431) (1 : Int32) (by decide) W263 at_431 ?_
              refine g_iadd (pc := 432) W263 at_432 ?_
              refine g_istore (pc := 433) (ls' := #[.val (.int p0), .val (.int p1), .val (.int p2), .val (.int p3), .val (.int p4), .val (.int p5), .val (.int s0), .val (.int vb), .val (.int vc), .val (.int vd), vt, .val (.ref b4), .val (.ref b16), .val (.int i5), .val (.int (6 : Int32)), .val (.ref b237), .val (.ref b253), .val (.ref b257), .val (.int ((XT.ushr p5 (8 : Int32)) &&& (3 : Int32))), .val (.int (wv + (1 : Int32))), .val (.int wv)]) W263 at_433 rfl ?_
              refine g_goto 444 (pc := 435) W263 at_435 (by decide) (by decide) ?_
              exact cut265 ((wv + (1 : Int32)), (.val (.int wv) : Slot)) (Or.inr ⟨_, rfl⟩)
          · refine g_iload (pc := 416) W263 at_416 rfl ?_
            refine g_istore (pc := 418) (ls' := #[.val (.int p0), .val (.int p1), .val (.int p2), .val (.int p3), .val (.int p4), .val (.int p5), .val (.int s0), .val (.int vb), .val (.int vc), .val (.int vd), vt, .val (.ref b4), .val (.ref b16), .val (.int i5), .val (.int (6 : Int32)), .val (.ref b237), .val (.ref b253), .val (.ref b257), .val (.int ((XT.ushr p5 (8 : Int32)) &&& (3 : Int32))), .val (.int wv), .val (.int wv)]) W263 at_418 rfl ?_
            refine g_goto 444 (pc := 420) W263 at_420 (by decide) (by decide) ?_
            exact cut265 (wv, (.val (.int wv) : Slot)) (Or.inr ⟨_, rfl⟩)
    · rw [hl]
      refine g_iload (pc := 254) W46 at_254 rfl ?_
      refine g_bipush (pc := 256) (6 : Int32) (by decide) W46 at_256 ?_
      refine g_icmpN (pc := 258) W46 at_258 (by decide) ?_
      refine g_bipush (pc := 261) (6 : Int32) (by decide) W46 at_261 ?_
      refine g_istore (pc := 263) (ls' := #[.val (.int p0), .val (.int p1), .val (.int p2), .val (.int p3), .val (.int p4), .val (.int p5), .val (.int s0), .val (.int vb), .val (.int vc), .val (.int vd), vt, .val (.ref b4), .val (.ref b16), .val (.int i5), .val (.int (6 : Int32)), .unset, .unset, .unset, .unset, .unset, .unset]) W46 at_263 rfl ?_
      refine g_iload (pc := 265) W46 at_265 rfl ?_
      refine g_newarray (pc := 267) (ty := .int) (vs := [.int (0 : Int32), .int (0 : Int32), .int (0 : Int32), .int (0 : Int32), .int (0 : Int32), .int (0 : Int32)]) 6 W46 (hw _ (List.mem_of_getElem? (i := 0) rfl)) rfl (by decide) (by decide) (by decide) rfl at_267 (by decide) (by decide) (fun T277 b276 W278 => ?_)
      have W279 := W278.re (os' := [(b4, (.array .int), [.int s0, .int vb, .int vc, .int vd]), (b16, (.array .int), [.int s0, .int s1, .int s2, .int s3, .int s4, .int s5]), (b276, (.array .int), [.int (0 : Int32), .int (0 : Int32), .int (0 : Int32), .int (0 : Int32), .int (0 : Int32), .int (0 : Int32)])]) rfl
      refine g_astore (pc := 269) (ls' := #[.val (.int p0), .val (.int p1), .val (.int p2), .val (.int p3), .val (.int p4), .val (.int p5), .val (.int s0), .val (.int vb), .val (.int vc), .val (.int vd), vt, .val (.ref b4), .val (.ref b16), .val (.int i5), .val (.int (6 : Int32)), .val (.ref b276), .unset, .unset, .unset, .unset, .unset]) W279 at_269 rfl rfl ?_
      refine g_iload (pc := 271) W279 at_271 rfl ?_
      refine g_ifN (pc := 273) W279 at_273 (by decide) ?_
      refine g_aload (pc := 276) W279 at_276 rfl rfl ?_
      refine g_iconst (pc := 278) (0 : Int32) (by decide) W279 at_278 ?_
      refine g_aload (pc := 279) W279 at_279 rfl rfl ?_
      refine g_iconst (pc := 281) (0 : Int32) (by decide) W279 at_281 ?_
      refine g_iaload (pc := 282) (i := 1) (v := .int s0) W279 rfl (by decide) rfl at_282 ?_
      refine g_iastore (pc := 283) (i := 2) (os' := [(b4, (.array .int), [.int s0, .int vb, .int vc, .int vd]), (b16, (.array .int), [.int s0, .int s1, .int s2, .int s3, .int s4, .int s5]), (b276, (.array .int), [.int s0, .int (0 : Int32), .int (0 : Int32), .int (0 : Int32), .int (0 : Int32), .int (0 : Int32)])]) 0 W279 rfl (by decide) (by decide) (Nat.le_of_ble_eq_true rfl) rfl at_283 (fun T280 W281 => ?_)
      refine g_iload (pc := 284) W281 at_284 rfl ?_
      refine g_iconst (pc := 286) (1 : Int32) (by decide) W281 at_286 ?_
      refine g_icmpN (pc := 287) W281 at_287 (by decide) ?_
      refine g_aload (pc := 290) W281 at_290 rfl rfl ?_
      refine g_iconst (pc := 292) (1 : Int32) (by decide) W281 at_292 ?_
      refine g_aload (pc := 293) W281 at_293 rfl rfl ?_
      refine g_iconst (pc := 295) (1 : Int32) (by decide) W281 at_295 ?_
      refine g_iaload (pc := 296) (i := 1) (v := .int s1) W281 rfl (by decide) rfl at_296 ?_
      refine g_iastore (pc := 297) (i := 2) (os' := [(b4, (.array .int), [.int s0, .int vb, .int vc, .int vd]), (b16, (.array .int), [.int s0, .int s1, .int s2, .int s3, .int s4, .int s5]), (b276, (.array .int), [.int s0, .int s1, .int (0 : Int32), .int (0 : Int32), .int (0 : Int32), .int (0 : Int32)])]) 1 W281 rfl (by decide) (by decide) (Nat.le_of_ble_eq_true rfl) rfl at_297 (fun T282 W283 => ?_)
      refine g_iload (pc := 298) W283 at_298 rfl ?_
      refine g_iconst (pc := 300) (2 : Int32) (by decide) W283 at_300 ?_
      refine g_icmpN (pc := 301) W283 at_301 (by decide) ?_
      refine g_aload (pc := 304) W283 at_304 rfl rfl ?_
      refine g_iconst (pc := 306) (2 : Int32) (by decide) W283 at_306 ?_
      refine g_aload (pc := 307) W283 at_307 rfl rfl ?_
      refine g_iconst (pc := 309) (2 : Int32) (by decide) W283 at_309 ?_
      refine g_iaload (pc := 310) (i := 1) (v := .int s2) W283 rfl (by decide) rfl at_310 ?_
      refine g_iastore (pc := 311) (i := 2) (os' := [(b4, (.array .int), [.int s0, .int vb, .int vc, .int vd]), (b16, (.array .int), [.int s0, .int s1, .int s2, .int s3, .int s4, .int s5]), (b276, (.array .int), [.int s0, .int s1, .int s2, .int (0 : Int32), .int (0 : Int32), .int (0 : Int32)])]) 2 W283 rfl (by decide) (by decide) (Nat.le_of_ble_eq_true rfl) rfl at_311 (fun T284 W285 => ?_)
      refine g_iload (pc := 312) W285 at_312 rfl ?_
      refine g_iconst (pc := 314) (3 : Int32) (by decide) W285 at_314 ?_
      refine g_icmpN (pc := 315) W285 at_315 (by decide) ?_
      refine g_aload (pc := 318) W285 at_318 rfl rfl ?_
      refine g_iconst (pc := 320) (3 : Int32) (by decide) W285 at_320 ?_
      refine g_aload (pc := 321) W285 at_321 rfl rfl ?_
      refine g_iconst (pc := 323) (3 : Int32) (by decide) W285 at_323 ?_
      refine g_iaload (pc := 324) (i := 1) (v := .int s3) W285 rfl (by decide) rfl at_324 ?_
      refine g_iastore (pc := 325) (i := 2) (os' := [(b4, (.array .int), [.int s0, .int vb, .int vc, .int vd]), (b16, (.array .int), [.int s0, .int s1, .int s2, .int s3, .int s4, .int s5]), (b276, (.array .int), [.int s0, .int s1, .int s2, .int s3, .int (0 : Int32), .int (0 : Int32)])]) 3 W285 rfl (by decide) (by decide) (Nat.le_of_ble_eq_true rfl) rfl at_325 (fun T286 W287 => ?_)
      refine g_iload (pc := 326) W287 at_326 rfl ?_
      refine g_iconst (pc := 328) (4 : Int32) (by decide) W287 at_328 ?_
      refine g_icmpN (pc := 329) W287 at_329 (by decide) ?_
      refine g_aload (pc := 332) W287 at_332 rfl rfl ?_
      refine g_iconst (pc := 334) (4 : Int32) (by decide) W287 at_334 ?_
      refine g_aload (pc := 335) W287 at_335 rfl rfl ?_
      refine g_iconst (pc := 337) (4 : Int32) (by decide) W287 at_337 ?_
      refine g_iaload (pc := 338) (i := 1) (v := .int s4) W287 rfl (by decide) rfl at_338 ?_
      refine g_iastore (pc := 339) (i := 2) (os' := [(b4, (.array .int), [.int s0, .int vb, .int vc, .int vd]), (b16, (.array .int), [.int s0, .int s1, .int s2, .int s3, .int s4, .int s5]), (b276, (.array .int), [.int s0, .int s1, .int s2, .int s3, .int s4, .int (0 : Int32)])]) 4 W287 rfl (by decide) (by decide) (Nat.le_of_ble_eq_true rfl) rfl at_339 (fun T288 W289 => ?_)
      refine g_iload (pc := 340) W289 at_340 rfl ?_
      refine g_iconst (pc := 342) (5 : Int32) (by decide) W289 at_342 ?_
      refine g_icmpN (pc := 343) W289 at_343 (by decide) ?_
      refine g_aload (pc := 346) W289 at_346 rfl rfl ?_
      refine g_iconst (pc := 348) (5 : Int32) (by decide) W289 at_348 ?_
      refine g_aload (pc := 349) W289 at_349 rfl rfl ?_
      refine g_iconst (pc := 351) (5 : Int32) (by decide) W289 at_351 ?_
      refine g_iaload (pc := 352) (i := 1) (v := .int s5) W289 rfl (by decide) rfl at_352 ?_
      refine g_iastore (pc := 353) (i := 2) (os' := [(b4, (.array .int), [.int s0, .int vb, .int vc, .int vd]), (b16, (.array .int), [.int s0, .int s1, .int s2, .int s3, .int s4, .int s5]), (b276, (.array .int), [.int s0, .int s1, .int s2, .int s3, .int s4, .int s5])]) 5 W289 rfl (by decide) (by decide) (Nat.le_of_ble_eq_true rfl) rfl at_353 (fun T290 W291 => ?_)
      refine g_iload (pc := 354) W291 at_354 rfl ?_
      refine g_anewarray (pc := 356) (vs := [.null, .null, .null, .null, .null, .null]) 6 W291 (hw _ (List.mem_of_getElem? (i := 5) rfl)) (hw _ (List.mem_of_getElem? (i := 6) rfl)) (by decide) (by decide) (by decide) rfl at_356 (by decide) (by decide) (fun T293 b292 W294 => ?_)
      have W295 := W294.re (os' := [(b4, (.array .int), [.int s0, .int vb, .int vc, .int vd]), (b16, (.array .int), [.int s0, .int s1, .int s2, .int s3, .int s4, .int s5]), (b276, (.array .int), [.int s0, .int s1, .int s2, .int s3, .int s4, .int s5]), (b292, (.array (.object "java/lang/String")), [.null, .null, .null, .null, .null, .null])]) rfl
      refine g_astore (pc := 359) (ls' := #[.val (.int p0), .val (.int p1), .val (.int p2), .val (.int p3), .val (.int p4), .val (.int p5), .val (.int s0), .val (.int vb), .val (.int vc), .val (.int vd), vt, .val (.ref b4), .val (.ref b16), .val (.int i5), .val (.int (6 : Int32)), .val (.ref b276), .val (.ref b292), .unset, .unset, .unset, .unset]) W295 at_359 rfl rfl ?_
      refine g_new (pc := 361) (vs := [.null, .null]) W295 (hw _ (List.mem_of_getElem? (i := 7) rfl)) (hw _ (List.mem_of_getElem? (i := 8) rfl)) (hw _ (List.mem_of_getElem? (i := 9) rfl)) (cls_Labels hw) (by decide) at_361 (by decide) (by decide) (fun T297 b296 W298 => ?_)
      have W299 := W298.re (os' := [(b4, (.array .int), [.int s0, .int vb, .int vc, .int vd]), (b16, (.array .int), [.int s0, .int s1, .int s2, .int s3, .int s4, .int s5]), (b276, (.array .int), [.int s0, .int s1, .int s2, .int s3, .int s4, .int s5]), (b292, (.array (.object "java/lang/String")), [.null, .null, .null, .null, .null, .null]), (b296, (.object "com/example/traverso/traverso/graph/Labels"), [.null, .null])]) rfl
      refine g_dup (pc := 364) W299 at_364 rfl ?_
      refine g_aload (pc := 365) W299 at_365 rfl rfl ?_
      refine g_aload (pc := 367) W299 at_367 rfl rfl ?_
      refine g_init (pc := 369) (Wt := 1) (argsL := [.ref b276, .ref b292]) (rest := [.ref b296]) (loc := [(b296, (.object "com/example/traverso/traverso/graph/Labels"), [.null, .null])]) (rst := [(b4, (.array .int), [.int s0, .int vb, .int vc, .int vd]), (b16, (.array .int), [.int s0, .int s1, .int s2, .int s3, .int s4, .int s5]), (b276, (.array .int), [.int s0, .int s1, .int s2, .int s3, .int s4, .int s5]), (b292, (.array (.object "java/lang/String")), [.null, .null, .null, .null, .null, .null])]) W299 rfl (hw _ (List.mem_of_getElem? (i := 10) rfl)) (hw _ (List.mem_of_getElem? (i := 11) rfl)) (hw _ (List.mem_of_getElem? (i := 9) rfl)) (hw _ (List.mem_of_getElem? (i := 12) rfl)) (by decide) (c_init l Z a0 hw b296 b276 b292) ⟨[4, 0, 1, 2, 3], by decide, rfl⟩ rfl pd_AIALjava_lang_String___V rfl rfl rfl (Nat.le_of_ble_eq_true rfl) (by decide) (by decide) (by decide) (by decide) at_369 ?_
      rintro T300 _ _ ⟨rfl, rfl⟩ W301
      have W302 := W301.re (os' := [(b296, (.object "com/example/traverso/traverso/graph/Labels"), [.ref b276, .ref b292]), (b4, (.array .int), [.int s0, .int vb, .int vc, .int vd]), (b16, (.array .int), [.int s0, .int s1, .int s2, .int s3, .int s4, .int s5]), (b276, (.array .int), [.int s0, .int s1, .int s2, .int s3, .int s4, .int s5]), (b292, (.array (.object "java/lang/String")), [.null, .null, .null, .null, .null, .null])]) rfl
      show Go p_ e_ bl_ _ (T300.setTop (mkF m_ 372 #[.val (.int p0), .val (.int p1), .val (.int p2), .val (.int p3), .val (.int p4), .val (.int p5), .val (.int s0), .val (.int vb), .val (.int vc), .val (.int vd), vt, .val (.ref b4), .val (.ref b16), .val (.int i5), .val (.int (6 : Int32)), .val (.ref b276), .val (.ref b292), .unset, .unset, .unset, .unset] [.ref b296]))
      refine g_astore (pc := 372) (ls' := #[.val (.int p0), .val (.int p1), .val (.int p2), .val (.int p3), .val (.int p4), .val (.int p5), .val (.int s0), .val (.int vb), .val (.int vc), .val (.int vd), vt, .val (.ref b4), .val (.ref b16), .val (.int i5), .val (.int (6 : Int32)), .val (.ref b276), .val (.ref b292), .val (.ref b296), .unset, .unset, .unset]) W302 at_372 rfl rfl ?_
      refine g_iload (pc := 374) W302 at_374 rfl ?_
      refine g_bipush (pc := 376) (8 : Int32) (by decide) W302 at_376 ?_
      refine g_iushr (pc := 378) W302 at_378 ?_
      refine g_iconst (pc := 379) (3 : Int32) (by decide) W302 at_379 ?_
      refine g_iand (pc := 380) W302 at_380 ?_
      refine g_istore (pc := 381) (ls' := #[.val (.int p0), .val (.int p1), .val (.int p2), .val (.int p3), .val (.int p4), .val (.int p5), .val (.int s0), .val (.int vb), .val (.int vc), .val (.int vd), vt, .val (.ref b4), .val (.ref b16), .val (.int i5), .val (.int (6 : Int32)), .val (.ref b276), .val (.ref b292), .val (.ref b296), .val (.int ((XT.ushr p5 (8 : Int32)) &&& (3 : Int32))), .unset, .unset]) W302 at_381 rfl ?_
      refine g_iload (pc := 383) W302 at_383 rfl ?_
      refine g_istore (pc := 385) (ls' := #[.val (.int p0), .val (.int p1), .val (.int p2), .val (.int p3), .val (.int p4), .val (.int p5), .val (.int s0), .val (.int vb), .val (.int vc), .val (.int vd), vt, .val (.ref b4), .val (.ref b16), .val (.int i5), .val (.int (6 : Int32)), .val (.ref b276), .val (.ref b292), .val (.ref b296), .val (.int ((XT.ushr p5 (8 : Int32)) &&& (3 : Int32))), .val (.int p4), .unset]) W302 at_385 rfl ?_
      refine Go.cut (T := T300) (fr := fun z303 : Int32 × Slot => (mkF m_ 444 #[.val (.int p0), .val (.int p1), .val (.int p2), .val (.int p3), .val (.int p4), .val (.int p5), .val (.int s0), .val (.int vb), .val (.int vc), .val (.int vd), vt, .val (.ref b4), .val (.ref b16), .val (.int i5), .val (.int (6 : Int32)), .val (.ref b276), .val (.ref b292), .val (.ref b296), .val (.int ((XT.ushr p5 (8 : Int32)) &&& (3 : Int32))), .val (.int z303.1), z303.2] [])) (fun ⟨qq, pk⟩ => pk = .unset ∨ ∃ zz, pk = .val (.int zz)) ?_ (fun cut304 => ?_)
      · rintro ⟨qq, pk⟩ hq305
        change pk = .unset ∨ ∃ zz, pk = .val (.int zz) at hq305
        show Go p_ e_ bl_ _ (T300.setTop (mkF m_ 444 #[.val (.int p0), .val (.int p1), .val (.int p2), .val (.int p3), .val (.int p4), .val (.int p5), .val (.int s0), .val (.int vb), .val (.int vc), .val (.int vd), vt, .val (.ref b4), .val (.ref b16), .val (.int i5), .val (.int (6 : Int32)), .val (.ref b276), .val (.ref b292), .val (.ref b296), .val (.int ((XT.ushr p5 (8 : Int32)) &&& (3 : Int32))), .val (.int qq), pk] []))
        refine g_aload (pc := 444) W302 at_444 rfl rfl ?_
        refine g_iload (pc := 446) W302 at_446 rfl ?_
        refine g_iload (pc := 448) W302 at_448 rfl ?_
        refine g_static (pc := 450) (Wt := 0) (argsL := [.ref b276, .int (6 : Int32), .int qq]) (rest := []) (loc := [(b276, (.array .int), [.int s0, .int s1, .int s2, .int s3, .int s4, .int s5])]) (rst := [(b296, (.object "com/example/traverso/traverso/graph/Labels"), [.ref b276, .ref b292]), (b4, (.array .int), [.int s0, .int vb, .int vc, .int vd]), (b16, (.array .int), [.int s0, .int s1, .int s2, .int s3, .int s4, .int s5]), (b292, (.array (.object "java/lang/String")), [.null, .null, .null, .null, .null, .null])]) W302 (hw _ (List.mem_of_getElem? (i := 20) rfl)) (hw _ (List.mem_of_getElem? (i := 21) rfl)) (hw _ (List.mem_of_getElem? (i := 3) rfl)) (hw _ (List.mem_of_getElem? (i := 22) rfl)) (by decide) (c_ref6 l Z a0 hw b276 s0 s1 s2 s3 s4 s5 qq) ⟨[3, 0, 1, 2, 4], by decide, rfl⟩ rfl pd_AIII__I rfl rfl rfl (Nat.le_of_ble_eq_true rfl) (by decide) (by decide) (by decide) (by decide) at_450 ?_
        rintro T306 _ _ ⟨rfl, rfl⟩ W307
        have W308 := W307.re (os' := [(b276, (.array .int), [.int s0, .int s1, .int s2, .int s3, .int s4, .int s5]), (b296, (.object "com/example/traverso/traverso/graph/Labels"), [.ref b276, .ref b292]), (b4, (.array .int), [.int s0, .int vb, .int vc, .int vd]), (b16, (.array .int), [.int s0, .int s1, .int s2, .int s3, .int s4, .int s5]), (b292, (.array (.object "java/lang/String")), [.null, .null, .null, .null, .null, .null])]) rfl
        show Go p_ e_ bl_ _ (T306.setTop (mkF m_ 453 #[.val (.int p0), .val (.int p1), .val (.int p2), .val (.int p3), .val (.int p4), .val (.int p5), .val (.int s0), .val (.int vb), .val (.int vc), .val (.int vd), vt, .val (.ref b4), .val (.ref b16), .val (.int i5), .val (.int (6 : Int32)), .val (.ref b276), .val (.ref b292), .val (.ref b296), .val (.int ((XT.ushr p5 (8 : Int32)) &&& (3 : Int32))), .val (.int qq), pk] [.int (rf6 s0 s1 s2 s3 s4 s5 qq)]))
        refine g_istore (pc := 453) (ls' := #[.val (.int p0), .val (.int p1), .val (.int p2), .val (.int p3), .val (.int p4), .val (.int p5), .val (.int s0), .val (.int vb), .val (.int vc), .val (.int vd), vt, .val (.ref b4), .val (.ref b16), .val (.int i5), .val (.int (6 : Int32)), .val (.ref b276), .val (.ref b292), .val (.ref b296), .val (.int ((XT.ushr p5 (8 : Int32)) &&& (3 : Int32))), .val (.int qq), .val (.int (rf6 s0 s1 s2 s3 s4 s5 qq))]) W308 at_453 (by rcases hq305 with rfl | ⟨zz, rfl⟩ <;> rfl) ?_
        refine g_aload (pc := 455) W308 at_455 rfl rfl ?_
        refine g_iload (pc := 457) W308 at_457 rfl ?_
        refine g_virtual (i := 1) (pc := 459) (Wt := 0) (argsL := [.int qq]) (rest := []) (loc := [(b296, (.object "com/example/traverso/traverso/graph/Labels"), [.ref b276, .ref b292]), (b276, (.array .int), [.int s0, .int s1, .int s2, .int s3, .int s4, .int s5])]) (rst := [(b4, (.array .int), [.int s0, .int vb, .int vc, .int vd]), (b16, (.array .int), [.int s0, .int s1, .int s2, .int s3, .int s4, .int s5]), (b292, (.array (.object "java/lang/String")), [.null, .null, .null, .null, .null, .null])]) W308 (hw _ (List.mem_of_getElem? (i := 23) rfl)) (hw _ (List.mem_of_getElem? (i := 25) rfl)) (hw _ (List.mem_of_getElem? (i := 9) rfl)) (hw _ (List.mem_of_getElem? (i := 27) rfl)) (hw _ (List.mem_of_getElem? (i := 24) rfl)) (hw _ (List.mem_of_getElem? (i := 26) rfl)) rfl (by decide) (c_fst6 l Z a0 hw b296 b276 b292 s0 s1 s2 s3 s4 s5 qq hm0 hm1 hm2 hm3 hm4) ⟨[1, 0, 2, 3, 4], by decide, rfl⟩ rfl pd_I__I rfl rfl rfl (Nat.le_of_ble_eq_true rfl) (by decide) (by decide) (by decide) (by decide) at_459 ?_
        rintro T309 _ _ ⟨rfl, rfl⟩ W310
        have W311 := W310.re (os' := [(b296, (.object "com/example/traverso/traverso/graph/Labels"), [.ref b276, .ref b292]), (b276, (.array .int), [.int s0, .int s1, .int s2, .int s3, .int s4, .int s5]), (b4, (.array .int), [.int s0, .int vb, .int vc, .int vd]), (b16, (.array .int), [.int s0, .int s1, .int s2, .int s3, .int s4, .int s5]), (b292, (.array (.object "java/lang/String")), [.null, .null, .null, .null, .null, .null])]) rfl
        show Go p_ e_ bl_ _ (T309.setTop (mkF m_ 462 #[.val (.int p0), .val (.int p1), .val (.int p2), .val (.int p3), .val (.int p4), .val (.int p5), .val (.int s0), .val (.int vb), .val (.int vc), .val (.int vd), vt, .val (.ref b4), .val (.ref b16), .val (.int i5), .val (.int (6 : Int32)), .val (.ref b276), .val (.ref b292), .val (.ref b296), .val (.int ((XT.ushr p5 (8 : Int32)) &&& (3 : Int32))), .val (.int qq), .val (.int (rf6 s0 s1 s2 s3 s4 s5 qq))] [.int (rf6 s0 s1 s2 s3 s4 s5 qq)]))
        refine g_iload (pc := 462) W311 at_462 rfl ?_
        refine g_icmpN (pc := 464) W311 at_464 (by first | exact (teq rfl).1 | exact (teq rfl).2 | exact (flt (by simp)).1 | exact (flt (by simp)).2.1 | exact (flt (by simp)).2.2.1 | exact (flt (by simp)).2.2.2) ?_
        refine g_iconst (pc := 467) (1 : Int32) (by decide) W311 at_467 ?_
        refine g_goto 472 (pc := 468) W311 at_468 (by decide) (by decide) ?_
        exact g_zreturn (pc := 472) rfl (by decide) W311 at_472 (by decide) (by decide) rfl
      · refine g_iload (pc := 387) W302 at_387 rfl ?_
        refine g_if_eq 444 (pc := 389) W302 at_389 (by decide) (by decide) (fun c312 => ?_) (fun c312 => ?_)
        · exact cut304 (p4, (.unset : Slot)) (Or.inl rfl)
        · refine g_iload (pc := 392) W302 at_392 rfl ?_
          refine g_ifN (pc := 394) W302 at_394 (by decide) ?_
          refine g_aload (pc := 397) W302 at_397 rfl rfl ?_
          refine g_iload (pc := 399) W302 at_399 rfl ?_
          refine g_ldc_int (pc := 401) (v := (2147483647 : Int32)) W302 (hw _ (List.mem_of_getElem? (i := 28) rfl)) at_401 ?_
          refine g_iand (pc := 403) W302 at_403 ?_
          refine g_iload (pc := 404) W302 at_404 rfl ?_
          refine g_irem (pc := 406) W302 at_406 (by decide) ?_
          obtain ⟨wv, hwv⟩ := own_pick (s0 := s0) (s1 := s1) (s2 := s2) (s3 := s3) (s4 := s4) (s5 := s5) (by have q := own_rem p4 (n := (6 : Int32)) 6 (by decide) (by decide); exact ⟨q.1, by omega⟩ : 0 ≤ (((p4 &&& (2147483647 : Int32)) % (6 : Int32))).toInt ∧ (((p4 &&& (2147483647 : Int32)) % (6 : Int32))).toInt < 6)
          refine g_iaload (pc := 407) (i := 2) (v := .int wv) W302 rfl (own_nn (own_rem p4 (n := (6 : Int32)) 6 (by decide) (by decide)).1) hwv at_407 ?_
          refine g_istore (pc := 408) (ls' := #[.val (.int p0), .val (.int p1), .val (.int p2), .val (.int p3), .val (.int p4), .val (.int p5), .val (.int s0), .val (.int vb), .val (.int vc), .val (.int vd), vt, .val (.ref b4), .val (.ref b16), .val (.int i5), .val (.int (6 : Int32)), .val (.ref b276), .val (.ref b292), .val (.ref b296), .val (.int ((XT.ushr p5 (8 : Int32)) &&& (3 : Int32))), .val (.int p4), .val (.int wv)]) W302 at_408 rfl ?_
          refine g_iload (pc := 410) W302 at_410 rfl ?_
          refine g_iconst (pc := 412) (1 : Int32) (by decide) W302 at_412 ?_
          refine g_icmp_ne 423 (pc := 413) W302 at_413 (by decide) (by decide) (fun c313 => ?_) (fun c313 => ?_)
          · refine g_iload (pc := 423) W302 at_423 rfl ?_
            refine g_iconst (pc := 425) (2 : Int32) (by decide) W302 at_425 ?_
            refine g_icmp_ne 438 (pc := 426) W302 at_426 (by decide) (by decide) (fun c314 => ?_) (fun c314 => ?_)
            · refine g_iload (pc := 438) W302 at_438 rfl ?_
              refine g_iconst (pc := 440) (1 : Int32) (by decide) W302 at_440 ?_
              refine g_isub (pc := 441) W302 at_441 ?_
              refine g_istore (pc := 442) (ls' := #[.val (.int p0), .val (.int p1), .val (.int p2), .val (.int p3), .val (.int p4), .val (.int p5), .val (.int s0), .val (.int vb), .val (.int vc), .val (.int vd), vt, .val (.ref b4), .val (.ref b16), .val (.int i5), .val (.int (6 : Int32)), .val (.ref b276), .val (.ref b292), .val (.ref b296), .val (.int ((XT.ushr p5 (8 : Int32)) &&& (3 : Int32))), .val (.int (wv - (1 : Int32))), .val (.int wv)]) W302 at_442 rfl ?_
              exact cut304 ((wv - (1 : Int32)), (.val (.int wv) : Slot)) (Or.inr ⟨_, rfl⟩)
            · refine g_iload (pc := 429) W302 at_429 rfl ?_
              refine g_iconst (pc := 431) (1 : Int32) (by decide) W302 at_431 ?_
              refine g_iadd (pc := 432) W302 at_432 ?_
              refine g_istore (pc := 433) (ls' := #[.val (.int p0), .val (.int p1), .val (.int p2), .val (.int p3), .val (.int p4), .val (.int p5), .val (.int s0), .val (.int vb), .val (.int vc), .val (.int vd), vt, .val (.ref b4), .val (.ref b16), .val (.int i5), .val (.int (6 : Int32)), .val (.ref b276), .val (.ref b292), .val (.ref b296), .val (.int ((XT.ushr p5 (8 : Int32)) &&& (3 : Int32))), .val (.int (wv + (1 : Int32))), .val (.int wv)]) W302 at_433 rfl ?_
              refine g_goto 444 (pc := 435) W302 at_435 (by decide) (by decide) ?_
              exact cut304 ((wv + (1 : Int32)), (.val (.int wv) : Slot)) (Or.inr ⟨_, rfl⟩)
          · refine g_iload (pc := 416) W302 at_416 rfl ?_
            refine g_istore (pc := 418) (ls' := #[.val (.int p0), .val (.int p1), .val (.int p2), .val (.int p3), .val (.int p4), .val (.int p5), .val (.int s0), .val (.int vb), .val (.int vc), .val (.int vd), vt, .val (.ref b4), .val (.ref b16), .val (.int i5), .val (.int (6 : Int32)), .val (.ref b276), .val (.ref b292), .val (.ref b296), .val (.int ((XT.ushr p5 (8 : Int32)) &&& (3 : Int32))), .val (.int wv), .val (.int wv)]) W302 at_418 rfl ?_
            refine g_goto 444 (pc := 420) W302 at_420 (by decide) (by decide) ?_
            exact cut304 (wv, (.val (.int wv) : Slot)) (Or.inr ⟨_, rfl⟩)
  · refine g_iload (pc := 12) W0 at_12 rfl ?_
    refine g_iload (pc := 14) W0 at_14 rfl ?_
    refine g_icmp_le 31 (pc := 16) W0 at_16 (by decide) (by decide) (fun c315 => ?_) (fun c315 => ?_)
    · refine g_iload (pc := 31) W0 at_31 rfl ?_
      refine g_iload (pc := 33) W0 at_33 rfl ?_
      refine g_icmp_le 50 (pc := 35) W0 at_35 (by decide) (by decide) (fun c316 => ?_) (fun c316 => ?_)
      · refine g_iload (pc := 50) W0 at_50 rfl ?_
        refine g_iload (pc := 52) W0 at_52 rfl ?_
        refine g_icmp_le 69 (pc := 54) W0 at_54 (by decide) (by decide) (fun c317 => ?_) (fun c317 => ?_)
        · refine g_iload (pc := 69) W0 at_69 rfl ?_
          refine g_iload (pc := 71) W0 at_71 rfl ?_
          refine g_icmp_le 88 (pc := 73) W0 at_73 (by decide) (by decide) (fun c318 => ?_) (fun c318 => ?_)
          · refine g_iload (pc := 88) W0 at_88 rfl ?_
            refine g_iload (pc := 90) W0 at_90 rfl ?_
            refine g_icmp_le 107 (pc := 92) W0 at_92 (by decide) (by decide) (fun c319 => ?_) (fun c319 => ?_)
            · exact cut2 (p0, p1, p2, p3, (.unset : Slot)) (by simp only [Int32.lt_iff_toInt_lt] at c315 c316 c317 c318 c319; dsimp only; omega)
            · refine g_iload (pc := 95) W0 at_95 rfl ?_
              refine g_istore (pc := 97) (ls' := #[.val (.int p0), .val (.int p1), .val (.int p2), .val (.int p3), .val (.int p4), .val (.int p5), .val (.int p0), .val (.int p1), .val (.int p2), .val (.int p3), .val (.int p1), .unset, .unset, .unset, .unset, .unset, .unset, .unset, .unset, .unset, .unset]) W0 at_97 rfl ?_
              refine g_iload (pc := 99) W0 at_99 rfl ?_
              refine g_istore (pc := 101) (ls' := #[.val (.int p0), .val (.int p1), .val (.int p2), .val (.int p3), .val (.int p4), .val (.int p5), .val (.int p0), .val (.int p2), .val (.int p2), .val (.int p3), .val (.int p1), .unset, .unset, .unset, .unset, .unset, .unset, .unset, .unset, .unset, .unset]) W0 at_101 rfl ?_
              refine g_iload (pc := 103) W0 at_103 rfl ?_
              refine g_istore (pc := 105) (ls' := #[.val (.int p0), .val (.int p1), .val (.int p2), .val (.int p3), .val (.int p4), .val (.int p5), .val (.int p0), .val (.int p2), .val (.int p1), .val (.int p3), .val (.int p1), .unset, .unset, .unset, .unset, .unset, .unset, .unset, .unset, .unset, .unset]) W0 at_105 rfl ?_
              exact cut2 (p0, p2, p1, p3, (.val (.int p1) : Slot)) (by simp only [Int32.lt_iff_toInt_lt] at c315 c316 c317 c318 c319; dsimp only; omega)
          · refine g_iload (pc := 76) W0 at_76 rfl ?_
            refine g_istore (pc := 78) (ls' := #[.val (.int p0), .val (.int p1), .val (.int p2), .val (.int p3), .val (.int p4), .val (.int p5), .val (.int p0), .val (.int p1), .val (.int p2), .val (.int p3), .val (.int p1), .unset, .unset, .unset, .unset, .unset, .unset, .unset, .unset, .unset, .unset]) W0 at_78 rfl ?_
            refine g_iload (pc := 80) W0 at_80 rfl ?_
            refine g_istore (pc := 82) (ls' := #[.val (.int p0), .val (.int p1), .val (.int p2), .val (.int p3), .val (.int p4), .val (.int p5), .val (.int p0), .val (.int p3), .val (.int p2), .val (.int p3), .val (.int p1), .unset, .unset, .unset, .unset, .unset, .unset, .unset, .unset, .unset, .unset]) W0 at_82 rfl ?_
            refine g_iload (pc := 84) W0 at_84 rfl ?_
            refine g_istore (pc := 86) (ls' := #[.val (.int p0), .val (.int p1), .val (.int p2), .val (.int p3), .val (.int p4), .val (.int p5), .val (.int p0), .val (.int p3), .val (.int p2), .val (.int p1), .val (.int p1), .unset, .unset, .unset, .unset, .unset, .unset, .unset, .unset, .unset, .unset]) W0 at_86 rfl ?_
            refine g_iload (pc := 88) W0 at_88 rfl ?_
            refine g_iload (pc := 90) W0 at_90 rfl ?_
            refine g_icmp_le 107 (pc := 92) W0 at_92 (by decide) (by decide) (fun c320 => ?_) (fun c320 => ?_)
            · exact cut2 (p0, p3, p2, p1, (.val (.int p1) : Slot)) (by simp only [Int32.lt_iff_toInt_lt] at c315 c316 c317 c318 c320; dsimp only; omega)
            · refine g_iload (pc := 95) W0 at_95 rfl ?_
              refine g_istore (pc := 97) (ls' := #[.val (.int p0), .val (.int p1), .val (.int p2), .val (.int p3), .val (.int p4), .val (.int p5), .val (.int p0), .val (.int p3), .val (.int p2), .val (.int p1), .val (.int p3), .unset, .unset, .unset, .unset, .unset, .unset, .unset, .unset, .unset, .unset]) W0 at_97 rfl ?_
              refine g_iload (pc := 99) W0 at_99 rfl ?_
              refine g_istore (pc := 101) (ls' := #[.val (.int p0), .val (.int p1), .val (.int p2), .val (.int p3), .val (.int p4), .val (.int p5), .val (.int p0), .val (.int p2), .val (.int p2), .val (.int p1), .val (.int p3), .unset, .unset, .unset, .unset, .unset, .unset, .unset, .unset, .unset, .unset]) W0 at_101 rfl ?_
              refine g_iload (pc := 103) W0 at_103 rfl ?_
              refine g_istore (pc := 105) (ls' := #[.val (.int p0), .val (.int p1), .val (.int p2), .val (.int p3), .val (.int p4), .val (.int p5), .val (.int p0), .val (.int p2), .val (.int p3), .val (.int p1), .val (.int p3), .unset, .unset, .unset, .unset, .unset, .unset, .unset, .unset, .unset, .unset]) W0 at_105 rfl ?_
              exact cut2 (p0, p2, p3, p1, (.val (.int p3) : Slot)) (by simp only [Int32.lt_iff_toInt_lt] at c315 c316 c317 c318 c320; dsimp only; omega)
        · refine g_iload (pc := 57) W0 at_57 rfl ?_
          refine g_istore (pc := 59) (ls' := #[.val (.int p0), .val (.int p1), .val (.int p2), .val (.int p3), .val (.int p4), .val (.int p5), .val (.int p0), .val (.int p1), .val (.int p2), .val (.int p3), .val (.int p0), .unset, .unset, .unset, .unset, .unset, .unset, .unset, .unset, .unset, .unset]) W0 at_59 rfl ?_
          refine g_iload (pc := 61) W0 at_61 rfl ?_
          refine g_istore (pc := 63) (ls' := #[.val (.int p0), .val (.int p1), .val (.int p2), .val (.int p3), .val (.int p4), .val (.int p5), .val (.int p2), .val (.int p1), .val (.int p2), .val (.int p3), .val (.int p0), .unset, .unset, .unset, .unset, .unset, .unset, .unset, .unset, .unset, .unset]) W0 at_63 rfl ?_
          refine g_iload (pc := 65) W0 at_65 rfl ?_
          refine g_istore (pc := 67) (ls' := #[.val (.int p0), .val (.int p1), .val (.int p2), .val (.int p3), .val (.int p4), .val (.int p5), .val (.int p2), .val (.int p1), .val (.int p0), .val (.int p3), .val (.int p0), .unset, .unset, .unset, .unset, .unset, .unset, .unset, .unset, .unset, .unset]) W0 at_67 rfl ?_
          refine g_iload (pc := 69) W0 at_69 rfl ?_
          refine g_iload (pc := 71) W0 at_71 rfl ?_
          refine g_icmp_le 88 (pc := 73) W0 at_73 (by decide) (by decide) (fun c321 => ?_) (fun c321 => ?_)
          · refine g_iload (pc := 88) W0 at_88 rfl ?_
            refine g_iload (pc := 90) W0 at_90 rfl ?_
            refine g_icmp_le 107 (pc := 92) W0 at_92 (by decide) (by decide) (fun c322 => ?_) (fun c322 => ?_)
            · exact cut2 (p2, p1, p0, p3, (.val (.int p0) : Slot)) (by simp only [Int32.lt_iff_toInt_lt] at c315 c316 c317 c321 c322; dsimp only; omega)
            · refine g_iload (pc := 95) W0 at_95 rfl ?_
              refine g_istore (pc := 97) (ls' := #[.val (.int p0), .val (.int p1), .val (.int p2), .val (.int p3), .val (.int p4), .val (.int p5), .val (.int p2), .val (.int p1), .val (.int p0), .val (.int p3), .val (.int p1), .unset, .unset, .unset, .unset, .unset, .unset, .unset, .unset, .unset, .unset]) W0 at_97 rfl ?_
              refine g_iload (pc := 99) W0 at_99 rfl ?_
              refine g_istore (pc := 101) (ls' := #[.val (.int p0), .val (.int p1), .val (.int p2), .val (.int p3), .val (.int p4), .val (.int p5), .val (.int p2), .val (.int p0), .val (.int p0), .val (.int p3), .val (.int p1), .unset, .unset, .unset, .unset, .unset, .unset, .unset, .unset, .unset, .unset]) W0 at_101 rfl ?_
              refine g_iload (pc := 103) W0 at_103 rfl ?_
              refine g_istore (pc := 105) (ls' := #[.val (.int p0), .val (.int p1), .val (.int p2), .val (.int p3), .val (.int p4), .val (.int p5), .val (.int p2), .val (.int p0), .val (.int p1), .val (.int p3), .val (.int p1), .unset, .unset, .unset, .unset, .unset, .unset, .unset, .unset, .unset, .unset]) W0 at_105 rfl ?_
              exact cut2 (p2, p0, p1, p3, (.val (.int p1) : Slot)) (by simp only [Int32.lt_iff_toInt_lt] at c315 c316 c317 c321 c322; dsimp only; omega)
          · refine g_iload (pc := 76) W0 at_76 rfl ?_
            refine g_istore (pc := 78) (ls' := #[.val (.int p0), .val (.int p1), .val (.int p2), .val (.int p3), .val (.int p4), .val (.int p5), .val (.int p2), .val (.int p1), .val (.int p0), .val (.int p3), .val (.int p1), .unset, .unset, .unset, .unset, .unset, .unset, .unset, .unset, .unset, .unset]) W0 at_78 rfl ?_
            refine g_iload (pc := 80) W0 at_80 rfl ?_
            refine g_istore (pc := 82) (ls' := #[.val (.int p0), .val (.int p1), .val (.int p2), .val (.int p3), .val (.int p4), .val (.int p5), .val (.int p2), .val (.int p3), .val (.int p0), .val (.int p3), .val (.int p1), .unset, .unset, .unset, .unset, .unset, .unset, .unset, .unset, .unset, .unset]) W0 at_82 rfl ?_
            refine g_iload (pc := 84) W0 at_84 rfl ?_
            refine g_istore (pc := 86) (ls' := #[.val (.int p0), .val (.int p1), .val (.int p2), .val (.int p3), .val (.int p4), .val (.int p5), .val (.int p2), .val (.int p3), .val (.int p0), .val (.int p1), .val (.int p1), .unset, .unset, .unset, .unset, .unset, .unset, .unset, .unset, .unset, .unset]) W0 at_86 rfl ?_
            refine g_iload (pc := 88) W0 at_88 rfl ?_
            refine g_iload (pc := 90) W0 at_90 rfl ?_
            refine g_icmp_le 107 (pc := 92) W0 at_92 (by decide) (by decide) (fun c323 => ?_) (fun c323 => ?_)
            · exact cut2 (p2, p3, p0, p1, (.val (.int p1) : Slot)) (by simp only [Int32.lt_iff_toInt_lt] at c315 c316 c317 c321 c323; dsimp only; omega)
            · refine g_iload (pc := 95) W0 at_95 rfl ?_
              refine g_istore (pc := 97) (ls' := #[.val (.int p0), .val (.int p1), .val (.int p2), .val (.int p3), .val (.int p4), .val (.int p5), .val (.int p2), .val (.int p3), .val (.int p0), .val (.int p1), .val (.int p3), .unset, .unset, .unset, .unset, .unset, .unset, .unset, .unset, .unset, .unset]) W0 at_97 rfl ?_
              refine g_iload (pc := 99) W0 at_99 rfl ?_
              refine g_istore (pc := 101) (ls' := #[.val (.int p0), .val (.int p1), .val (.int p2), .val (.int p3), .val (.int p4), .val (.int p5), .val (.int p2), .val (.int p0), .val (.int p0), .val (.int p1), .val (.int p3), .unset, .unset, .unset, .unset, .unset, .unset, .unset, .unset, .unset, .unset]) W0 at_101 rfl ?_
              refine g_iload (pc := 103) W0 at_103 rfl ?_
              refine g_istore (pc := 105) (ls' := #[.val (.int p0), .val (.int p1), .val (.int p2), .val (.int p3), .val (.int p4), .val (.int p5), .val (.int p2), .val (.int p0), .val (.int p3), .val (.int p1), .val (.int p3), .unset, .unset, .unset, .unset, .unset, .unset, .unset, .unset, .unset, .unset]) W0 at_105 rfl ?_
              exact cut2 (p2, p0, p3, p1, (.val (.int p3) : Slot)) (by simp only [Int32.lt_iff_toInt_lt] at c315 c316 c317 c321 c323; dsimp only; omega)
      · refine g_iload (pc := 38) W0 at_38 rfl ?_
        refine g_istore (pc := 40) (ls' := #[.val (.int p0), .val (.int p1), .val (.int p2), .val (.int p3), .val (.int p4), .val (.int p5), .val (.int p0), .val (.int p1), .val (.int p2), .val (.int p3), .val (.int p2), .unset, .unset, .unset, .unset, .unset, .unset, .unset, .unset, .unset, .unset]) W0 at_40 rfl ?_
        refine g_iload (pc := 42) W0 at_42 rfl ?_
        refine g_istore (pc := 44) (ls' := #[.val (.int p0), .val (.int p1), .val (.int p2), .val (.int p3), .val (.int p4), .val (.int p5), .val (.int p0), .val (.int p1), .val (.int p3), .val (.int p3), .val (.int p2), .unset, .unset, .unset, .unset, .unset, .unset, .unset, .unset, .unset, .unset]) W0 at_44 rfl ?_
        refine g_iload (pc := 46) W0 at_46 rfl ?_
        refine g_istore (pc := 48) (ls' := #[.val (.int p0), .val (.int p1), .val (.int p2), .val (.int p3), .val (.int p4), .val (.int p5), .val (.int p0), .val (.int p1), .val (.int p3), .val (.int p2), .val (.int p2), .unset, .unset, .unset, .unset, .unset, .unset, .unset, .unset, .unset, .unset]) W0 at_48 rfl ?_
        refine g_iload (pc := 50) W0 at_50 rfl ?_
        refine g_iload (pc := 52) W0 at_52 rfl ?_
        refine g_icmp_le 69 (pc := 54) W0 at_54 (by decide) (by decide) (fun c324 => ?_) (fun c324 => ?_)
        · refine g_iload (pc := 69) W0 at_69 rfl ?_
          refine g_iload (pc := 71) W0 at_71 rfl ?_
          refine g_icmp_le 88 (pc := 73) W0 at_73 (by decide) (by decide) (fun c325 => ?_) (fun c325 => ?_)
          · refine g_iload (pc := 88) W0 at_88 rfl ?_
            refine g_iload (pc := 90) W0 at_90 rfl ?_
            refine g_icmp_le 107 (pc := 92) W0 at_92 (by decide) (by decide) (fun c326 => ?_) (fun c326 => ?_)
            · exact cut2 (p0, p1, p3, p2, (.val (.int p2) : Slot)) (by simp only [Int32.lt_iff_toInt_lt] at c315 c316 c324 c325 c326; dsimp only; omega)
            · refine g_iload (pc := 95) W0 at_95 rfl ?_
              refine g_istore (pc := 97) (ls' := #[.val (.int p0), .val (.int p1), .val (.int p2), .val (.int p3), .val (.int p4), .val (.int p5), .val (.int p0), .val (.int p1), .val (.int p3), .val (.int p2), .val (.int p1), .unset, .unset, .unset, .unset, .unset, .unset, .unset, .unset, .unset, .unset]) W0 at_97 rfl ?_
              refine g_iload (pc := 99) W0 at_99 rfl ?_
              refine g_istore (pc := 101) (ls' := #[.val (.int p0), .val (.int p1), .val (.int p2), .val (.int p3), .val (.int p4), .val (.int p5), .val (.int p0), .val (.int p3), .val (.int p3), .val (.int p2), .val (.int p1), .unset, .unset, .unset, .unset, .unset, .unset, .unset, .unset, .unset, .unset]) W0 at_101 rfl ?_
              refine g_iload (pc := 103) W0 at_103 rfl ?_
              refine g_istore (pc := 105) (ls' := #[.val (.int p0), .val (.int p1), .val (.int p2), .val (.int p3), .val (.int p4), .val (.int p5), .val (.int p0), .val (.int p3), .val (.int p1), .val (.int p2), .val (.int p1), .unset, .unset, .unset, .unset, .unset, .unset, .unset, .unset, .unset, .unset]) W0 at_105 rfl ?_
              exact cut2 (p0, p3, p1, p2, (.val (.int p1) : Slot)) (by simp only [Int32.lt_iff_toInt_lt] at c315 c316 c324 c325 c326; dsimp only; omega)
          · refine g_iload (pc := 76) W0 at_76 rfl ?_
            refine g_istore (pc := 78) (ls' := #[.val (.int p0), .val (.int p1), .val (.int p2), .val (.int p3), .val (.int p4), .val (.int p5), .val (.int p0), .val (.int p1), .val (.int p3), .val (.int p2), .val (.int p1), .unset, .unset, .unset, .unset, .unset, .unset, .unset, .unset, .unset, .unset]) W0 at_78 rfl ?_
            refine g_iload (pc := 80) W0 at_80 rfl ?_
            refine g_istore (pc := 82) (ls' := #[.val (.int p0), .val (.int p1), .val (.int p2), .val (.int p3), .val (.int p4), .val (.int p5), .val (.int p0), .val (.int p2), .val (.int p3), .val (.int p2), .val (.int p1), .unset, .unset, .unset, .unset, .unset, .unset, .unset, .unset, .unset, .unset]) W0 at_82 rfl ?_
            refine g_iload (pc := 84) W0 at_84 rfl ?_
            refine g_istore (pc := 86) (ls' := #[.val (.int p0), .val (.int p1), .val (.int p2), .val (.int p3), .val (.int p4), .val (.int p5), .val (.int p0), .val (.int p2), .val (.int p3), .val (.int p1), .val (.int p1), .unset, .unset, .unset, .unset, .unset, .unset, .unset, .unset, .unset, .unset]) W0 at_86 rfl ?_
            refine g_iload (pc := 88) W0 at_88 rfl ?_
            refine g_iload (pc := 90) W0 at_90 rfl ?_
            refine g_icmpN (pc := 92) W0 at_92 (tlt c316).2.2.2 ?_
            refine g_iload (pc := 95) W0 at_95 rfl ?_
            refine g_istore (pc := 97) (ls' := #[.val (.int p0), .val (.int p1), .val (.int p2), .val (.int p3), .val (.int p4), .val (.int p5), .val (.int p0), .val (.int p2), .val (.int p3), .val (.int p1), .val (.int p2), .unset, .unset, .unset, .unset, .unset, .unset, .unset, .unset, .unset, .unset]) W0 at_97 rfl ?_
            refine g_iload (pc := 99) W0 at_99 rfl ?_
            refine g_istore (pc := 101) (ls' := #[.val (.int p0), .val (.int p1), .val (.int p2), .val (.int p3), .val (.int p4), .val (.int p5), .val (.int p0), .val (.int p3), .val (.int p3), .val (.int p1), .val (.int p2), .unset, .unset, .unset, .unset, .unset, .unset, .unset, .unset, .unset, .unset]) W0 at_101 rfl ?_
            refine g_iload (pc := 103) W0 at_103 rfl ?_
            refine g_istore (pc := 105) (ls' := #[.val (.int p0), .val (.int p1), .val (.int p2), .val (.int p3), .val (.int p4), .val (.int p5), .val (.int p0), .val (.int p3), .val (.int p2), .val (.int p1), .val (.int p2), .unset, .unset, .unset, .unset, .unset, .unset, .unset, .unset, .unset, .unset]) W0 at_105 rfl ?_
            exact cut2 (p0, p3, p2, p1, (.val (.int p2) : Slot)) (by simp only [Int32.lt_iff_toInt_lt] at c315 c316 c324 c325; dsimp only; omega)
        · refine g_iload (pc := 57) W0 at_57 rfl ?_
          refine g_istore (pc := 59) (ls' := #[.val (.int p0), .val (.int p1), .val (.int p2), .val (.int p3), .val (.int p4), .val (.int p5), .val (.int p0), .val (.int p1), .val (.int p3), .val (.int p2), .val (.int p0), .unset, .unset, .unset, .unset, .unset, .unset, .unset, .unset, .unset, .unset]) W0 at_59 rfl ?_
          refine g_iload (pc := 61) W0 at_61 rfl ?_
          refine g_istore (pc := 63) (ls' := #[.val (.int p0), .val (.int p1), .val (.int p2), .val (.int p3), .val (.int p4), .val (.int p5), .val (.int p3), .val (.int p1), .val (.int p3), .val (.int p2), .val (.int p0), .unset, .unset, .unset, .unset, .unset, .unset, .unset, .unset, .unset, .unset]) W0 at_63 rfl ?_
          refine g_iload (pc := 65) W0 at_65 rfl ?_
          refine g_istore (pc := 67) (ls' := #[.val (.int p0), .val (.int p1), .val (.int p2), .val (.int p3), .val (.int p4), .val (.int p5), .val (.int p3), .val (.int p1), .val (.int p0), .val (.int p2), .val (.int p0), .unset, .unset, .unset, .unset, .unset, .unset, .unset, .unset, .unset, .unset]) W0 at_67 rfl ?_
          refine g_iload (pc := 69) W0 at_69 rfl ?_
          refine g_iload (pc := 71) W0 at_71 rfl ?_
          refine g_icmp_le 88 (pc := 73) W0 at_73 (by decide) (by decide) (fun c327 => ?_) (fun c327 => ?_)
          · refine g_iload (pc := 88) W0 at_88 rfl ?_
            refine g_iload (pc := 90) W0 at_90 rfl ?_
            refine g_icmp_le 107 (pc := 92) W0 at_92 (by decide) (by decide) (fun c328 => ?_) (fun c328 => ?_)
            · exact cut2 (p3, p1, p0, p2, (.val (.int p0) : Slot)) (by simp only [Int32.lt_iff_toInt_lt] at c315 c316 c324 c327 c328; dsimp only; omega)
            · refine g_iload (pc := 95) W0 at_95 rfl ?_
              refine g_istore (pc := 97) (ls' := #[.val (.int p0), .val (.int p1), .val (.int p2), .val (.int p3), .val (.int p4), .val (.int p5), .val (.int p3), .val (.int p1), .val (.int p0), .val (.int p2), .val (.int p1), .unset, .unset, .unset, .unset, .unset, .unset, .unset, .unset, .unset, .unset]) W0 at_97 rfl ?_
              refine g_iload (pc := 99) W0 at_99 rfl ?_
              refine g_istore (pc := 101) (ls' := #[.val (.int p0), .val (.int p1), .val (.int p2), .val (.int p3), .val (.int p4), .val (.int p5), .val (.int p3), .val (.int p0), .val (.int p0), .val (.int p2), .val (.int p1), .unset, .unset, .unset, .unset, .unset, .unset, .unset, .unset, .unset, .unset]) W0 at_101 rfl ?_
              refine g_iload (pc := 103) W0 at_103 rfl ?_
              refine g_istore (pc := 105) (ls' := #[.val (.int p0), .val (.int p1), .val (.int p2), .val (.int p3), .val (.int p4), .val (.int p5), .val (.int p3), .val (.int p0), .val (.int p1), .val (.int p2), .val (.int p1), .unset, .unset, .unset, .unset, .unset, .unset, .unset, .unset, .unset, .unset]) W0 at_105 rfl ?_
              exact cut2 (p3, p0, p1, p2, (.val (.int p1) : Slot)) (by simp only [Int32.lt_iff_toInt_lt] at c315 c316 c324 c327 c328; dsimp only; omega)
          · refine g_iload (pc := 76) W0 at_76 rfl ?_
            refine g_istore (pc := 78) (ls' := #[.val (.int p0), .val (.int p1), .val (.int p2), .val (.int p3), .val (.int p4), .val (.int p5), .val (.int p3), .val (.int p1), .val (.int p0), .val (.int p2), .val (.int p1), .unset, .unset, .unset, .unset, .unset, .unset, .unset, .unset, .unset, .unset]) W0 at_78 rfl ?_
            refine g_iload (pc := 80) W0 at_80 rfl ?_
            refine g_istore (pc := 82) (ls' := #[.val (.int p0), .val (.int p1), .val (.int p2), .val (.int p3), .val (.int p4), .val (.int p5), .val (.int p3), .val (.int p2), .val (.int p0), .val (.int p2), .val (.int p1), .unset, .unset, .unset, .unset, .unset, .unset, .unset, .unset, .unset, .unset]) W0 at_82 rfl ?_
            refine g_iload (pc := 84) W0 at_84 rfl ?_
            refine g_istore (pc := 86) (ls' := #[.val (.int p0), .val (.int p1), .val (.int p2), .val (.int p3), .val (.int p4), .val (.int p5), .val (.int p3), .val (.int p2), .val (.int p0), .val (.int p1), .val (.int p1), .unset, .unset, .unset, .unset, .unset, .unset, .unset, .unset, .unset, .unset]) W0 at_86 rfl ?_
            refine g_iload (pc := 88) W0 at_88 rfl ?_
            refine g_iload (pc := 90) W0 at_90 rfl ?_
            refine g_icmp_le 107 (pc := 92) W0 at_92 (by decide) (by decide) (fun c329 => ?_) (fun c329 => ?_)
            · exact cut2 (p3, p2, p0, p1, (.val (.int p1) : Slot)) (by simp only [Int32.lt_iff_toInt_lt] at c315 c316 c324 c327 c329; dsimp only; omega)
            · refine g_iload (pc := 95) W0 at_95 rfl ?_
              refine g_istore (pc := 97) (ls' := #[.val (.int p0), .val (.int p1), .val (.int p2), .val (.int p3), .val (.int p4), .val (.int p5), .val (.int p3), .val (.int p2), .val (.int p0), .val (.int p1), .val (.int p2), .unset, .unset, .unset, .unset, .unset, .unset, .unset, .unset, .unset, .unset]) W0 at_97 rfl ?_
              refine g_iload (pc := 99) W0 at_99 rfl ?_
              refine g_istore (pc := 101) (ls' := #[.val (.int p0), .val (.int p1), .val (.int p2), .val (.int p3), .val (.int p4), .val (.int p5), .val (.int p3), .val (.int p0), .val (.int p0), .val (.int p1), .val (.int p2), .unset, .unset, .unset, .unset, .unset, .unset, .unset, .unset, .unset, .unset]) W0 at_101 rfl ?_
              refine g_iload (pc := 103) W0 at_103 rfl ?_
              refine g_istore (pc := 105) (ls' := #[.val (.int p0), .val (.int p1), .val (.int p2), .val (.int p3), .val (.int p4), .val (.int p5), .val (.int p3), .val (.int p0), .val (.int p2), .val (.int p1), .val (.int p2), .unset, .unset, .unset, .unset, .unset, .unset, .unset, .unset, .unset, .unset]) W0 at_105 rfl ?_
              exact cut2 (p3, p0, p2, p1, (.val (.int p2) : Slot)) (by simp only [Int32.lt_iff_toInt_lt] at c315 c316 c324 c327 c329; dsimp only; omega)
    · refine g_iload (pc := 19) W0 at_19 rfl ?_
      refine g_istore (pc := 21) (ls' := #[.val (.int p0), .val (.int p1), .val (.int p2), .val (.int p3), .val (.int p4), .val (.int p5), .val (.int p0), .val (.int p1), .val (.int p2), .val (.int p3), .val (.int p0), .unset, .unset, .unset, .unset, .unset, .unset, .unset, .unset, .unset, .unset]) W0 at_21 rfl ?_
      refine g_iload (pc := 23) W0 at_23 rfl ?_
      refine g_istore (pc := 25) (ls' := #[.val (.int p0), .val (.int p1), .val (.int p2), .val (.int p3), .val (.int p4), .val (.int p5), .val (.int p1), .val (.int p1), .val (.int p2), .val (.int p3), .val (.int p0), .unset, .unset, .unset, .unset, .unset, .unset, .unset, .unset, .unset, .unset]) W0 at_25 rfl ?_
      refine g_iload (pc := 27) W0 at_27 rfl ?_
      refine g_istore (pc := 29) (ls' := #[.val (.int p0), .val (.int p1), .val (.int p2), .val (.int p3), .val (.int p4), .val (.int p5), .val (.int p1), .val (.int p0), .val (.int p2), .val (.int p3), .val (.int p0), .unset, .unset, .unset, .unset, .unset, .unset, .unset, .unset, .unset, .unset]) W0 at_29 rfl ?_
      refine g_iload (pc := 31) W0 at_31 rfl ?_
      refine g_iload (pc := 33) W0 at_33 rfl ?_
      refine g_icmp_le 50 (pc := 35) W0 at_35 (by decide) (by decide) (fun c330 => ?_) (fun c330 => ?_)
      · refine g_iload (pc := 50) W0 at_50 rfl ?_
        refine g_iload (pc := 52) W0 at_52 rfl ?_
        refine g_icmp_le 69 (pc := 54) W0 at_54 (by decide) (by decide) (fun c331 => ?_) (fun c331 => ?_)
        · refine g_iload (pc := 69) W0 at_69 rfl ?_
          refine g_iload (pc := 71) W0 at_71 rfl ?_
          refine g_icmp_le 88 (pc := 73) W0 at_73 (by decide) (by decide) (fun c332 => ?_) (fun c332 => ?_)
          · refine g_iload (pc := 88) W0 at_88 rfl ?_
            refine g_iload (pc := 90) W0 at_90 rfl ?_
            refine g_icmp_le 107 (pc := 92) W0 at_92 (by decide) (by decide) (fun c333 => ?_) (fun c333 => ?_)
            · exact cut2 (p1, p0, p2, p3, (.val (.int p0) : Slot)) (by simp only [Int32.lt_iff_toInt_lt] at c315 c330 c331 c332 c333; dsimp only; omega)
            · refine g_iload (pc := 95) W0 at_95 rfl ?_
              refine g_istore (pc := 97) (ls' := #[.val (.int p0), .val (.int p1), .val (.int p2), .val (.int p3), .val (.int p4), .val (.int p5), .val (.int p1), .val (.int p0), .val (.int p2), .val (.int p3), .val (.int p0), .unset, .unset, .unset, .unset, .unset, .unset, .unset, .unset, .unset, .unset]) W0 at_97 rfl ?_
              refine g_iload (pc := 99) W0 at_99 rfl ?_
              refine g_istore (pc := 101) (ls' := #[.val (.int p0), .val (.int p1), .val (.int p2), .val (.int p3), .val (.int p4), .val (.int p5), .val (.int p1), .val (.int p2), .val (.int p2), .val (.int p3), .val (.int p0), .unset, .unset, .unset, .unset, .unset, .unset, .unset, .unset, .unset, .unset]) W0 at_101 rfl ?_
              refine g_iload (pc := 103) W0 at_103 rfl ?_
              refine g_istore (pc := 105) (ls' := #[.val (.int p0), .val (.int p1), .val (.int p2), .val (.int p3), .val (.int p4), .val (.int p5), .val (.int p1), .val (.int p2), .val (.int p0), .val (.int p3), .val (.int p0), .unset, .unset, .unset, .unset, .unset, .unset, .unset, .unset, .unset, .unset]) W0 at_105 rfl ?_
              exact cut2 (p1, p2, p0, p3, (.val (.int p0) : Slot)) (by simp only [Int32.lt_iff_toInt_lt] at c315 c330 c331 c332 c333; dsimp only; omega)
          · refine g_iload (pc := 76) W0 at_76 rfl ?_
            refine g_istore (pc := 78) (ls' := #[.val (.int p0), .val (.int p1), .val (.int p2), .val (.int p3), .val (.int p4), .val (.int p5), .val (.int p1), .val (.int p0), .val (.int p2), .val (.int p3), .val (.int p0), .unset, .unset, .unset, .unset, .unset, .unset, .unset, .unset, .unset, .unset]) W0 at_78 rfl ?_
            refine g_iload (pc := 80) W0 at_80 rfl ?_
            refine g_istore (pc := 82) (ls' := #[.val (.int p0), .val (.int p1), .val (.int p2), .val (.int p3), .val (.int p4), .val (.int p5), .val (.int p1), .val (.int p3), .val (.int p2), .val (.int p3), .val (.int p0), .unset, .unset, .unset, .unset, .unset, .unset, .unset, .unset, .unset, .unset]) W0 at_82 rfl ?_
            refine g_iload (pc := 84) W0 at_84 rfl ?_
            refine g_istore (pc := 86) (ls' := #[.val (.int p0), .val (.int p1), .val (.int p2), .val (.int p3), .val (.int p4), .val (.int p5), .val (.int p1), .val (.int p3), .val (.int p2), .val (.int p0), .val (.int p0), .unset, .unset, .unset, .unset, .unset, .unset, .unset, .unset, .unset, .unset]) W0 at_86 rfl ?_
            refine g_iload (pc := 88) W0 at_88 rfl ?_
            refine g_iload (pc := 90) W0 at_90 rfl ?_
            refine g_icmp_le 107 (pc := 92) W0 at_92 (by decide) (by decide) (fun c334 => ?_) (fun c334 => ?_)
            · exact cut2 (p1, p3, p2, p0, (.val (.int p0) : Slot)) (by simp only [Int32.lt_iff_toInt_lt] at c315 c330 c331 c332 c334; dsimp only; omega)
            · refine g_iload (pc := 95) W0 at_95 rfl ?_
              refine g_istore (pc := 97) (ls' := #[.val (.int p0), .val (.int p1), .val (.int p2), .val (.int p3), .val (.int p4), .val (.int p5), .val (.int p1), .val (.int p3), .val (.int p2), .val (.int p0), .val (.int p3), .unset, .unset, .unset, .unset, .unset, .unset, .unset, .unset, .unset, .unset]) W0 at_97 rfl ?_
              refine g_iload (pc := 99) W0 at_99 rfl ?_
              refine g_istore (pc := 101) (ls' := #[.val (.int p0), .val (.int p1), .val (.int p2), .val (.int p3), .val (.int p4), .val (.int p5), .val (.int p1), .val (.int p2), .val (.int p2), .val (.int p0), .val (.int p3), .unset, .unset, .unset, .unset, .unset, .unset, .unset, .unset, .unset, .unset]) W0 at_101 rfl ?_
              refine g_iload (pc := 103) W0 at_103 rfl ?_
              refine g_istore (pc := 105) (ls' := #[.val (.int p0), .val (.int p1), .val (.int p2), .val (.int p3), .val (.int p4), .val (.int p5), .val (.int p1), .val (.int p2), .val (.int p3), .val (.int p0), .val (.int p3), .unset, .unset, .unset, .unset, .unset, .unset, .unset, .unset, .unset, .unset]) W0 at_105 rfl ?_
              exact cut2 (p1, p2, p3, p0, (.val (.int p3) : Slot)) (by simp only [Int32.lt_iff_toInt_lt] at c315 c330 c331 c332 c334; dsimp only; omega)
        · refine g_iload (pc := 57) W0 at_57 rfl ?_
          refine g_istore (pc := 59) (ls' := #[.val (.int p0), .val (.int p1), .val (.int p2), .val (.int p3), .val (.int p4), .val (.int p5), .val (.int p1), .val (.int p0), .val (.int p2), .val (.int p3), .val (.int p1), .unset, .unset, .unset, .unset, .unset, .unset, .unset, .unset, .unset, .unset]) W0 at_59 rfl ?_
          refine g_iload (pc := 61) W0 at_61 rfl ?_
          refine g_istore (pc := 63) (ls' := #[.val (.int p0), .val (.int p1), .val (.int p2), .val (.int p3), .val (.int p4), .val (.int p5), .val (.int p2), .val (.int p0), .val (.int p2), .val (.int p3), .val (.int p1), .unset, .unset, .unset, .unset, .unset, .unset, .unset, .unset, .unset, .unset]) W0 at_63 rfl ?_
          refine g_iload (pc := 65) W0 at_65 rfl ?_
          refine g_istore (pc := 67) (ls' := #[.val (.int p0), .val (.int p1), .val (.int p2), .val (.int p3), .val (.int p4), .val (.int p5), .val (.int p2), .val (.int p0), .val (.int p1), .val (.int p3), .val (.int p1), .unset, .unset, .unset, .unset, .unset, .unset, .unset, .unset, .unset, .unset]) W0 at_67 rfl ?_
          refine g_iload (pc := 69) W0 at_69 rfl ?_
          refine g_iload (pc := 71) W0 at_71 rfl ?_
          refine g_icmp_le 88 (pc := 73) W0 at_73 (by decide) (by decide) (fun c335 => ?_) (fun c335 => ?_)
          · refine g_iload (pc := 88) W0 at_88 rfl ?_
            refine g_iload (pc := 90) W0 at_90 rfl ?_
            refine g_icmpN (pc := 92) W0 at_92 (tlt c315).2.2.2 ?_
            refine g_iload (pc := 95) W0 at_95 rfl ?_
            refine g_istore (pc := 97) (ls' := #[.val (.int p0), .val (.int p1), .val (.int p2), .val (.int p3), .val (.int p4), .val (.int p5), .val (.int p2), .val (.int p0), .val (.int p1), .val (.int p3), .val (.int p0), .unset, .unset, .unset, .unset, .unset, .unset, .unset, .unset, .unset, .unset]) W0 at_97 rfl ?_
            refine g_iload (pc := 99) W0 at_99 rfl ?_
            refine g_istore (pc := 101) (ls' := #[.val (.int p0), .val (.int p1), .val (.int p2), .val (.int p3), .val (.int p4), .val (.int p5), .val (.int p2), .val (.int p1), .val (.int p1), .val (.int p3), .val (.int p0), .unset, .unset, .unset, .unset, .unset, .unset, .unset, .unset, .unset, .unset]) W0 at_101 rfl ?_
            refine g_iload (pc := 103) W0 at_103 rfl ?_
            refine g_istore (pc := 105) (ls' := #[.val (.int p0), .val (.int p1), .val (.int p2), .val (.int p3), .val (.int p4), .val (.int p5), .val (.int p2), .val (.int p1), .val (.int p0), .val (.int p3), .val (.int p0), .unset, .unset, .unset, .unset, .unset, .unset, .unset, .unset, .unset, .unset]) W0 at_105 rfl ?_
            exact cut2 (p2, p1, p0, p3, (.val (.int p0) : Slot)) (by simp only [Int32.lt_iff_toInt_lt] at c315 c330 c331 c335; dsimp only; omega)
          · refine g_iload (pc := 76) W0 at_76 rfl ?_
            refine g_istore (pc := 78) (ls' := #[.val (.int p0), .val (.int p1), .val (.int p2), .val (.int p3), .val (.int p4), .val (.int p5), .val (.int p2), .val (.int p0), .val (.int p1), .val (.int p3), .val (.int p0), .unset, .unset, .unset, .unset, .unset, .unset, .unset, .unset, .unset, .unset]) W0 at_78 rfl ?_
            refine g_iload (pc := 80) W0 at_80 rfl ?_
            refine g_istore (pc := 82) (ls' := #[.val (.int p0), .val (.int p1), .val (.int p2), .val (.int p3), .val (.int p4), .val (.int p5), .val (.int p2), .val (.int p3), .val (.int p1), .val (.int p3), .val (.int p0), .unset, .unset, .unset, .unset, .unset, .unset, .unset, .unset, .unset, .unset]) W0 at_82 rfl ?_
            refine g_iload (pc := 84) W0 at_84 rfl ?_
            refine g_istore (pc := 86) (ls' := #[.val (.int p0), .val (.int p1), .val (.int p2), .val (.int p3), .val (.int p4), .val (.int p5), .val (.int p2), .val (.int p3), .val (.int p1), .val (.int p0), .val (.int p0), .unset, .unset, .unset, .unset, .unset, .unset, .unset, .unset, .unset, .unset]) W0 at_86 rfl ?_
            refine g_iload (pc := 88) W0 at_88 rfl ?_
            refine g_iload (pc := 90) W0 at_90 rfl ?_
            refine g_icmp_le 107 (pc := 92) W0 at_92 (by decide) (by decide) (fun c336 => ?_) (fun c336 => ?_)
            · exact cut2 (p2, p3, p1, p0, (.val (.int p0) : Slot)) (by simp only [Int32.lt_iff_toInt_lt] at c315 c330 c331 c335 c336; dsimp only; omega)
            · refine g_iload (pc := 95) W0 at_95 rfl ?_
              refine g_istore (pc := 97) (ls' := #[.val (.int p0), .val (.int p1), .val (.int p2), .val (.int p3), .val (.int p4), .val (.int p5), .val (.int p2), .val (.int p3), .val (.int p1), .val (.int p0), .val (.int p3), .unset, .unset, .unset, .unset, .unset, .unset, .unset, .unset, .unset, .unset]) W0 at_97 rfl ?_
              refine g_iload (pc := 99) W0 at_99 rfl ?_
              refine g_istore (pc := 101) (ls' := #[.val (.int p0), .val (.int p1), .val (.int p2), .val (.int p3), .val (.int p4), .val (.int p5), .val (.int p2), .val (.int p1), .val (.int p1), .val (.int p0), .val (.int p3), .unset, .unset, .unset, .unset, .unset, .unset, .unset, .unset, .unset, .unset]) W0 at_101 rfl ?_
              refine g_iload (pc := 103) W0 at_103 rfl ?_
              refine g_istore (pc := 105) (ls' := #[.val (.int p0), .val (.int p1), .val (.int p2), .val (.int p3), .val (.int p4), .val (.int p5), .val (.int p2), .val (.int p1), .val (.int p3), .val (.int p0), .val (.int p3), .unset, .unset, .unset, .unset, .unset, .unset, .unset, .unset, .unset, .unset]) W0 at_105 rfl ?_
              exact cut2 (p2, p1, p3, p0, (.val (.int p3) : Slot)) (by simp only [Int32.lt_iff_toInt_lt] at c315 c330 c331 c335 c336; dsimp only; omega)
      · refine g_iload (pc := 38) W0 at_38 rfl ?_
        refine g_istore (pc := 40) (ls' := #[.val (.int p0), .val (.int p1), .val (.int p2), .val (.int p3), .val (.int p4), .val (.int p5), .val (.int p1), .val (.int p0), .val (.int p2), .val (.int p3), .val (.int p2), .unset, .unset, .unset, .unset, .unset, .unset, .unset, .unset, .unset, .unset]) W0 at_40 rfl ?_
        refine g_iload (pc := 42) W0 at_42 rfl ?_
        refine g_istore (pc := 44) (ls' := #[.val (.int p0), .val (.int p1), .val (.int p2), .val (.int p3), .val (.int p4), .val (.int p5), .val (.int p1), .val (.int p0), .val (.int p3), .val (.int p3), .val (.int p2), .unset, .unset, .unset, .unset, .unset, .unset, .unset, .unset, .unset, .unset]) W0 at_44 rfl ?_
        refine g_iload (pc := 46) W0 at_46 rfl ?_
        refine g_istore (pc := 48) (ls' := #[.val (.int p0), .val (.int p1), .val (.int p2), .val (.int p3), .val (.int p4), .val (.int p5), .val (.int p1), .val (.int p0), .val (.int p3), .val (.int p2), .val (.int p2), .unset, .unset, .unset, .unset, .unset, .unset, .unset, .unset, .unset, .unset]) W0 at_48 rfl ?_
        refine g_iload (pc := 50) W0 at_50 rfl ?_
        refine g_iload (pc := 52) W0 at_52 rfl ?_
        refine g_icmp_le 69 (pc := 54) W0 at_54 (by decide) (by decide) (fun c337 => ?_) (fun c337 => ?_)
        · refine g_iload (pc := 69) W0 at_69 rfl ?_
          refine g_iload (pc := 71) W0 at_71 rfl ?_
          refine g_icmp_le 88 (pc := 73) W0 at_73 (by decide) (by decide) (fun c338 => ?_) (fun c338 => ?_)
          · refine g_iload (pc := 88) W0 at_88 rfl ?_
            refine g_iload (pc := 90) W0 at_90 rfl ?_
            refine g_icmp_le 107 (pc := 92) W0 at_92 (by decide) (by decide) (fun c339 => ?_) (fun c339 => ?_)
            · exact cut2 (p1, p0, p3, p2, (.val (.int p2) : Slot)) (by simp only [Int32.lt_iff_toInt_lt] at c315 c330 c337 c338 c339; dsimp only; omega)
            · refine g_iload (pc := 95) W0 at_95 rfl ?_
              refine g_istore (pc := 97) (ls' := #[.val (.int p0), .val (.int p1), .val (.int p2), .val (.int p3), .val (.int p4), .val (.int p5), .val (.int p1), .val (.int p0), .val (.int p3), .val (.int p2), .val (.int p0), .unset, .unset, .unset, .unset, .unset, .unset, .unset, .unset, .unset, .unset]) W0 at_97 rfl ?_
              refine g_iload (pc := 99) W0 at_99 rfl ?_
              refine g_istore (pc := 101) (ls' := #[.val (.int p0), .val (.int p1), .val (.int p2), .val (.int p3), .val (.int p4), .val (.int p5), .val (.int p1), .val (.int p3), .val (.int p3), .val (.int p2), .val (.int p0), .unset, .unset, .unset, .unset, .unset, .unset, .unset, .unset, .unset, .unset]) W0 at_101 rfl ?_
              refine g_iload (pc := 103) W0 at_103 rfl ?_
              refine g_istore (pc := 105) (ls' := #[.val (.int p0), .val (.int p1), .val (.int p2), .val (.int p3), .val (.int p4), .val (.int p5), .val (.int p1), .val (.int p3), .val (.int p0), .val (.int p2), .val (.int p0), .unset, .unset, .unset, .unset, .unset, .unset, .unset, .unset, .unset, .unset]) W0 at_105 rfl ?_
              exact cut2 (p1, p3, p0, p2, (.val (.int p0) : Slot)) (by simp only [Int32.lt_iff_toInt_lt] at c315 c330 c337 c338 c339; dsimp only; omega)
          · refine g_iload (pc := 76) W0 at_76 rfl ?_
            refine g_istore (pc := 78) (ls' := #[.val (.int p0), .val (.int p1), .val (.int p2), .val (.int p3), .val (.int p4), .val (.int p5), .val (.int p1), .val (.int p0), .val (.int p3), .val (.int p2), .val (.int p0), .unset, .unset, .unset, .unset, .unset, .unset, .unset, .unset, .unset, .unset]) W0 at_78 rfl ?_
            refine g_iload (pc := 80) W0 at_80 rfl ?_
            refine g_istore (pc := 82) (ls' := #[.val (.int p0), .val (.int p1), .val (.int p2), .val (.int p3), .val (.int p4), .val (.int p5), .val (.int p1), .val (.int p2), .val (.int p3), .val (.int p2), .val (.int p0), .unset, .unset, .unset, .unset, .unset, .unset, .unset, .unset, .unset, .unset]) W0 at_82 rfl ?_
            refine g_iload (pc := 84) W0 at_84 rfl ?_
            refine g_istore (pc := 86) (ls' := #[.val (.int p0), .val (.int p1), .val (.int p2), .val (.int p3), .val (.int p4), .val (.int p5), .val (.int p1), .val (.int p2), .val (.int p3), .val (.int p0), .val (.int p0), .unset, .unset, .unset, .unset, .unset, .unset, .unset, .unset, .unset, .unset]) W0 at_86 rfl ?_
            refine g_iload (pc := 88) W0 at_88 rfl ?_
            refine g_iload (pc := 90) W0 at_90 rfl ?_
            refine g_icmpN (pc := 92) W0 at_92 (tlt c330).2.2.2 ?_
            refine g_iload (pc := 95) W0 at_95 rfl ?_
            refine g_istore (pc := 97) (ls' := #[.val (.int p0), .val (.int p1), .val (.int p2), .val (.int p3), .val (.int p4), .val (.int p5), .val (.int p1), .val (.int p2), .val (.int p3), .val (.int p0), .val (.int p2), .unset, .unset, .unset, .unset, .unset, .unset, .unset, .unset, .unset, .unset]) W0 at_97 rfl ?_
            refine g_iload (pc := 99) W0 at_99 rfl ?_
            refine g_istore (pc := 101) (ls' := #[.val (.int p0), .val (.int p1), .val (.int p2), .val (.int p3), .val (.int p4), .val (.int p5), .val (.int p1), .val (.int p3), .val (.int p3), .val (.int p0), .val (.int p2), .unset, .unset, .unset, .unset, .unset, .unset, .unset, .unset, .unset, .unset]) W0 at_101 rfl ?_
            refine g_iload (pc := 103) W0 at_103 rfl ?_
            refine g_istore (pc := 105) (ls' := #[.val (.int p0), .val (.int p1), .val (.int p2), .val (.int p3), .val (.int p4), .val (.int p5), .val (.int p1), .val (.int p3), .val (.int p2), .val (.int p0), .val (.int p2), .unset, .unset, .unset, .unset, .unset, .unset, .unset, .unset, .unset, .unset]) W0 at_105 rfl ?_
            exact cut2 (p1, p3, p2, p0, (.val (.int p2) : Slot)) (by simp only [Int32.lt_iff_toInt_lt] at c315 c330 c337 c338; dsimp only; omega)
        · refine g_iload (pc := 57) W0 at_57 rfl ?_
          refine g_istore (pc := 59) (ls' := #[.val (.int p0), .val (.int p1), .val (.int p2), .val (.int p3), .val (.int p4), .val (.int p5), .val (.int p1), .val (.int p0), .val (.int p3), .val (.int p2), .val (.int p1), .unset, .unset, .unset, .unset, .unset, .unset, .unset, .unset, .unset, .unset]) W0 at_59 rfl ?_
          refine g_iload (pc := 61) W0 at_61 rfl ?_
          refine g_istore (pc := 63) (ls' := #[.val (.int p0), .val (.int p1), .val (.int p2), .val (.int p3), .val (.int p4), .val (.int p5), .val (.int p3), .val (.int p0), .val (.int p3), .val (.int p2), .val (.int p1), .unset, .unset, .unset, .unset, .unset, .unset, .unset, .unset, .unset, .unset]) W0 at_63 rfl ?_
          refine g_iload (pc := 65) W0 at_65 rfl ?_
          refine g_istore (pc := 67) (ls' := #[.val (.int p0), .val (.int p1), .val (.int p2), .val (.int p3), .val (.int p4), .val (.int p5), .val (.int p3), .val (.int p0), .val (.int p1), .val (.int p2), .val (.int p1), .unset, .unset, .unset, .unset, .unset, .unset, .unset, .unset, .unset, .unset]) W0 at_67 rfl ?_
          refine g_iload (pc := 69) W0 at_69 rfl ?_
          refine g_iload (pc := 71) W0 at_71 rfl ?_
          refine g_icmp_le 88 (pc := 73) W0 at_73 (by decide) (by decide) (fun c340 => ?_) (fun c340 => ?_)
          · refine g_iload (pc := 88) W0 at_88 rfl ?_
            refine g_iload (pc := 90) W0 at_90 rfl ?_
            refine g_icmpN (pc := 92) W0 at_92 (tlt c315).2.2.2 ?_
            refine g_iload (pc := 95) W0 at_95 rfl ?_
            refine g_istore (pc := 97) (ls' := #[.val (.int p0), .val (.int p1), .val (.int p2), .val (.int p3), .val (.int p4), .val (.int p5), .val (.int p3), .val (.int p0), .val (.int p1), .val (.int p2), .val (.int p0), .unset, .unset, .unset, .unset, .unset, .unset, .unset, .unset, .unset, .unset]) W0 at_97 rfl ?_
            refine g_iload (pc := 99) W0 at_99 rfl ?_
            refine g_istore (pc := 101) (ls' := #[.val (.int p0), .val (.int p1), .val (.int p2), .val (.int p3), .val (.int p4), .val (.int p5), .val (.int p3), .val (.int p1), .val (.int p1), .val (.int p2), .val (.int p0), .unset, .unset, .unset, .unset, .unset, .unset, .unset, .unset, .unset, .unset]) W0 at_101 rfl ?_
            refine g_iload (pc := 103) W0 at_103 rfl ?_
            refine g_istore (pc := 105) (ls' := #[.val (.int p0), .val (.int p1), .val (.int p2), .val (.int p3), .val (.int p4), .val (.int p5), .val (.int p3), .val (.int p1), .val (.int p0), .val (.int p2), .val (.int p0), .unset, .unset, .unset, .unset, .unset, .unset, .unset, .unset, .unset, .unset]) W0 at_105 rfl ?_
            exact cut2 (p3, p1, p0, p2, (.val (.int p0) : Slot)) (by simp only [Int32.lt_iff_toInt_lt] at c315 c330 c337 c340; dsimp only; omega)
          · refine g_iload (pc := 76) W0 at_76 rfl ?_
            refine g_istore (pc := 78) (ls' := #[.val (.int p0), .val (.int p1), .val (.int p2), .val (.int p3), .val (.int p4), .val (.int p5), .val (.int p3), .val (.int p0), .val (.int p1), .val (.int p2), .val (.int p0), .unset, .unset, .unset, .unset, .unset, .unset, .unset, .unset, .unset, .unset]) W0 at_78 rfl ?_
            refine g_iload (pc := 80) W0 at_80 rfl ?_
            refine g_istore (pc := 82) (ls' := #[.val (.int p0), .val (.int p1), .val (.int p2), .val (.int p3), .val (.int p4), .val (.int p5), .val (.int p3), .val (.int p2), .val (.int p1), .val (.int p2), .val (.int p0), .unset, .unset, .unset, .unset, .unset, .unset, .unset, .unset, .unset, .unset]) W0 at_82 rfl ?_
            refine g_iload (pc := 84) W0 at_84 rfl ?_
            refine g_istore (pc := 86) (ls' := #[.val (.int p0), .val (.int p1), .val (.int p2), .val (.int p3), .val (.int p4), .val (.int p5), .val (.int p3), .val (.int p2), .val (.int p1), .val (.int p0), .val (.int p0), .unset, .unset, .unset, .unset, .unset, .unset, .unset, .unset, .unset, .unset]) W0 at_86 rfl ?_
            refine g_iload (pc := 88) W0 at_88 rfl ?_
            refine g_iload (pc := 90) W0 at_90 rfl ?_
            refine g_icmp_le 107 (pc := 92) W0 at_92 (by decide) (by decide) (fun c341 => ?_) (fun c341 => ?_)
            · exact cut2 (p3, p2, p1, p0, (.val (.int p0) : Slot)) (by simp only [Int32.lt_iff_toInt_lt] at c315 c330 c337 c340 c341; dsimp only; omega)
            · refine g_iload (pc := 95) W0 at_95 rfl ?_
              refine g_istore (pc := 97) (ls' := #[.val (.int p0), .val (.int p1), .val (.int p2), .val (.int p3), .val (.int p4), .val (.int p5), .val (.int p3), .val (.int p2), .val (.int p1), .val (.int p0), .val (.int p2), .unset, .unset, .unset, .unset, .unset, .unset, .unset, .unset, .unset, .unset]) W0 at_97 rfl ?_
              refine g_iload (pc := 99) W0 at_99 rfl ?_
              refine g_istore (pc := 101) (ls' := #[.val (.int p0), .val (.int p1), .val (.int p2), .val (.int p3), .val (.int p4), .val (.int p5), .val (.int p3), .val (.int p1), .val (.int p1), .val (.int p0), .val (.int p2), .unset, .unset, .unset, .unset, .unset, .unset, .unset, .unset, .unset, .unset]) W0 at_101 rfl ?_
              refine g_iload (pc := 103) W0 at_103 rfl ?_
              refine g_istore (pc := 105) (ls' := #[.val (.int p0), .val (.int p1), .val (.int p2), .val (.int p3), .val (.int p4), .val (.int p5), .val (.int p3), .val (.int p1), .val (.int p2), .val (.int p0), .val (.int p2), .unset, .unset, .unset, .unset, .unset, .unset, .unset, .unset, .unset, .unset]) W0 at_105 rfl ?_
              exact cut2 (p3, p1, p2, p0, (.val (.int p2) : Slot)) (by simp only [Int32.lt_iff_toInt_lt] at c315 c330 c337 c340 c341; dsimp only; omega)
set_option maxRecDepth 65536 in
set_option maxHeartbeats 40000000 in
theorem comes_1 {Post : Tables → Env → Array Value → State → Outcome → State → Prop} (hpost : ∀ tb e args s v u, (limb_1_1.after args s (.returned v) u = true ∧ limb_1_2.after args s (.returned v) u = true ∧ True) → FrameEnd s (.returned v) u (Jvm.fieldLocs frame_1_writes args s ++ Jvm.arrayLocs frame_1_arrays args s ++ Jvm.staticLocs frame_1_statics s) 24 128 → Post tb e args s (.returned v) u) :
    ArmFor flags0 classFile x code maxLocals ret World_1 tables_1 room_1 Calls_1 rest_1 Pre_1 Post := by
  intro l hfl _ _ p e ha hc hk s m args below hf hA hF happ hP
  obtain ⟨hcalls, hrest, hpre⟩ := hP
  obtain ⟨-, -, -, hnamed, -, -, -, hat⟩ := (Spec.applies_iff hf).mp happ
  obtain ⟨hg, hn⟩ := and_e (Cond.before_iff.mp (show (Jvm.Cond.and given_1 narrow_1).before args s = true from hpre))
  obtain ⟨h1, hr0⟩ := and_e hg
  obtain ⟨w0, w1, w2, w3, w4, w5, rfl⟩ : ∃ w0 w1 w2 w3 w4 w5 : Value, args = #[w0, w1, w2, w3, w4, w5] := by
    have hs : args.size = 6 := by simpa [Cond.value, given_1] using h1
    obtain ⟨L⟩ := args
    match L, hs with
    | [w0, w1, w2, w3, w4, w5], _ => exact ⟨w0, w1, w2, w3, w4, w5, rfl⟩
  have hw := fun d (hd : d ∈ tables_1) => atoms_spec (ws := Jvm.Cond.code x code maxLocals ret :: tables_1) hat d (List.mem_cons_of_mem _ hd)
  obtain ⟨ha0, hr1⟩ := and_e hr0
  obtain ⟨i0, e0⟩ := is_v ha0
  obtain rfl : w0 = (.int i0) := Option.some.inj e0
  obtain ⟨ha1, hr2⟩ := and_e hr1
  obtain ⟨i1, e1⟩ := is_v ha1
  obtain rfl : w1 = (.int i1) := Option.some.inj e1
  obtain ⟨ha2, hr3⟩ := and_e hr2
  obtain ⟨i2, e2⟩ := is_v ha2
  obtain rfl : w2 = (.int i2) := Option.some.inj e2
  obtain ⟨ha3, hr4⟩ := and_e hr3
  obtain ⟨i3, e3⟩ := is_v ha3
  obtain rfl : w3 = (.int i3) := Option.some.inj e3
  obtain ⟨ha4, hr5⟩ := and_e hr4
  obtain ⟨i4, e4⟩ := is_v ha4
  obtain rfl : w4 = (.int i4) := Option.some.inj e4
  obtain ⟨i5, e5⟩ := is_v hr5
  obtain rfl : w5 = (.int i5) := Option.some.inj e5
  obtain ⟨n, o, h1, h2, h3, _, L, rfl, hQ, hq⟩ := c_law l s _ hw (B := s.heap.size) i0 i1 i2 i3 i4 i5 s.heap Hp.nil (fun _ q => nomatch q) (Nat.le_refl _) p e ha hc hk s m _ below hf ((Spec.applies_iff_loose hf).mp happ).1 ⟨rfl, State.Warmed39.refl s, rfl⟩ trivial
  have N := Con.frame (y := x) (as := #[]) (rm := room_1) hQ
  obtain ⟨-, os', -, rfl⟩ := hQ
  refine ⟨n, _, h1, h2, h3, hpost _ _ _ _ _ _ ⟨Cond.after_iff.mpr rfl, Cond.after_iff.mpr (eq_i res_at (Term.int_eval (1)) rfl), trivial⟩ ⟨hq.1, hq.2.1, (hq.2.2.sift fun y hy => Or.inr (N y hy)).mono (by decide) (by decide)⟩⟩
theorem main_1_1 : Claimed_1_1 := comes_1 fun _ _ _ _ _ _ h hF => ⟨h.1, hF⟩
theorem main_1_2 : Claimed_1_2 := comes_1 fun _ _ _ _ _ _ h hF => ⟨h.2.1, hF⟩
end Jvm.Pilot.@@N@@
namespace Jvm.Pilot.@@N@@
open Jvm Jvm.ClassFile Sem Op Lib Jvm.Free Jvm.Stand Jvm.Pilot.@@N@@.Jvm.D
/-! MADE BY PROGRAM (witnessworld.py) out of the Statement's table words and the real class files: 15 classes; the members and pool entries that the words name. The judged class is class 1, her method 1. -/
namespace start1
open Jvm.ClassFile
def u (s : String) : CpInfo := .utf8 (stringToUtf16 s)
/-- a pool by its gaps: so many unusable entries, then the entry; so many at the end -/
def gap : Nat → List CpInfo → List CpInfo
  | 0, r => r
  | n + 1, r => .unusable :: gap n r
def poolList (es : List (Nat × CpInfo)) (last : Nat) : List CpInfo := es.foldr (fun e r => gap e.1 (e.2 :: r)) (gap last [])
def pool (es : List (Nat × CpInfo)) (last : Nat) : Array CpInfo := ⟨poolList es last⟩
def fileOf (pool : Array CpInfo) (this : Nat) (attrs : Array Attribute := #[]) (ms : Array MethodInfo := #[]) (fl : Nat := 33) (sup : Nat := 0) (ifs : Array Nat := #[]) (fds : Array FieldInfo := #[]) : ClassFile where
  minorVersion := 0
  majorVersion := 65
  constantPool := pool
  accessFlags := fl
  thisClass := this
  superClass := sup
  interfaces := ifs
  fields := fds
  methods := ms
  attributes := attrs
def plain (name : String) (sup : Option ClassId) : Class where
  name := name
  kind := .ordinary
  loader := none
  accessFlags := 33
  super := sup
  interfaces := #[]
  cf := none
  fields := #[]
  methods := #[]
  instanceTypes := #[]
  staticTypes := #[]
  resolved := #[]
  callSites := []
  init := .initialized
  statics := none
  mirror := none

def pool0 : Array CpInfo := pool [(5, u "<init>"), (0, u "()V"), (1, .class_ 10), (1, u "java/lang/Object")] 113

def k0c0 : Code := { maxStack := 0, maxLocals := 1, code := object_method_1_code, exceptionTable := #[], attributes := #[] }
def k0m0 : Method := { name := "<init>", desc := "()V", sig := { parameters := [], returnType := none }, accessFlags := 1, code := some k0c0 }
/-- java/lang/Object -/
def k0 : Class := { plain "java/lang/Object" none with
  accessFlags := 33
  interfaces := #[]
  cf := some (fileOf pool0 8 #[] #[{ accessFlags := 1, nameIndex := 5, descriptorIndex := 6, attributes := #[] }] 33 0 #[] #[])
  fields := #[]
  methods := #[k0m0]
  instanceTypes := #[]
  staticTypes := #[]
  resolved := Array.replicate 124 none
  statics := none }

def pool1 : Array CpInfo := pool [(2, .class_ 4), (1, u "java/lang/Object"), (0, u "<init>"), (0, u "()V"), (0, .methodref 8 9), (0, .class_ 10), (0, .nameAndType 11 12), (0, u "com/example/traverso/traverso/graph/LabelsFirstPinLaw"), (0, u "step"), (0, u "(III)I"), (0, .class_ 14), (0, u "java/lang/String"), (0, .class_ 16), (0, u "com/example/traverso/traverso/graph/Labels"), (0, .methodref 15 18), (0, .nameAndType 5 19), (0, u "([I[Ljava/lang/String;)V"), (0, .integer 2147483647), (0, .methodref 8 22), (0, .nameAndType 23 24), (0, u "reference"), (0, u "([III)I"), (0, .methodref 15 26), (0, .nameAndType 27 28), (0, u "first"), (0, u "(I)I"), (2, u "law"), (0, u "(IIIIII)Z")] 7

def k1m0 : Method := { name := "<init>", desc := "()V", sig := { parameters := [], returnType := none }, accessFlags := 1, code := none }
def k1c1 : Code := { maxStack := 4, maxLocals := 21, code := code, exceptionTable := #[], attributes := #[] }
def k1m1 : Method := { name := "law", desc := "(IIIIII)Z", sig := { parameters := [.int, .int, .int, .int, .int, .int], returnType := some .boolean }, accessFlags := 9, code := some k1c1 }
def k1c2 : Code := { maxStack := 2, maxLocals := 3, code := method_3_code, exceptionTable := #[], attributes := #[] }
def k1m2 : Method := { name := "step", desc := "(III)I", sig := { parameters := [.int, .int, .int], returnType := some .int }, accessFlags := 10, code := some k1c2 }
def k1c3 : Code := { maxStack := 2, maxLocals := 3, code := method_4_code, exceptionTable := #[], attributes := #[] }
def k1m3 : Method := { name := "reference", desc := "([III)I", sig := { parameters := [(.array .int), .int, .int], returnType := some .int }, accessFlags := 10, code := some k1c3 }
/-- com/example/traverso/traverso/graph/LabelsFirstPinLaw -/
def k1 : Class := { plain "com/example/traverso/traverso/graph/LabelsFirstPinLaw" (some 0) with
  accessFlags := 49
  interfaces := #[]
  cf := some (fileOf pool1 8 #[] #[{ accessFlags := 1, nameIndex := 5, descriptorIndex := 6, attributes := #[] }, { accessFlags := 9, nameIndex := 31, descriptorIndex := 32, attributes := #[] }, { accessFlags := 10, nameIndex := 11, descriptorIndex := 12, attributes := #[] }, { accessFlags := 10, nameIndex := 23, descriptorIndex := 24, attributes := #[] }] 49 2 #[] #[])
  fields := #[]
  methods := #[k1m0, k1m1, k1m2, k1m3]
  instanceTypes := #[]
  staticTypes := #[]
  resolved := Array.replicate 40 none
  statics := none }

def pool2 : Array CpInfo := pool [(1, .class_ 2), (0, u "java/io/Serializable"), (0, .class_ 4), (0, u "java/lang/Object")] 2

/-- java/io/Serializable -/
def k2 : Class := { plain "java/io/Serializable" (some 0) with
  accessFlags := 1537
  interfaces := #[]
  cf := some (fileOf pool2 1 #[] #[] 1537 3 #[] #[])
  fields := #[]
  methods := #[]
  instanceTypes := #[]
  staticTypes := #[]
  resolved := Array.replicate 7 none
  statics := none }

def pool3 : Array CpInfo := pool [(1, .class_ 2), (0, u "java/lang/Comparable"), (0, .class_ 4), (0, u "java/lang/Object")] 7

/-- java/lang/Comparable -/
def k3 : Class := { plain "java/lang/Comparable" (some 0) with
  accessFlags := 1537
  interfaces := #[]
  cf := some (fileOf pool3 1 #[] #[] 1537 3 #[] #[])
  fields := #[]
  methods := #[]
  instanceTypes := #[]
  staticTypes := #[]
  resolved := Array.replicate 12 none
  statics := none }

def pool4 : Array CpInfo := pool [(2, .class_ 4), (1, u "java/lang/CharSequence"), (42, .class_ 48), (0, u "java/lang/CharSequence$1CodePointIterator"), (10, .class_ 60), (0, u "java/lang/CharSequence$1CharIterator"), (5, .class_ 67), (0, u "java/lang/Object")] 63

/-- java/lang/CharSequence -/
def k4 : Class := { plain "java/lang/CharSequence" (some 0) with
  accessFlags := 1537
  interfaces := #[]
  cf := some (fileOf pool4 2 #[.nestMembers #[47, 59]] #[] 1537 66 #[] #[])
  fields := #[]
  methods := #[]
  instanceTypes := #[]
  staticTypes := #[]
  resolved := Array.replicate 131 none
  statics := none }

def pool5 : Array CpInfo := pool [(1, .class_ 2), (0, u "java/lang/constant/Constable"), (0, .class_ 4), (0, u "java/lang/Object")] 6

/-- java/lang/constant/Constable -/
def k5 : Class := { plain "java/lang/constant/Constable" (some 0) with
  accessFlags := 1537
  interfaces := #[]
  cf := some (fileOf pool5 1 #[] #[] 1537 3 #[] #[])
  fields := #[]
  methods := #[]
  instanceTypes := #[]
  staticTypes := #[]
  resolved := Array.replicate 11 none
  statics := none }

def pool6 : Array CpInfo := pool [(1, .class_ 2), (0, u "java/lang/constant/ConstantDesc"), (0, .class_ 4), (0, u "java/lang/Object")] 32

/-- java/lang/constant/ConstantDesc -/
def k6 : Class := { plain "java/lang/constant/ConstantDesc" (some 0) with
  accessFlags := 1537
  interfaces := #[]
  cf := some (fileOf pool6 1 #[] #[] 1537 3 #[] #[])
  fields := #[]
  methods := #[]
  instanceTypes := #[]
  staticTypes := #[]
  resolved := Array.replicate 37 none
  statics := none }

def pool7 : Array CpInfo := pool [(2, .class_ 4), (1, u "java/lang/Object"), (0, u "<init>"), (0, u "()V"), (3, .class_ 12), (1, u "java/lang/String"), (0, u "value"), (0, u "[B"), (2, u "coder"), (0, u "B"), (2, u "hash"), (0, u "I"), (2, u "hashIsZero"), (0, u "Z"), (13, u "COMPACT_STRINGS"), (534, .class_ 576), (0, u "java/lang/CharSequence"), (22, u "CASE_INSENSITIVE_ORDER"), (0, u "Ljava/util/Comparator;"), (500, u "serialPersistentFields"), (0, u "[Ljava/io/ObjectStreamField;"), (0, .class_ 1104), (0, u "java/lang/String$CaseInsensitiveComparator"), (1, .class_ 1107), (0, u "java/io/Serializable"), (0, .class_ 1109), (0, u "java/lang/Comparable"), (0, .class_ 1111), (0, u "java/lang/constant/Constable"), (0, .class_ 1113), (0, u "java/lang/constant/ConstantDesc"), (2, u "serialVersionUID"), (0, u "J"), (3, u "REPL"), (0, u "C"), (2, u "LATIN1"), (1, u "UTF16")] 323

def k7m0 : Method := { name := "<init>", desc := "()V", sig := { parameters := [], returnType := none }, accessFlags := 1, code := none }
/-- java/lang/String -/
def k7 : Class := { plain "java/lang/String" (some 0) with
  accessFlags := 49
  interfaces := #[2, 3, 4, 5, 6]
  cf := some (fileOf pool7 10 #[.nestMembers #[1103]] #[{ accessFlags := 1, nameIndex := 5, descriptorIndex := 6, attributes := #[] }] 49 2 #[1106, 1108, 575, 1110, 1112] #[{ accessFlags := 18, nameIndex := 13, descriptorIndex := 14, attributes := #[] }, { accessFlags := 18, nameIndex := 17, descriptorIndex := 18, attributes := #[] }, { accessFlags := 2, nameIndex := 21, descriptorIndex := 22, attributes := #[] }, { accessFlags := 2, nameIndex := 25, descriptorIndex := 26, attributes := #[] }, { accessFlags := 26, nameIndex := 1116, descriptorIndex := 1117, attributes := #[] }, { accessFlags := 24, nameIndex := 40, descriptorIndex := 26, attributes := #[] }, { accessFlags := 26, nameIndex := 1101, descriptorIndex := 1102, attributes := #[] }, { accessFlags := 26, nameIndex := 1121, descriptorIndex := 1122, attributes := #[] }, { accessFlags := 25, nameIndex := 599, descriptorIndex := 600, attributes := #[] }, { accessFlags := 24, nameIndex := 1125, descriptorIndex := 18, attributes := #[] }, { accessFlags := 24, nameIndex := 1127, descriptorIndex := 18, attributes := #[] }])
  fields := #[{ name := "value", type := (.array .byte), accessFlags := 18, slot := 0, constantValue := 0 }, { name := "coder", type := .byte, accessFlags := 18, slot := 1, constantValue := 0 }, { name := "hash", type := .int, accessFlags := 2, slot := 2, constantValue := 0 }, { name := "hashIsZero", type := .boolean, accessFlags := 2, slot := 3, constantValue := 0 }, { name := "serialVersionUID", type := .long, accessFlags := 26, slot := 0, constantValue := 0 }, { name := "COMPACT_STRINGS", type := .boolean, accessFlags := 24, slot := 1, constantValue := 0 }, { name := "serialPersistentFields", type := (.array (.object "java/io/ObjectStreamField")), accessFlags := 26, slot := 2, constantValue := 0 }, { name := "REPL", type := .char, accessFlags := 26, slot := 3, constantValue := 0 }, { name := "CASE_INSENSITIVE_ORDER", type := (.object "java/util/Comparator"), accessFlags := 25, slot := 4, constantValue := 0 }, { name := "LATIN1", type := .byte, accessFlags := 24, slot := 5, constantValue := 0 }, { name := "UTF16", type := .byte, accessFlags := 24, slot := 6, constantValue := 0 }]
  methods := #[k7m0]
  instanceTypes := #[(.array .byte), .byte, .int, .boolean]
  staticTypes := #[.long, .boolean, (.array (.object "java/io/ObjectStreamField")), .char, (.object "java/util/Comparator"), .byte, .byte]
  resolved := Array.replicate 1451 none
  statics := none }

def pool8 : Array CpInfo := pool [(1, .methodref 2 3), (0, .class_ 4), (0, .nameAndType 5 6), (0, u "java/lang/Object"), (0, u "<init>"), (0, u "()V"), (0, .fieldref 8 9), (0, .class_ 10), (0, .nameAndType 11 12), (0, u "com/example/traverso/traverso/graph/Labels"), (0, u "terms"), (0, u "[I"), (0, .fieldref 8 14), (0, .nameAndType 15 16), (0, u "texts"), (0, u "[Ljava/lang/String;"), (0, u "NONE"), (0, u "I"), (2, u "([I[Ljava/lang/String;)V"), (5, u "(I)I"), (2, u "first")] 3

def k8c0 : Code := { maxStack := 2, maxLocals := 3, code := prog_29_method_1_code, exceptionTable := #[], attributes := #[] }
def k8m0 : Method := { name := "<init>", desc := "([I[Ljava/lang/String;)V", sig := { parameters := [(.array .int), (.array (.object "java/lang/String"))], returnType := none }, accessFlags := 0, code := some k8c0 }
def k8c1 : Code := { maxStack := 2, maxLocals := 5, code := prog_29_method_5_code, exceptionTable := #[], attributes := #[] }
def k8m1 : Method := { name := "first", desc := "(I)I", sig := { parameters := [.int], returnType := some .int }, accessFlags := 1, code := some k8c1 }
/-- com/example/traverso/traverso/graph/Labels -/
def k8 : Class := { plain "com/example/traverso/traverso/graph/Labels" (some 0) with
  accessFlags := 49
  interfaces := #[]
  cf := some (fileOf pool8 8 #[] #[{ accessFlags := 0, nameIndex := 5, descriptorIndex := 21, attributes := #[] }, { accessFlags := 1, nameIndex := 30, descriptorIndex := 27, attributes := #[] }] 49 2 #[] #[{ accessFlags := 25, nameIndex := 17, descriptorIndex := 18, attributes := #[] }, { accessFlags := 18, nameIndex := 11, descriptorIndex := 12, attributes := #[] }, { accessFlags := 18, nameIndex := 15, descriptorIndex := 16, attributes := #[] }])
  fields := #[{ name := "NONE", type := .int, accessFlags := 25, slot := 0, constantValue := 0 }, { name := "terms", type := (.array .int), accessFlags := 18, slot := 0, constantValue := 0 }, { name := "texts", type := (.array (.object "java/lang/String")), accessFlags := 18, slot := 1, constantValue := 0 }]
  methods := #[k8m0, k8m1]
  instanceTypes := #[(.array .int), (.array (.object "java/lang/String"))]
  staticTypes := #[.int]
  resolved := Array.replicate 34 none
  statics := none }

def pool9 : Array CpInfo := pool [(1, u "java/lang/Cloneable"), (0, .class_ 1), (0, u "java/lang/Object"), (0, .class_ 3)] 3

/-- java/lang/Cloneable -/
def k9 : Class := { plain "java/lang/Cloneable" (some 0) with
  accessFlags := 1537
  interfaces := #[]
  cf := some (fileOf pool9 2 #[] #[] 1537 4 #[] #[])
  fields := #[]
  methods := #[]
  instanceTypes := #[]
  staticTypes := #[]
  resolved := Array.replicate 8 none
  statics := none }

/-- the primitive byte -/
def k10 : Class := { plain "byte" none with kind := .primitive 'B', accessFlags := 0x411 }
/-- [B -/
def k11 : Class := { plain "[B" (some 0) with kind := .array 10 .byte, interfaces := #[9, 2], accessFlags := 1041 }

/-- the primitive int -/
def k12 : Class := { plain "int" none with kind := .primitive 'I', accessFlags := 0x411 }
/-- [I -/
def k13 : Class := { plain "[I" (some 0) with kind := .array 12 .int, interfaces := #[9, 2], accessFlags := 1041 }

/-- [Ljava/lang/String; -/
def k14 : Class := { plain "[Ljava/lang/String;" (some 0) with kind := .array 7 (.object "java/lang/String"), interfaces := #[9, 2], accessFlags := 1041 }

def heap : Heap := #[]
def classes : Array Class := #[k0, k1, k2, k3, k4, k5, k6, k7, k8, k9, k10, k11, k12, k13, k14]
def interned : List (Array UInt16 × Addr) := []
def slotsUsed : Nat := 0
def theMethod : MethodId := ⟨1, 1⟩
def args0 : Array Value := #[.int 5, .int 7, .int 1, .int 2, .int 3, .int 4]
def aboutOver (below : List Frame) : State where
  vm := { classes := classes, interned := interned.toArray }
  heap := heap
  slotsUsed := slotsUsed
  threads := #[{ frames := .invoking theMethod args0 :: below }]
def below0 : List Frame := [.native { method := ⟨0, 0⟩, args := #[] }]
def about1 : State := aboutOver below0
def p0 : Program := .bare "" "" ""
def e0 : Env := launch0.env 0 0 0
theorem w_frames : about1.frames = Frame.invoking theMethod args0 :: below0 := rfl
set_option maxRecDepth 65536 in
theorem w_args : argsFit about1.vm theMethod args0 = true := by decide +kernel
set_option maxRecDepth 65536 in
theorem w_heap : heapFits about1 = true := by decide +kernel
set_option maxRecDepth 65536 in
theorem w_runnable : about1.curStatus? = some .runnable := by decide +kernel
set_option maxRecDepth 65536 in
theorem w_alone : about1.alone = true := by decide +kernel
set_option maxRecDepth 65536 in
theorem w_named : about1.methodNamed? x = some theMethod := by decide +kernel
set_option maxRecDepth 65536 in
theorem w_hears : about1.hears theMethod below0 = true := by decide +kernel
set_option maxRecDepth 65536 in
theorem w_ripe : about1.ripe theMethod args0 below0 = true := by decide +kernel
theorem w_running : about1.status = .running := rfl
set_option maxRecDepth 65536 in
theorem w_room : about1.hasRoom e0.platform room_1 = true :=
  launch0.hasRoom_least _ room_1 (by decide +kernel) (by decide +kernel) (by decide +kernel) (by decide +kernel) (by decide +kernel) (by decide +kernel)
theorem allAtoms_all (ts : List Jvm.Cond) (a : Array Jvm.Value) (st : Jvm.State) : (allAtoms ts).before a st = ts.all (fun c => c.before a st) := by
  induction ts with
  | nil => rfl
  | cons c t ih =>
    show (Jvm.Cond.and c (allAtoms t)).before a st = _
    rw [Jvm.Cond.before_and, ih, List.all_cons]
def words1 : List Jvm.Cond := Jvm.Cond.code x code maxLocals ret :: tables_1
/-- a 'code' word, met by the world's own term for the bytes: nothing is compared byte by byte -/
theorem code_word {y : MethodName} {bytes : ByteArray} {mx : Nat} {rt : Option FieldType} {a : Array Value} {s : State} {m : MethodId} {meth : Method} {c : Code} (h1 : s.methodNamed? y = some m) (h2 : s.vm.method? m = some meth) (h3 : meth.code = some c) (h4 : c.code = bytes)
    (h5 : (c.maxLocals == mx && c.exceptionTable.isEmpty && decide (c.maxStack ≤ mostOperands) && decide (meth.sig.returnType = rt) && !meth.locks && decide (parseMethodDescriptor y.desc = some meth.sig)) = true) : (Jvm.Cond.code y bytes mx rt).before a s = true := by
  simp only [Bool.and_eq_true, beq_iff_eq, Bool.not_eq_true', decide_eq_true_eq] at h5
  obtain ⟨⟨⟨⟨⟨g1, g2⟩, g3⟩, g4⟩, g5⟩, g6⟩ := h5
  simp [Cond.before, Cond.holds, Cond.value, h1, h2, h3, h4, g1, g2, g3, g4, g5, g6]
def isCode : Jvm.Cond → Bool
  | .code _ _ _ _ => true
  | _ => false
theorem all_split {L : List Jvm.Cond} {P : Jvm.Cond → Bool} (h1 : L.all (fun c => isCode c || P c) = true) (h2 : ∀ c ∈ L.filter isCode, P c = true) : L.all P = true := by
  refine List.all_eq_true.mpr fun c hc => ?_
  have h := List.all_eq_true.mp h1 c hc
  rcases Bool.eq_false_or_eq_true (isCode c) with hi | hi
  · exact h2 c (List.mem_filter.mpr ⟨hc, hi⟩)
  · simpa [hi] using h
set_option maxRecDepth 65536 in
theorem w_c0 : (Jvm.Cond.code x code maxLocals ret).before args0 about1 = true := code_word (m := ⟨1, 1⟩) (meth := k1m1) (c := k1c1) (by decide +kernel) rfl rfl rfl (by decide +kernel)
set_option maxRecDepth 65536 in
theorem w_c1 : (Jvm.Cond.code ({ cls := "com/example/traverso/traverso/graph/LabelsFirstPinLaw", name := "step", desc := "(III)I" } : Jvm.MethodName) method_3_code (3 : Nat) (Option.some Jvm.ClassFile.FieldType.int)).before args0 about1 = true := code_word (m := ⟨1, 2⟩) (meth := k1m2) (c := k1c2) (by decide +kernel) rfl rfl rfl (by decide +kernel)
set_option maxRecDepth 65536 in
theorem w_c2 : (Jvm.Cond.code ({ cls := "com/example/traverso/traverso/graph/Labels", name := "<init>", desc := "([I[Ljava/lang/String;)V" } : Jvm.MethodName) prog_29_method_1_code (3 : Nat) (Option.none : Option Jvm.ClassFile.FieldType)).before args0 about1 = true := code_word (m := ⟨8, 0⟩) (meth := k8m0) (c := k8c0) (by decide +kernel) rfl rfl rfl (by decide +kernel)
set_option maxRecDepth 65536 in
theorem w_c3 : (Jvm.Cond.code ({ cls := "java/lang/Object", name := "<init>", desc := "()V" } : Jvm.MethodName) object_method_1_code (1 : Nat) (Option.none : Option Jvm.ClassFile.FieldType)).before args0 about1 = true := code_word (m := ⟨0, 0⟩) (meth := k0m0) (c := k0c0) (by decide +kernel) rfl rfl rfl (by decide +kernel)
set_option maxRecDepth 65536 in
theorem w_c4 : (Jvm.Cond.code ({ cls := "com/example/traverso/traverso/graph/LabelsFirstPinLaw", name := "reference", desc := "([III)I" } : Jvm.MethodName) method_4_code (3 : Nat) (Option.some Jvm.ClassFile.FieldType.int)).before args0 about1 = true := code_word (m := ⟨1, 3⟩) (meth := k1m3) (c := k1c3) (by decide +kernel) rfl rfl rfl (by decide +kernel)
set_option maxRecDepth 65536 in
theorem w_c5 : (Jvm.Cond.code ({ cls := "com/example/traverso/traverso/graph/Labels", name := "first", desc := "(I)I" } : Jvm.MethodName) prog_29_method_5_code (5 : Nat) (Option.some Jvm.ClassFile.FieldType.int)).before args0 about1 = true := code_word (m := ⟨8, 1⟩) (meth := k8m1) (c := k8c1) (by decide +kernel) rfl rfl rfl (by decide +kernel)
def codes1 : List Jvm.Cond := [Jvm.Cond.code x code maxLocals ret, Jvm.Cond.code ({ cls := "com/example/traverso/traverso/graph/LabelsFirstPinLaw", name := "step", desc := "(III)I" } : Jvm.MethodName) method_3_code (3 : Nat) (Option.some Jvm.ClassFile.FieldType.int), Jvm.Cond.code ({ cls := "com/example/traverso/traverso/graph/Labels", name := "<init>", desc := "([I[Ljava/lang/String;)V" } : Jvm.MethodName) prog_29_method_1_code (3 : Nat) (Option.none : Option Jvm.ClassFile.FieldType), Jvm.Cond.code ({ cls := "java/lang/Object", name := "<init>", desc := "()V" } : Jvm.MethodName) object_method_1_code (1 : Nat) (Option.none : Option Jvm.ClassFile.FieldType), Jvm.Cond.code ({ cls := "com/example/traverso/traverso/graph/LabelsFirstPinLaw", name := "reference", desc := "([III)I" } : Jvm.MethodName) method_4_code (3 : Nat) (Option.some Jvm.ClassFile.FieldType.int), Jvm.Cond.code ({ cls := "com/example/traverso/traverso/graph/Labels", name := "first", desc := "(I)I" } : Jvm.MethodName) prog_29_method_5_code (5 : Nat) (Option.some Jvm.ClassFile.FieldType.int)]
set_option maxRecDepth 65536 in
theorem codes_eq : words1.filter isCode = codes1 := rfl
theorem w_codes : ∀ c ∈ words1.filter isCode, c.before args0 about1 = true := by
  rw [codes_eq]
  intro c hc
  simp only [codes1, List.mem_cons, List.not_mem_nil, or_false] at hc
  rcases hc with rfl | rfl | rfl | rfl | rfl | rfl
  · exact w_c0
  · exact w_c1
  · exact w_c2
  · exact w_c3
  · exact w_c4
  · exact w_c5
set_option maxRecDepth 65536 in
theorem w_t1 : (words1.take 24).all (fun c => isCode c || c.before args0 about1) = true := by decide +kernel
set_option maxRecDepth 65536 in
theorem w_t2 : (words1.drop 24).all (fun c => isCode c || c.before args0 about1) = true := by decide +kernel
theorem w_tables : (allAtoms (Jvm.Cond.code x code maxLocals ret :: tables_1)).before args0 about1 = true := by
  rw [allAtoms_all]
  show words1.all (fun c => c.before args0 about1) = true
  refine all_split ?_ w_codes
  rw [← List.take_append_drop 24 words1, List.all_append, w_t1, w_t2]
  rfl
set_option maxRecDepth 65536 in
theorem w_case : (Jvm.Cond.and given_1 narrow_1).before args0 about1 = true := by decide +kernel
theorem w_applies : (headSpec (Jvm.Cond.code x code maxLocals ret :: tables_1) room_1).applies x e0.platform about1 = true :=
  (Spec.applies_iff w_frames).mpr ⟨w_running, w_runnable, w_alone, w_named, w_hears, w_ripe, w_room, w_tables⟩
theorem atStart : AtStart classFile x code maxLocals ret World_1 tables_1 room_1 Calls_1 rest_1 Pre_1 launch0 p0 e0 about1 theMethod args0 below0 :=
  ⟨lists_1, trivial, launch0.admits_env _ _ _, launch0.least_env, fairChoices_fair.cas, fairChoices_fair.clock, w_frames, w_args, w_heap, w_applies, trivial, trivial, w_case⟩
end start1
theorem witness_1 : WitnessClaimed_1 := ⟨start1.p0, start1.e0, start1.about1, start1.theMethod, start1.args0, start1.below0, start1.atStart⟩
end Jvm.Pilot.@@N@@
