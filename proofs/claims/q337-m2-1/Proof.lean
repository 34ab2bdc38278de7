import JvmDerived
import JvmDerived.Pilot.@@N@@Statement
import JvmDerived.Pilot.@@N@@Code
set_option linter.unusedVariables false
set_option linter.unusedSimpArgs false
@@BLOCK:NumsL.lean.txt@@
namespace Jvm.Pilot.@@N@@
open Jvm Jvm.ClassFile Sem Op Lib Jvm.Free Jvm.Stand Jvm.LawKit Jvm.RoadKit Bundle Jvm.Pilot.@@N@@.Jvm.D
/-! ## own base: a heap as a list of objects; a body by its contract; one lemma an instruction -/
section Own
abbrev Ob : Type := Addr × FieldType × List Value
abbrev Fm : Type := String → List (String × String)
/-- what the cell at a holds -/
def Oat (F : Fm) (Z : State) (h : Heap) (a : Addr) (t : FieldType) (vs : List Value) : Prop :=
  match t with
  | .array ty => Exa Z h a ("[" ++ ty.toString) ∧ (∀ v ∈ vs, fits ty v = true) ∧ ∃ c : Cell, Arr Z h a c ty ∧ c.slots = vs.toArray
  | .object C => Exa Z h a C ∧ vs.length = (F C).length ∧ ∀ (i : Nat) (n d : String) (v : Value), (F C)[i]? = some (n, d) → vs[i]? = some v → Fld Z h a C n d v
  | _ => False
def Hp (F : Fm) (Z : State) (h : Heap) (os : List Ob) : Prop := (os.map (·.1)).Nodup ∧ ∀ o ∈ os, Oat F Z h o.1 o.2.1 o.2.2
/-- an address that the body may write: one of A, or a new one -/
def Okk (A : List Addr) (N : Nat) (a : Addr) : Prop := a ∈ A ∨ N ≤ a
def Hin (F : Fm) (Z : State) (h0 : Heap) (A : List Addr) (h : Heap) (os : List Ob) : Prop := Keep h0 h A ∧ Hp F Z h os ∧ ∀ o ∈ os, Okk A h0.size o.1
def Qc (F : Fm) (Z : State) (B : Nat) (loc : List Ob) (h0 : Heap) (P : Option Value → List Ob → Prop) (v : Option Value) (h : Heap) (L : List Loc) : Prop :=
  (∀ y ∈ L, B ≤ y.base) ∧ ∃ os', Hin F Z h0 (loc.map (·.1)) h os' ∧ P v os'
/-- a body's contract: over the objects loc, with the arguments as, it returns v and leaves os', and P v os' -/
def Con (l : Launch) (Z : State) (F : Fm) (B : Nat) (y : MethodName) (bytes : ByteArray) (mL : Nat) (ret : Option FieldType) (rm : Room) (ws : List Jvm.Cond) (as : Array Value) (loc : List Ob) (P : Option Value → List Ob → Prop) : Prop :=
  ∀ h0, Hp F Z h0 loc → (∀ a ∈ loc.map (·.1), B ≤ a) → B ≤ h0.size → MetFree l y (head1 (Jvm.Cond.code y bytes mL ret :: ws) rm) (fun a U => a = as ∧ Z.Warmed39 U.vm ∧ U.heap = h0) (fun _ _ _ _ _ => True) (fun _ U o U' => ∃ v L, o = .returned v ∧ Qc F Z B loc h0 P v U'.heap L ∧ FrameEnd U o U' L rm.cells rm.slots)
/-- the run stands in the body of y; the objects are os -/
def Here (p : Program) (l : Launch) (e : Env) (R : Room) (s : State) (m : MethodId) (args : Array Value) (below : List Frame) (meth : Method) (c : Code) (Z : State) (F : Fm) (B : Nat) (h0 : Heap) (A : List Addr) (y : MethodName) (bytes : ByteArray) (mL : Nat) (ret : Option FieldType) (T : State) (k n : Nat) (os : List Ob) : Prop :=
  (p.tables.exec = Jvm.exec ∧ Z.Warmed39 s.vm ∧ c.code = bytes ∧ c.maxLocals = mL ∧ s.vm.findClass y.cls = some m.cls ∧ meth.sig.returnType = ret ∧ meth.locks = false ∧ meth.name = y.name) ∧
  ∃ locs, Stand p l e R s m args below meth c T locs k n ∧ ((∀ y ∈ locs, B ≤ y.base) ∧ (∀ a ∈ A, B ≤ a) ∧ B ≤ h0.size) ∧ Hin F Z h0 A T.heap os
def Fin1 (below : List Frame) (s : State) (Z : State) (F : Fm) (B : Nat) (h0 : Heap) (A : List Addr) (kc ks : Nat) (P : Option Value → List Ob → Prop) (t : State) : Prop :=
  t.status = .running ∧ ∃ v L, Ended t below (.returned v) ∧ ((∀ y ∈ L, B ≤ y.base) ∧ ∃ os', Hin F Z h0 A t.heap os' ∧ P v os') ∧ FrameEnd s (.returned v) t L kc ks
def Go (p : Program) (e : Env) (below : List Frame) (G : State → Prop) (S : State) : Prop := ∃ t, Steps p.tables e below S t ∧ G t

variable {p : Program} {l : Launch} {e : Env} {R : Room} {s : State} {m : MethodId} {args : Array Value} {below : List Frame} {meth : Method} {c : Code} {Z : State} {F : Fm} {B : Nat} {h0 : Heap} {A : List Addr} {y : MethodName} {bytes : ByteArray} {mL : Nat} {ret : Option FieldType} {T : State} {k n : Nat} {os : List Ob} {G : State → Prop} {pc : Nat} {ls : Array Slot} {st : List Value} {a0 : Array Value}
theorem Go.by {S S' : State} (k : ∀ t, Steps p.tables e below S' t → Steps p.tables e below S t) (g : Go p e below G S') : Go p e below G S := by
  obtain ⟨t, h, g⟩ := g; exact ⟨t, k t h, g⟩
theorem Go.join {α : Type} {T : State} {fr : α → JFrame} (tree : α) {S : State} (K : ∀ z, z = tree → Go p e below G (T.setTop (fr z))) (M : (∀ z, z = tree → Go p e below G (T.setTop (fr z))) → Go p e below G S) : Go p e below G S := M K
theorem Go.cut {α : Type} {T : State} {fr : α → JFrame} (Q : α → Prop) {S : State} (K : ∀ z, Q z → Go p e below G (T.setTop (fr z))) (M : (∀ z, Q z → Go p e below G (T.setTop (fr z))) → Go p e below G S) : Go p e below G S := M K
theorem Go.cast {S S' : State} (q : S' = S) (g : Go p e below G S') : Go p e below G S := q ▸ g
theorem Oat.keep {h h' : Heap} {ws : List Addr} {a : Addr} {t : FieldType} {vs : List Value} (O : Oat F Z h a t vs) (K : Keep h h' ws) (q : a ∉ ws) : Oat F Z h' a t vs := by
  unfold Oat at O ⊢
  split at O
  · obtain ⟨E, f, cl, Ar, S⟩ := O; exact ⟨E.keep K, f, cl, ⟨K.2.1 a cl Ar.1 q, Ar.2⟩, S⟩
  · obtain ⟨E, hl, f⟩ := O; exact ⟨E.keep K, hl, fun i n d v h1 h2 => (f i n d v h1 h2).keep K q⟩
  · exact O
theorem Oat.lt {h : Heap} {a : Addr} {t : FieldType} {vs : List Value} (O : Oat F Z h a t vs) : a < h.size := by
  unfold Oat at O
  split at O
  · exact O.1.lt
  · exact O.1.lt
  · exact O.elim
theorem Okk.ge {A : List Addr} {N B : Nat} {a : Addr} (h : Okk A N a) (h1 : ∀ a ∈ A, B ≤ a) (h2 : B ≤ N) : B ≤ a := h.elim (h1 a) fun q => Nat.le_trans h2 q
theorem Keep.self (h : Heap) : Keep h h [] := Keep.refl h []
theorem Hp.nil {h : Heap} : Hp F Z h [] := ⟨List.nodup_nil, fun o q => nomatch q⟩
theorem Hp.get {h : Heap} {i : Nat} {o : Ob} (H : Hp F Z h os) (hi : os[i]? = some o) : Oat F Z h o.1 o.2.1 o.2.2 := H.2 o (List.mem_of_getElem? hi)
theorem nodup_at {L : List Addr} (hn : L.Nodup) {i j : Nat} {a : Addr} (hi : L[i]? = some a) (hj : L[j]? = some a) : i = j := by
  obtain ⟨h1, e1⟩ := List.getElem?_eq_some_iff.mp hi
  obtain ⟨h2, e2⟩ := List.getElem?_eq_some_iff.mp hj
  exact (List.getElem_inj hn).mp (e1.trans e2.symm)
theorem Hp.ext {h h' : Heap} (H : Hp F Z h os) (E : Ext h h') : Hp F Z h' os :=
  ⟨H.1, fun o ho => (H.2 o ho).keep ((Keep.refl h []).ext E) (fun q => nomatch q)⟩
theorem Hp.push {h h' : Heap} {t : FieldType} {vs : List Value} (H : Hp F Z h os) (E : Ext h h') (O : Oat F Z h' h.size t vs) : Hp F Z h' (os ++ [(h.size, t, vs)]) := by
  refine ⟨?_, fun o ho => ?_⟩
  · rw [List.map_append, List.nodup_append]
    refine ⟨H.1, by simp, fun a ha b hb => ?_⟩
    obtain ⟨o, ho, rfl⟩ := List.mem_map.mp ha
    have := (H.2 o ho).lt
    simp only [List.map_cons, List.map_nil, List.mem_singleton] at hb
    subst hb
    exact Nat.ne_of_lt this
  · rcases List.mem_append.mp ho with q | q
    · exact (H.ext E).2 o q
    · cases List.mem_singleton.mp q; exact O
/-- one object is written -/
theorem Hp.set {h h' : Heap} {i : Nat} {a : Addr} {t : FieldType} {vs vs' : List Value} (H : Hp F Z h os) (hi : os[i]? = some (a, t, vs)) (K : Keep h h' [a]) (O : Oat F Z h' a t vs') : Hp F Z h' (os.set i (a, t, vs')) := by
  obtain ⟨hlt, he⟩ := List.getElem?_eq_some_iff.mp hi
  have em : (os.set i (a, t, vs')).map (·.1) = os.map (·.1) := by
    rw [List.map_set]
    refine List.ext_getElem? fun j => ?_
    rw [List.getElem?_set]
    split
    · rename_i e; subst e; simp [he, hlt]
    · rfl
  refine ⟨em ▸ H.1, fun o ho => ?_⟩
  obtain ⟨j, hj⟩ := List.mem_iff_getElem?.mp ho
  rw [List.getElem?_set] at hj
  split at hj
  · simp [hlt] at hj; subst hj; exact O
  · rename_i ne
    refine (H.get hj).keep K (fun q => ne ?_)
    have q' : o.1 = a := List.mem_singleton.mp q
    exact (nodup_at H.1 (i := j) (j := i) (a := a) (by rw [List.getElem?_map, hj, ← q']; rfl) (by rw [List.getElem?_map, hi]; rfl)).symm
theorem Hin.mem {h : Heap} {i : Nat} {o : Ob} (H : Hin F Z h0 A h os) (hi : os[i]? = some o) : Okk A h0.size o.1 := H.2.2 o (List.mem_of_getElem? hi)
theorem Hin.push {h h' : Heap} {t : FieldType} {vs : List Value} (H : Hin F Z h0 A h os) (E : Ext h h') (O : Oat F Z h' h.size t vs) : Hin F Z h0 A h' (os ++ [(h.size, t, vs)]) :=
  ⟨H.1.ext E, H.2.1.push E O, fun o ho => (List.mem_append.mp ho).elim (H.2.2 o) fun q => by cases List.mem_singleton.mp q; exact Or.inr H.1.1⟩
theorem Hin.set {h h' : Heap} {i : Nat} {a : Addr} {t : FieldType} {vs vs' : List Value} (H : Hin F Z h0 A h os) (hi : os[i]? = some (a, t, vs)) (K : Keep h h' [a]) (O : Oat F Z h' a t vs') : Hin F Z h0 A h' (os.set i (a, t, vs')) := by
  refine ⟨H.1.trans K fun x hx => by cases List.mem_singleton.mp hx; exact H.mem hi, H.2.1.set hi K O, fun o ho => ?_⟩
  rcases List.mem_or_eq_of_mem_set ho with q | q
  · exact H.2.2 o q
  · subst q; have z := H.mem hi; exact z

/-- the body, entered -/
theorem Con.of {as : Array Value} {loc : List Ob} {P : Option Value → List Ob → Prop} {rm : Room} {ws : List Jvm.Cond} {ls : Array Slot} (hpl : plainFor y = true) (hef : ∀ m, entryFrame m as mL = mkF m 0 ls [])
    (body : ∀ p e h0 s m below meth c T, Here p l e rm s m as below meth c Z F B h0 (loc.map (·.1)) y bytes mL ret T 0 0 loc → Go p e below (Fin1 below s Z F B h0 (loc.map (·.1)) rm.cells rm.slots P) (T.setTop (mkF m 0 ls []))) :
    Con l Z F B y bytes mL ret rm ws as loc P := by
  intro h0 H hA hB
  refine MetFree.of_bodySF hpl hisR ?_
  intro p e s m args below meth c s₁ Bd hml0 hP hK
  obtain ⟨rfl, hZ, hh⟩ := hP
  have X0 : Stand p l e rm s m args below meth c s₁ [] 0 0 := Stand.of_body Bd
  have e0 : s₁.heap = h0 := by rw [← hh, Bd.state]; rfl
  obtain ⟨t, st, hr, v, L, hE, ⟨hL, os', hI, hp⟩, hF⟩ := body p e h0 s m below meth c s₁ ⟨⟨Bd.exec, hZ, Bd.bytes, hml0, findClass_of_methodNamed Bd.named, Bd.returns, Bd.notSynchronized, (name_of_methodNamed Bd.named Bd.method).1⟩, [], X0, ⟨fun y q => (nomatch q), hA, hB⟩, by rw [e0]; exact ⟨Keep.refl _ _, H, fun o ho => Or.inl (List.mem_map.mpr ⟨o, ho, rfl⟩)⟩⟩
  exact ⟨t, _, castTop (hef m) st, hr, hE, v, L, rfl, ⟨hL, os', hI, hp⟩, hF⟩

theorem g_iload_n {j : Fin 4} {v : Int32} (W : Here p l e R s m args below meth c Z F B h0 A y bytes mL ret T k n os) (hd : decode bytes pc = .ok (.iload_n j, 1)) (hl : ls[j.val]? = some (.val (.int v))) (K : Go p e below G (T.setTop (mkF m (pc + 1) ls (.int v :: st)))) : Go p e below G (T.setTop (mkF m pc ls (st))) := by
  obtain ⟨⟨hx, hZ, hby, -⟩, locs, X, -⟩ := W
  exact K.by fun t q => XS.iloadN X.here hx rfl (hb hby hd) hl q
theorem g_iload {j : Nat} {v : Int32} (W : Here p l e R s m args below meth c Z F B h0 A y bytes mL ret T k n os) (hd : decode bytes pc = .ok (.iload j, 2)) (hl : ls[j]? = some (.val (.int v))) (K : Go p e below G (T.setTop (mkF m (pc + 2) ls (.int v :: st)))) : Go p e below G (T.setTop (mkF m pc ls (st))) := by
  obtain ⟨⟨hx, hZ, hby, -⟩, locs, X, -⟩ := W
  exact K.by fun t q => XS.iload X.here hx rfl (hb hby hd) hl q
theorem g_lload_n {j : Fin 4} {v : Int64} (W : Here p l e R s m args below meth c Z F B h0 A y bytes mL ret T k n os) (hd : decode bytes pc = .ok (.lload_n j, 1)) (hl : ls[j.val]? = some (.val (.long v))) (K : Go p e below G (T.setTop (mkF m (pc + 1) ls (.long v :: st)))) : Go p e below G (T.setTop (mkF m pc ls (st))) := by
  obtain ⟨⟨hx, hZ, hby, -⟩, locs, X, -⟩ := W
  exact K.by fun t q => XT.lloadN X.here hx rfl (hb hby hd) hl q
theorem g_lload {j : Nat} {v : Int64} (W : Here p l e R s m args below meth c Z F B h0 A y bytes mL ret T k n os) (hd : decode bytes pc = .ok (.lload j, 2)) (hl : ls[j]? = some (.val (.long v))) (K : Go p e below G (T.setTop (mkF m (pc + 2) ls (.long v :: st)))) : Go p e below G (T.setTop (mkF m pc ls (st))) := by
  obtain ⟨⟨hx, hZ, hby, -⟩, locs, X, -⟩ := W
  exact K.by fun t q => XT.lload X.here hx rfl (hb hby hd) hl q
theorem g_aload_n {j : Fin 4} {v : Value} (W : Here p l e R s m args below meth c Z F B h0 A y bytes mL ret T k n os) (hd : decode bytes pc = .ok (.aload_n j, 1)) (hl : ls[j.val]? = some (.val v)) (hv : v.isRef = true) (K : Go p e below G (T.setTop (mkF m (pc + 1) ls (v :: st)))) : Go p e below G (T.setTop (mkF m pc ls (st))) := by
  obtain ⟨⟨hx, hZ, hby, -⟩, locs, X, -⟩ := W
  exact K.by fun t q => XS.aloadN X.here hx rfl (hb hby hd) hl hv q
theorem g_aload {j : Nat} {v : Value} (W : Here p l e R s m args below meth c Z F B h0 A y bytes mL ret T k n os) (hd : decode bytes pc = .ok (.aload j, 2)) (hl : ls[j]? = some (.val v)) (hv : v.isRef = true) (K : Go p e below G (T.setTop (mkF m (pc + 2) ls (v :: st)))) : Go p e below G (T.setTop (mkF m pc ls (st))) := by
  obtain ⟨⟨hx, hZ, hby, -⟩, locs, X, -⟩ := W
  exact K.by fun t q => XS.aload X.here hx rfl (hb hby hd) hl hv q
theorem g_istore_n {j : Fin 4} {v : Int32} {ls' : Array Slot} (W : Here p l e R s m args below meth c Z F B h0 A y bytes mL ret T k n os) (hd : decode bytes pc = .ok (.istore_n j, 1)) (hl : storeLocals ls j.val (.int v) = some ls') (K : Go p e below G (T.setTop (mkF m (pc + 1) ls' (st)))) : Go p e below G (T.setTop (mkF m pc ls (.int v :: st))) := by
  obtain ⟨⟨hx, hZ, hby, -⟩, locs, X, -⟩ := W
  exact K.by fun t q => XS.istoreN X.here hx rfl (hb hby hd) rfl hl q
theorem g_istore {j : Nat} {v : Int32} {ls' : Array Slot} (W : Here p l e R s m args below meth c Z F B h0 A y bytes mL ret T k n os) (hd : decode bytes pc = .ok (.istore j, 2)) (hl : storeLocals ls j (.int v) = some ls') (K : Go p e below G (T.setTop (mkF m (pc + 2) ls' (st)))) : Go p e below G (T.setTop (mkF m pc ls (.int v :: st))) := by
  obtain ⟨⟨hx, hZ, hby, -⟩, locs, X, -⟩ := W
  exact K.by fun t q => XS.istore X.here hx rfl (hb hby hd) rfl hl q
theorem g_lstore_n {j : Fin 4} {v : Int64} {ls' : Array Slot} (W : Here p l e R s m args below meth c Z F B h0 A y bytes mL ret T k n os) (hd : decode bytes pc = .ok (.lstore_n j, 1)) (hl : storeLocals ls j.val (.long v) = some ls') (K : Go p e below G (T.setTop (mkF m (pc + 1) ls' (st)))) : Go p e below G (T.setTop (mkF m pc ls (.long v :: st))) := by
  obtain ⟨⟨hx, hZ, hby, -⟩, locs, X, -⟩ := W
  exact K.by fun t q => XT.lstoreN X.here hx rfl (hb hby hd) rfl hl q
theorem g_lstore {j : Nat} {v : Int64} {ls' : Array Slot} (W : Here p l e R s m args below meth c Z F B h0 A y bytes mL ret T k n os) (hd : decode bytes pc = .ok (.lstore j, 2)) (hl : storeLocals ls j (.long v) = some ls') (K : Go p e below G (T.setTop (mkF m (pc + 2) ls' (st)))) : Go p e below G (T.setTop (mkF m pc ls (.long v :: st))) := by
  obtain ⟨⟨hx, hZ, hby, -⟩, locs, X, -⟩ := W
  exact K.by fun t q => XT.lstore X.here hx rfl (hb hby hd) rfl hl q
theorem g_astore_n {j : Fin 4} {v : Value} {ls' : Array Slot} (W : Here p l e R s m args below meth c Z F B h0 A y bytes mL ret T k n os) (hd : decode bytes pc = .ok (.astore_n j, 1)) (hv : v.isRef = true) (hl : storeLocals ls j.val v = some ls') (K : Go p e below G (T.setTop (mkF m (pc + 1) ls' (st)))) : Go p e below G (T.setTop (mkF m pc ls (v :: st))) := by
  obtain ⟨⟨hx, hZ, hby, -⟩, locs, X, -⟩ := W
  exact K.by fun t q => XS.astoreN X.here hx rfl (hb hby hd) rfl hv hl q
theorem g_astore {j : Nat} {v : Value} {ls' : Array Slot} (W : Here p l e R s m args below meth c Z F B h0 A y bytes mL ret T k n os) (hd : decode bytes pc = .ok (.astore j, 2)) (hv : v.isRef = true) (hl : storeLocals ls j v = some ls') (K : Go p e below G (T.setTop (mkF m (pc + 2) ls' (st)))) : Go p e below G (T.setTop (mkF m pc ls (v :: st))) := by
  obtain ⟨⟨hx, hZ, hby, -⟩, locs, X, -⟩ := W
  exact K.by fun t q => XS.astore X.here hx rfl (hb hby hd) rfl hv hl q
theorem g_iconst {i : Int} (v : Int32) (hv : Int32.ofInt i = v) (W : Here p l e R s m args below meth c Z F B h0 A y bytes mL ret T k n os) (hd : decode bytes pc = .ok (.iconst i, 1)) (K : Go p e below G (T.setTop (mkF m (pc + 1) ls (.int v :: st)))) : Go p e below G (T.setTop (mkF m pc ls st)) := by
  obtain ⟨⟨hx, hZ, hby, -⟩, locs, X, -⟩ := W
  subst hv
  exact K.by fun t q => XS.iconst X.here hx rfl (hb hby hd) q
theorem g_bipush {i : Int} (v : Int32) (hv : (Int8.ofInt i).toInt32 = v) (W : Here p l e R s m args below meth c Z F B h0 A y bytes mL ret T k n os) (hd : decode bytes pc = .ok (.bipush i, 2)) (K : Go p e below G (T.setTop (mkF m (pc + 2) ls (.int v :: st)))) : Go p e below G (T.setTop (mkF m pc ls st)) := by
  obtain ⟨⟨hx, hZ, hby, -⟩, locs, X, -⟩ := W
  subst hv
  exact K.by fun t q => XS.bipush X.here hx rfl (hb hby hd) q
theorem g_sipush {i : Int} (v : Int32) (hv : (Int16.ofInt i).toInt32 = v) (W : Here p l e R s m args below meth c Z F B h0 A y bytes mL ret T k n os) (hd : decode bytes pc = .ok (.sipush i, 3)) (K : Go p e below G (T.setTop (mkF m (pc + 3) ls (.int v :: st)))) : Go p e below G (T.setTop (mkF m pc ls st)) := by
  obtain ⟨⟨hx, hZ, hby, -⟩, locs, X, -⟩ := W
  subst hv
  exact K.by fun t q => XS.sipush X.here hx rfl (hb hby hd) q
theorem g_lconst {i : Fin 2} (v : Int64) (hv : Int64.ofNat i = v) (W : Here p l e R s m args below meth c Z F B h0 A y bytes mL ret T k n os) (hd : decode bytes pc = .ok (.lconst i, 1)) (K : Go p e below G (T.setTop (mkF m (pc + 1) ls (.long v :: st)))) : Go p e below G (T.setTop (mkF m pc ls st)) := by
  obtain ⟨⟨hx, hZ, hby, -⟩, locs, X, -⟩ := W
  subst hv
  exact K.by fun t q => XT.lconst X.here hx rfl (hb hby hd) q
theorem g_aconst_null  (W : Here p l e R s m args below meth c Z F B h0 A y bytes mL ret T k n os) (hd : decode bytes pc = .ok (.aconst_null, 1)) (K : Go p e below G (T.setTop (mkF m (pc + 1) ls (.null :: st)))) : Go p e below G (T.setTop (mkF m pc ls (st))) := by
  obtain ⟨⟨hx, hZ, hby, -⟩, locs, X, -⟩ := W
  exact K.by fun t q => XS.aconstNull X.here hx rfl (hb hby hd)  q
theorem g_iadd {x z : Int32} (W : Here p l e R s m args below meth c Z F B h0 A y bytes mL ret T k n os) (hd : decode bytes pc = .ok (.iadd, 1)) (K : Go p e below G (T.setTop (mkF m (pc + 1) ls (.int (x + z) :: st)))) : Go p e below G (T.setTop (mkF m pc ls (.int z :: .int x :: st))) := by
  obtain ⟨⟨hx, hZ, hby, -⟩, locs, X, -⟩ := W
  exact K.by fun t q => XS.iadd X.here hx rfl (hb hby hd) rfl q
theorem g_isub {x z : Int32} (W : Here p l e R s m args below meth c Z F B h0 A y bytes mL ret T k n os) (hd : decode bytes pc = .ok (.isub, 1)) (K : Go p e below G (T.setTop (mkF m (pc + 1) ls (.int (x - z) :: st)))) : Go p e below G (T.setTop (mkF m pc ls (.int z :: .int x :: st))) := by
  obtain ⟨⟨hx, hZ, hby, -⟩, locs, X, -⟩ := W
  exact K.by fun t q => XS.isub X.here hx rfl (hb hby hd) rfl q
theorem g_iand {x z : Int32} (W : Here p l e R s m args below meth c Z F B h0 A y bytes mL ret T k n os) (hd : decode bytes pc = .ok (.iand, 1)) (K : Go p e below G (T.setTop (mkF m (pc + 1) ls (.int (x &&& z) :: st)))) : Go p e below G (T.setTop (mkF m pc ls (.int z :: .int x :: st))) := by
  obtain ⟨⟨hx, hZ, hby, -⟩, locs, X, -⟩ := W
  exact K.by fun t q => XS.iand X.here hx rfl (hb hby hd) rfl q
theorem g_imul {x z : Int32} (W : Here p l e R s m args below meth c Z F B h0 A y bytes mL ret T k n os) (hd : decode bytes pc = .ok (.imul, 1)) (K : Go p e below G (T.setTop (mkF m (pc + 1) ls (.int (x * z) :: st)))) : Go p e below G (T.setTop (mkF m pc ls (.int z :: .int x :: st))) := by
  obtain ⟨⟨hx, hZ, hby, -⟩, locs, X, -⟩ := W
  exact K.by fun t q => XS.imul X.here hx rfl (hb hby hd) rfl q
theorem g_ior {x z : Int32} (W : Here p l e R s m args below meth c Z F B h0 A y bytes mL ret T k n os) (hd : decode bytes pc = .ok (.ior, 1)) (K : Go p e below G (T.setTop (mkF m (pc + 1) ls (.int (x ||| z) :: st)))) : Go p e below G (T.setTop (mkF m pc ls (.int z :: .int x :: st))) := by
  obtain ⟨⟨hx, hZ, hby, -⟩, locs, X, -⟩ := W
  exact K.by fun t q => XT.ior X.here hx rfl (hb hby hd) rfl q
theorem g_ixor {x z : Int32} (W : Here p l e R s m args below meth c Z F B h0 A y bytes mL ret T k n os) (hd : decode bytes pc = .ok (.ixor, 1)) (K : Go p e below G (T.setTop (mkF m (pc + 1) ls (.int (x ^^^ z) :: st)))) : Go p e below G (T.setTop (mkF m pc ls (.int z :: .int x :: st))) := by
  obtain ⟨⟨hx, hZ, hby, -⟩, locs, X, -⟩ := W
  exact K.by fun t q => XT.ixor X.here hx rfl (hb hby hd) rfl q
theorem g_ishl {x z : Int32} (W : Here p l e R s m args below meth c Z F B h0 A y bytes mL ret T k n os) (hd : decode bytes pc = .ok (.ishl, 1)) (K : Go p e below G (T.setTop (mkF m (pc + 1) ls (.int (x <<< (z &&& 31)) :: st)))) : Go p e below G (T.setTop (mkF m pc ls (.int z :: .int x :: st))) := by
  obtain ⟨⟨hx, hZ, hby, -⟩, locs, X, -⟩ := W
  exact K.by fun t q => XT.ishl X.here hx rfl (hb hby hd) rfl q
theorem g_ishr {x z : Int32} (W : Here p l e R s m args below meth c Z F B h0 A y bytes mL ret T k n os) (hd : decode bytes pc = .ok (.ishr, 1)) (K : Go p e below G (T.setTop (mkF m (pc + 1) ls (.int (x >>> (z &&& 31)) :: st)))) : Go p e below G (T.setTop (mkF m pc ls (.int z :: .int x :: st))) := by
  obtain ⟨⟨hx, hZ, hby, -⟩, locs, X, -⟩ := W
  exact K.by fun t q => XT.ishr X.here hx rfl (hb hby hd) rfl q
theorem g_iushr {x z : Int32} (W : Here p l e R s m args below meth c Z F B h0 A y bytes mL ret T k n os) (hd : decode bytes pc = .ok (.iushr, 1)) (K : Go p e below G (T.setTop (mkF m (pc + 1) ls (.int (XT.ushr x z) :: st)))) : Go p e below G (T.setTop (mkF m pc ls (.int z :: .int x :: st))) := by
  obtain ⟨⟨hx, hZ, hby, -⟩, locs, X, -⟩ := W
  exact K.by fun t q => XT.iushr X.here hx rfl (hb hby hd) rfl q
theorem g_ladd {x z : Int64} (W : Here p l e R s m args below meth c Z F B h0 A y bytes mL ret T k n os) (hd : decode bytes pc = .ok (.ladd, 1)) (K : Go p e below G (T.setTop (mkF m (pc + 1) ls (.long (x + z) :: st)))) : Go p e below G (T.setTop (mkF m pc ls (.long z :: .long x :: st))) := by
  obtain ⟨⟨hx, hZ, hby, -⟩, locs, X, -⟩ := W
  exact K.by fun t q => XT.ladd X.here hx rfl (hb hby hd) rfl q
theorem g_lsub {x z : Int64} (W : Here p l e R s m args below meth c Z F B h0 A y bytes mL ret T k n os) (hd : decode bytes pc = .ok (.lsub, 1)) (K : Go p e below G (T.setTop (mkF m (pc + 1) ls (.long (x - z) :: st)))) : Go p e below G (T.setTop (mkF m pc ls (.long z :: .long x :: st))) := by
  obtain ⟨⟨hx, hZ, hby, -⟩, locs, X, -⟩ := W
  exact K.by fun t q => XT.lsub X.here hx rfl (hb hby hd) rfl q
theorem g_lmul {x z : Int64} (W : Here p l e R s m args below meth c Z F B h0 A y bytes mL ret T k n os) (hd : decode bytes pc = .ok (.lmul, 1)) (K : Go p e below G (T.setTop (mkF m (pc + 1) ls (.long (x * z) :: st)))) : Go p e below G (T.setTop (mkF m pc ls (.long z :: .long x :: st))) := by
  obtain ⟨⟨hx, hZ, hby, -⟩, locs, X, -⟩ := W
  exact K.by fun t q => XT.lmul X.here hx rfl (hb hby hd) rfl q
theorem g_land {x z : Int64} (W : Here p l e R s m args below meth c Z F B h0 A y bytes mL ret T k n os) (hd : decode bytes pc = .ok (.land, 1)) (K : Go p e below G (T.setTop (mkF m (pc + 1) ls (.long (x &&& z) :: st)))) : Go p e below G (T.setTop (mkF m pc ls (.long z :: .long x :: st))) := by
  obtain ⟨⟨hx, hZ, hby, -⟩, locs, X, -⟩ := W
  exact K.by fun t q => XT.land X.here hx rfl (hb hby hd) rfl q
theorem g_lor {x z : Int64} (W : Here p l e R s m args below meth c Z F B h0 A y bytes mL ret T k n os) (hd : decode bytes pc = .ok (.lor, 1)) (K : Go p e below G (T.setTop (mkF m (pc + 1) ls (.long (x ||| z) :: st)))) : Go p e below G (T.setTop (mkF m pc ls (.long z :: .long x :: st))) := by
  obtain ⟨⟨hx, hZ, hby, -⟩, locs, X, -⟩ := W
  exact K.by fun t q => XT.lor X.here hx rfl (hb hby hd) rfl q
theorem g_lxor {x z : Int64} (W : Here p l e R s m args below meth c Z F B h0 A y bytes mL ret T k n os) (hd : decode bytes pc = .ok (.lxor, 1)) (K : Go p e below G (T.setTop (mkF m (pc + 1) ls (.long (x ^^^ z) :: st)))) : Go p e below G (T.setTop (mkF m pc ls (.long z :: .long x :: st))) := by
  obtain ⟨⟨hx, hZ, hby, -⟩, locs, X, -⟩ := W
  exact K.by fun t q => XT.lxor X.here hx rfl (hb hby hd) rfl q
theorem g_idiv {x z : Int32} (W : Here p l e R s m args below meth c Z F B h0 A y bytes mL ret T k n os) (hd : decode bytes pc = .ok (.idiv, 1)) (hz : z ≠ 0) (K : Go p e below G (T.setTop (mkF m (pc + 1) ls (.int (x / z) :: st)))) : Go p e below G (T.setTop (mkF m pc ls (.int z :: .int x :: st))) := by
  obtain ⟨⟨hx, hZ, hby, -⟩, locs, X, -⟩ := W
  exact K.by fun t q => XS.idiv X.here hx rfl (hb hby hd) rfl hz q
theorem g_irem {x z : Int32} (W : Here p l e R s m args below meth c Z F B h0 A y bytes mL ret T k n os) (hd : decode bytes pc = .ok (.irem, 1)) (hz : z ≠ 0) (K : Go p e below G (T.setTop (mkF m (pc + 1) ls (.int (x % z) :: st)))) : Go p e below G (T.setTop (mkF m pc ls (.int z :: .int x :: st))) := by
  obtain ⟨⟨hx, hZ, hby, -⟩, locs, X, -⟩ := W
  exact K.by fun t q => iremM X hx rfl (hb hby hd) rfl hz q
theorem g_ineg {x : Int32} (W : Here p l e R s m args below meth c Z F B h0 A y bytes mL ret T k n os) (hd : decode bytes pc = .ok (.ineg, 1)) (K : Go p e below G (T.setTop (mkF m (pc + 1) ls (.int (-x) :: st)))) : Go p e below G (T.setTop (mkF m pc ls (.int x :: st))) := by
  obtain ⟨⟨hx, hZ, hby, -⟩, locs, X, -⟩ := W
  exact K.by fun t q => XS.ineg X.here hx rfl (hb hby hd) rfl q
theorem g_lneg {x : Int64} (W : Here p l e R s m args below meth c Z F B h0 A y bytes mL ret T k n os) (hd : decode bytes pc = .ok (.lneg, 1)) (K : Go p e below G (T.setTop (mkF m (pc + 1) ls (.long (-x) :: st)))) : Go p e below G (T.setTop (mkF m pc ls (.long x :: st))) := by
  obtain ⟨⟨hx, hZ, hby, -⟩, locs, X, -⟩ := W
  exact K.by fun t q => XT.lneg X.here hx rfl (hb hby hd) rfl q
theorem g_i2l {x : Int32} (W : Here p l e R s m args below meth c Z F B h0 A y bytes mL ret T k n os) (hd : decode bytes pc = .ok (.i2l, 1)) (K : Go p e below G (T.setTop (mkF m (pc + 1) ls (.long x.toInt64 :: st)))) : Go p e below G (T.setTop (mkF m pc ls (.int x :: st))) := by
  obtain ⟨⟨hx, hZ, hby, -⟩, locs, X, -⟩ := W
  exact K.by fun t q => XT.i2l X.here hx rfl (hb hby hd) rfl q
theorem g_l2i {x : Int64} (W : Here p l e R s m args below meth c Z F B h0 A y bytes mL ret T k n os) (hd : decode bytes pc = .ok (.l2i, 1)) (K : Go p e below G (T.setTop (mkF m (pc + 1) ls (.int x.toInt32 :: st)))) : Go p e below G (T.setTop (mkF m pc ls (.long x :: st))) := by
  obtain ⟨⟨hx, hZ, hby, -⟩, locs, X, -⟩ := W
  exact K.by fun t q => XT.l2i X.here hx rfl (hb hby hd) rfl q
theorem g_i2b {x : Int32} (W : Here p l e R s m args below meth c Z F B h0 A y bytes mL ret T k n os) (hd : decode bytes pc = .ok (.i2b, 1)) (K : Go p e below G (T.setTop (mkF m (pc + 1) ls (.int x.toInt8.toInt32 :: st)))) : Go p e below G (T.setTop (mkF m pc ls (.int x :: st))) := by
  obtain ⟨⟨hx, hZ, hby, -⟩, locs, X, -⟩ := W
  exact K.by fun t q => XT.i2b X.here hx rfl (hb hby hd) rfl q
theorem g_i2c {x : Int32} (W : Here p l e R s m args below meth c Z F B h0 A y bytes mL ret T k n os) (hd : decode bytes pc = .ok (.i2c, 1)) (K : Go p e below G (T.setTop (mkF m (pc + 1) ls (.int x.toUInt32.toUInt16.toUInt32.toInt32 :: st)))) : Go p e below G (T.setTop (mkF m pc ls (.int x :: st))) := by
  obtain ⟨⟨hx, hZ, hby, -⟩, locs, X, -⟩ := W
  exact K.by fun t q => XT.i2c X.here hx rfl (hb hby hd) rfl q
theorem g_i2s {x : Int32} (W : Here p l e R s m args below meth c Z F B h0 A y bytes mL ret T k n os) (hd : decode bytes pc = .ok (.i2s, 1)) (K : Go p e below G (T.setTop (mkF m (pc + 1) ls (.int x.toInt16.toInt32 :: st)))) : Go p e below G (T.setTop (mkF m pc ls (.int x :: st))) := by
  obtain ⟨⟨hx, hZ, hby, -⟩, locs, X, -⟩ := W
  exact K.by fun t q => XT.i2s X.here hx rfl (hb hby hd) rfl q
theorem g_lcmp {x z : Int64} (W : Here p l e R s m args below meth c Z F B h0 A y bytes mL ret T k n os) (hd : decode bytes pc = .ok (.lcmp, 1)) (K : Go p e below G (T.setTop (mkF m (pc + 1) ls (.int (XT.cmpL x z) :: st)))) : Go p e below G (T.setTop (mkF m pc ls (.long z :: .long x :: st))) := by
  obtain ⟨⟨hx, hZ, hby, -⟩, locs, X, -⟩ := W
  exact K.by fun t q => XT.lcmp X.here hx rfl (hb hby hd) rfl q
theorem g_dup {v : Value} (W : Here p l e R s m args below meth c Z F B h0 A y bytes mL ret T k n os) (hd : decode bytes pc = .ok (.dup, 1)) (hv : v.category = 1) (K : Go p e below G (T.setTop (mkF m (pc + 1) ls (v :: v :: st)))) : Go p e below G (T.setTop (mkF m pc ls (v :: st))) := by
  obtain ⟨⟨hx, hZ, hby, -⟩, locs, X, -⟩ := W
  exact K.by fun t q => XS.dup X.here hx rfl (hb hby hd) rfl hv q
theorem g_pop {v : Value} (W : Here p l e R s m args below meth c Z F B h0 A y bytes mL ret T k n os) (hd : decode bytes pc = .ok (.pop, 1)) (hv : v.category = 1) (K : Go p e below G (T.setTop (mkF m (pc + 1) ls (st)))) : Go p e below G (T.setTop (mkF m pc ls (v :: st))) := by
  obtain ⟨⟨hx, hZ, hby, -⟩, locs, X, -⟩ := W
  exact K.by fun t q => XT.pop X.here hx rfl (hb hby hd) rfl hv q
theorem g_dup_x1 {v w : Value} (W : Here p l e R s m args below meth c Z F B h0 A y bytes mL ret T k n os) (hd : decode bytes pc = .ok (.dup_x1, 1)) (hv : v.category = 1) (hw : w.category = 1) (K : Go p e below G (T.setTop (mkF m (pc + 1) ls (v :: w :: v :: st)))) : Go p e below G (T.setTop (mkF m pc ls (v :: w :: st))) := by
  obtain ⟨⟨hx, hZ, hby, -⟩, locs, X, -⟩ := W
  exact K.by fun t q => XT.dupX1 X.here hx rfl (hb hby hd) rfl hv hw q
theorem g_dup2 {v w : Value} (W : Here p l e R s m args below meth c Z F B h0 A y bytes mL ret T k n os) (hd : decode bytes pc = .ok (.dup2, 1)) (hv : v.category = 1) (hw : w.category = 1) (K : Go p e below G (T.setTop (mkF m (pc + 1) ls (v :: w :: v :: w :: st)))) : Go p e below G (T.setTop (mkF m pc ls (v :: w :: st))) := by
  obtain ⟨⟨hx, hZ, hby, -⟩, locs, X, -⟩ := W
  exact K.by fun t q => XT.dup2 X.here hx rfl (hb hby hd) rfl hv hw q
theorem g_iinc {j : Nat} {i : Int} {x : Int32} (v : Int32) (hv : Int32.ofInt i = v) {ls' : Array Slot} (W : Here p l e R s m args below meth c Z F B h0 A y bytes mL ret T k n os) (hd : decode bytes pc = .ok (.iinc j i, 3)) (hl : ls[j]? = some (.val (.int x))) (hl' : storeLocals ls j (.int (x + v)) = some ls') (K : Go p e below G (T.setTop (mkF m (pc + 3) ls' st))) : Go p e below G (T.setTop (mkF m pc ls st)) := by
  obtain ⟨⟨hx, hZ, hby, -⟩, locs, X, -⟩ := W
  subst hv
  exact K.by fun t q => XS.iinc X.here hx rfl (hb hby hd) hl hl' q
theorem g_goto {o : Int} (pc' : Nat) (W : Here p l e R s m args below meth c Z F B h0 A y bytes mL ret T k n os) (hd : decode bytes pc = .ok (.goto o, 3)) (ho : 0 ≤ (pc : Int) + o) (hp : ((pc : Int) + o).toNat = pc') (K : Go p e below G (T.setTop (mkF m pc' ls st))) : Go p e below G (T.setTop (mkF m pc ls st)) := by
  obtain ⟨⟨hx, hZ, hby, -⟩, locs, X, -⟩ := W
  exact K.by fun t q => XS.goto X.here hx rfl rfl (hb hby hd) ho hp q
theorem g_icmpY {cd : ClassFile.Cond} {o : Int} {x z : Int32} (pc' : Nat) (W : Here p l e R s m args below meth c Z F B h0 A y bytes mL ret T k n os) (hd : decode bytes pc = .ok (.if_icmp cd o, 3)) (ho : 0 ≤ (pc : Int) + o) (hp : ((pc : Int) + o).toNat = pc') (hc : if_icmp.holds cd x z = true) (K : Go p e below G (T.setTop (mkF m pc' ls st))) : Go p e below G (T.setTop (mkF m pc ls (.int z :: .int x :: st))) := by
  obtain ⟨⟨hx, hZ, hby, -⟩, locs, X, -⟩ := W
  exact K.by fun t q => XS.icmpYes X.here hx rfl rfl (hb hby hd) rfl hc ho hp q
theorem g_icmpN {cd : ClassFile.Cond} {o : Int} {x z : Int32} (W : Here p l e R s m args below meth c Z F B h0 A y bytes mL ret T k n os) (hd : decode bytes pc = .ok (.if_icmp cd o, 3)) (hc : if_icmp.holds cd x z = false) (K : Go p e below G (T.setTop (mkF m (pc + 3) ls st))) : Go p e below G (T.setTop (mkF m pc ls (.int z :: .int x :: st))) := by
  obtain ⟨⟨hx, hZ, hby, -⟩, locs, X, -⟩ := W
  exact K.by fun t q => XS.icmpNo X.here hx rfl (hb hby hd) rfl hc q
theorem g_ifY {cd : ClassFile.Cond} {o : Int} {x : Int32} (pc' : Nat) (W : Here p l e R s m args below meth c Z F B h0 A y bytes mL ret T k n os) (hd : decode bytes pc = .ok (.ifCond cd o, 3)) (ho : 0 ≤ (pc : Int) + o) (hp : ((pc : Int) + o).toNat = pc') (hc : if_icmp.holds cd x 0 = true) (K : Go p e below G (T.setTop (mkF m pc' ls st))) : Go p e below G (T.setTop (mkF m pc ls (.int x :: st))) := by
  obtain ⟨⟨hx, hZ, hby, -⟩, locs, X, -⟩ := W
  exact K.by fun t q => XS.ifYes X.here hx rfl rfl (hb hby hd) rfl ((if0 _ _).trans hc) ho hp q
theorem g_ifN {cd : ClassFile.Cond} {o : Int} {x : Int32} (W : Here p l e R s m args below meth c Z F B h0 A y bytes mL ret T k n os) (hd : decode bytes pc = .ok (.ifCond cd o, 3)) (hc : if_icmp.holds cd x 0 = false) (K : Go p e below G (T.setTop (mkF m (pc + 3) ls st))) : Go p e below G (T.setTop (mkF m pc ls (.int x :: st))) := by
  obtain ⟨⟨hx, hZ, hby, -⟩, locs, X, -⟩ := W
  exact K.by fun t q => XS.ifNo X.here hx rfl (hb hby hd) rfl ((if0 _ _).trans hc) q
theorem g_icmp_lt {o : Int} {x z : Int32} (pc' : Nat) (W : Here p l e R s m args below meth c Z F B h0 A y bytes mL ret T k n os) (hd : decode bytes pc = .ok (.if_icmp .lt o, 3)) (ho : 0 ≤ (pc : Int) + o) (hp : ((pc : Int) + o).toNat = pc') (Y : x < z → Go p e below G (T.setTop (mkF m pc' ls st))) (N : ¬ (x < z) → Go p e below G (T.setTop (mkF m (pc + 3) ls st))) : Go p e below G (T.setTop (mkF m pc ls (.int z :: .int x :: st))) := by
  by_cases q : x < z
  · exact g_icmpY pc' W hd ho hp (tlt q).1 (Y q)
  · exact g_icmpN W hd (flt q).1 (N q)
theorem g_if_lt {o : Int} {x : Int32} (pc' : Nat) (W : Here p l e R s m args below meth c Z F B h0 A y bytes mL ret T k n os) (hd : decode bytes pc = .ok (.ifCond .lt o, 3)) (ho : 0 ≤ (pc : Int) + o) (hp : ((pc : Int) + o).toNat = pc') (Y : x < 0 → Go p e below G (T.setTop (mkF m pc' ls st))) (N : ¬ (x < 0) → Go p e below G (T.setTop (mkF m (pc + 3) ls st))) : Go p e below G (T.setTop (mkF m pc ls (.int x :: st))) := by
  by_cases q : x < 0
  · exact g_ifY pc' W hd ho hp (tlt q).1 (Y q)
  · exact g_ifN W hd (flt q).1 (N q)
theorem g_icmp_ge {o : Int} {x z : Int32} (pc' : Nat) (W : Here p l e R s m args below meth c Z F B h0 A y bytes mL ret T k n os) (hd : decode bytes pc = .ok (.if_icmp .ge o, 3)) (ho : 0 ≤ (pc : Int) + o) (hp : ((pc : Int) + o).toNat = pc') (Y : ¬ (x < z) → Go p e below G (T.setTop (mkF m pc' ls st))) (N : x < z → Go p e below G (T.setTop (mkF m (pc + 3) ls st))) : Go p e below G (T.setTop (mkF m pc ls (.int z :: .int x :: st))) := by
  by_cases q : x < z
  · exact g_icmpN W hd (tlt q).2.1 (N q)
  · exact g_icmpY pc' W hd ho hp (flt q).2.1 (Y q)
theorem g_if_ge {o : Int} {x : Int32} (pc' : Nat) (W : Here p l e R s m args below meth c Z F B h0 A y bytes mL ret T k n os) (hd : decode bytes pc = .ok (.ifCond .ge o, 3)) (ho : 0 ≤ (pc : Int) + o) (hp : ((pc : Int) + o).toNat = pc') (Y : ¬ (x < 0) → Go p e below G (T.setTop (mkF m pc' ls st))) (N : x < 0 → Go p e below G (T.setTop (mkF m (pc + 3) ls st))) : Go p e below G (T.setTop (mkF m pc ls (.int x :: st))) := by
  by_cases q : x < 0
  · exact g_ifN W hd (tlt q).2.1 (N q)
  · exact g_ifY pc' W hd ho hp (flt q).2.1 (Y q)
theorem g_icmp_gt {o : Int} {x z : Int32} (pc' : Nat) (W : Here p l e R s m args below meth c Z F B h0 A y bytes mL ret T k n os) (hd : decode bytes pc = .ok (.if_icmp .gt o, 3)) (ho : 0 ≤ (pc : Int) + o) (hp : ((pc : Int) + o).toNat = pc') (Y : z < x → Go p e below G (T.setTop (mkF m pc' ls st))) (N : ¬ (z < x) → Go p e below G (T.setTop (mkF m (pc + 3) ls st))) : Go p e below G (T.setTop (mkF m pc ls (.int z :: .int x :: st))) := by
  by_cases q : z < x
  · exact g_icmpY pc' W hd ho hp (tlt q).2.2.1 (Y q)
  · exact g_icmpN W hd (flt q).2.2.1 (N q)
theorem g_if_gt {o : Int} {x : Int32} (pc' : Nat) (W : Here p l e R s m args below meth c Z F B h0 A y bytes mL ret T k n os) (hd : decode bytes pc = .ok (.ifCond .gt o, 3)) (ho : 0 ≤ (pc : Int) + o) (hp : ((pc : Int) + o).toNat = pc') (Y : 0 < x → Go p e below G (T.setTop (mkF m pc' ls st))) (N : ¬ (0 < x) → Go p e below G (T.setTop (mkF m (pc + 3) ls st))) : Go p e below G (T.setTop (mkF m pc ls (.int x :: st))) := by
  by_cases q : 0 < x
  · exact g_ifY pc' W hd ho hp (tlt q).2.2.1 (Y q)
  · exact g_ifN W hd (flt q).2.2.1 (N q)
theorem g_icmp_le {o : Int} {x z : Int32} (pc' : Nat) (W : Here p l e R s m args below meth c Z F B h0 A y bytes mL ret T k n os) (hd : decode bytes pc = .ok (.if_icmp .le o, 3)) (ho : 0 ≤ (pc : Int) + o) (hp : ((pc : Int) + o).toNat = pc') (Y : ¬ (z < x) → Go p e below G (T.setTop (mkF m pc' ls st))) (N : z < x → Go p e below G (T.setTop (mkF m (pc + 3) ls st))) : Go p e below G (T.setTop (mkF m pc ls (.int z :: .int x :: st))) := by
  by_cases q : z < x
  · exact g_icmpN W hd (tlt q).2.2.2 (N q)
  · exact g_icmpY pc' W hd ho hp (flt q).2.2.2 (Y q)
theorem g_if_le {o : Int} {x : Int32} (pc' : Nat) (W : Here p l e R s m args below meth c Z F B h0 A y bytes mL ret T k n os) (hd : decode bytes pc = .ok (.ifCond .le o, 3)) (ho : 0 ≤ (pc : Int) + o) (hp : ((pc : Int) + o).toNat = pc') (Y : ¬ (0 < x) → Go p e below G (T.setTop (mkF m pc' ls st))) (N : 0 < x → Go p e below G (T.setTop (mkF m (pc + 3) ls st))) : Go p e below G (T.setTop (mkF m pc ls (.int x :: st))) := by
  by_cases q : 0 < x
  · exact g_ifN W hd (tlt q).2.2.2 (N q)
  · exact g_ifY pc' W hd ho hp (flt q).2.2.2 (Y q)
theorem g_icmp_eq {o : Int} {x z : Int32} (pc' : Nat) (W : Here p l e R s m args below meth c Z F B h0 A y bytes mL ret T k n os) (hd : decode bytes pc = .ok (.if_icmp .eq o, 3)) (ho : 0 ≤ (pc : Int) + o) (hp : ((pc : Int) + o).toNat = pc') (Y : x = z → Go p e below G (T.setTop (mkF m pc' ls st))) (N : ¬ (x = z) → Go p e below G (T.setTop (mkF m (pc + 3) ls st))) : Go p e below G (T.setTop (mkF m pc ls (.int z :: .int x :: st))) := by
  by_cases q : x = z
  · exact g_icmpY pc' W hd ho hp (teq q).1 (Y q)
  · exact g_icmpN W hd (feq q).1 (N q)
theorem g_if_eq {o : Int} {x : Int32} (pc' : Nat) (W : Here p l e R s m args below meth c Z F B h0 A y bytes mL ret T k n os) (hd : decode bytes pc = .ok (.ifCond .eq o, 3)) (ho : 0 ≤ (pc : Int) + o) (hp : ((pc : Int) + o).toNat = pc') (Y : x = 0 → Go p e below G (T.setTop (mkF m pc' ls st))) (N : ¬ (x = 0) → Go p e below G (T.setTop (mkF m (pc + 3) ls st))) : Go p e below G (T.setTop (mkF m pc ls (.int x :: st))) := by
  by_cases q : x = 0
  · exact g_ifY pc' W hd ho hp (teq q).1 (Y q)
  · exact g_ifN W hd (feq q).1 (N q)
theorem g_icmp_ne {o : Int} {x z : Int32} (pc' : Nat) (W : Here p l e R s m args below meth c Z F B h0 A y bytes mL ret T k n os) (hd : decode bytes pc = .ok (.if_icmp .ne o, 3)) (ho : 0 ≤ (pc : Int) + o) (hp : ((pc : Int) + o).toNat = pc') (Y : ¬ (x = z) → Go p e below G (T.setTop (mkF m pc' ls st))) (N : x = z → Go p e below G (T.setTop (mkF m (pc + 3) ls st))) : Go p e below G (T.setTop (mkF m pc ls (.int z :: .int x :: st))) := by
  by_cases q : x = z
  · exact g_icmpN W hd (teq q).2 (N q)
  · exact g_icmpY pc' W hd ho hp (feq q).2 (Y q)
theorem g_if_ne {o : Int} {x : Int32} (pc' : Nat) (W : Here p l e R s m args below meth c Z F B h0 A y bytes mL ret T k n os) (hd : decode bytes pc = .ok (.ifCond .ne o, 3)) (ho : 0 ≤ (pc : Int) + o) (hp : ((pc : Int) + o).toNat = pc') (Y : ¬ (x = 0) → Go p e below G (T.setTop (mkF m pc' ls st))) (N : x = 0 → Go p e below G (T.setTop (mkF m (pc + 3) ls st))) : Go p e below G (T.setTop (mkF m pc ls (.int x :: st))) := by
  by_cases q : x = 0
  · exact g_ifN W hd (teq q).2 (N q)
  · exact g_ifY pc' W hd ho hp (feq q).2 (Y q)
theorem g_lookup {dfl : Int} {pairs : Array (Int × Int)} {len : Nat} {x : Int32} (W : Here p l e R s m args below meth c Z F B h0 A y bytes mL ret T k n os) (hd : decode bytes pc = .ok (.lookupswitch dfl pairs, len)) (hs : (pairs.toList.zip (pairs.toList.drop 1)).all (fun (a, next) => a.1 < next.1) = true) (ho : ∀ q ∈ pairs.toList, 0 ≤ (pc : Int) + q.2) (ho' : 0 ≤ (pc : Int) + dfl)
    (Y : ∀ a off, (a, off) ∈ pairs.toList → x.toInt = a → Go p e below G (T.setTop (mkF m ((pc : Int) + off).toNat ls st))) (N : (∀ q ∈ pairs.toList, q.1 ≠ x.toInt) → Go p e below G (T.setTop (mkF m ((pc : Int) + dfl).toNat ls st))) : Go p e below G (T.setTop (mkF m pc ls (.int x :: st))) := by
  obtain ⟨⟨hx, hZ, hby, -⟩, locs, X, -⟩ := W
  cases hf : pairs.find? (·.1 == x.toInt) with
  | none =>
    have K := N fun q hq e => by
      rw [Array.find?_eq_none] at hf
      exact hf q (Array.mem_toList_iff.mp hq) (by simp [e])
    exact K.by fun t q => X.lookupswitchMiss hx (g := mkF m pc ls (.int x :: st)) rfl rfl (hb hby hd) hs hf ho' t q
  | some q =>
    obtain ⟨a, off⟩ := q
    have h1 := Array.find?_some hf
    have h2 := Array.mem_toList_iff.mpr (Array.mem_of_find?_eq_some hf)
    have K := Y a off h2 (by simpa using (beq_iff_eq.mp h1).symm)
    exact K.by fun t q => X.lookupswitchHit hx (g := mkF m pc ls (.int x :: st)) rfl rfl (hb hby hd) hs hf (ho _ h2) t q
theorem g_ldc_int {i : Nat} {v : Int32} (W : Here p l e R s m args below meth c Z F B h0 A y bytes mL ret T k n os) (w : (Jvm.Cond.constant y.cls i v).before a0 Z = true) (hd : decode bytes pc = .ok (.ldc i, 2)) (K : Go p e below G (T.setTop (mkF m (pc + 2) ls (.int v :: st)))) : Go p e below G (T.setTop (mkF m pc ls st)) := by
  obtain ⟨⟨hx, hZ, hby, -, hown, -⟩, locs, X, -⟩ := W
  exact K.by fun t q => X.ldcInt hx hown (mvT hZ w) (g := mkF m pc ls st) rfl (hb hby hd) t q
theorem g_ldc2_long {i : Nat} {v : Int64} (W : Here p l e R s m args below meth c Z F B h0 A y bytes mL ret T k n os) (w : (Jvm.Cond.constantLong y.cls i v).before a0 Z = true) (hd : decode bytes pc = .ok (.ldc2_w i, 3)) (K : Go p e below G (T.setTop (mkF m (pc + 3) ls (.long v :: st)))) : Go p e below G (T.setTop (mkF m pc ls st)) := by
  obtain ⟨⟨hx, hZ, hby, -, hown, -⟩, locs, X, -⟩ := W
  exact K.by fun t q => X.ldc2Long hx hown (mvT hZ w) (g := mkF m pc ls st) rfl (hb hby hd) t q
theorem g_ireturn {z : Int32} (hT : ret = some .int) {kc ks : Nat} {P : Option Value → List Ob → Prop} (W : Here p l e R s m args below meth c Z F B h0 A y bytes mL ret T k n os) (hd : decode bytes pc = .ok (.ireturn, 1)) (hk : k ≤ kc) (hn : n ≤ ks) (hp : P (some (.int z)) os) : Go p e below (Fin1 below s Z F B h0 A kc ks P) (T.setTop (mkF m pc ls (.int z :: st))) := by
  obtain ⟨⟨hx, hZ, hby, -, hown, hret, hlk, -⟩, locs, X, hL, hI⟩ := W
  obtain ⟨fs, hr, hrun, hended, hW, hsame⟩ := X.leave (v := some (.int z)) (fun h => by rw [hret, hT] at h; cases h) hlk
  exact ⟨_, retOut X hx (hret.trans hT) rfl (Or.inl ⟨rfl, Or.inl rfl, z, rfl⟩) (hb hby hd) hr, hrun, _, locs, hended, ⟨hL.1, os, hI, hp⟩, ⟨_, rfl⟩, hW, hsame.mono hk hn⟩
theorem g_zreturn {z : Int32} (hT : ret = some .boolean) (hz : z &&& 1 = z) {kc ks : Nat} {P : Option Value → List Ob → Prop} (W : Here p l e R s m args below meth c Z F B h0 A y bytes mL ret T k n os) (hd : decode bytes pc = .ok (.ireturn, 1)) (hk : k ≤ kc) (hn : n ≤ ks) (hp : P (some (.int z)) os) : Go p e below (Fin1 below s Z F B h0 A kc ks P) (T.setTop (mkF m pc ls (.int z :: st))) := by
  obtain ⟨⟨hx, hZ, hby, -, hown, hret, hlk, -⟩, locs, X, hL, hI⟩ := W
  obtain ⟨fs, hr, hrun, hended, hW, hsame⟩ := X.leave (v := some (.int z)) (fun h => by rw [hret, hT] at h; cases h) hlk
  exact ⟨_, retOut (t := .boolean) (w := .int z) X hx (hret.trans hT) (show Value.int (z &&& 1) = .int z by rw [hz]) (Or.inl ⟨rfl, Or.inr (Or.inl rfl), z, rfl⟩) (hb hby hd) hr, hrun, _, locs, hended, ⟨hL.1, os, hI, hp⟩, ⟨_, rfl⟩, hW, hsame.mono hk hn⟩
theorem g_lreturn {z : Int64} (hT : ret = some .long) {kc ks : Nat} {P : Option Value → List Ob → Prop} (W : Here p l e R s m args below meth c Z F B h0 A y bytes mL ret T k n os) (hd : decode bytes pc = .ok (.lreturn, 1)) (hk : k ≤ kc) (hn : n ≤ ks) (hp : P (some (.long z)) os) : Go p e below (Fin1 below s Z F B h0 A kc ks P) (T.setTop (mkF m pc ls (.long z :: st))) := by
  obtain ⟨⟨hx, hZ, hby, -, hown, hret, hlk, -⟩, locs, X, hL, hI⟩ := W
  obtain ⟨fs, hr, hrun, hended, hW, hsame⟩ := X.leave (v := some (.long z)) (fun h => by rw [hret, hT] at h; cases h) hlk
  exact ⟨_, retOut X hx (hret.trans hT) rfl (Or.inr (Or.inl ⟨rfl, rfl, z, rfl⟩)) (hb hby hd) hr, hrun, _, locs, hended, ⟨hL.1, os, hI, hp⟩, ⟨_, rfl⟩, hW, hsame.mono hk hn⟩
theorem g_areturn {z : Addr} {t : FieldType} (hT : ret = some t) (ht : t.isReference = true) {kc ks : Nat} {P : Option Value → List Ob → Prop} (W : Here p l e R s m args below meth c Z F B h0 A y bytes mL ret T k n os) (hd : decode bytes pc = .ok (.areturn, 1)) (hk : k ≤ kc) (hn : n ≤ ks) (hp : P (some (.ref z)) os) : Go p e below (Fin1 below s Z F B h0 A kc ks P) (T.setTop (mkF m pc ls (.ref z :: st))) := by
  obtain ⟨⟨hx, hZ, hby, -, hown, hret, hlk, -⟩, locs, X, hL, hI⟩ := W
  obtain ⟨fs, hr, hrun, hended, hW, hsame⟩ := X.leave (v := some (.ref z)) (fun h => by rw [hret, hT] at h; cases h) hlk
  exact ⟨_, retOut X hx (hret.trans hT) (by cases t <;> first | rfl | simp [FieldType.isReference] at ht) (Or.inr (Or.inr (Or.inr (Or.inr ⟨rfl, ht, rfl⟩)))) (hb hby hd) hr, hrun, _, locs, hended, ⟨hL.1, os, hI, hp⟩, ⟨_, rfl⟩, hW, hsame.mono hk hn⟩
theorem g_return (hT : ret = none) {kc ks : Nat} {P : Option Value → List Ob → Prop} (W : Here p l e R s m args below meth c Z F B h0 A y bytes mL ret T k n os) (hd : decode bytes pc = .ok (.return_, 1)) (hk : k ≤ kc) (hn : n ≤ ks) (hp : P (none) os) : Go p e below (Fin1 below s Z F B h0 A kc ks P) (T.setTop (mkF m pc ls ([]))) := by
  obtain ⟨⟨hx, hZ, hby, -, hown, hret, hlk, -⟩, locs, X, hL, hI⟩ := W
  obtain ⟨fs, hr, hrun, hended, hW, hsame⟩ := X.leave (v := none) (fun _ => rfl) hlk
  exact ⟨_, X.returnOut hx (hret.trans hT) (hb hby hd) hr, hrun, _, locs, hended, ⟨hL.1, os, hI, hp⟩, ⟨_, rfl⟩, hW, hsame.mono hk hn⟩
theorem own_bb (v : Int32) : v.toInt8.toInt32.toInt8.toInt32 = v.toInt8.toInt32 := by rw [Int8.toInt8_toInt32]
theorem g_acmp {cd : ACond} {o : Int} {v w : Value} (pc' : Nat) (same : Bool) (W : Here p l e R s m args below meth c Z F B h0 A y bytes mL ret T k n os) (hd : decode bytes pc = .ok (.if_acmp cd o, 3)) (h1 : v.isRef = true) (h2 : w.isRef = true) (hq : decide (v = w) = same) (ho : 0 ≤ (pc : Int) + o) (hp : pc' = if acV cd same = true then ((pc : Int) + o).toNat else pc + 3) (K : Go p e below G (T.setTop (mkF m pc' ls st))) : Go p e below G (T.setTop (mkF m pc ls (w :: v :: st))) := by
  obtain ⟨⟨hx, hZ, hby, -⟩, locs, X, -⟩ := W
  exact K.by fun t q => Jvm.RoadKit.acmp (g := mkF m pc ls (w :: v :: st)) X hx rfl h1 h2 rfl (hb hby hd) rfl hq ho hp q
theorem Here.re {os' : List Ob} (W : Here p l e R s m args below meth c Z F B h0 A y bytes mL ret T k n os) (h : os = os') : Here p l e R s m args below meth c Z F B h0 A y bytes mL ret T k n os' := h ▸ W
theorem Here.kn {k' n' : Nat} (W : Here p l e R s m args below meth c Z F B h0 A y bytes mL ret T k n os) (h : k = k') (h' : n = n') : Here p l e R s m args below meth c Z F B h0 A y bytes mL ret T k' n' os := by subst h h'; exact W
/-- what the sheet says of a class: its fields are laid, under names of their own -/
def Cls (Z : State) (a0 : Array Value) (F : Fm) (C : String) : Prop := (∀ x ∈ F C, Laid Z a0 C C x.1 x.2 ∧ ∃ t, parseFieldDescriptor x.2 = some t) ∧ ((F C).map (·.1)).Nodup
theorem Cls.ne {C : String} (H : Cls Z a0 F C) {i j : Nat} {x x' : String × String} (hi : (F C)[i]? = some x) (hj : (F C)[j]? = some x') (ne : i ≠ j) : Jvm.RoadKit.slotOf Z C x.1 x.2 ≠ Jvm.RoadKit.slotOf Z C x'.1 x'.2 := by
  obtain ⟨L, t, ht⟩ := H.1 x (List.mem_of_getElem? hi)
  obtain ⟨L', t', ht'⟩ := H.1 x' (List.mem_of_getElem? hj)
  refine slot_ne L L' (fun e => ne ?_) ht ht'
  obtain ⟨h1, e1⟩ := List.getElem?_eq_some_iff.mp hi
  obtain ⟨h2, e2⟩ := List.getElem?_eq_some_iff.mp hj
  refine (List.getElem_inj (xs := (F C).map (·.1)) (h₀ := by simpa using h1) (h₁ := by simpa using h2) H.2).mp ?_
  simp [e1, e2, e]
def dflt (d : String) : Value := ((parseFieldDescriptor d).map defaultValue).getD .null
theorem g_getfield {i index j : Nat} {a : Addr} {C nm d host : String} {vs : List Value} {v : Value} (W : Here p l e R s m args below meth c Z F B h0 A y bytes mL ret T k n os) (w : (Jvm.Cond.fieldLink y.cls index C nm d).before a0 Z = true ∨ (Jvm.Cond.fieldLinkNest y.cls index C nm d host).before a0 Z = true)
    (hi : os[i]? = some (a, .object C, vs)) (hf : (F C)[j]? = some (nm, d)) (hv : vs[j]? = some v) (hd : decode bytes pc = .ok (.getfield index, 3)) (K : ∀ T', Here p l e R s m args below meth c Z F B h0 A y bytes mL ret T' k n os → Go p e below G (T'.setTop (mkF m (pc + 3) ls (v :: st)))) : Go p e below G (T.setTop (mkF m pc ls (.ref a :: st))) := by
  obtain ⟨H0, locs, X, hL, hI⟩ := W
  have O : Oat F Z T.heap a (.object C) vs := hI.2.1.get hi
  obtain ⟨T', X', e', stp⟩ := getF X H0.1 H0.2.1 H0.2.2.2.2.1 w Via.refl rfl (O.2.2 j nm d v hf hv) (g := mkF m pc ls (.ref a :: st)) rfl rfl (hb H0.2.2.1 hd)
  exact (K T' ⟨H0, locs, X', hL, by rw [e']; exact hI⟩).by stp
theorem g_putfield {i index j kk : Nat} {a : Addr} {C nm d host : String} {vs : List Value} {v old : Value} {ty : FieldType} {os' : List Ob} (W : Here p l e R s m args below meth c Z F B h0 A y bytes mL ret T k n os) (w : (Jvm.Cond.fieldLink y.cls index C nm d).before a0 Z = true ∨ (Jvm.Cond.fieldLinkNest y.cls index C nm d host).before a0 Z = true)
    (hC : Cls Z a0 F C) (L : (Jvm.Cond.lays C C nm d).before a0 Z = true ∨ ((Jvm.Cond.laysFinal C C nm d).before a0 Z = true ∧ y.cls = C ∧ y.name = "<init>")) (wi : (Jvm.Cond.instantiable C kk).before a0 Z = true)
    (hi : os[i]? = some (a, .object C, vs)) (hf : (F C)[j]? = some (nm, d)) (hv : vs[j]? = some old) (hty : parseFieldDescriptor d = some ty) (hn : narrow ty v = v) (hfit : fits ty v = true) (ho : os.set i (a, .object C, vs.set j v) = os')
    (hd : decode bytes pc = .ok (.putfield index, 3)) (K : ∀ T', Here p l e R s m args below meth c Z F B h0 A y bytes mL ret T' k n os' → Go p e below G (T'.setTop (mkF m (pc + 3) ls (st)))) : Go p e below G (T.setTop (mkF m pc ls (v :: .ref a :: st))) := by
  obtain ⟨H0, locs, X, hL, hI⟩ := W
  have O : Oat F Z T.heap a (.object C) vs := hI.2.1.get hi
  obtain ⟨E, hlen, hF⟩ := O
  obtain ⟨T', h', X', e', Wr', stp⟩ := putF X H0.1 H0.2.1 H0.2.2.2.2.1 w Via.refl rfl (hF j nm d old hf hv) E (L.imp id fun q => ⟨q.1, q.2.1, H0.2.2.2.2.2.2.2.trans q.2.2⟩) wi hty hn hfit (g := mkF m pc ls (v :: .ref a :: st)) rfl rfl (hb H0.2.2.1 hd)
  refine (K T' ⟨H0, _, X', ⟨fun z hz => ?_, hL.2⟩, ?_⟩).by stp
  · rcases List.mem_append.mp hz with q | q
    · exact hL.1 z q
    · cases List.mem_singleton.mp q; exact (hI.mem hi).ge hL.2.1 hL.2.2
  · rw [e', ← ho]
    refine hI.set hi (Keep.of_wr Wr') ⟨E.wr Wr', by simpa using hlen, fun i' n' d' v' h1 h2 => ?_⟩
    rw [List.getElem?_set] at h2
    split at h2
    · rename_i e1; subst e1
      have : v' = v := by split at h2 <;> simp_all
      cases hf.symm.trans h1
      subst this
      exact (hF j nm d old hf hv).same Wr'
    · rename_i ne
      have q : Jvm.RoadKit.slotOf Z C n' d' ≠ Jvm.RoadKit.slotOf Z C nm d := hC.ne (x := (n', d')) (x' := (nm, d)) h1 hf (Ne.symm ne)
      exact (hF i' n' d' v' h1 h2).other Wr' (Or.inr q)
theorem g_new {index nsl : Nat} {C : String} {vs : List Value} (W : Here p l e R s m args below meth c Z F B h0 A y bytes mL ret T k n os) (w : (Jvm.Cond.classLink y.cls index C).before a0 Z = true) (wi : (Jvm.Cond.instantiable C nsl).before a0 Z = true) (wz : (Jvm.Cond.initialized C).before a0 Z = true) (hC : Cls Z a0 F C) (hvs : (F C).map (fun x => dflt x.2) = vs)
    (hd : decode bytes pc = .ok (.new index, 3)) (hc : k + 1 ≤ R.cells) (hs : n + nsl ≤ R.slots)
    (K : ∀ T' a, Here p l e R s m args below meth c Z F B h0 A y bytes mL ret T' (k + 1) (n + nsl) (os ++ [(a, .object C, vs)]) → Go p e below G (T'.setTop (mkF m (pc + 3) ls (.ref a :: st)))) : Go p e below G (T.setTop (mkF m pc ls st)) := by
  obtain ⟨H0, locs, X, hL, hI⟩ := W
  obtain ⟨T', h', X', e', E', A', D', -, stp⟩ := newO X H0.1 H0.2.1 H0.2.2.2.2.1 w wi wz rfl (g := mkF m pc ls st) rfl (hb H0.2.2.1 hd) hc hs
  refine (K T' T.heap.size ⟨H0, locs, X', hL, ?_⟩).by stp
  rw [e']
  refine hI.push E' ⟨A', by rw [← hvs]; simp, fun i nm d v h1 h2 => ?_⟩
  obtain ⟨La, t, ht⟩ := hC.1 _ (List.mem_of_getElem? h1)
  have q := D' La ht
  rw [← hvs, List.getElem?_map, h1] at h2
  simp only [Option.map_some, dflt, ht, Option.getD_some, Option.some.injEq] at h2
  rw [← h2]; exact q
theorem fits_dflt (aty : ArrayType) : fits (newarray.typeOf aty) (defaultValue (newarray.typeOf aty)) = true := by cases aty <;> rfl
theorem g_newarray {aty : ArrayType} {z : Int32} {ty : FieldType} {vs : List Value} (cap : Nat) (W : Here p l e R s m args below meth c Z F B h0 A y bytes mL ret T k n os) (w : (Jvm.Cond.arrayClass ty).before a0 Z = true) (hty : newarray.typeOf aty = ty) (hz : ¬ z < 0) (hcap : z.toNatClampNeg ≤ cap) (hb8 : cap * 8 ≤ 536870912) (hvs : List.replicate z.toNatClampNeg (defaultValue ty) = vs)
    (hd : decode bytes pc = .ok (.newarray aty, 2)) (hc : k + 1 ≤ R.cells) (hs : n + cap ≤ R.slots)
    (K : ∀ T' a, Here p l e R s m args below meth c Z F B h0 A y bytes mL ret T' (k + 1) (n + cap) (os ++ [(a, .array ty, vs)]) → Go p e below G (T'.setTop (mkF m (pc + 2) ls (.ref a :: st)))) : Go p e below G (T.setTop (mkF m pc ls (.int z :: st))) := by
  obtain ⟨H0, locs, X, hL, hI⟩ := W
  subst hty hvs
  obtain ⟨T', h', cA, X', e', E', A', Ex, stp⟩ := newPE X H0.1 H0.2.1 w rfl (g := mkF m pc ls (.int z :: st)) rfl (hb H0.2.2.1 hd) rfl hz hcap hb8 hc hs rfl
  refine (K T' T.heap.size ⟨H0, locs, X', hL, ?_⟩).by stp
  rw [e']
  refine hI.push E' ⟨Ex, fun v hv => ?_, _, A', by simp [newA]⟩
  rw [(List.mem_replicate.mp hv).2]; exact fits_dflt aty
theorem g_anewarray {index : Nat} {z : Int32} {C : String} {vs : List Value} (cap : Nat) (W : Here p l e R s m args below meth c Z F B h0 A y bytes mL ret T k n os) (w : (Jvm.Cond.classLink y.cls index C).before a0 Z = true) (w2 : (Jvm.Cond.arrayOver (.object C)).before a0 Z = true) (hz : ¬ z < 0) (hcap : z.toNatClampNeg ≤ cap) (hb8 : cap * 8 ≤ 536870912) (hvs : List.replicate z.toNatClampNeg .null = vs)
    (hd : decode bytes pc = .ok (.anewarray index, 3)) (hc : k + 1 ≤ R.cells) (hs : n + cap ≤ R.slots)
    (K : ∀ T' a, Here p l e R s m args below meth c Z F B h0 A y bytes mL ret T' (k + 1) (n + cap) (os ++ [(a, .array (.object C), vs)]) → Go p e below G (T'.setTop (mkF m (pc + 3) ls (.ref a :: st)))) : Go p e below G (T.setTop (mkF m pc ls (.int z :: st))) := by
  obtain ⟨H0, locs, X, hL, hI⟩ := W
  subst hvs
  obtain ⟨T', h', cA, X', e', E', A', Ex, -, stp⟩ := newRE X H0.1 H0.2.1 H0.2.2.2.2.1 w w2 rfl (g := mkF m pc ls (.int z :: st)) rfl (hb H0.2.2.1 hd) rfl hz hcap hb8 hc hs rfl
  refine (K T' T.heap.size ⟨H0, locs, X', hL, ?_⟩).by stp
  rw [e']
  refine hI.push E' ⟨Ex, fun v hv => ?_, _, A', by simp [newA, defaultValue]⟩
  rw [(List.mem_replicate.mp hv).2]; rfl
theorem inb_list {cl : Cell} {vs : List Value} {z : Int32} {v : Value} (S : cl.slots = vs.toArray) (hz : ¬ z < 0) (hv : vs[z.toNatClampNeg]? = some v) : ¬ (z < 0 ∨ cl.slots.size ≤ z.toNatClampNeg) ∧ cl.slots[z.toNatClampNeg]? = some v := by
  have h1 := (List.getElem?_eq_some_iff.mp hv).1
  refine ⟨fun q => q.elim hz fun q => ?_, by rw [S]; simpa using hv⟩
  rw [S] at q; simp at q; omega
theorem g_iaload {i : Nat} {a : Addr} {z : Int32} {vs : List Value} {v : Value} (W : Here p l e R s m args below meth c Z F B h0 A y bytes mL ret T k n os) (hi : os[i]? = some (a, .array .int, vs)) (hz : ¬ z < 0) (hv : vs[z.toNatClampNeg]? = some v) (hd : decode bytes pc = .ok (.iaload, 1)) (K : Go p e below G (T.setTop (mkF m (pc + 1) ls (v :: st)))) : Go p e below G (T.setTop (mkF m pc ls (.int z :: .ref a :: st))) := by
  obtain ⟨H0, locs, X, hL, hI⟩ := W
  have O : Oat F Z T.heap a (.array .int) vs := hI.2.1.get hi
  obtain ⟨E, -, cl, Ar, S⟩ := O
  obtain ⟨h1, h2⟩ := inb_list S hz hv
  exact K.by fun t q => X.iaload H0.1 (j := z) (v := v) Ar.1 (State.isArrayOf_alike H0.2.1.alike Ar.2.1) Ar.2.2 h1 h2 (g := mkF m pc ls (.int z :: .ref a :: st)) rfl rfl (hb H0.2.2.1 hd) t q
theorem g_laload {i : Nat} {a : Addr} {z : Int32} {vs : List Value} {v : Value} (W : Here p l e R s m args below meth c Z F B h0 A y bytes mL ret T k n os) (hi : os[i]? = some (a, .array .long, vs)) (hz : ¬ z < 0) (hv : vs[z.toNatClampNeg]? = some v) (hd : decode bytes pc = .ok (.laload, 1)) (K : Go p e below G (T.setTop (mkF m (pc + 1) ls (v :: st)))) : Go p e below G (T.setTop (mkF m pc ls (.int z :: .ref a :: st))) := by
  obtain ⟨H0, locs, X, hL, hI⟩ := W
  have O : Oat F Z T.heap a (.array .long) vs := hI.2.1.get hi
  obtain ⟨E, -, cl, Ar, S⟩ := O
  obtain ⟨h1, h2⟩ := inb_list S hz hv
  exact K.by fun t q => X.laload H0.1 (j := z) (v := v) Ar.1 (State.isArrayOf_alike H0.2.1.alike Ar.2.1) Ar.2.2 h1 h2 (g := mkF m pc ls (.int z :: .ref a :: st)) rfl rfl (hb H0.2.2.1 hd) t q
theorem g_baload {i : Nat} {a : Addr} {z : Int32} {vs : List Value} {v : Value} (W : Here p l e R s m args below meth c Z F B h0 A y bytes mL ret T k n os) (hi : os[i]? = some (a, .array .byte, vs)) (hz : ¬ z < 0) (hv : vs[z.toNatClampNeg]? = some v) (hd : decode bytes pc = .ok (.baload, 1)) (K : Go p e below G (T.setTop (mkF m (pc + 1) ls (v :: st)))) : Go p e below G (T.setTop (mkF m pc ls (.int z :: .ref a :: st))) := by
  obtain ⟨H0, locs, X, hL, hI⟩ := W
  have O : Oat F Z T.heap a (.array .byte) vs := hI.2.1.get hi
  obtain ⟨E, -, cl, Ar, S⟩ := O
  obtain ⟨h1, h2⟩ := inb_list S hz hv
  exact K.by fun t q => X.baloadBytes H0.1 (j := z) (v := v) Ar.1 (State.isArrayOf_alike H0.2.1.alike Ar.2.1) Ar.2.2 h1 h2 (g := mkF m pc ls (.int z :: .ref a :: st)) rfl rfl (hb H0.2.2.1 hd) t q
theorem g_arraylength {i : Nat} {a : Addr} {ty : FieldType} {vs : List Value} (N : Int32) (W : Here p l e R s m args below meth c Z F B h0 A y bytes mL ret T k n os) (hi : os[i]? = some (a, .array ty, vs)) (hN : vs.length.toInt32 = N) (hd : decode bytes pc = .ok (.arraylength, 1)) (K : Go p e below G (T.setTop (mkF m (pc + 1) ls (.int N :: st)))) : Go p e below G (T.setTop (mkF m pc ls (.ref a :: st))) := by
  obtain ⟨H0, locs, X, hL, hI⟩ := W
  have O : Oat F Z T.heap a (.array ty) vs := hI.2.1.get hi
  obtain ⟨E, -, cl, Ar, S⟩ := O
  have q2 : cl.slots.size.toInt32 = N := by rw [S, ← hN]; simp
  subst q2
  exact K.by fun t q => X.arraylength H0.1 Ar.1 (State.isArrayOf_alike H0.2.1.alike Ar.2.1) (g := mkF m pc ls (.ref a :: st)) rfl rfl (hb H0.2.2.1 hd) t q
theorem Oat.put {h h' : Heap} {a : Addr} {ty : FieldType} {vs : List Value} {cl : Cell} {v : Value} {j : Nat} (O : Oat F Z h a (.array ty) vs) (Ar : Arr Z h a cl ty) (S : cl.slots = vs.toArray) (hf : fits ty v = true) (Wr' : Wr h h' a j v) : Oat F Z h' a (.array ty) (vs.set j v) := by
  obtain ⟨E, f, -⟩ := O
  refine ⟨E.wr Wr', fun u hu => ?_, cl.setSlot j v, Ar.same Wr', by simp [Cell.setSlot, S]⟩
  rcases List.mem_or_eq_of_mem_set hu with q | q
  · exact f u q
  · rw [q]; exact hf
theorem g_iastore {i : Nat} {a : Addr} {z : Int32} {x : Int32} {vs : List Value} {os' : List Ob} (j : Nat) (W : Here p l e R s m args below meth c Z F B h0 A y bytes mL ret T k n os) (hi : os[i]? = some (a, .array .int, vs)) (hz : ¬ z < 0) (hj : z.toNatClampNeg = j) (hlt : j < vs.length) (ho : os.set i (a, .array .int, vs.set j (.int x)) = os')
    (hd : decode bytes pc = .ok (.iastore, 1)) (K : ∀ T', Here p l e R s m args below meth c Z F B h0 A y bytes mL ret T' k n os' → Go p e below G (T'.setTop (mkF m (pc + 1) ls (st)))) : Go p e below G (T.setTop (mkF m pc ls (.int x :: .int z :: .ref a :: st))) := by
  obtain ⟨H0, locs, X, hL, hI⟩ := W
  have O : Oat F Z T.heap a (.array .int) vs := hI.2.1.get hi
  obtain ⟨E, -, cl, Ar, S⟩ := id O
  have hin : ¬ (z < 0 ∨ cl.slots.size ≤ z.toNatClampNeg) := fun q => q.elim hz fun q => by rw [S] at q; simp at q; omega
  obtain ⟨T', h', X', e', Wr', stp⟩ := stI X H0.1 H0.2.1 rfl Ar (j := z) hin (g := mkF m pc ls (.int x :: .int z :: .ref a :: st)) rfl rfl (hb H0.2.2.1 hd)
  subst hj
  refine (K T' ⟨H0, _, X', ⟨fun z hz => ?_, hL.2⟩, ?_⟩).by stp
  · rcases List.mem_append.mp hz with q | q
    · exact hL.1 z q
    · cases List.mem_singleton.mp q; exact (hI.mem hi).ge hL.2.1 hL.2.2
  · rw [e', ← ho]
    exact hI.set hi (Keep.of_wr Wr') (O.put Ar S rfl Wr')
theorem g_lastore {i : Nat} {a : Addr} {z : Int32} {x : Int64} {vs : List Value} {os' : List Ob} (j : Nat) (W : Here p l e R s m args below meth c Z F B h0 A y bytes mL ret T k n os) (hi : os[i]? = some (a, .array .long, vs)) (hz : ¬ z < 0) (hj : z.toNatClampNeg = j) (hlt : j < vs.length) (ho : os.set i (a, .array .long, vs.set j (.long x)) = os')
    (hd : decode bytes pc = .ok (.lastore, 1)) (K : ∀ T', Here p l e R s m args below meth c Z F B h0 A y bytes mL ret T' k n os' → Go p e below G (T'.setTop (mkF m (pc + 1) ls (st)))) : Go p e below G (T.setTop (mkF m pc ls (.long x :: .int z :: .ref a :: st))) := by
  obtain ⟨H0, locs, X, hL, hI⟩ := W
  have O : Oat F Z T.heap a (.array .long) vs := hI.2.1.get hi
  obtain ⟨E, -, cl, Ar, S⟩ := id O
  have hin : ¬ (z < 0 ∨ cl.slots.size ≤ z.toNatClampNeg) := fun q => q.elim hz fun q => by rw [S] at q; simp at q; omega
  obtain ⟨T', h', X', e', Wr', stp⟩ := stJ X H0.1 H0.2.1 rfl Ar (j := z) hin (g := mkF m pc ls (.long x :: .int z :: .ref a :: st)) rfl rfl (hb H0.2.2.1 hd)
  subst hj
  refine (K T' ⟨H0, _, X', ⟨fun z hz => ?_, hL.2⟩, ?_⟩).by stp
  · rcases List.mem_append.mp hz with q | q
    · exact hL.1 z q
    · cases List.mem_singleton.mp q; exact (hI.mem hi).ge hL.2.1 hL.2.2
  · rw [e', ← ho]
    exact hI.set hi (Keep.of_wr Wr') (O.put Ar S rfl Wr')
theorem g_bastore {i : Nat} {a : Addr} {z : Int32} {x : Int32} {x' : Int32} (hx' : x.toInt8.toInt32 = x') {vs : List Value} {os' : List Ob} (j : Nat) (W : Here p l e R s m args below meth c Z F B h0 A y bytes mL ret T k n os) (hi : os[i]? = some (a, .array .byte, vs)) (hz : ¬ z < 0) (hj : z.toNatClampNeg = j) (hlt : j < vs.length) (ho : os.set i (a, .array .byte, vs.set j (.int x')) = os')
    (hd : decode bytes pc = .ok (.bastore, 1)) (K : ∀ T', Here p l e R s m args below meth c Z F B h0 A y bytes mL ret T' k n os' → Go p e below G (T'.setTop (mkF m (pc + 1) ls (st)))) : Go p e below G (T.setTop (mkF m pc ls (.int x :: .int z :: .ref a :: st))) := by
  obtain ⟨H0, locs, X, hL, hI⟩ := W
  have O : Oat F Z T.heap a (.array .byte) vs := hI.2.1.get hi
  obtain ⟨E, -, cl, Ar, S⟩ := id O
  have hin : ¬ (z < 0 ∨ cl.slots.size ≤ z.toNatClampNeg) := fun q => q.elim hz fun q => by rw [S] at q; simp at q; omega
  obtain ⟨T', h', X', e', Wr', stp⟩ := stB X H0.1 H0.2.1 rfl Ar (j := z) hin (g := mkF m pc ls (.int x :: .int z :: .ref a :: st)) rfl rfl (hb H0.2.2.1 hd)
  subst hj
  subst hx'
  refine (K T' ⟨H0, _, X', ⟨fun z hz => ?_, hL.2⟩, ?_⟩).by stp
  · rcases List.mem_append.mp hz with q | q
    · exact hL.1 z q
    · cases List.mem_singleton.mp q; exact (hI.mem hi).ge hL.2.1 hL.2.2
  · rw [e', ← ho]
    exact hI.set hi (Keep.of_wr Wr') (O.put Ar S (fits_nar_byte x) Wr')
theorem g_zastore {i : Nat} {a : Addr} {z : Int32} {x : Int32} {x' : Int32} (hx' : x &&& 1 = x') {vs : List Value} {os' : List Ob} (j : Nat) (W : Here p l e R s m args below meth c Z F B h0 A y bytes mL ret T k n os) (hi : os[i]? = some (a, .array .boolean, vs)) (hz : ¬ z < 0) (hj : z.toNatClampNeg = j) (hlt : j < vs.length) (ho : os.set i (a, .array .boolean, vs.set j (.int x')) = os')
    (hd : decode bytes pc = .ok (.bastore, 1)) (K : ∀ T', Here p l e R s m args below meth c Z F B h0 A y bytes mL ret T' k n os' → Go p e below G (T'.setTop (mkF m (pc + 1) ls (st)))) : Go p e below G (T.setTop (mkF m pc ls (.int x :: .int z :: .ref a :: st))) := by
  obtain ⟨H0, locs, X, hL, hI⟩ := W
  have O : Oat F Z T.heap a (.array .boolean) vs := hI.2.1.get hi
  obtain ⟨E, -, cl, Ar, S⟩ := id O
  have hin : ¬ (z < 0 ∨ cl.slots.size ≤ z.toNatClampNeg) := fun q => q.elim hz fun q => by rw [S] at q; simp at q; omega
  obtain ⟨T', h', X', e', Wr', stp⟩ := stZ X H0.1 H0.2.1 rfl Ar (j := z) hin (g := mkF m pc ls (.int x :: .int z :: .ref a :: st)) rfl rfl (hb H0.2.2.1 hd)
  subst hj
  subst hx'
  refine (K T' ⟨H0, _, X', ⟨fun z hz => ?_, hL.2⟩, ?_⟩).by stp
  · rcases List.mem_append.mp hz with q | q
    · exact hL.1 z q
    · cases List.mem_singleton.mp q; exact (hI.mem hi).ge hL.2.1 hL.2.2
  · rw [e', ← ho]
    exact hI.set hi (Keep.of_wr Wr') (O.put Ar S (fits_nar_bool x) Wr')
/-- os is loc and rst, in another order -/
def Spl (os loc rst : List Ob) : Prop := ∃ pm : List Nat, pm.Nodup ∧ (loc ++ rst).map some = pm.map (fun i => os[i]?)
theorem Spl.none : Spl os [] os := ⟨List.range os.length, List.nodup_range, by
  refine List.ext_getElem? fun i => ?_
  simp only [List.nil_append, List.getElem?_map]
  by_cases h : i < os.length
  · simp [h]
  · simp [h]⟩
theorem Spl.all : Spl os os [] := by obtain ⟨pm, h1, h2⟩ := Spl.none (os := os); exact ⟨pm, h1, by simpa using h2⟩
theorem Spl.mem {loc rst : List Ob} (S : Spl os loc rst) {o : Ob} (ho : o ∈ loc ++ rst) : o ∈ os := by
  obtain ⟨pm, -, h2⟩ := S
  have q : some o ∈ pm.map (fun i => os[i]?) := h2 ▸ List.mem_map.mpr ⟨o, ho, rfl⟩
  obtain ⟨i, -, hi⟩ := List.mem_map.mp q
  exact List.mem_of_getElem? hi
theorem Spl.nodup {loc rst : List Ob} (S : Spl os loc rst) (hn : (os.map (·.1)).Nodup) : ((loc ++ rst).map (·.1)).Nodup := by
  obtain ⟨pm, h1, h2⟩ := S
  generalize loc ++ rst = L at h2
  have key : ∀ i, (L[i]?).map some = (pm[i]?).map (fun j => os[j]?) := fun i => by rw [← List.getElem?_map, h2, List.getElem?_map]
  have key2 : ∀ i o, L[i]? = some o → ∃ j, pm[i]? = some j ∧ os[j]? = some o := fun i o ho => by
    have q := key i
    rw [ho] at q
    cases hp : pm[i]? with
    | none => simp [hp] at q
    | some j => simp [hp] at q; exact ⟨j, hp, q.symm⟩
  rw [List.nodup_iff_pairwise_ne, List.pairwise_iff_getElem]
  intro i j hi hj hij e
  simp only [List.length_map] at hi hj
  obtain ⟨oj, hoj⟩ : ∃ o, L[j]? = some o := ⟨L[j], List.getElem?_eq_getElem hj⟩
  obtain ⟨oi, hoi⟩ : ∃ o, L[i]? = some o := ⟨L[i], List.getElem?_eq_getElem hi⟩
  have e : oi.1 = oj.1 := by
    simp only [List.getElem_map] at e
    rw [List.getElem?_eq_getElem hi] at hoi
    rw [List.getElem?_eq_getElem hj] at hoj
    rw [← Option.some.inj hoi, ← Option.some.inj hoj]; exact e
  obtain ⟨i', p1, q1⟩ := key2 i oi hoi
  obtain ⟨j', p2, q2⟩ := key2 j oj hoj
  have e2 := nodup_at hn (i := i') (j := j') (a := oi.1) (by rw [List.getElem?_map, q1]; rfl) (by rw [List.getElem?_map, q2, e]; rfl)
  subst e2
  obtain ⟨u1, u2⟩ := List.getElem?_eq_some_iff.mp p1
  obtain ⟨u3, u4⟩ := List.getElem?_eq_some_iff.mp p2
  exact absurd ((List.getElem_inj h1).mp (u2.trans u4.symm)) (Nat.ne_of_lt hij)
theorem Spl.loc {loc rst : List Ob} {h : Heap} (S : Spl os loc rst) (H : Hp F Z h os) : Hp F Z h loc :=
  ⟨by have q := S.nodup H.1; rw [List.map_append] at q; exact (List.nodup_append.mp q).1, fun o ho => H.2 o (S.mem (List.mem_append_left _ ho))⟩
theorem Spl.after {loc rst os' : List Ob} {h h' : Heap} (S : Spl os loc rst) (I : Hin F Z h0 A h os) (I' : Hin F Z h (loc.map (·.1)) h' os') : Hin F Z h0 A h' (os' ++ rst) := by
  have nd := S.nodup I.2.1.1
  rw [List.map_append] at nd
  obtain ⟨n1, n2, n3⟩ := List.nodup_append.mp nd
  have hloc : ∀ x ∈ loc.map (·.1), Okk A h0.size x := fun x hx => by
    obtain ⟨o, ho, rfl⟩ := List.mem_map.mp hx
    exact I.2.2 o (S.mem (List.mem_append_left _ ho))
  refine ⟨I.1.trans I'.1 hloc, ⟨?_, fun o ho => ?_⟩, fun o ho => ?_⟩
  · rw [List.map_append, List.nodup_append]
    refine ⟨I'.2.1.1, n2, fun a ha b hb e => ?_⟩
    subst e
    obtain ⟨o, ho, rfl⟩ := List.mem_map.mp ha
    rcases I'.2.2 o ho with q | q
    · exact n3 _ q _ hb rfl
    · obtain ⟨o2, ho2, e2⟩ := List.mem_map.mp hb
      have := (I.2.1.2 o2 (S.mem (List.mem_append_right _ ho2))).lt
      rw [e2] at this
      exact absurd this (Nat.not_lt.mpr q)
  · rcases List.mem_append.mp ho with q | q
    · exact I'.2.1.2 o q
    · exact (I.2.1.2 o (S.mem (List.mem_append_right _ q))).keep I'.1 (fun z => n3 _ z _ (List.mem_map.mpr ⟨o, q, rfl⟩) rfl)
  · rcases List.mem_append.mp ho with q | q
    · rcases I'.2.2 o q with z | z
      · exact hloc _ z
      · exact Or.inr (Nat.le_trans I.1.1 z)
    · exact I.2.2 o (S.mem (List.mem_append_right _ q))
theorem Spl.locs {locs L : List Loc} (hL : (∀ y ∈ locs, B ≤ y.base) ∧ (∀ a ∈ A, B ≤ a) ∧ B ≤ h0.size) (hL' : ∀ y ∈ L, B ≤ y.base) : (∀ y ∈ locs ++ L, B ≤ y.base) ∧ (∀ a ∈ A, B ≤ a) ∧ B ≤ h0.size :=
  ⟨fun y hy => (List.mem_append.mp hy).elim (hL.1 y) (hL' y), hL.2⟩
theorem Spl.ge {loc rst : List Ob} {h : Heap} {locs : List Loc} (S : Spl os loc rst) (I : Hin F Z h0 A h os) (hL : (∀ y ∈ locs, B ≤ y.base) ∧ (∀ a ∈ A, B ≤ a) ∧ B ≤ h0.size) : ∀ a ∈ loc.map (·.1), B ≤ a := fun a ha => by
  obtain ⟨o, ho, e⟩ := List.mem_map.mp ha
  rw [← e]; exact (I.2.2 o (S.mem (List.mem_append_left _ ho))).ge hL.2.1 hL.2.2
theorem g_static {index Wt : Nat} {y' : MethodName} {bytes' : ByteArray} {mL' : Nat} {ret' : Option FieldType} {rm : Room} {as : Array Value} {loc rst : List Ob} {P : Option Value → List Ob → Prop} {argsL rest : List Value} {ps : List FieldType} {r : Option FieldType} (W : Here p l e R s m args below meth c Z F B h0 A y bytes mL ret T k n os) (w1 : (Jvm.Cond.methodLink y.cls index y').before a0 Z = true) (w2 : (Jvm.Cond.static y').before a0 Z = true) (w3 : (Jvm.Cond.initialized y'.cls).before a0 Z = true) (w4 : (Jvm.Cond.code y' bytes' mL' ret').before a0 Z = true)
    (hy : y'.cls ≠ "java/lang/invoke/MethodHandle" ∧ y'.cls ≠ "java/lang/invoke/VarHandle") (C : Con l Z F B y' bytes' mL' ret' rm [] as loc P) (S : Spl os loc rst) (has : as = argsL.toArray) (hpd : parseMethodDescriptor y'.desc = some ⟨ps, r⟩) (hpl : argsL.length = ps.length)
    (hst : st = argsL.reverse ++ rest) (hsz : ls.size = mL) (hW : (rest.map fun v => v.category).sum ≤ Wt) (hfr : rm.frames + 1 ≤ R.frames) (hlo : Wt + (mL' + 11) + rm.locals ≤ R.locals) (hc : k + rm.cells ≤ R.cells) (hs : n + rm.slots ≤ R.slots) (hd : decode bytes pc = .ok (.invokestatic index, 3)) (K : ∀ T' v os', P v os' → Here p l e R s m args below meth c Z F B h0 A y bytes mL ret T' (k + rm.cells) (n + rm.slots) (os' ++ rst) → Go p e below G (T'.setTop (mkF m (pc + 3) ls (v.toList ++ rest)))) : Go p e below G (T.setTop (mkF m pc ls st)) := by
  obtain ⟨H0, locs, X, hL, hI⟩ := W
  subst has hst
  obtain ⟨v, _, ⟨T', L', k', n'⟩, -, X', ⟨Lc, hQ, l1, y1, z1⟩, stp⟩ := Jvm.LawKit.callS X H0.1 (y := y') H0.2.2.2.2.1 (mvT H0.2.1 w1) (mvT H0.2.1 w2) (mvT H0.2.1 w3) (mvT H0.2.1 w4) hy (backOf (W := Wt) (C T.heap (S.loc hI.2.1) (S.ge hI hL) (Nat.le_trans hL.2.2 hI.1.1)) H0.2.1 w4 w3 hfr hlo) (g := mkF m pc ls (argsL.reverse ++ rest)) rfl (hsz.trans H0.2.2.2.1.symm) (argsL := argsL) (rest := rest) (lenOf hpd hpl) rfl (by show 2 * 0 + _ ≤ _; omega) (hb H0.2.2.1 hd) (fun _ _ => ⟨rfl, rfl, hc, hs⟩)
  dsimp only [Pt.U, Pt.locs, Pt.cells, Pt.slots] at X' l1 y1 z1 stp hQ
  subst l1 y1 z1
  obtain ⟨hLc, os', hI', hp⟩ := hQ
  exact (K T' v os' hp ⟨H0, _, X', Spl.locs hL hLc, S.after hI hI'⟩).by stp
theorem Go.to {S S' : State} (h : Steps p.tables e below S S') (g : Go p e below G S') : Go p e below G S := by
  obtain ⟨t, h', g⟩ := g; exact ⟨t, h.trans h', g⟩
theorem g_init {index Wt : Nat} {y' : MethodName} {bytes' : ByteArray} {mL' : Nat} {rm : Room} {as : Array Value} {loc rst : List Ob} {P : Option Value → List Ob → Prop} {argsL rest : List Value} {ps : List FieldType} {r : Option FieldType} {a : Addr} (W : Here p l e R s m args below meth c Z F B h0 A y bytes mL ret T k n os) (hy1 : y'.name = "<init>") (w1 : (Jvm.Cond.methodLink y.cls index y').before a0 Z = true) (w2 : (Jvm.Cond.instanceMethod y').before a0 Z = true) (w3 : (Jvm.Cond.initialized y'.cls).before a0 Z = true) (w4 : (Jvm.Cond.code y' bytes' mL' none).before a0 Z = true)
    (hy : y'.cls ≠ "java/lang/invoke/MethodHandle" ∧ y'.cls ≠ "java/lang/invoke/VarHandle") (C : Con l Z F B y' bytes' mL' none rm [] as loc P) (S : Spl os loc rst) (has : as = (.ref a :: argsL).toArray) (hpd : parseMethodDescriptor y'.desc = some ⟨ps, r⟩) (hpl : argsL.length = ps.length)
    (hst : st = argsL.reverse ++ .ref a :: rest) (hsz : ls.size = mL) (hW : (rest.map fun v => v.category).sum ≤ Wt) (hfr : rm.frames + 1 ≤ R.frames) (hlo : Wt + (mL' + 11) + rm.locals ≤ R.locals) (hc : k + rm.cells ≤ R.cells) (hs : n + rm.slots ≤ R.slots) (hd : decode bytes pc = .ok (.invokespecial index, 3)) (K : ∀ T' v os', P v os' → Here p l e R s m args below meth c Z F B h0 A y bytes mL ret T' (k + rm.cells) (n + rm.slots) (os' ++ rst) → Go p e below G (T'.setTop (mkF m (pc + 3) ls (v.toList ++ rest)))) : Go p e below G (T.setTop (mkF m pc ls st)) := by
  obtain ⟨H0, locs, X, hL, hI⟩ := W
  subst has hst
  obtain ⟨v, _, ⟨T', L', k', n'⟩, -, X', ⟨Lc, hQ, l1, y1, z1⟩, stp⟩ := X.specialBack H0.1 (y := y') hy1 H0.2.2.2.2.1 (mvT H0.2.1 w1) (mvT H0.2.1 w2) (mvT H0.2.1 w4) hy (backOf (W := Wt) (C T.heap (S.loc hI.2.1) (S.ge hI hL) (Nat.le_trans hL.2.2 hI.1.1)) H0.2.1 w4 w3 hfr hlo) (g := mkF m pc ls (argsL.reverse ++ .ref a :: rest)) rfl (hsz.trans H0.2.2.2.1.symm) (Steps.refl _) (a := a) (argsL := argsL) (rest := rest) (lenOf hpd hpl) rfl (by show 2 * 0 + _ ≤ _; omega) (hb H0.2.2.1 hd) (fun _ _ => ⟨rfl, rfl, hc, hs⟩)
  dsimp only [Pt.U, Pt.locs, Pt.cells, Pt.slots] at X' l1 y1 z1 stp hQ
  subst l1 y1 z1
  obtain ⟨hLc, os', hI', hp⟩ := hQ
  exact (K T' v os' hp ⟨H0, _, X', Spl.locs hL hLc, S.after hI hI'⟩).to stp
theorem g_virtual {index Wt : Nat} {y' : MethodName} {bytes' : ByteArray} {mL' : Nat} {ret' : Option FieldType} {rm : Room} {as : Array Value} {loc rst : List Ob} {P : Option Value → List Ob → Prop} {argsL rest : List Value} {ps : List FieldType} {r : Option FieldType} {a : Addr} {i : Nat} {vs : List Value} (W : Here p l e R s m args below meth c Z F B h0 A y bytes mL ret T k n os) (w1 : (Jvm.Cond.methodLink y.cls index y').before a0 Z = true) (w2 : (Jvm.Cond.instanceMethod y').before a0 Z = true) (w3 : (Jvm.Cond.initialized y'.cls).before a0 Z = true) (w4 : (Jvm.Cond.code y' bytes' mL' ret').before a0 Z = true)
    (w5 : (Jvm.Cond.declares y').before a0 Z = true) (w6 : (Jvm.Cond.selects y'.cls y' y').before a0 Z = true) (hi : os[i]? = some (a, .object y'.cls, vs))
    (hy : y'.cls ≠ "java/lang/invoke/MethodHandle" ∧ y'.cls ≠ "java/lang/invoke/VarHandle") (C : Con l Z F B y' bytes' mL' ret' rm [] as loc P) (S : Spl os loc rst) (has : as = (.ref a :: argsL).toArray) (hpd : parseMethodDescriptor y'.desc = some ⟨ps, r⟩) (hpl : argsL.length = ps.length)
    (hst : st = argsL.reverse ++ .ref a :: rest) (hsz : ls.size = mL) (hW : (rest.map fun v => v.category).sum ≤ Wt) (hfr : rm.frames + 1 ≤ R.frames) (hlo : Wt + (mL' + 11) + rm.locals ≤ R.locals) (hc : k + rm.cells ≤ R.cells) (hs : n + rm.slots ≤ R.slots) (hd : decode bytes pc = .ok (.invokevirtual index, 3)) (K : ∀ T' v os', P v os' → Here p l e R s m args below meth c Z F B h0 A y bytes mL ret T' (k + rm.cells) (n + rm.slots) (os' ++ rst) → Go p e below G (T'.setTop (mkF m (pc + 3) ls (v.toList ++ rest)))) : Go p e below G (T.setTop (mkF m pc ls st)) := by
  obtain ⟨H0, locs, X, hL, hI⟩ := W
  subst has hst
  have O : Oat F Z T.heap a (.object y'.cls) vs := hI.2.1.get hi
  obtain ⟨cq, kq, qa, qb, qc⟩ := isOf H0.2.1 rfl O.1
  obtain ⟨v, _, ⟨T', L', k', n'⟩, -, X', ⟨Lc, hQ, l1, y1, z1⟩, stp⟩ := X.virtualBack H0.1 (y := y') (z := y') H0.2.2.2.2.1 (mvT H0.2.1 w1) (mvT H0.2.1 w5) (notFace_of_selects (args := #[]) (mvT H0.2.1 w6)) (mvT H0.2.1 w6) (mvT H0.2.1 w2) hy (backOf (W := Wt) (C T.heap (S.loc hI.2.1) (S.ge hI hL) (Nat.le_trans hL.2.2 hI.1.1)) H0.2.1 w4 w3 hfr hlo) qa qc (g := mkF m pc ls (argsL.reverse ++ .ref a :: rest)) rfl (hsz.trans H0.2.2.2.1.symm) (Steps.refl _) (argsL := argsL) (rest := rest) (lenOf hpd hpl) rfl (by show 2 * 0 + _ ≤ _; omega) (hb H0.2.2.1 hd) (fun _ _ => ⟨rfl, rfl, hc, hs⟩)
  dsimp only [Pt.U, Pt.locs, Pt.cells, Pt.slots] at X' l1 y1 z1 stp hQ
  subst l1 y1 z1
  obtain ⟨hLc, os', hI', hp⟩ := hQ
  exact (K T' v os' hp ⟨H0, _, X', Spl.locs hL hLc, S.after hI hI'⟩).to stp
theorem g_object {index : Nat} {a : Addr} (Wt : Nat) (W : Here p l e R s m args below meth c Z F B h0 A y bytes mL ret T k n os) (w1 : (Jvm.Cond.methodLink y.cls index Lib.objectInit).before a0 Z = true) (w2 : (Jvm.Cond.instanceMethod Lib.objectInit).before a0 Z = true) (w3 : (Jvm.Cond.code Lib.objectInit ⟨#[0xb1]⟩ 1 none).before a0 Z = true)
    (hsz : ls.size = mL) (hW : (st.map fun v => v.category).sum ≤ Wt) (hfr : 1 ≤ R.frames) (hlo : Wt + 12 ≤ R.locals) (hd : decode bytes pc = .ok (.invokespecial index, 3)) (K : ∀ T', Here p l e R s m args below meth c Z F B h0 A y bytes mL ret T' k n os → Go p e below G (T'.setTop (mkF m (pc + 3) ls (st)))) : Go p e below G (T.setTop (mkF m pc ls (.ref a :: st))) := by
  obtain ⟨H0, locs, X, hL, hI⟩ := W
  obtain ⟨T', X', e', stp⟩ := initO X H0.1 H0.2.1 H0.2.2.2.2.1 w1 w2 w3 rfl (g := mkF m pc ls (.ref a :: st)) rfl (hsz.trans H0.2.2.2.1.symm) rfl (hb H0.2.2.1 hd) hfr (W := Wt) (by show 2 * 0 + _ ≤ _; omega) hlo
  exact (K T' ⟨H0, locs, X', hL, by rw [e']; exact hI⟩).by stp
theorem g_clone {index i Wt : Nat} {a : Addr} {ty : FieldType} {vs : List Value} {ad : String} (cap : Nat) (W : Here p l e R s m args below meth c Z F B h0 A y bytes mL ret T k n os) (w1 : (Jvm.Cond.methodLink y.cls index ⟨ad, "clone", "()Ljava/lang/Object;"⟩).before a0 Z = true) (w2 : (Jvm.Cond.sameMethod ad "java/lang/Object" "clone" "()Ljava/lang/Object;").before a0 Z = true) (w3 : (Jvm.Cond.native ⟨"java/lang/Object", "clone", "()Ljava/lang/Object;"⟩).before a0 Z = true)
    (w4 : (Jvm.Cond.instanceMethod ⟨"java/lang/Object", "clone", "()Ljava/lang/Object;"⟩).before a0 Z = true) (w5 : (Jvm.Cond.selects ad ⟨ad, "clone", "()Ljava/lang/Object;"⟩ ⟨"java/lang/Object", "clone", "()Ljava/lang/Object;"⟩).before a0 Z = true) (w6 : (Jvm.Cond.castable ad "java/lang/Cloneable").before a0 Z = true)
    (had : "[" ++ ty.toString = ad) (hi : os[i]? = some (a, .array ty, vs)) (hsz : ls.size = mL) (hW : (st.map fun v => v.category).sum ≤ Wt) (hfr : 1 ≤ R.frames) (hlo : Wt + 14 ≤ R.locals) (hcap : vs.length ≤ cap) (hc : k + 1 ≤ R.cells) (hs : n + cap ≤ R.slots) (hd : decode bytes pc = .ok (.invokevirtual index, 3))
    (K : ∀ T' b, Here p l e R s m args below meth c Z F B h0 A y bytes mL ret T' (k + 1) (n + cap) (os ++ [(b, .array ty, vs)]) → Go p e below G (T'.setTop (mkF m (pc + 3) ls (.ref b :: st)))) : Go p e below G (T.setTop (mkF m pc ls (.ref a :: st))) := by
  obtain ⟨H0, locs, X, hL, hI⟩ := W
  subst had
  have O : Oat F Z T.heap a (.array ty) vs := hI.2.1.get hi
  obtain ⟨E, f, cl, Ar, S⟩ := O
  have FC : FitC Z cl := fitC_of Ar fun i hi v hv => f v (by rw [S] at hv; exact List.mem_of_getElem? (by simpa using hv))
  obtain ⟨T', h', X', e', E', A', Ex, stp⟩ := cloneA X H0.1 H0.2.1 H0.2.2.2.2.1 w1 w2 w3 w4 w5 w6 rfl Ar E FC (g := mkF m pc ls (.ref a :: st)) rfl (hsz.trans H0.2.2.2.1.symm) rfl (hb H0.2.2.1 hd) hfr (W := Wt) (cap := cap) (by show 2 * 0 + _ ≤ _; omega) hlo (by rw [S]; simpa using hcap) hc hs
  refine (K T' T.heap.size ⟨H0, locs, X', hL, ?_⟩).by stp
  rw [e']
  exact hI.push E' ⟨Ex, f, _, A', S⟩
theorem g_castarr {index i : Nat} {a : Addr} {ty : FieldType} {vs : List Value} {ad : String} (W : Here p l e R s m args below meth c Z F B h0 A y bytes mL ret T k n os) (w : (Jvm.Cond.classLink y.cls index ad).before a0 Z = true) (had : "[" ++ ty.toString = ad) (hi : os[i]? = some (a, .array ty, vs)) (hd : decode bytes pc = .ok (.checkcast index, 3)) (K : ∀ T', Here p l e R s m args below meth c Z F B h0 A y bytes mL ret T' k n os → Go p e below G (T'.setTop (mkF m (pc + 3) ls (.ref a :: st)))) : Go p e below G (T.setTop (mkF m pc ls (.ref a :: st))) := by
  obtain ⟨H0, locs, X, hL, hI⟩ := W
  subst had
  have O : Oat F Z T.heap a (.array ty) vs := hI.2.1.get hi
  obtain ⟨T', X', e', stp⟩ := castY X H0.1 H0.2.1 H0.2.2.2.2.1 w rfl (Ins.self O.1) (g := mkF m pc ls (.ref a :: st)) rfl rfl (hb H0.2.2.1 hd)
  exact (K T' ⟨H0, locs, X', hL, by rw [e']; exact hI⟩).by stp
theorem Oat.arv {h : Heap} {a : Addr} {ty : FieldType} {vs : List Value} (O : Oat F Z h a (.array ty) vs) (hl : vs.length < 2 ^ 31) (d : Value) : ∃ kk, Arv Z h a kk ty vs.length.toInt32 vs d := by
  obtain ⟨E, f, cl, Ar, S⟩ := O
  have e1 : vs.length.toInt32.toInt = vs.length := len_toInt hl
  have e2 : vs.length.toInt32.toNatClampNeg = vs.length := by simp only [Int32.toNatClampNeg, e1]; omega
  have sz : cl.slots.size = vs.length := by rw [S]; simp
  have gd : ∀ i, i < vs.length → vs.getD i d = vs.getD i d ∧ vs[i]? = some (vs.getD i d) := fun i hi => ⟨rfl, by simp [List.getD_eq_getElem?_getD, List.getElem?_eq_getElem hi]⟩
  refine ⟨cl.cls, cl, Ar, rfl, by rw [e2, sz], by rw [Int32.lt_iff_toInt_lt, e1]; simp only [Int32.reduceToInt]; omega, fun i hi => ?_, fun i hi => ?_⟩
  · rw [S]; simpa using (gd i (sz ▸ hi)).2
  · exact f _ (List.mem_of_getElem? (gd i (sz ▸ hi)).2)
theorem Oat.of_arv {h h' : Heap} {a : Addr} {ty : FieldType} {vs vs' : List Value} {kk : ClassId} {z : Int32} {d : Value} (O : Oat F Z h a (.array ty) vs) {ws : List Addr} (K : Keep h h' ws) (V : Arv Z h' a kk ty z vs' d) (hz : z.toNatClampNeg = vs'.length) : Oat F Z h' a (.array ty) vs' := by
  obtain ⟨E, f, -⟩ := O
  obtain ⟨cl, Ar, -, S, -, H, G⟩ := V
  have key : ∀ i, i < vs'.length → vs'[i]? = some (vs'.getD i d) := fun i hi => by simp [List.getD_eq_getElem?_getD, List.getElem?_eq_getElem hi]
  refine ⟨E.keep K, fun v hv => ?_, cl, Ar, ?_⟩
  · obtain ⟨i, hi⟩ := List.mem_iff_getElem?.mp hv
    have hlt := (List.getElem?_eq_some_iff.mp hi).1
    have q := G i (by rw [S, hz]; exact hlt)
    rw [key i hlt] at hi
    rw [← Option.some.inj hi]; exact q
  · refine Array.ext_getElem? fun i => ?_
    by_cases hi : i < vs'.length
    · rw [H i (by rw [S, hz]; exact hi)]; simpa using (key i hi).symm
    · rw [Array.getElem?_eq_none (by rw [S, hz]; omega), Array.getElem?_eq_none (by simpa using hi)]
theorem g_arraycopy {index i j Wt : Nat} {a b : Addr} {ty : FieldType} {vs vd vd' : List Value} {sp dp nn : Int32} {os' : List Ob} (W : Here p l e R s m args below meth c Z F B h0 A y bytes mL ret T k n os) (w1 : (Jvm.Cond.methodLink y.cls index Jvm.Stand.acN).before a0 Z = true) (w2 : (Jvm.Cond.native Jvm.Stand.acN).before a0 Z = true) (w3 : (Jvm.Cond.static Jvm.Stand.acN).before a0 Z = true) (w4 : (Jvm.Cond.initialized "java/lang/System").before a0 Z = true)
    (hi : os[i]? = some (a, .array ty, vs)) (hj : os[j]? = some (b, .array ty, vd)) (hr : refKind ty = false) (h1 : ¬ sp < 0) (h2 : ¬ dp < 0) (h3 : ¬ nn < 0) (l1 : vs.length < 2 ^ 31) (l2 : vd.length < 2 ^ 31) (h4 : sp.toNatClampNeg + nn.toNatClampNeg ≤ vs.length) (h5 : dp.toNatClampNeg + nn.toNatClampNeg ≤ vd.length)
    (hv : vd.take dp.toNatClampNeg ++ ((List.range nn.toNatClampNeg).map fun i => vs.getD (sp.toNatClampNeg + i) .null) ++ vd.drop (dp.toNatClampNeg + nn.toNatClampNeg) = vd') (ho : os.set j (b, .array ty, vd') = os')
    (hsz : ls.size = mL) (hW : (st.map fun v => v.category).sum ≤ Wt) (hfr : 1 ≤ R.frames) (hlo : Wt + (nativeFrameWords "java/lang/System" "arraycopy" 5 + 11) ≤ R.locals) (hd : decode bytes pc = .ok (.invokestatic index, 3)) (K : ∀ T', Here p l e R s m args below meth c Z F B h0 A y bytes mL ret T' k n os' → Go p e below G (T'.setTop (mkF m (pc + 3) ls (st)))) : Go p e below G (T.setTop (mkF m pc ls (.int nn :: .int dp :: .ref b :: .int sp :: .ref a :: st))) := by
  obtain ⟨H0, locs, X, hL, hI⟩ := W
  have Oa : Oat F Z T.heap a (.array ty) vs := hI.2.1.get hi
  have Ob' : Oat F Z T.heap b (.array ty) vd := hI.2.1.get hj
  obtain ⟨ka, Va⟩ := Oa.arv l1 .null
  obtain ⟨kb, Vb⟩ := Ob'.arv l2 .null
  have ez : ∀ (L : List Value), L.length < 2 ^ 31 → L.length.toInt32.toNatClampNeg = L.length := fun L hl => by
    have e1 : L.length.toInt32.toInt = L.length := len_toInt hl
    simp only [Int32.toNatClampNeg, e1]; omega
  obtain ⟨T', h', L', X', e', N', Kp, V', stp⟩ := cpA X H0.1 H0.2.1 H0.2.2.2.2.1 w1 w2 w3 w4 rfl Va Vb (Or.inl ⟨rfl, hr⟩) h1 h2 h3 (by rw [ez _ l1]; exact h4) (by rw [ez _ l2]; exact h5) rfl h5 (n0 := B) hL.1 ((hI.mem hj).ge hL.2.1 hL.2.2) (g := mkF m pc ls (.int nn :: .int dp :: .ref b :: .int sp :: .ref a :: st)) rfl (hsz.trans H0.2.2.2.1.symm) rfl (hb H0.2.2.1 hd) hfr (W := Wt) (by show 2 * 0 + _ ≤ _; omega) hlo
  refine (K T' ⟨H0, L', X', ⟨N', hL.2⟩, ?_⟩).by stp
  rw [e', ← ho]
  rw [hv] at V'
  refine hI.set hj Kp (Ob'.of_arv Kp V' ?_)
  rw [ez _ l2, ← hv]
  simp only [List.length_append, List.length_take, List.length_map, List.length_range, List.length_drop]
  omega
/-- the end: what a law's own contract gives -/
theorem Con.frame {y : MethodName} {as : Array Value} {P : Option Value → List Ob → Prop} {rm : Room} {h : Heap} {v : Option Value} {hh : Heap} {L : List Loc} (Q : Qc F Z B [] h P v hh L) : ∀ y ∈ L, B ≤ y.base := Q.1
end Own
def FM : Fm := fun c => if c = "com/example/traverso/traverso/search/Path" then [("start", "I"), ("predicates", "[I"), ("nodes", "[I"), ("backwards", "[Z")] else []
theorem cls_Path {Z : State} {a0 : Array Value} (hw : ∀ d ∈ tables_1, d.before a0 Z = true) : Cls Z a0 FM "com/example/traverso/traverso/search/Path" := by
  have e : FM "com/example/traverso/traverso/search/Path" = [("start", "I"), ("predicates", "[I"), ("nodes", "[I"), ("backwards", "[Z")] := by decide
  refine ⟨fun x hx => ?_, by rw [e]; decide⟩
  rw [e] at hx
  simp only [List.mem_cons, List.not_mem_nil, or_false] at hx
  rcases hx with rfl | rfl | rfl | rfl
  · exact ⟨Or.inr (hw _ (List.mem_of_getElem? (i := 13) rfl)), .int, by decide⟩
  · exact ⟨Or.inr (hw _ (List.mem_of_getElem? (i := 28) rfl)), (.array .int), by decide⟩
  · exact ⟨Or.inr (hw _ (List.mem_of_getElem? (i := 30) rfl)), (.array .int), by decide⟩
  · exact ⟨Or.inr (hw _ (List.mem_of_getElem? (i := 41) rfl)), (.array .boolean), by decide⟩
theorem pd___V : parseMethodDescriptor "()V" = some ⟨[], none⟩ := by decide +kernel
theorem pd_I__I : parseMethodDescriptor "(I)I" = some ⟨[.int], some .int⟩ := by decide +kernel
theorem pd_IIIIII__Z : parseMethodDescriptor "(IIIIII)Z" = some ⟨[.int, .int, .int, .int, .int, .int], some .boolean⟩ := by decide +kernel
theorem pd_IAIAIAZ__V : parseMethodDescriptor "(I[I[I[Z)V" = some ⟨[.int, (.array .int), (.array .int), (.array .boolean)], none⟩ := by decide +kernel
theorem pd_AII__AI : parseMethodDescriptor "([II)[I" = some ⟨[(.array .int), .int], some (.array .int)⟩ := by decide +kernel
theorem pd_AZI__AZ : parseMethodDescriptor "([ZI)[Z" = some ⟨[(.array .boolean), .int], some (.array .boolean)⟩ := by decide +kernel
theorem d_c_cpI_0 : decode jdk_65_method_123_code 0 = .ok (.iload_n 1, 1) := by decide +kernel
theorem d_c_cpI_1 : decode jdk_65_method_123_code 1 = .ok (.aload_n 0, 1) := by decide +kernel
theorem d_c_cpI_2 : decode jdk_65_method_123_code 2 = .ok (.arraylength, 1) := by decide +kernel
theorem d_c_cpI_3 : decode jdk_65_method_123_code 3 = .ok (.if_icmp .ne 11, 3) := by decide +kernel
theorem d_c_cpI_6 : decode jdk_65_method_123_code 6 = .ok (.aload_n 0, 1) := by decide +kernel
theorem d_c_cpI_7 : decode jdk_65_method_123_code 7 = .ok (.invokevirtual 316, 3) := by decide +kernel
theorem d_c_cpI_10 : decode jdk_65_method_123_code 10 = .ok (.checkcast 317, 3) := by decide +kernel
theorem d_c_cpI_13 : decode jdk_65_method_123_code 13 = .ok (.areturn, 1) := by decide +kernel
set_option maxRecDepth 65536 in
set_option maxHeartbeats 40000000 in
theorem c_cpI (l : Launch) (Z : State) (a0 : Array Value) (hw : ∀ d ∈ tables_1, d.before a0 Z = true) {B : Nat} (a : Addr) (x0 x1 : Int32) :
    Con l Z FM B (⟨"java/util/Arrays", "copyOf", "([II)[I"⟩ : MethodName) jdk_65_method_123_code 3 (some (.array .int)) ({ frames := 1, cells := 1, slots := 2, locals := 14 } : Room) [] #[.ref a, .int (2 : Int32)] [(a, (.array .int), [.int x0, .int x1])] (fun v os => ∃ b2, v = some (.ref b2) ∧ os = [(a, (.array .int), [.int x0, .int x1]), (b2, (.array .int), [.int x0, .int x1])]) := by
  refine Con.of (plainFor_of_name (by first | (simp [plainName, overriddenIn]; done) | decide +kernel)) (ls := #[.val (.ref a), .val (.int (2 : Int32)), .unset]) (fun m => by first | (simp [entryFrame, mkF, argsToLocals, Value.category]; done) | rfl) ?_
  intro p_ e_ h_ s_ m_ bl_ me_ c_ T0 W0
  refine g_iload_n (pc := 0) W0 d_c_cpI_0 rfl ?_
  refine g_aload_n (pc := 1) W0 d_c_cpI_1 rfl rfl ?_
  refine g_arraylength (pc := 2) (i := 0) (2 : Int32) W0 rfl rfl d_c_cpI_2 ?_
  refine g_icmpN (pc := 3) W0 d_c_cpI_3 (by decide) ?_
  refine g_aload_n (pc := 6) W0 d_c_cpI_6 rfl rfl ?_
  refine g_clone (pc := 7) (i := 0) (Wt := 0) 2 W0 (hw _ (List.mem_of_getElem? (i := 18) rfl)) (hw _ (List.mem_of_getElem? (i := 19) rfl)) (hw _ (List.mem_of_getElem? (i := 23) rfl)) (hw _ (List.mem_of_getElem? (i := 21) rfl)) (hw _ (List.mem_of_getElem? (i := 22) rfl)) (hw _ (List.mem_of_getElem? (i := 24) rfl)) (by decide) rfl rfl (Nat.le_of_ble_eq_true rfl) (by decide) (by decide) (Nat.le_of_ble_eq_true rfl) (by decide) (by decide) d_c_cpI_7 (fun T1 b2 W3 => ?_)
  have W4 := W3.re (os' := [(a, (.array .int), [.int x0, .int x1]), (b2, (.array .int), [.int x0, .int x1])]) rfl
  refine g_castarr (pc := 10) (i := 1) W4 (hw _ (List.mem_of_getElem? (i := 25) rfl)) (by decide) rfl d_c_cpI_10 (fun T5 W6 => ?_)
  exact g_areturn (pc := 13) rfl rfl W6 d_c_cpI_13 (by decide) (by decide) ⟨b2, rfl, rfl⟩
theorem d_c_cpZ_0 : decode jdk_65_method_128_code 0 = .ok (.iload_n 1, 1) := by decide +kernel
theorem d_c_cpZ_1 : decode jdk_65_method_128_code 1 = .ok (.aload_n 0, 1) := by decide +kernel
theorem d_c_cpZ_2 : decode jdk_65_method_128_code 2 = .ok (.arraylength, 1) := by decide +kernel
theorem d_c_cpZ_3 : decode jdk_65_method_128_code 3 = .ok (.if_icmp .ne 11, 3) := by decide +kernel
theorem d_c_cpZ_6 : decode jdk_65_method_128_code 6 = .ok (.aload_n 0, 1) := by decide +kernel
theorem d_c_cpZ_7 : decode jdk_65_method_128_code 7 = .ok (.invokevirtual 331, 3) := by decide +kernel
theorem d_c_cpZ_10 : decode jdk_65_method_128_code 10 = .ok (.checkcast 332, 3) := by decide +kernel
theorem d_c_cpZ_13 : decode jdk_65_method_128_code 13 = .ok (.areturn, 1) := by decide +kernel
set_option maxRecDepth 65536 in
set_option maxHeartbeats 40000000 in
theorem c_cpZ (l : Launch) (Z : State) (a0 : Array Value) (hw : ∀ d ∈ tables_1, d.before a0 Z = true) {B : Nat} (a : Addr) (x0 x1 : Int32) :
    Con l Z FM B (⟨"java/util/Arrays", "copyOf", "([ZI)[Z"⟩ : MethodName) jdk_65_method_128_code 3 (some (.array .boolean)) ({ frames := 1, cells := 1, slots := 2, locals := 14 } : Room) [] #[.ref a, .int (2 : Int32)] [(a, (.array .boolean), [.int x0, .int x1])] (fun v os => ∃ b2, v = some (.ref b2) ∧ os = [(a, (.array .boolean), [.int x0, .int x1]), (b2, (.array .boolean), [.int x0, .int x1])]) := by
  refine Con.of (plainFor_of_name (by first | (simp [plainName, overriddenIn]; done) | decide +kernel)) (ls := #[.val (.ref a), .val (.int (2 : Int32)), .unset]) (fun m => by first | (simp [entryFrame, mkF, argsToLocals, Value.category]; done) | rfl) ?_
  intro p_ e_ h_ s_ m_ bl_ me_ c_ T0 W0
  refine g_iload_n (pc := 0) W0 d_c_cpZ_0 rfl ?_
  refine g_aload_n (pc := 1) W0 d_c_cpZ_1 rfl rfl ?_
  refine g_arraylength (pc := 2) (i := 0) (2 : Int32) W0 rfl rfl d_c_cpZ_2 ?_
  refine g_icmpN (pc := 3) W0 d_c_cpZ_3 (by decide) ?_
  refine g_aload_n (pc := 6) W0 d_c_cpZ_6 rfl rfl ?_
  refine g_clone (pc := 7) (i := 0) (Wt := 0) 2 W0 (hw _ (List.mem_of_getElem? (i := 34) rfl)) (hw _ (List.mem_of_getElem? (i := 35) rfl)) (hw _ (List.mem_of_getElem? (i := 23) rfl)) (hw _ (List.mem_of_getElem? (i := 21) rfl)) (hw _ (List.mem_of_getElem? (i := 36) rfl)) (hw _ (List.mem_of_getElem? (i := 37) rfl)) (by decide) rfl rfl (Nat.le_of_ble_eq_true rfl) (by decide) (by decide) (Nat.le_of_ble_eq_true rfl) (by decide) (by decide) d_c_cpZ_7 (fun T1 b2 W3 => ?_)
  have W4 := W3.re (os' := [(a, (.array .boolean), [.int x0, .int x1]), (b2, (.array .boolean), [.int x0, .int x1])]) rfl
  refine g_castarr (pc := 10) (i := 1) W4 (hw _ (List.mem_of_getElem? (i := 38) rfl)) (by decide) rfl d_c_cpZ_10 (fun T5 W6 => ?_)
  exact g_areturn (pc := 13) rfl rfl W6 d_c_cpZ_13 (by decide) (by decide) ⟨b2, rfl, rfl⟩
theorem d_c_init_0 : decode prog_45_method_2_code 0 = .ok (.aload_n 0, 1) := by decide +kernel
theorem d_c_init_1 : decode prog_45_method_2_code 1 = .ok (.invokespecial 7, 3) := by decide +kernel
theorem d_c_init_4 : decode prog_45_method_2_code 4 = .ok (.aload_n 2, 1) := by decide +kernel
theorem d_c_init_5 : decode prog_45_method_2_code 5 = .ok (.arraylength, 1) := by decide +kernel
theorem d_c_init_6 : decode prog_45_method_2_code 6 = .ok (.aload_n 3, 1) := by decide +kernel
theorem d_c_init_7 : decode prog_45_method_2_code 7 = .ok (.arraylength, 1) := by decide +kernel
theorem d_c_init_8 : decode prog_45_method_2_code 8 = .ok (.if_icmp .ne 11, 3) := by decide +kernel
theorem d_c_init_11 : decode prog_45_method_2_code 11 = .ok (.aload 4, 2) := by decide +kernel
theorem d_c_init_13 : decode prog_45_method_2_code 13 = .ok (.arraylength, 1) := by decide +kernel
theorem d_c_init_14 : decode prog_45_method_2_code 14 = .ok (.aload_n 3, 1) := by decide +kernel
theorem d_c_init_15 : decode prog_45_method_2_code 15 = .ok (.arraylength, 1) := by decide +kernel
theorem d_c_init_16 : decode prog_45_method_2_code 16 = .ok (.if_icmp .eq 23, 3) := by decide +kernel
theorem d_c_init_39 : decode prog_45_method_2_code 39 = .ok (.aload_n 0, 1) := by decide +kernel
theorem d_c_init_40 : decode prog_45_method_2_code 40 = .ok (.iload_n 1, 1) := by decide +kernel
theorem d_c_init_41 : decode prog_45_method_2_code 41 = .ok (.putfield 21, 3) := by decide +kernel
theorem d_c_init_44 : decode prog_45_method_2_code 44 = .ok (.aload_n 0, 1) := by decide +kernel
theorem d_c_init_45 : decode prog_45_method_2_code 45 = .ok (.aload_n 2, 1) := by decide +kernel
theorem d_c_init_46 : decode prog_45_method_2_code 46 = .ok (.aload_n 2, 1) := by decide +kernel
theorem d_c_init_47 : decode prog_45_method_2_code 47 = .ok (.arraylength, 1) := by decide +kernel
theorem d_c_init_48 : decode prog_45_method_2_code 48 = .ok (.invokestatic 25, 3) := by decide +kernel
theorem d_c_init_51 : decode prog_45_method_2_code 51 = .ok (.putfield 31, 3) := by decide +kernel
theorem d_c_init_54 : decode prog_45_method_2_code 54 = .ok (.aload_n 0, 1) := by decide +kernel
theorem d_c_init_55 : decode prog_45_method_2_code 55 = .ok (.aload_n 3, 1) := by decide +kernel
theorem d_c_init_56 : decode prog_45_method_2_code 56 = .ok (.aload_n 3, 1) := by decide +kernel
theorem d_c_init_57 : decode prog_45_method_2_code 57 = .ok (.arraylength, 1) := by decide +kernel
theorem d_c_init_58 : decode prog_45_method_2_code 58 = .ok (.invokestatic 25, 3) := by decide +kernel
theorem d_c_init_61 : decode prog_45_method_2_code 61 = .ok (.putfield 35, 3) := by decide +kernel
theorem d_c_init_64 : decode prog_45_method_2_code 64 = .ok (.aload_n 0, 1) := by decide +kernel
theorem d_c_init_65 : decode prog_45_method_2_code 65 = .ok (.aload 4, 2) := by decide +kernel
theorem d_c_init_67 : decode prog_45_method_2_code 67 = .ok (.aload 4, 2) := by decide +kernel
theorem d_c_init_69 : decode prog_45_method_2_code 69 = .ok (.arraylength, 1) := by decide +kernel
theorem d_c_init_70 : decode prog_45_method_2_code 70 = .ok (.invokestatic 38, 3) := by decide +kernel
theorem d_c_init_73 : decode prog_45_method_2_code 73 = .ok (.putfield 41, 3) := by decide +kernel
theorem d_c_init_76 : decode prog_45_method_2_code 76 = .ok (.return_, 1) := by decide +kernel
set_option maxRecDepth 65536 in
set_option maxHeartbeats 40000000 in
theorem c_init (l : Launch) (Z : State) (a0 : Array Value) (hw : ∀ d ∈ tables_1, d.before a0 Z = true) {B : Nat} (a b c d : Addr) (p x0 x1 x2 x3 x4 x5 : Int32) :
    Con l Z FM B (⟨"com/example/traverso/traverso/search/Path", "<init>", "(I[I[I[Z)V"⟩ : MethodName) prog_45_method_2_code 5 none ({ frames := 2, cells := 3, slots := 6, locals := 29 } : Room) [] #[.ref a, .int p, .ref b, .ref c, .ref d] [(a, (.object "com/example/traverso/traverso/search/Path"), [.int (0 : Int32), .null, .null, .null]), (b, (.array .int), [.int x0, .int x1]), (c, (.array .int), [.int x2, .int x3]), (d, (.array .boolean), [.int x4, .int x5])] (fun v os => ∃ b17, ∃ b11, ∃ b5, v = none ∧ os = [(d, (.array .boolean), [.int x4, .int x5]), (b17, (.array .boolean), [.int x4, .int x5]), (c, (.array .int), [.int x2, .int x3]), (b11, (.array .int), [.int x2, .int x3]), (b, (.array .int), [.int x0, .int x1]), (b5, (.array .int), [.int x0, .int x1]), (a, (.object "com/example/traverso/traverso/search/Path"), [.int p, .ref b5, .ref b11, .ref b17])]) := by
  refine Con.of (plainFor_of_name (by first | (simp [plainName, overriddenIn]; done) | decide +kernel)) (ls := #[.val (.ref a), .val (.int p), .val (.ref b), .val (.ref c), .val (.ref d)]) (fun m => by first | (simp [entryFrame, mkF, argsToLocals, Value.category]; done) | rfl) ?_
  intro p_ e_ h_ s_ m_ bl_ me_ c_ T0 W0
  refine g_aload_n (pc := 0) W0 d_c_init_0 rfl rfl ?_
  refine g_object (pc := 1) 0 W0 (hw _ (List.mem_of_getElem? (i := 9) rfl)) (hw _ (List.mem_of_getElem? (i := 10) rfl)) (hw _ (List.mem_of_getElem? (i := 11) rfl)) rfl (Nat.le_of_ble_eq_true rfl) (by decide) (by decide) d_c_init_1 (fun T1 W2 => ?_)
  refine g_aload_n (pc := 4) W2 d_c_init_4 rfl rfl ?_
  refine g_arraylength (pc := 5) (i := 1) (2 : Int32) W2 rfl rfl d_c_init_5 ?_
  refine g_aload_n (pc := 6) W2 d_c_init_6 rfl rfl ?_
  refine g_arraylength (pc := 7) (i := 2) (2 : Int32) W2 rfl rfl d_c_init_7 ?_
  refine g_icmpN (pc := 8) W2 d_c_init_8 (by decide) ?_
  refine g_aload (pc := 11) W2 d_c_init_11 rfl rfl ?_
  refine g_arraylength (pc := 13) (i := 3) (2 : Int32) W2 rfl rfl d_c_init_13 ?_
  refine g_aload_n (pc := 14) W2 d_c_init_14 rfl rfl ?_
  refine g_arraylength (pc := 15) (i := 2) (2 : Int32) W2 rfl rfl d_c_init_15 ?_
  refine g_icmpY 39 (pc := 16) W2 d_c_init_16 (by decide) (by decide) (by decide) ?_
  refine g_aload_n (pc := 39) W2 d_c_init_39 rfl rfl ?_
  refine g_iload_n (pc := 40) W2 d_c_init_40 rfl ?_
  refine g_putfield (pc := 41) (i := 0) (j := 0) (ty := .int) (os' := [(a, (.object "com/example/traverso/traverso/search/Path"), [.int p, .null, .null, .null]), (b, (.array .int), [.int x0, .int x1]), (c, (.array .int), [.int x2, .int x3]), (d, (.array .boolean), [.int x4, .int x5])]) (host := "") W2 (Or.inl (hw _ (List.mem_of_getElem? (i := 12) rfl))) (cls_Path hw) (Or.inr ⟨(hw _ (List.mem_of_getElem? (i := 13) rfl)), rfl, rfl⟩) (hw _ (List.mem_of_getElem? (i := 4) rfl)) rfl rfl rfl (by decide) rfl rfl rfl d_c_init_41 (fun T3 W4 => ?_)
  refine g_aload_n (pc := 44) W4 d_c_init_44 rfl rfl ?_
  refine g_aload_n (pc := 45) W4 d_c_init_45 rfl rfl ?_
  refine g_aload_n (pc := 46) W4 d_c_init_46 rfl rfl ?_
  refine g_arraylength (pc := 47) (i := 1) (2 : Int32) W4 rfl rfl d_c_init_47 ?_
  refine g_static (pc := 48) (Wt := 1) (argsL := [.ref b, .int (2 : Int32)]) (rest := [.ref a]) (loc := [(b, (.array .int), [.int x0, .int x1])]) (rst := [(a, (.object "com/example/traverso/traverso/search/Path"), [.int p, .null, .null, .null]), (c, (.array .int), [.int x2, .int x3]), (d, (.array .boolean), [.int x4, .int x5])]) W4 (hw _ (List.mem_of_getElem? (i := 14) rfl)) (hw _ (List.mem_of_getElem? (i := 15) rfl)) (hw _ (List.mem_of_getElem? (i := 16) rfl)) (hw _ (List.mem_of_getElem? (i := 17) rfl)) (by decide) (c_cpI l Z a0 hw b x0 x1) ⟨[1, 0, 2, 3], by decide, rfl⟩ rfl pd_AII__AI rfl rfl rfl (Nat.le_of_ble_eq_true rfl) (by decide) (by decide) (by decide) (by decide) d_c_init_48 ?_
  rintro T6 _ _ ⟨b5, rfl, rfl⟩ W7
  have W8 := W7.re (os' := [(b, (.array .int), [.int x0, .int x1]), (b5, (.array .int), [.int x0, .int x1]), (a, (.object "com/example/traverso/traverso/search/Path"), [.int p, .null, .null, .null]), (c, (.array .int), [.int x2, .int x3]), (d, (.array .boolean), [.int x4, .int x5])]) rfl
  show Go p_ e_ bl_ _ (T6.setTop (mkF m_ 51 #[.val (.ref a), .val (.int p), .val (.ref b), .val (.ref c), .val (.ref d)] [.ref b5, .ref a]))
  refine g_putfield (pc := 51) (i := 2) (j := 1) (ty := (.array .int)) (os' := [(b, (.array .int), [.int x0, .int x1]), (b5, (.array .int), [.int x0, .int x1]), (a, (.object "com/example/traverso/traverso/search/Path"), [.int p, .ref b5, .null, .null]), (c, (.array .int), [.int x2, .int x3]), (d, (.array .boolean), [.int x4, .int x5])]) (host := "") W8 (Or.inl (hw _ (List.mem_of_getElem? (i := 27) rfl))) (cls_Path hw) (Or.inr ⟨(hw _ (List.mem_of_getElem? (i := 28) rfl)), rfl, rfl⟩) (hw _ (List.mem_of_getElem? (i := 4) rfl)) rfl rfl rfl (by decide) rfl rfl rfl d_c_init_51 (fun T9 W10 => ?_)
  refine g_aload_n (pc := 54) W10 d_c_init_54 rfl rfl ?_
  refine g_aload_n (pc := 55) W10 d_c_init_55 rfl rfl ?_
  refine g_aload_n (pc := 56) W10 d_c_init_56 rfl rfl ?_
  refine g_arraylength (pc := 57) (i := 3) (2 : Int32) W10 rfl rfl d_c_init_57 ?_
  refine g_static (pc := 58) (Wt := 1) (argsL := [.ref c, .int (2 : Int32)]) (rest := [.ref a]) (loc := [(c, (.array .int), [.int x2, .int x3])]) (rst := [(b, (.array .int), [.int x0, .int x1]), (b5, (.array .int), [.int x0, .int x1]), (a, (.object "com/example/traverso/traverso/search/Path"), [.int p, .ref b5, .null, .null]), (d, (.array .boolean), [.int x4, .int x5])]) W10 (hw _ (List.mem_of_getElem? (i := 14) rfl)) (hw _ (List.mem_of_getElem? (i := 15) rfl)) (hw _ (List.mem_of_getElem? (i := 16) rfl)) (hw _ (List.mem_of_getElem? (i := 17) rfl)) (by decide) (c_cpI l Z a0 hw c x2 x3) ⟨[3, 0, 1, 2, 4], by decide, rfl⟩ rfl pd_AII__AI rfl rfl rfl (Nat.le_of_ble_eq_true rfl) (by decide) (by decide) (by decide) (by decide) d_c_init_58 ?_
  rintro T12 _ _ ⟨b11, rfl, rfl⟩ W13
  have W14 := W13.re (os' := [(c, (.array .int), [.int x2, .int x3]), (b11, (.array .int), [.int x2, .int x3]), (b, (.array .int), [.int x0, .int x1]), (b5, (.array .int), [.int x0, .int x1]), (a, (.object "com/example/traverso/traverso/search/Path"), [.int p, .ref b5, .null, .null]), (d, (.array .boolean), [.int x4, .int x5])]) rfl
  show Go p_ e_ bl_ _ (T12.setTop (mkF m_ 61 #[.val (.ref a), .val (.int p), .val (.ref b), .val (.ref c), .val (.ref d)] [.ref b11, .ref a]))
  refine g_putfield (pc := 61) (i := 4) (j := 2) (ty := (.array .int)) (os' := [(c, (.array .int), [.int x2, .int x3]), (b11, (.array .int), [.int x2, .int x3]), (b, (.array .int), [.int x0, .int x1]), (b5, (.array .int), [.int x0, .int x1]), (a, (.object "com/example/traverso/traverso/search/Path"), [.int p, .ref b5, .ref b11, .null]), (d, (.array .boolean), [.int x4, .int x5])]) (host := "") W14 (Or.inl (hw _ (List.mem_of_getElem? (i := 29) rfl))) (cls_Path hw) (Or.inr ⟨(hw _ (List.mem_of_getElem? (i := 30) rfl)), rfl, rfl⟩) (hw _ (List.mem_of_getElem? (i := 4) rfl)) rfl rfl rfl (by decide) rfl rfl rfl d_c_init_61 (fun T15 W16 => ?_)
  refine g_aload_n (pc := 64) W16 d_c_init_64 rfl rfl ?_
  refine g_aload (pc := 65) W16 d_c_init_65 rfl rfl ?_
  refine g_aload (pc := 67) W16 d_c_init_67 rfl rfl ?_
  refine g_arraylength (pc := 69) (i := 5) (2 : Int32) W16 rfl rfl d_c_init_69 ?_
  refine g_static (pc := 70) (Wt := 1) (argsL := [.ref d, .int (2 : Int32)]) (rest := [.ref a]) (loc := [(d, (.array .boolean), [.int x4, .int x5])]) (rst := [(c, (.array .int), [.int x2, .int x3]), (b11, (.array .int), [.int x2, .int x3]), (b, (.array .int), [.int x0, .int x1]), (b5, (.array .int), [.int x0, .int x1]), (a, (.object "com/example/traverso/traverso/search/Path"), [.int p, .ref b5, .ref b11, .null])]) W16 (hw _ (List.mem_of_getElem? (i := 31) rfl)) (hw _ (List.mem_of_getElem? (i := 32) rfl)) (hw _ (List.mem_of_getElem? (i := 16) rfl)) (hw _ (List.mem_of_getElem? (i := 33) rfl)) (by decide) (c_cpZ l Z a0 hw d x4 x5) ⟨[5, 0, 1, 2, 3, 4], by decide, rfl⟩ rfl pd_AZI__AZ rfl rfl rfl (Nat.le_of_ble_eq_true rfl) (by decide) (by decide) (by decide) (by decide) d_c_init_70 ?_
  rintro T18 _ _ ⟨b17, rfl, rfl⟩ W19
  have W20 := W19.re (os' := [(d, (.array .boolean), [.int x4, .int x5]), (b17, (.array .boolean), [.int x4, .int x5]), (c, (.array .int), [.int x2, .int x3]), (b11, (.array .int), [.int x2, .int x3]), (b, (.array .int), [.int x0, .int x1]), (b5, (.array .int), [.int x0, .int x1]), (a, (.object "com/example/traverso/traverso/search/Path"), [.int p, .ref b5, .ref b11, .null])]) rfl
  show Go p_ e_ bl_ _ (T18.setTop (mkF m_ 73 #[.val (.ref a), .val (.int p), .val (.ref b), .val (.ref c), .val (.ref d)] [.ref b17, .ref a]))
  refine g_putfield (pc := 73) (i := 6) (j := 3) (ty := (.array .boolean)) (os' := [(d, (.array .boolean), [.int x4, .int x5]), (b17, (.array .boolean), [.int x4, .int x5]), (c, (.array .int), [.int x2, .int x3]), (b11, (.array .int), [.int x2, .int x3]), (b, (.array .int), [.int x0, .int x1]), (b5, (.array .int), [.int x0, .int x1]), (a, (.object "com/example/traverso/traverso/search/Path"), [.int p, .ref b5, .ref b11, .ref b17])]) (host := "") W20 (Or.inl (hw _ (List.mem_of_getElem? (i := 40) rfl))) (cls_Path hw) (Or.inr ⟨(hw _ (List.mem_of_getElem? (i := 41) rfl)), rfl, rfl⟩) (hw _ (List.mem_of_getElem? (i := 4) rfl)) rfl rfl rfl (by decide) rfl rfl rfl d_c_init_73 (fun T21 W22 => ?_)
  exact g_return (pc := 76) rfl W22 d_c_init_76 (by decide) (by decide) ⟨b17, b11, b5, rfl, rfl⟩
theorem d_c_term0_0 : decode prog_45_method_6_code 0 = .ok (.iload_n 1, 1) := by decide +kernel
theorem d_c_term0_1 : decode prog_45_method_6_code 1 = .ok (.ifCond .ne 11, 3) := by decide +kernel
theorem d_c_term0_4 : decode prog_45_method_6_code 4 = .ok (.aload_n 0, 1) := by decide +kernel
theorem d_c_term0_5 : decode prog_45_method_6_code 5 = .ok (.getfield 21, 3) := by decide +kernel
theorem d_c_term0_8 : decode prog_45_method_6_code 8 = .ok (.istore_n 2, 1) := by decide +kernel
theorem d_c_term0_9 : decode prog_45_method_6_code 9 = .ok (.goto 33, 3) := by decide +kernel
theorem d_c_term0_42 : decode prog_45_method_6_code 42 = .ok (.iload_n 2, 1) := by decide +kernel
theorem d_c_term0_43 : decode prog_45_method_6_code 43 = .ok (.ireturn, 1) := by decide +kernel
set_option maxRecDepth 65536 in
set_option maxHeartbeats 40000000 in
theorem c_term0 (l : Launch) (Z : State) (a0 : Array Value) (hw : ∀ d ∈ tables_1, d.before a0 Z = true) {B : Nat} (a b c d : Addr) (p x0 x1 x2 x3 : Int32) :
    Con l Z FM B (⟨"com/example/traverso/traverso/search/Path", "term", "(I)I"⟩ : MethodName) prog_45_method_6_code 3 (some .int) ({ frames := 0, cells := 0, slots := 0, locals := 0 } : Room) [] #[.ref a, .int (0 : Int32)] [(a, (.object "com/example/traverso/traverso/search/Path"), [.int p, .ref b, .ref c, .ref d]), (b, (.array .int), [.int x0, .int x1]), (c, (.array .int), [.int x2, .int x3])] (fun v os => v = some (.int p) ∧ os = [(a, (.object "com/example/traverso/traverso/search/Path"), [.int p, .ref b, .ref c, .ref d]), (b, (.array .int), [.int x0, .int x1]), (c, (.array .int), [.int x2, .int x3])]) := by
  refine Con.of (plainFor_of_name (by first | (simp [plainName, overriddenIn]; done) | decide +kernel)) (ls := #[.val (.ref a), .val (.int (0 : Int32)), .unset]) (fun m => by first | (simp [entryFrame, mkF, argsToLocals, Value.category]; done) | rfl) ?_
  intro p_ e_ h_ s_ m_ bl_ me_ c_ T0 W0
  refine g_iload_n (pc := 0) W0 d_c_term0_0 rfl ?_
  refine g_ifN (pc := 1) W0 d_c_term0_1 (by decide) ?_
  refine g_aload_n (pc := 4) W0 d_c_term0_4 rfl rfl ?_
  refine g_getfield (pc := 5) (i := 0) (j := 0) (host := "") W0 (Or.inl (hw _ (List.mem_of_getElem? (i := 12) rfl))) rfl rfl rfl d_c_term0_5 (fun T1 W2 => ?_)
  refine g_istore_n (pc := 8) (ls' := #[.val (.ref a), .val (.int (0 : Int32)), .val (.int p)]) W2 d_c_term0_8 rfl ?_
  refine g_goto 42 (pc := 9) W2 d_c_term0_9 (by decide) (by decide) ?_
  refine g_iload_n (pc := 42) W2 d_c_term0_42 rfl ?_
  exact g_ireturn (pc := 43) rfl W2 d_c_term0_43 (by decide) (by decide) ⟨rfl, rfl⟩
theorem d_c_term1_0 : decode prog_45_method_6_code 0 = .ok (.iload_n 1, 1) := by decide +kernel
theorem d_c_term1_1 : decode prog_45_method_6_code 1 = .ok (.ifCond .ne 11, 3) := by decide +kernel
theorem d_c_term1_12 : decode prog_45_method_6_code 12 = .ok (.iload_n 1, 1) := by decide +kernel
theorem d_c_term1_13 : decode prog_45_method_6_code 13 = .ok (.iconst 2, 1) := by decide +kernel
theorem d_c_term1_14 : decode prog_45_method_6_code 14 = .ok (.irem, 1) := by decide +kernel
theorem d_c_term1_15 : decode prog_45_method_6_code 15 = .ok (.iconst 1, 1) := by decide +kernel
theorem d_c_term1_16 : decode prog_45_method_6_code 16 = .ok (.if_icmp .ne 15, 3) := by decide +kernel
theorem d_c_term1_19 : decode prog_45_method_6_code 19 = .ok (.aload_n 0, 1) := by decide +kernel
theorem d_c_term1_20 : decode prog_45_method_6_code 20 = .ok (.getfield 31, 3) := by decide +kernel
theorem d_c_term1_23 : decode prog_45_method_6_code 23 = .ok (.iload_n 1, 1) := by decide +kernel
theorem d_c_term1_24 : decode prog_45_method_6_code 24 = .ok (.iconst 2, 1) := by decide +kernel
theorem d_c_term1_25 : decode prog_45_method_6_code 25 = .ok (.idiv, 1) := by decide +kernel
theorem d_c_term1_26 : decode prog_45_method_6_code 26 = .ok (.iaload, 1) := by decide +kernel
theorem d_c_term1_27 : decode prog_45_method_6_code 27 = .ok (.istore_n 2, 1) := by decide +kernel
theorem d_c_term1_28 : decode prog_45_method_6_code 28 = .ok (.goto 14, 3) := by decide +kernel
theorem d_c_term1_42 : decode prog_45_method_6_code 42 = .ok (.iload_n 2, 1) := by decide +kernel
theorem d_c_term1_43 : decode prog_45_method_6_code 43 = .ok (.ireturn, 1) := by decide +kernel
set_option maxRecDepth 65536 in
set_option maxHeartbeats 40000000 in
theorem c_term1 (l : Launch) (Z : State) (a0 : Array Value) (hw : ∀ d ∈ tables_1, d.before a0 Z = true) {B : Nat} (a b c d : Addr) (p x0 x1 x2 x3 : Int32) :
    Con l Z FM B (⟨"com/example/traverso/traverso/search/Path", "term", "(I)I"⟩ : MethodName) prog_45_method_6_code 3 (some .int) ({ frames := 0, cells := 0, slots := 0, locals := 0 } : Room) [] #[.ref a, .int (1 : Int32)] [(a, (.object "com/example/traverso/traverso/search/Path"), [.int p, .ref b, .ref c, .ref d]), (b, (.array .int), [.int x0, .int x1]), (c, (.array .int), [.int x2, .int x3])] (fun v os => v = some (.int x0) ∧ os = [(a, (.object "com/example/traverso/traverso/search/Path"), [.int p, .ref b, .ref c, .ref d]), (b, (.array .int), [.int x0, .int x1]), (c, (.array .int), [.int x2, .int x3])]) := by
  refine Con.of (plainFor_of_name (by first | (simp [plainName, overriddenIn]; done) | decide +kernel)) (ls := #[.val (.ref a), .val (.int (1 : Int32)), .unset]) (fun m => by first | (simp [entryFrame, mkF, argsToLocals, Value.category]; done) | rfl) ?_
  intro p_ e_ h_ s_ m_ bl_ me_ c_ T0 W0
  refine g_iload_n (pc := 0) W0 d_c_term1_0 rfl ?_
  refine g_ifY 12 (pc := 1) W0 d_c_term1_1 (by decide) (by decide) (by decide) ?_
  refine g_iload_n (pc := 12) W0 d_c_term1_12 rfl ?_
  refine g_iconst (pc := 13) (2 : Int32) (by decide) W0 d_c_term1_13 ?_
  refine g_irem (pc := 14) W0 d_c_term1_14 (by decide) ?_
  show Go p_ e_ bl_ _ (T0.setTop (mkF m_ 15 #[.val (.ref a), .val (.int (1 : Int32)), .unset] [.int (1 : Int32)]))
  refine g_iconst (pc := 15) (1 : Int32) (by decide) W0 d_c_term1_15 ?_
  refine g_icmpN (pc := 16) W0 d_c_term1_16 (by decide) ?_
  refine g_aload_n (pc := 19) W0 d_c_term1_19 rfl rfl ?_
  refine g_getfield (pc := 20) (i := 0) (j := 1) (host := "") W0 (Or.inl (hw _ (List.mem_of_getElem? (i := 27) rfl))) rfl rfl rfl d_c_term1_20 (fun T1 W2 => ?_)
  refine g_iload_n (pc := 23) W2 d_c_term1_23 rfl ?_
  refine g_iconst (pc := 24) (2 : Int32) (by decide) W2 d_c_term1_24 ?_
  refine g_idiv (pc := 25) W2 d_c_term1_25 (by decide) ?_
  show Go p_ e_ bl_ _ (T1.setTop (mkF m_ 26 #[.val (.ref a), .val (.int (1 : Int32)), .unset] [.int (0 : Int32), .ref b]))
  refine g_iaload (pc := 26) (i := 1) (v := .int x0) W2 rfl (by decide) rfl d_c_term1_26 ?_
  refine g_istore_n (pc := 27) (ls' := #[.val (.ref a), .val (.int (1 : Int32)), .val (.int x0)]) W2 d_c_term1_27 rfl ?_
  refine g_goto 42 (pc := 28) W2 d_c_term1_28 (by decide) (by decide) ?_
  refine g_iload_n (pc := 42) W2 d_c_term1_42 rfl ?_
  exact g_ireturn (pc := 43) rfl W2 d_c_term1_43 (by decide) (by decide) ⟨rfl, rfl⟩
theorem d_c_term2_0 : decode prog_45_method_6_code 0 = .ok (.iload_n 1, 1) := by decide +kernel
theorem d_c_term2_1 : decode prog_45_method_6_code 1 = .ok (.ifCond .ne 11, 3) := by decide +kernel
theorem d_c_term2_12 : decode prog_45_method_6_code 12 = .ok (.iload_n 1, 1) := by decide +kernel
theorem d_c_term2_13 : decode prog_45_method_6_code 13 = .ok (.iconst 2, 1) := by decide +kernel
theorem d_c_term2_14 : decode prog_45_method_6_code 14 = .ok (.irem, 1) := by decide +kernel
theorem d_c_term2_15 : decode prog_45_method_6_code 15 = .ok (.iconst 1, 1) := by decide +kernel
theorem d_c_term2_16 : decode prog_45_method_6_code 16 = .ok (.if_icmp .ne 15, 3) := by decide +kernel
theorem d_c_term2_31 : decode prog_45_method_6_code 31 = .ok (.aload_n 0, 1) := by decide +kernel
theorem d_c_term2_32 : decode prog_45_method_6_code 32 = .ok (.getfield 35, 3) := by decide +kernel
theorem d_c_term2_35 : decode prog_45_method_6_code 35 = .ok (.iload_n 1, 1) := by decide +kernel
theorem d_c_term2_36 : decode prog_45_method_6_code 36 = .ok (.iconst 2, 1) := by decide +kernel
theorem d_c_term2_37 : decode prog_45_method_6_code 37 = .ok (.idiv, 1) := by decide +kernel
theorem d_c_term2_38 : decode prog_45_method_6_code 38 = .ok (.iconst 1, 1) := by decide +kernel
theorem d_c_term2_39 : decode prog_45_method_6_code 39 = .ok (.isub, 1) := by decide +kernel
theorem d_c_term2_40 : decode prog_45_method_6_code 40 = .ok (.iaload, 1) := by decide +kernel
theorem d_c_term2_41 : decode prog_45_method_6_code 41 = .ok (.istore_n 2, 1) := by decide +kernel
theorem d_c_term2_42 : decode prog_45_method_6_code 42 = .ok (.iload_n 2, 1) := by decide +kernel
theorem d_c_term2_43 : decode prog_45_method_6_code 43 = .ok (.ireturn, 1) := by decide +kernel
set_option maxRecDepth 65536 in
set_option maxHeartbeats 40000000 in
theorem c_term2 (l : Launch) (Z : State) (a0 : Array Value) (hw : ∀ d ∈ tables_1, d.before a0 Z = true) {B : Nat} (a b c d : Addr) (p x0 x1 x2 x3 : Int32) :
    Con l Z FM B (⟨"com/example/traverso/traverso/search/Path", "term", "(I)I"⟩ : MethodName) prog_45_method_6_code 3 (some .int) ({ frames := 0, cells := 0, slots := 0, locals := 0 } : Room) [] #[.ref a, .int (2 : Int32)] [(a, (.object "com/example/traverso/traverso/search/Path"), [.int p, .ref b, .ref c, .ref d]), (b, (.array .int), [.int x0, .int x1]), (c, (.array .int), [.int x2, .int x3])] (fun v os => v = some (.int x2) ∧ os = [(a, (.object "com/example/traverso/traverso/search/Path"), [.int p, .ref b, .ref c, .ref d]), (b, (.array .int), [.int x0, .int x1]), (c, (.array .int), [.int x2, .int x3])]) := by
  refine Con.of (plainFor_of_name (by first | (simp [plainName, overriddenIn]; done) | decide +kernel)) (ls := #[.val (.ref a), .val (.int (2 : Int32)), .unset]) (fun m => by first | (simp [entryFrame, mkF, argsToLocals, Value.category]; done) | rfl) ?_
  intro p_ e_ h_ s_ m_ bl_ me_ c_ T0 W0
  refine g_iload_n (pc := 0) W0 d_c_term2_0 rfl ?_
  refine g_ifY 12 (pc := 1) W0 d_c_term2_1 (by decide) (by decide) (by decide) ?_
  refine g_iload_n (pc := 12) W0 d_c_term2_12 rfl ?_
  refine g_iconst (pc := 13) (2 : Int32) (by decide) W0 d_c_term2_13 ?_
  refine g_irem (pc := 14) W0 d_c_term2_14 (by decide) ?_
  show Go p_ e_ bl_ _ (T0.setTop (mkF m_ 15 #[.val (.ref a), .val (.int (2 : Int32)), .unset] [.int (0 : Int32)]))
  refine g_iconst (pc := 15) (1 : Int32) (by decide) W0 d_c_term2_15 ?_
  refine g_icmpY 31 (pc := 16) W0 d_c_term2_16 (by decide) (by decide) (by decide) ?_
  refine g_aload_n (pc := 31) W0 d_c_term2_31 rfl rfl ?_
  refine g_getfield (pc := 32) (i := 0) (j := 2) (host := "") W0 (Or.inl (hw _ (List.mem_of_getElem? (i := 29) rfl))) rfl rfl rfl d_c_term2_32 (fun T1 W2 => ?_)
  refine g_iload_n (pc := 35) W2 d_c_term2_35 rfl ?_
  refine g_iconst (pc := 36) (2 : Int32) (by decide) W2 d_c_term2_36 ?_
  refine g_idiv (pc := 37) W2 d_c_term2_37 (by decide) ?_
  show Go p_ e_ bl_ _ (T1.setTop (mkF m_ 38 #[.val (.ref a), .val (.int (2 : Int32)), .unset] [.int (1 : Int32), .ref c]))
  refine g_iconst (pc := 38) (1 : Int32) (by decide) W2 d_c_term2_38 ?_
  refine g_isub (pc := 39) W2 d_c_term2_39 ?_
  show Go p_ e_ bl_ _ (T1.setTop (mkF m_ 40 #[.val (.ref a), .val (.int (2 : Int32)), .unset] [.int (0 : Int32), .ref c]))
  refine g_iaload (pc := 40) (i := 2) (v := .int x2) W2 rfl (by decide) rfl d_c_term2_40 ?_
  refine g_istore_n (pc := 41) (ls' := #[.val (.ref a), .val (.int (2 : Int32)), .val (.int x2)]) W2 d_c_term2_41 rfl ?_
  refine g_iload_n (pc := 42) W2 d_c_term2_42 rfl ?_
  exact g_ireturn (pc := 43) rfl W2 d_c_term2_43 (by decide) (by decide) ⟨rfl, rfl⟩
theorem d_c_term3_0 : decode prog_45_method_6_code 0 = .ok (.iload_n 1, 1) := by decide +kernel
theorem d_c_term3_1 : decode prog_45_method_6_code 1 = .ok (.ifCond .ne 11, 3) := by decide +kernel
theorem d_c_term3_12 : decode prog_45_method_6_code 12 = .ok (.iload_n 1, 1) := by decide +kernel
theorem d_c_term3_13 : decode prog_45_method_6_code 13 = .ok (.iconst 2, 1) := by decide +kernel
theorem d_c_term3_14 : decode prog_45_method_6_code 14 = .ok (.irem, 1) := by decide +kernel
theorem d_c_term3_15 : decode prog_45_method_6_code 15 = .ok (.iconst 1, 1) := by decide +kernel
theorem d_c_term3_16 : decode prog_45_method_6_code 16 = .ok (.if_icmp .ne 15, 3) := by decide +kernel
theorem d_c_term3_19 : decode prog_45_method_6_code 19 = .ok (.aload_n 0, 1) := by decide +kernel
theorem d_c_term3_20 : decode prog_45_method_6_code 20 = .ok (.getfield 31, 3) := by decide +kernel
theorem d_c_term3_23 : decode prog_45_method_6_code 23 = .ok (.iload_n 1, 1) := by decide +kernel
theorem d_c_term3_24 : decode prog_45_method_6_code 24 = .ok (.iconst 2, 1) := by decide +kernel
theorem d_c_term3_25 : decode prog_45_method_6_code 25 = .ok (.idiv, 1) := by decide +kernel
theorem d_c_term3_26 : decode prog_45_method_6_code 26 = .ok (.iaload, 1) := by decide +kernel
theorem d_c_term3_27 : decode prog_45_method_6_code 27 = .ok (.istore_n 2, 1) := by decide +kernel
theorem d_c_term3_28 : decode prog_45_method_6_code 28 = .ok (.goto 14, 3) := by decide +kernel
theorem d_c_term3_42 : decode prog_45_method_6_code 42 = .ok (.iload_n 2, 1) := by decide +kernel
theorem d_c_term3_43 : decode prog_45_method_6_code 43 = .ok (.ireturn, 1) := by decide +kernel
set_option maxRecDepth 65536 in
set_option maxHeartbeats 40000000 in
theorem c_term3 (l : Launch) (Z : State) (a0 : Array Value) (hw : ∀ d ∈ tables_1, d.before a0 Z = true) {B : Nat} (a b c d : Addr) (p x0 x1 x2 x3 : Int32) :
    Con l Z FM B (⟨"com/example/traverso/traverso/search/Path", "term", "(I)I"⟩ : MethodName) prog_45_method_6_code 3 (some .int) ({ frames := 0, cells := 0, slots := 0, locals := 0 } : Room) [] #[.ref a, .int (3 : Int32)] [(a, (.object "com/example/traverso/traverso/search/Path"), [.int p, .ref b, .ref c, .ref d]), (b, (.array .int), [.int x0, .int x1]), (c, (.array .int), [.int x2, .int x3])] (fun v os => v = some (.int x1) ∧ os = [(a, (.object "com/example/traverso/traverso/search/Path"), [.int p, .ref b, .ref c, .ref d]), (b, (.array .int), [.int x0, .int x1]), (c, (.array .int), [.int x2, .int x3])]) := by
  refine Con.of (plainFor_of_name (by first | (simp [plainName, overriddenIn]; done) | decide +kernel)) (ls := #[.val (.ref a), .val (.int (3 : Int32)), .unset]) (fun m => by first | (simp [entryFrame, mkF, argsToLocals, Value.category]; done) | rfl) ?_
  intro p_ e_ h_ s_ m_ bl_ me_ c_ T0 W0
  refine g_iload_n (pc := 0) W0 d_c_term3_0 rfl ?_
  refine g_ifY 12 (pc := 1) W0 d_c_term3_1 (by decide) (by decide) (by decide) ?_
  refine g_iload_n (pc := 12) W0 d_c_term3_12 rfl ?_
  refine g_iconst (pc := 13) (2 : Int32) (by decide) W0 d_c_term3_13 ?_
  refine g_irem (pc := 14) W0 d_c_term3_14 (by decide) ?_
  show Go p_ e_ bl_ _ (T0.setTop (mkF m_ 15 #[.val (.ref a), .val (.int (3 : Int32)), .unset] [.int (1 : Int32)]))
  refine g_iconst (pc := 15) (1 : Int32) (by decide) W0 d_c_term3_15 ?_
  refine g_icmpN (pc := 16) W0 d_c_term3_16 (by decide) ?_
  refine g_aload_n (pc := 19) W0 d_c_term3_19 rfl rfl ?_
  refine g_getfield (pc := 20) (i := 0) (j := 1) (host := "") W0 (Or.inl (hw _ (List.mem_of_getElem? (i := 27) rfl))) rfl rfl rfl d_c_term3_20 (fun T1 W2 => ?_)
  refine g_iload_n (pc := 23) W2 d_c_term3_23 rfl ?_
  refine g_iconst (pc := 24) (2 : Int32) (by decide) W2 d_c_term3_24 ?_
  refine g_idiv (pc := 25) W2 d_c_term3_25 (by decide) ?_
  show Go p_ e_ bl_ _ (T1.setTop (mkF m_ 26 #[.val (.ref a), .val (.int (3 : Int32)), .unset] [.int (1 : Int32), .ref b]))
  refine g_iaload (pc := 26) (i := 1) (v := .int x1) W2 rfl (by decide) rfl d_c_term3_26 ?_
  refine g_istore_n (pc := 27) (ls' := #[.val (.ref a), .val (.int (3 : Int32)), .val (.int x1)]) W2 d_c_term3_27 rfl ?_
  refine g_goto 42 (pc := 28) W2 d_c_term3_28 (by decide) (by decide) ?_
  refine g_iload_n (pc := 42) W2 d_c_term3_42 rfl ?_
  exact g_ireturn (pc := 43) rfl W2 d_c_term3_43 (by decide) (by decide) ⟨rfl, rfl⟩
theorem d_c_term4_0 : decode prog_45_method_6_code 0 = .ok (.iload_n 1, 1) := by decide +kernel
theorem d_c_term4_1 : decode prog_45_method_6_code 1 = .ok (.ifCond .ne 11, 3) := by decide +kernel
theorem d_c_term4_12 : decode prog_45_method_6_code 12 = .ok (.iload_n 1, 1) := by decide +kernel
theorem d_c_term4_13 : decode prog_45_method_6_code 13 = .ok (.iconst 2, 1) := by decide +kernel
theorem d_c_term4_14 : decode prog_45_method_6_code 14 = .ok (.irem, 1) := by decide +kernel
theorem d_c_term4_15 : decode prog_45_method_6_code 15 = .ok (.iconst 1, 1) := by decide +kernel
theorem d_c_term4_16 : decode prog_45_method_6_code 16 = .ok (.if_icmp .ne 15, 3) := by decide +kernel
theorem d_c_term4_31 : decode prog_45_method_6_code 31 = .ok (.aload_n 0, 1) := by decide +kernel
theorem d_c_term4_32 : decode prog_45_method_6_code 32 = .ok (.getfield 35, 3) := by decide +kernel
theorem d_c_term4_35 : decode prog_45_method_6_code 35 = .ok (.iload_n 1, 1) := by decide +kernel
theorem d_c_term4_36 : decode prog_45_method_6_code 36 = .ok (.iconst 2, 1) := by decide +kernel
theorem d_c_term4_37 : decode prog_45_method_6_code 37 = .ok (.idiv, 1) := by decide +kernel
theorem d_c_term4_38 : decode prog_45_method_6_code 38 = .ok (.iconst 1, 1) := by decide +kernel
theorem d_c_term4_39 : decode prog_45_method_6_code 39 = .ok (.isub, 1) := by decide +kernel
theorem d_c_term4_40 : decode prog_45_method_6_code 40 = .ok (.iaload, 1) := by decide +kernel
theorem d_c_term4_41 : decode prog_45_method_6_code 41 = .ok (.istore_n 2, 1) := by decide +kernel
theorem d_c_term4_42 : decode prog_45_method_6_code 42 = .ok (.iload_n 2, 1) := by decide +kernel
theorem d_c_term4_43 : decode prog_45_method_6_code 43 = .ok (.ireturn, 1) := by decide +kernel
set_option maxRecDepth 65536 in
set_option maxHeartbeats 40000000 in
theorem c_term4 (l : Launch) (Z : State) (a0 : Array Value) (hw : ∀ d ∈ tables_1, d.before a0 Z = true) {B : Nat} (a b c d : Addr) (p x0 x1 x2 x3 : Int32) :
    Con l Z FM B (⟨"com/example/traverso/traverso/search/Path", "term", "(I)I"⟩ : MethodName) prog_45_method_6_code 3 (some .int) ({ frames := 0, cells := 0, slots := 0, locals := 0 } : Room) [] #[.ref a, .int (4 : Int32)] [(a, (.object "com/example/traverso/traverso/search/Path"), [.int p, .ref b, .ref c, .ref d]), (b, (.array .int), [.int x0, .int x1]), (c, (.array .int), [.int x2, .int x3])] (fun v os => v = some (.int x3) ∧ os = [(a, (.object "com/example/traverso/traverso/search/Path"), [.int p, .ref b, .ref c, .ref d]), (b, (.array .int), [.int x0, .int x1]), (c, (.array .int), [.int x2, .int x3])]) := by
  refine Con.of (plainFor_of_name (by first | (simp [plainName, overriddenIn]; done) | decide +kernel)) (ls := #[.val (.ref a), .val (.int (4 : Int32)), .unset]) (fun m => by first | (simp [entryFrame, mkF, argsToLocals, Value.category]; done) | rfl) ?_
  intro p_ e_ h_ s_ m_ bl_ me_ c_ T0 W0
  refine g_iload_n (pc := 0) W0 d_c_term4_0 rfl ?_
  refine g_ifY 12 (pc := 1) W0 d_c_term4_1 (by decide) (by decide) (by decide) ?_
  refine g_iload_n (pc := 12) W0 d_c_term4_12 rfl ?_
  refine g_iconst (pc := 13) (2 : Int32) (by decide) W0 d_c_term4_13 ?_
  refine g_irem (pc := 14) W0 d_c_term4_14 (by decide) ?_
  show Go p_ e_ bl_ _ (T0.setTop (mkF m_ 15 #[.val (.ref a), .val (.int (4 : Int32)), .unset] [.int (0 : Int32)]))
  refine g_iconst (pc := 15) (1 : Int32) (by decide) W0 d_c_term4_15 ?_
  refine g_icmpY 31 (pc := 16) W0 d_c_term4_16 (by decide) (by decide) (by decide) ?_
  refine g_aload_n (pc := 31) W0 d_c_term4_31 rfl rfl ?_
  refine g_getfield (pc := 32) (i := 0) (j := 2) (host := "") W0 (Or.inl (hw _ (List.mem_of_getElem? (i := 29) rfl))) rfl rfl rfl d_c_term4_32 (fun T1 W2 => ?_)
  refine g_iload_n (pc := 35) W2 d_c_term4_35 rfl ?_
  refine g_iconst (pc := 36) (2 : Int32) (by decide) W2 d_c_term4_36 ?_
  refine g_idiv (pc := 37) W2 d_c_term4_37 (by decide) ?_
  show Go p_ e_ bl_ _ (T1.setTop (mkF m_ 38 #[.val (.ref a), .val (.int (4 : Int32)), .unset] [.int (2 : Int32), .ref c]))
  refine g_iconst (pc := 38) (1 : Int32) (by decide) W2 d_c_term4_38 ?_
  refine g_isub (pc := 39) W2 d_c_term4_39 ?_
  show Go p_ e_ bl_ _ (T1.setTop (mkF m_ 40 #[.val (.ref a), .val (.int (4 : Int32)), .unset] [.int (1 : Int32), .ref c]))
  refine g_iaload (pc := 40) (i := 2) (v := .int x3) W2 rfl (by decide) rfl d_c_term4_40 ?_
  refine g_istore_n (pc := 41) (ls' := #[.val (.ref a), .val (.int (4 : Int32)), .val (.int x3)]) W2 d_c_term4_41 rfl ?_
  refine g_iload_n (pc := 42) W2 d_c_term4_42 rfl ?_
  exact g_ireturn (pc := 43) rfl W2 d_c_term4_43 (by decide) (by decide) ⟨rfl, rfl⟩
theorem own_is {x y : Int32} {k : Int} (h : x.toInt = k) (e : y.toInt = k) : x = y := Int32.toInt_inj.mp (h.trans e.symm)
theorem own_rem (a : Int32) {n : Int32} (k : Int) (hn : n.toInt = k) (h0 : 0 < k) : 0 ≤ ((a &&& 2147483647) % n).toInt ∧ ((a &&& 2147483647) % n).toInt < k := by
  have e : (a &&& 2147483647).toInt = a.toInt % 2 ^ 31 := Jvm.Kit.i32_mask a 2147483647 (k := 31) (by decide) (by decide)
  have h : 0 ≤ a.toInt % 2 ^ 31 := Int.emod_nonneg _ (by decide)
  rw [Int32.toInt_mod, hn, e]
  exact ⟨Int.tmod_nonneg _ h, Int.tmod_lt_of_pos _ h0⟩
theorem own_five (a : Int32) : (a &&& 2147483647) % 5 = 0 ∨ (a &&& 2147483647) % 5 = 1 ∨ (a &&& 2147483647) % 5 = 2 ∨ (a &&& 2147483647) % 5 = 3 ∨ (a &&& 2147483647) % 5 = 4 := by
  have q := own_rem a (n := 5) 5 (by decide) (by decide)
  rcases (by omega : ((a &&& 2147483647) % 5).toInt = 0 ∨ ((a &&& 2147483647) % 5).toInt = 1 ∨ ((a &&& 2147483647) % 5).toInt = 2 ∨ ((a &&& 2147483647) % 5).toInt = 3 ∨ ((a &&& 2147483647) % 5).toInt = 4) with h | h | h | h | h
  · exact Or.inl (own_is h (by decide))
  · exact Or.inr (Or.inl (own_is h (by decide)))
  · exact Or.inr (Or.inr (Or.inl (own_is h (by decide))))
  · exact Or.inr (Or.inr (Or.inr (Or.inl (own_is h (by decide)))))
  · exact Or.inr (Or.inr (Or.inr (Or.inr (own_is h (by decide)))))
set_option maxRecDepth 65536 in
set_option maxHeartbeats 40000000 in
theorem c_law (l : Launch) (Z : State) (a0 : Array Value) (hw : ∀ d ∈ tables_1, d.before a0 Z = true) {B : Nat} (p0 p1 p2 p3 p4 p5 : Int32) :
    Con l Z FM B x code maxLocals ret room_1 tables_1 #[.int p0, .int p1, .int p2, .int p3, .int p4, .int p5] [] (fun v os => v = some (.int 1)) := by
  refine Con.of (plainFor_of_name (by first | (simp [plainName, overriddenIn]; done) | decide +kernel)) (ls := #[.val (.int p0), .val (.int p1), .val (.int p2), .val (.int p3), .val (.int p4), .val (.int p5), .unset, .unset, .unset, .unset, .unset, .unset]) (fun m => by first | (simp [entryFrame, mkF, argsToLocals, Value.category, maxLocals]; done) | rfl) ?_
  intro p_ e_ h_ s_ m_ bl_ me_ c_ T0 W0
  refine g_iload (pc := 0) W0 at_0 rfl ?_
  refine g_ldc_int (pc := 2) (v := (2147483647 : Int32)) W0 (hw _ (List.mem_of_getElem? (i := 0) rfl)) at_2 ?_
  refine g_iand (pc := 4) W0 at_4 ?_
  refine g_iconst (pc := 5) (5 : Int32) (by decide) W0 at_5 ?_
  refine g_irem (pc := 6) W0 at_6 (by decide) ?_
  refine g_istore (pc := 7) (ls' := #[.val (.int p0), .val (.int p1), .val (.int p2), .val (.int p3), .val (.int p4), .val (.int p5), .val (.int ((p5 &&& (2147483647 : Int32)) % (5 : Int32))), .unset, .unset, .unset, .unset, .unset]) W0 at_7 rfl ?_
  refine g_iconst (pc := 9) (2 : Int32) (by decide) W0 at_9 ?_
  refine g_newarray (pc := 10) (ty := .int) (vs := [.int (0 : Int32), .int (0 : Int32)]) 2 W0 (hw _ (List.mem_of_getElem? (i := 1) rfl)) rfl (by decide) (by decide) (by decide) rfl at_10 (by decide) (by decide) (fun T2 b1 W3 => ?_)
  have W4 := W3.re (os' := [(b1, (.array .int), [.int (0 : Int32), .int (0 : Int32)])]) rfl
  refine g_astore (pc := 12) (ls' := #[.val (.int p0), .val (.int p1), .val (.int p2), .val (.int p3), .val (.int p4), .val (.int p5), .val (.int ((p5 &&& (2147483647 : Int32)) % (5 : Int32))), .val (.ref b1), .unset, .unset, .unset, .unset]) W4 at_12 rfl rfl ?_
  refine g_aload (pc := 14) W4 at_14 rfl rfl ?_
  refine g_iconst (pc := 16) (0 : Int32) (by decide) W4 at_16 ?_
  refine g_iload_n (pc := 17) W4 at_17 rfl ?_
  refine g_iastore (pc := 18) (i := 0) (os' := [(b1, (.array .int), [.int p1, .int (0 : Int32)])]) 0 W4 rfl (by decide) (by decide) (Nat.le_of_ble_eq_true rfl) rfl at_18 (fun T5 W6 => ?_)
  refine g_aload (pc := 19) W6 at_19 rfl rfl ?_
  refine g_iconst (pc := 21) (1 : Int32) (by decide) W6 at_21 ?_
  refine g_iload_n (pc := 22) W6 at_22 rfl ?_
  refine g_iastore (pc := 23) (i := 0) (os' := [(b1, (.array .int), [.int p1, .int p3])]) 1 W6 rfl (by decide) (by decide) (Nat.le_of_ble_eq_true rfl) rfl at_23 (fun T7 W8 => ?_)
  refine g_iconst (pc := 24) (2 : Int32) (by decide) W8 at_24 ?_
  refine g_newarray (pc := 25) (ty := .int) (vs := [.int (0 : Int32), .int (0 : Int32)]) 2 W8 (hw _ (List.mem_of_getElem? (i := 1) rfl)) rfl (by decide) (by decide) (by decide) rfl at_25 (by decide) (by decide) (fun T10 b9 W11 => ?_)
  have W12 := W11.re (os' := [(b1, (.array .int), [.int p1, .int p3]), (b9, (.array .int), [.int (0 : Int32), .int (0 : Int32)])]) rfl
  refine g_astore (pc := 27) (ls' := #[.val (.int p0), .val (.int p1), .val (.int p2), .val (.int p3), .val (.int p4), .val (.int p5), .val (.int ((p5 &&& (2147483647 : Int32)) % (5 : Int32))), .val (.ref b1), .val (.ref b9), .unset, .unset, .unset]) W12 at_27 rfl rfl ?_
  refine g_aload (pc := 29) W12 at_29 rfl rfl ?_
  refine g_iconst (pc := 31) (0 : Int32) (by decide) W12 at_31 ?_
  refine g_iload_n (pc := 32) W12 at_32 rfl ?_
  refine g_iastore (pc := 33) (i := 1) (os' := [(b1, (.array .int), [.int p1, .int p3]), (b9, (.array .int), [.int p2, .int (0 : Int32)])]) 0 W12 rfl (by decide) (by decide) (Nat.le_of_ble_eq_true rfl) rfl at_33 (fun T13 W14 => ?_)
  refine g_aload (pc := 34) W14 at_34 rfl rfl ?_
  refine g_iconst (pc := 36) (1 : Int32) (by decide) W14 at_36 ?_
  refine g_iload (pc := 37) W14 at_37 rfl ?_
  refine g_iastore (pc := 39) (i := 1) (os' := [(b1, (.array .int), [.int p1, .int p3]), (b9, (.array .int), [.int p2, .int p4])]) 1 W14 rfl (by decide) (by decide) (Nat.le_of_ble_eq_true rfl) rfl at_39 (fun T15 W16 => ?_)
  refine g_iconst (pc := 40) (2 : Int32) (by decide) W16 at_40 ?_
  refine g_newarray (pc := 41) (ty := .boolean) (vs := [.int (0 : Int32), .int (0 : Int32)]) 2 W16 (hw _ (List.mem_of_getElem? (i := 2) rfl)) rfl (by decide) (by decide) (by decide) rfl at_41 (by decide) (by decide) (fun T18 b17 W19 => ?_)
  have W20 := W19.re (os' := [(b1, (.array .int), [.int p1, .int p3]), (b9, (.array .int), [.int p2, .int p4]), (b17, (.array .boolean), [.int (0 : Int32), .int (0 : Int32)])]) rfl
  refine g_astore (pc := 43) (ls' := #[.val (.int p0), .val (.int p1), .val (.int p2), .val (.int p3), .val (.int p4), .val (.int p5), .val (.int ((p5 &&& (2147483647 : Int32)) % (5 : Int32))), .val (.ref b1), .val (.ref b9), .val (.ref b17), .unset, .unset]) W20 at_43 rfl rfl ?_
  refine g_aload (pc := 45) W20 at_45 rfl rfl ?_
  refine g_iconst (pc := 47) (0 : Int32) (by decide) W20 at_47 ?_
  refine g_iload (pc := 48) W20 at_48 rfl ?_
  refine Go.join (T := T18) (fr := fun z21 : Int32 => (mkF m_ 58 #[.val (.int p0), .val (.int p1), .val (.int p2), .val (.int p3), .val (.int p4), .val (.int p5), .val (.int ((p5 &&& (2147483647 : Int32)) % (5 : Int32))), .val (.ref b1), .val (.ref b9), .val (.ref b17), .unset, .unset] [.int z21, .int (0 : Int32), .ref b17])) (if p5 < (0 : Int32) then (1 : Int32) else (0 : Int32)) (fun z21 hz22 => ?_) (fun j23 => ?_)
  · refine g_zastore (pc := 58) (i := 2) (os' := [(b1, (.array .int), [.int p1, .int p3]), (b9, (.array .int), [.int p2, .int p4]), (b17, (.array .boolean), [.int z21, .int (0 : Int32)])]) (x' := z21) (by rw [hz22]; split <;> decide) 0 W20 rfl (by decide) (by decide) (Nat.le_of_ble_eq_true rfl) rfl at_58 (fun T24 W25 => ?_)
    refine g_aload (pc := 59) W25 at_59 rfl rfl ?_
    refine g_iconst (pc := 61) (1 : Int32) (by decide) W25 at_61 ?_
    refine g_iload (pc := 62) W25 at_62 rfl ?_
    refine g_sipush (pc := 64) (256 : Int32) (by decide) W25 at_64 ?_
    refine g_iand (pc := 67) W25 at_67 ?_
    refine Go.join (T := T24) (fr := fun z26 : Int32 => (mkF m_ 76 #[.val (.int p0), .val (.int p1), .val (.int p2), .val (.int p3), .val (.int p4), .val (.int p5), .val (.int ((p5 &&& (2147483647 : Int32)) % (5 : Int32))), .val (.ref b1), .val (.ref b9), .val (.ref b17), .unset, .unset] [.int z26, .int (1 : Int32), .ref b17])) (if (p5 &&& (256 : Int32)) = (0 : Int32) then (0 : Int32) else (1 : Int32)) (fun z26 hz27 => ?_) (fun j28 => ?_)
    · refine g_zastore (pc := 76) (i := 2) (os' := [(b1, (.array .int), [.int p1, .int p3]), (b9, (.array .int), [.int p2, .int p4]), (b17, (.array .boolean), [.int z21, .int z26])]) (x' := z26) (by rw [hz27]; split <;> decide) 1 W25 rfl (by decide) (by decide) (Nat.le_of_ble_eq_true rfl) rfl at_76 (fun T29 W30 => ?_)
      refine g_new (pc := 77) (vs := [.int (0 : Int32), .null, .null, .null]) W30 (hw _ (List.mem_of_getElem? (i := 3) rfl)) (hw _ (List.mem_of_getElem? (i := 4) rfl)) (hw _ (List.mem_of_getElem? (i := 5) rfl)) (cls_Path hw) (by decide) at_77 (by decide) (by decide) (fun T32 b31 W33 => ?_)
      have W34 := W33.re (os' := [(b1, (.array .int), [.int p1, .int p3]), (b9, (.array .int), [.int p2, .int p4]), (b17, (.array .boolean), [.int z21, .int z26]), (b31, (.object "com/example/traverso/traverso/search/Path"), [.int (0 : Int32), .null, .null, .null])]) rfl
      refine g_dup (pc := 80) W34 at_80 rfl ?_
      refine g_iload_n (pc := 81) W34 at_81 rfl ?_
      refine g_aload (pc := 82) W34 at_82 rfl rfl ?_
      refine g_aload (pc := 84) W34 at_84 rfl rfl ?_
      refine g_aload (pc := 86) W34 at_86 rfl rfl ?_
      refine g_init (pc := 88) (Wt := 1) (argsL := [.int p0, .ref b1, .ref b9, .ref b17]) (rest := [.ref b31]) (loc := [(b31, (.object "com/example/traverso/traverso/search/Path"), [.int (0 : Int32), .null, .null, .null]), (b1, (.array .int), [.int p1, .int p3]), (b9, (.array .int), [.int p2, .int p4]), (b17, (.array .boolean), [.int z21, .int z26])]) (rst := []) W34 rfl (hw _ (List.mem_of_getElem? (i := 6) rfl)) (hw _ (List.mem_of_getElem? (i := 7) rfl)) (hw _ (List.mem_of_getElem? (i := 5) rfl)) (hw _ (List.mem_of_getElem? (i := 8) rfl)) (by decide) (c_init l Z a0 hw b31 b1 b9 b17 p0 p1 p3 p2 p4 z21 z26) ⟨[3, 0, 1, 2], by decide, rfl⟩ rfl pd_IAIAIAZ__V rfl rfl rfl (Nat.le_of_ble_eq_true rfl) (by decide) (by decide) (by decide) (by decide) at_88 ?_
      rintro T38 _ _ ⟨b35, b36, b37, rfl, rfl⟩ W39
      have W40 := W39.re (os' := [(b17, (.array .boolean), [.int z21, .int z26]), (b35, (.array .boolean), [.int z21, .int z26]), (b9, (.array .int), [.int p2, .int p4]), (b36, (.array .int), [.int p2, .int p4]), (b1, (.array .int), [.int p1, .int p3]), (b37, (.array .int), [.int p1, .int p3]), (b31, (.object "com/example/traverso/traverso/search/Path"), [.int p0, .ref b37, .ref b36, .ref b35])]) rfl
      show Go p_ e_ bl_ _ (T38.setTop (mkF m_ 91 #[.val (.int p0), .val (.int p1), .val (.int p2), .val (.int p3), .val (.int p4), .val (.int p5), .val (.int ((p5 &&& (2147483647 : Int32)) % (5 : Int32))), .val (.ref b1), .val (.ref b9), .val (.ref b17), .unset, .unset] [.ref b31]))
      refine g_astore (pc := 91) (ls' := #[.val (.int p0), .val (.int p1), .val (.int p2), .val (.int p3), .val (.int p4), .val (.int p5), .val (.int ((p5 &&& (2147483647 : Int32)) % (5 : Int32))), .val (.ref b1), .val (.ref b9), .val (.ref b17), .val (.ref b31), .unset]) W40 at_91 rfl rfl ?_
      refine g_aload (pc := 93) W40 at_93 rfl rfl ?_
      refine g_iconst (pc := 95) (0 : Int32) (by decide) W40 at_95 ?_
      refine g_iload_n (pc := 96) W40 at_96 rfl ?_
      refine g_iconst (pc := 97) (-1 : Int32) (by decide) W40 at_97 ?_
      refine g_ixor (pc := 98) W40 at_98 ?_
      refine g_iastore (pc := 99) (i := 4) (os' := [(b17, (.array .boolean), [.int z21, .int z26]), (b35, (.array .boolean), [.int z21, .int z26]), (b9, (.array .int), [.int p2, .int p4]), (b36, (.array .int), [.int p2, .int p4]), (b1, (.array .int), [.int (p1 ^^^ (-1 : Int32)), .int p3]), (b37, (.array .int), [.int p1, .int p3]), (b31, (.object "com/example/traverso/traverso/search/Path"), [.int p0, .ref b37, .ref b36, .ref b35])]) 0 W40 rfl (by decide) (by decide) (Nat.le_of_ble_eq_true rfl) rfl at_99 (fun T41 W42 => ?_)
      refine g_aload (pc := 100) W42 at_100 rfl rfl ?_
      refine g_iconst (pc := 102) (1 : Int32) (by decide) W42 at_102 ?_
      refine g_iload_n (pc := 103) W42 at_103 rfl ?_
      refine g_iconst (pc := 104) (-1 : Int32) (by decide) W42 at_104 ?_
      refine g_ixor (pc := 105) W42 at_105 ?_
      refine g_iastore (pc := 106) (i := 4) (os' := [(b17, (.array .boolean), [.int z21, .int z26]), (b35, (.array .boolean), [.int z21, .int z26]), (b9, (.array .int), [.int p2, .int p4]), (b36, (.array .int), [.int p2, .int p4]), (b1, (.array .int), [.int (p1 ^^^ (-1 : Int32)), .int (p3 ^^^ (-1 : Int32))]), (b37, (.array .int), [.int p1, .int p3]), (b31, (.object "com/example/traverso/traverso/search/Path"), [.int p0, .ref b37, .ref b36, .ref b35])]) 1 W42 rfl (by decide) (by decide) (Nat.le_of_ble_eq_true rfl) rfl at_106 (fun T43 W44 => ?_)
      refine g_aload (pc := 107) W44 at_107 rfl rfl ?_
      refine g_iconst (pc := 109) (0 : Int32) (by decide) W44 at_109 ?_
      refine g_iload_n (pc := 110) W44 at_110 rfl ?_
      refine g_iconst (pc := 111) (-1 : Int32) (by decide) W44 at_111 ?_
      refine g_ixor (pc := 112) W44 at_112 ?_
      refine g_iastore (pc := 113) (i := 2) (os' := [(b17, (.array .boolean), [.int z21, .int z26]), (b35, (.array .boolean), [.int z21, .int z26]), (b9, (.array .int), [.int (p2 ^^^ (-1 : Int32)), .int p4]), (b36, (.array .int), [.int p2, .int p4]), (b1, (.array .int), [.int (p1 ^^^ (-1 : Int32)), .int (p3 ^^^ (-1 : Int32))]), (b37, (.array .int), [.int p1, .int p3]), (b31, (.object "com/example/traverso/traverso/search/Path"), [.int p0, .ref b37, .ref b36, .ref b35])]) 0 W44 rfl (by decide) (by decide) (Nat.le_of_ble_eq_true rfl) rfl at_113 (fun T45 W46 => ?_)
      refine g_aload (pc := 114) W46 at_114 rfl rfl ?_
      refine g_iconst (pc := 116) (1 : Int32) (by decide) W46 at_116 ?_
      refine g_iload (pc := 117) W46 at_117 rfl ?_
      refine g_iconst (pc := 119) (-1 : Int32) (by decide) W46 at_119 ?_
      refine g_ixor (pc := 120) W46 at_120 ?_
      refine g_iastore (pc := 121) (i := 2) (os' := [(b17, (.array .boolean), [.int z21, .int z26]), (b35, (.array .boolean), [.int z21, .int z26]), (b9, (.array .int), [.int (p2 ^^^ (-1 : Int32)), .int (p4 ^^^ (-1 : Int32))]), (b36, (.array .int), [.int p2, .int p4]), (b1, (.array .int), [.int (p1 ^^^ (-1 : Int32)), .int (p3 ^^^ (-1 : Int32))]), (b37, (.array .int), [.int p1, .int p3]), (b31, (.object "com/example/traverso/traverso/search/Path"), [.int p0, .ref b37, .ref b36, .ref b35])]) 1 W46 rfl (by decide) (by decide) (Nat.le_of_ble_eq_true rfl) rfl at_121 (fun T47 W48 => ?_)
      rcases own_five p5 with hl | hl | hl | hl | hl
      · rw [hl]
        refine g_iload (pc := 122) W48 at_122 rfl ?_
        refine g_ifN (pc := 124) W48 at_124 (by decide) ?_
        refine g_iload_n (pc := 127) W48 at_127 rfl ?_
        refine g_istore (pc := 128) (ls' := #[.val (.int p0), .val (.int p1), .val (.int p2), .val (.int p3), .val (.int p4), .val (.int p5), .val (.int (0 : Int32)), .val (.ref b1), .val (.ref b9), .val (.ref b17), .val (.ref b31), .val (.int p0)]) W48 at_128 rfl ?_
        refine g_goto 173 (pc := 130) W48 at_130 (by decide) (by decide) ?_
        refine g_aload (pc := 173) W48 at_173 rfl rfl ?_
        refine g_iload (pc := 175) W48 at_175 rfl ?_
        refine g_virtual (i := 6) (pc := 177) (Wt := 0) (argsL := [.int (0 : Int32)]) (rest := []) (loc := [(b31, (.object "com/example/traverso/traverso/search/Path"), [.int p0, .ref b37, .ref b36, .ref b35]), (b37, (.array .int), [.int p1, .int p3]), (b36, (.array .int), [.int p2, .int p4])]) (rst := [(b17, (.array .boolean), [.int z21, .int z26]), (b35, (.array .boolean), [.int z21, .int z26]), (b9, (.array .int), [.int (p2 ^^^ (-1 : Int32)), .int (p4 ^^^ (-1 : Int32))]), (b1, (.array .int), [.int (p1 ^^^ (-1 : Int32)), .int (p3 ^^^ (-1 : Int32))])]) W48 (hw _ (List.mem_of_getElem? (i := 42) rfl)) (hw _ (List.mem_of_getElem? (i := 44) rfl)) (hw _ (List.mem_of_getElem? (i := 5) rfl)) (hw _ (List.mem_of_getElem? (i := 46) rfl)) (hw _ (List.mem_of_getElem? (i := 43) rfl)) (hw _ (List.mem_of_getElem? (i := 45) rfl)) rfl (by decide) (c_term0 l Z a0 hw b31 b37 b36 b35 p0 p1 p3 p2 p4) ⟨[6, 5, 3, 0, 1, 2, 4], by decide, rfl⟩ rfl pd_I__I rfl rfl rfl (Nat.le_of_ble_eq_true rfl) (by decide) (by decide) (by decide) (by decide) at_177 ?_
        rintro T49 _ _ ⟨rfl, rfl⟩ W50
        have W51 := W50.re (os' := [(b31, (.object "com/example/traverso/traverso/search/Path"), [.int p0, .ref b37, .ref b36, .ref b35]), (b37, (.array .int), [.int p1, .int p3]), (b36, (.array .int), [.int p2, .int p4]), (b17, (.array .boolean), [.int z21, .int z26]), (b35, (.array .boolean), [.int z21, .int z26]), (b9, (.array .int), [.int (p2 ^^^ (-1 : Int32)), .int (p4 ^^^ (-1 : Int32))]), (b1, (.array .int), [.int (p1 ^^^ (-1 : Int32)), .int (p3 ^^^ (-1 : Int32))])]) rfl
        show Go p_ e_ bl_ _ (T49.setTop (mkF m_ 180 #[.val (.int p0), .val (.int p1), .val (.int p2), .val (.int p3), .val (.int p4), .val (.int p5), .val (.int (0 : Int32)), .val (.ref b1), .val (.ref b9), .val (.ref b17), .val (.ref b31), .val (.int p0)] [.int p0]))
        refine g_iload (pc := 180) W51 at_180 rfl ?_
        refine g_icmpN (pc := 182) W51 at_182 (by first | exact (teq rfl).1 | exact (teq rfl).2 | exact (flt (by simp)).1 | exact (flt (by simp)).2.1 | exact (flt (by simp)).2.2.1 | exact (flt (by simp)).2.2.2) ?_
        refine g_iconst (pc := 185) (1 : Int32) (by decide) W51 at_185 ?_
        refine g_goto 190 (pc := 186) W51 at_186 (by decide) (by decide) ?_
        exact g_zreturn (pc := 190) rfl (by decide) W51 at_190 (by decide) (by decide) rfl
      · rw [hl]
        refine g_iload (pc := 122) W48 at_122 rfl ?_
        refine g_ifY 133 (pc := 124) W48 at_124 (by decide) (by decide) (by decide) ?_
        refine g_iload (pc := 133) W48 at_133 rfl ?_
        refine g_iconst (pc := 135) (1 : Int32) (by decide) W48 at_135 ?_
        refine g_icmpN (pc := 136) W48 at_136 (by decide) ?_
        refine g_iload_n (pc := 139) W48 at_139 rfl ?_
        refine g_istore (pc := 140) (ls' := #[.val (.int p0), .val (.int p1), .val (.int p2), .val (.int p3), .val (.int p4), .val (.int p5), .val (.int (1 : Int32)), .val (.ref b1), .val (.ref b9), .val (.ref b17), .val (.ref b31), .val (.int p1)]) W48 at_140 rfl ?_
        refine g_goto 173 (pc := 142) W48 at_142 (by decide) (by decide) ?_
        refine g_aload (pc := 173) W48 at_173 rfl rfl ?_
        refine g_iload (pc := 175) W48 at_175 rfl ?_
        refine g_virtual (i := 6) (pc := 177) (Wt := 0) (argsL := [.int (1 : Int32)]) (rest := []) (loc := [(b31, (.object "com/example/traverso/traverso/search/Path"), [.int p0, .ref b37, .ref b36, .ref b35]), (b37, (.array .int), [.int p1, .int p3]), (b36, (.array .int), [.int p2, .int p4])]) (rst := [(b17, (.array .boolean), [.int z21, .int z26]), (b35, (.array .boolean), [.int z21, .int z26]), (b9, (.array .int), [.int (p2 ^^^ (-1 : Int32)), .int (p4 ^^^ (-1 : Int32))]), (b1, (.array .int), [.int (p1 ^^^ (-1 : Int32)), .int (p3 ^^^ (-1 : Int32))])]) W48 (hw _ (List.mem_of_getElem? (i := 42) rfl)) (hw _ (List.mem_of_getElem? (i := 44) rfl)) (hw _ (List.mem_of_getElem? (i := 5) rfl)) (hw _ (List.mem_of_getElem? (i := 46) rfl)) (hw _ (List.mem_of_getElem? (i := 43) rfl)) (hw _ (List.mem_of_getElem? (i := 45) rfl)) rfl (by decide) (c_term1 l Z a0 hw b31 b37 b36 b35 p0 p1 p3 p2 p4) ⟨[6, 5, 3, 0, 1, 2, 4], by decide, rfl⟩ rfl pd_I__I rfl rfl rfl (Nat.le_of_ble_eq_true rfl) (by decide) (by decide) (by decide) (by decide) at_177 ?_
        rintro T52 _ _ ⟨rfl, rfl⟩ W53
        have W54 := W53.re (os' := [(b31, (.object "com/example/traverso/traverso/search/Path"), [.int p0, .ref b37, .ref b36, .ref b35]), (b37, (.array .int), [.int p1, .int p3]), (b36, (.array .int), [.int p2, .int p4]), (b17, (.array .boolean), [.int z21, .int z26]), (b35, (.array .boolean), [.int z21, .int z26]), (b9, (.array .int), [.int (p2 ^^^ (-1 : Int32)), .int (p4 ^^^ (-1 : Int32))]), (b1, (.array .int), [.int (p1 ^^^ (-1 : Int32)), .int (p3 ^^^ (-1 : Int32))])]) rfl
        show Go p_ e_ bl_ _ (T52.setTop (mkF m_ 180 #[.val (.int p0), .val (.int p1), .val (.int p2), .val (.int p3), .val (.int p4), .val (.int p5), .val (.int (1 : Int32)), .val (.ref b1), .val (.ref b9), .val (.ref b17), .val (.ref b31), .val (.int p1)] [.int p1]))
        refine g_iload (pc := 180) W54 at_180 rfl ?_
        refine g_icmpN (pc := 182) W54 at_182 (by first | exact (teq rfl).1 | exact (teq rfl).2 | exact (flt (by simp)).1 | exact (flt (by simp)).2.1 | exact (flt (by simp)).2.2.1 | exact (flt (by simp)).2.2.2) ?_
        refine g_iconst (pc := 185) (1 : Int32) (by decide) W54 at_185 ?_
        refine g_goto 190 (pc := 186) W54 at_186 (by decide) (by decide) ?_
        exact g_zreturn (pc := 190) rfl (by decide) W54 at_190 (by decide) (by decide) rfl
      · rw [hl]
        refine g_iload (pc := 122) W48 at_122 rfl ?_
        refine g_ifY 133 (pc := 124) W48 at_124 (by decide) (by decide) (by decide) ?_
        refine g_iload (pc := 133) W48 at_133 rfl ?_
        refine g_iconst (pc := 135) (1 : Int32) (by decide) W48 at_135 ?_
        refine g_icmpY 145 (pc := 136) W48 at_136 (by decide) (by decide) (by decide) ?_
        refine g_iload (pc := 145) W48 at_145 rfl ?_
        refine g_iconst (pc := 147) (2 : Int32) (by decide) W48 at_147 ?_
        refine g_icmpN (pc := 148) W48 at_148 (by decide) ?_
        refine g_iload_n (pc := 151) W48 at_151 rfl ?_
        refine g_istore (pc := 152) (ls' := #[.val (.int p0), .val (.int p1), .val (.int p2), .val (.int p3), .val (.int p4), .val (.int p5), .val (.int (2 : Int32)), .val (.ref b1), .val (.ref b9), .val (.ref b17), .val (.ref b31), .val (.int p2)]) W48 at_152 rfl ?_
        refine g_goto 173 (pc := 154) W48 at_154 (by decide) (by decide) ?_
        refine g_aload (pc := 173) W48 at_173 rfl rfl ?_
        refine g_iload (pc := 175) W48 at_175 rfl ?_
        refine g_virtual (i := 6) (pc := 177) (Wt := 0) (argsL := [.int (2 : Int32)]) (rest := []) (loc := [(b31, (.object "com/example/traverso/traverso/search/Path"), [.int p0, .ref b37, .ref b36, .ref b35]), (b37, (.array .int), [.int p1, .int p3]), (b36, (.array .int), [.int p2, .int p4])]) (rst := [(b17, (.array .boolean), [.int z21, .int z26]), (b35, (.array .boolean), [.int z21, .int z26]), (b9, (.array .int), [.int (p2 ^^^ (-1 : Int32)), .int (p4 ^^^ (-1 : Int32))]), (b1, (.array .int), [.int (p1 ^^^ (-1 : Int32)), .int (p3 ^^^ (-1 : Int32))])]) W48 (hw _ (List.mem_of_getElem? (i := 42) rfl)) (hw _ (List.mem_of_getElem? (i := 44) rfl)) (hw _ (List.mem_of_getElem? (i := 5) rfl)) (hw _ (List.mem_of_getElem? (i := 46) rfl)) (hw _ (List.mem_of_getElem? (i := 43) rfl)) (hw _ (List.mem_of_getElem? (i := 45) rfl)) rfl (by decide) (c_term2 l Z a0 hw b31 b37 b36 b35 p0 p1 p3 p2 p4) ⟨[6, 5, 3, 0, 1, 2, 4], by decide, rfl⟩ rfl pd_I__I rfl rfl rfl (Nat.le_of_ble_eq_true rfl) (by decide) (by decide) (by decide) (by decide) at_177 ?_
        rintro T55 _ _ ⟨rfl, rfl⟩ W56
        have W57 := W56.re (os' := [(b31, (.object "com/example/traverso/traverso/search/Path"), [.int p0, .ref b37, .ref b36, .ref b35]), (b37, (.array .int), [.int p1, .int p3]), (b36, (.array .int), [.int p2, .int p4]), (b17, (.array .boolean), [.int z21, .int z26]), (b35, (.array .boolean), [.int z21, .int z26]), (b9, (.array .int), [.int (p2 ^^^ (-1 : Int32)), .int (p4 ^^^ (-1 : Int32))]), (b1, (.array .int), [.int (p1 ^^^ (-1 : Int32)), .int (p3 ^^^ (-1 : Int32))])]) rfl
        show Go p_ e_ bl_ _ (T55.setTop (mkF m_ 180 #[.val (.int p0), .val (.int p1), .val (.int p2), .val (.int p3), .val (.int p4), .val (.int p5), .val (.int (2 : Int32)), .val (.ref b1), .val (.ref b9), .val (.ref b17), .val (.ref b31), .val (.int p2)] [.int p2]))
        refine g_iload (pc := 180) W57 at_180 rfl ?_
        refine g_icmpN (pc := 182) W57 at_182 (by first | exact (teq rfl).1 | exact (teq rfl).2 | exact (flt (by simp)).1 | exact (flt (by simp)).2.1 | exact (flt (by simp)).2.2.1 | exact (flt (by simp)).2.2.2) ?_
        refine g_iconst (pc := 185) (1 : Int32) (by decide) W57 at_185 ?_
        refine g_goto 190 (pc := 186) W57 at_186 (by decide) (by decide) ?_
        exact g_zreturn (pc := 190) rfl (by decide) W57 at_190 (by decide) (by decide) rfl
      · rw [hl]
        refine g_iload (pc := 122) W48 at_122 rfl ?_
        refine g_ifY 133 (pc := 124) W48 at_124 (by decide) (by decide) (by decide) ?_
        refine g_iload (pc := 133) W48 at_133 rfl ?_
        refine g_iconst (pc := 135) (1 : Int32) (by decide) W48 at_135 ?_
        refine g_icmpY 145 (pc := 136) W48 at_136 (by decide) (by decide) (by decide) ?_
        refine g_iload (pc := 145) W48 at_145 rfl ?_
        refine g_iconst (pc := 147) (2 : Int32) (by decide) W48 at_147 ?_
        refine g_icmpY 157 (pc := 148) W48 at_148 (by decide) (by decide) (by decide) ?_
        refine g_iload (pc := 157) W48 at_157 rfl ?_
        refine g_iconst (pc := 159) (3 : Int32) (by decide) W48 at_159 ?_
        refine g_icmpN (pc := 160) W48 at_160 (by decide) ?_
        refine g_iload_n (pc := 163) W48 at_163 rfl ?_
        refine g_istore (pc := 164) (ls' := #[.val (.int p0), .val (.int p1), .val (.int p2), .val (.int p3), .val (.int p4), .val (.int p5), .val (.int (3 : Int32)), .val (.ref b1), .val (.ref b9), .val (.ref b17), .val (.ref b31), .val (.int p3)]) W48 at_164 rfl ?_
        refine g_goto 173 (pc := 166) W48 at_166 (by decide) (by decide) ?_
        refine g_aload (pc := 173) W48 at_173 rfl rfl ?_
        refine g_iload (pc := 175) W48 at_175 rfl ?_
        refine g_virtual (i := 6) (pc := 177) (Wt := 0) (argsL := [.int (3 : Int32)]) (rest := []) (loc := [(b31, (.object "com/example/traverso/traverso/search/Path"), [.int p0, .ref b37, .ref b36, .ref b35]), (b37, (.array .int), [.int p1, .int p3]), (b36, (.array .int), [.int p2, .int p4])]) (rst := [(b17, (.array .boolean), [.int z21, .int z26]), (b35, (.array .boolean), [.int z21, .int z26]), (b9, (.array .int), [.int (p2 ^^^ (-1 : Int32)), .int (p4 ^^^ (-1 : Int32))]), (b1, (.array .int), [.int (p1 ^^^ (-1 : Int32)), .int (p3 ^^^ (-1 : Int32))])]) W48 (hw _ (List.mem_of_getElem? (i := 42) rfl)) (hw _ (List.mem_of_getElem? (i := 44) rfl)) (hw _ (List.mem_of_getElem? (i := 5) rfl)) (hw _ (List.mem_of_getElem? (i := 46) rfl)) (hw _ (List.mem_of_getElem? (i := 43) rfl)) (hw _ (List.mem_of_getElem? (i := 45) rfl)) rfl (by decide) (c_term3 l Z a0 hw b31 b37 b36 b35 p0 p1 p3 p2 p4) ⟨[6, 5, 3, 0, 1, 2, 4], by decide, rfl⟩ rfl pd_I__I rfl rfl rfl (Nat.le_of_ble_eq_true rfl) (by decide) (by decide) (by decide) (by decide) at_177 ?_
        rintro T58 _ _ ⟨rfl, rfl⟩ W59
        have W60 := W59.re (os' := [(b31, (.object "com/example/traverso/traverso/search/Path"), [.int p0, .ref b37, .ref b36, .ref b35]), (b37, (.array .int), [.int p1, .int p3]), (b36, (.array .int), [.int p2, .int p4]), (b17, (.array .boolean), [.int z21, .int z26]), (b35, (.array .boolean), [.int z21, .int z26]), (b9, (.array .int), [.int (p2 ^^^ (-1 : Int32)), .int (p4 ^^^ (-1 : Int32))]), (b1, (.array .int), [.int (p1 ^^^ (-1 : Int32)), .int (p3 ^^^ (-1 : Int32))])]) rfl
        show Go p_ e_ bl_ _ (T58.setTop (mkF m_ 180 #[.val (.int p0), .val (.int p1), .val (.int p2), .val (.int p3), .val (.int p4), .val (.int p5), .val (.int (3 : Int32)), .val (.ref b1), .val (.ref b9), .val (.ref b17), .val (.ref b31), .val (.int p3)] [.int p3]))
        refine g_iload (pc := 180) W60 at_180 rfl ?_
        refine g_icmpN (pc := 182) W60 at_182 (by first | exact (teq rfl).1 | exact (teq rfl).2 | exact (flt (by simp)).1 | exact (flt (by simp)).2.1 | exact (flt (by simp)).2.2.1 | exact (flt (by simp)).2.2.2) ?_
        refine g_iconst (pc := 185) (1 : Int32) (by decide) W60 at_185 ?_
        refine g_goto 190 (pc := 186) W60 at_186 (by decide) (by decide) ?_
        exact g_zreturn (pc := 190) rfl (by decide) W60 at_190 (by decide) (by decide) rfl
      · rw [hl]
        refine g_iload (pc := 122) W48 at_122 rfl ?_
        refine g_ifY 133 (pc := 124) W48 at_124 (by decide) (by decide) (by decide) ?_
        refine g_iload (pc := 133) W48 at_133 rfl ?_
        refine g_iconst (pc := 135) (1 : Int32) (by decide) W48 at_135 ?_
        refine g_icmpY 145 (pc := 136) W48 at_136 (by decide) (by decide) (by decide) ?_
        refine g_iload (pc := 145) W48 at_145 rfl ?_
        refine g_iconst (pc := 147) (2 : Int32) (by decide) W48 at_147 ?_
        refine g_icmpY 157 (pc := 148) W48 at_148 (by decide) (by decide) (by decide) ?_
        refine g_iload (pc := 157) W48 at_157 rfl ?_
        refine g_iconst (pc := 159) (3 : Int32) (by decide) W48 at_159 ?_
        refine g_icmpY 169 (pc := 160) W48 at_160 (by decide) (by decide) (by decide) ?_
        refine g_iload (pc := 169) W48 at_169 rfl ?_
        refine g_istore (pc := 171) (ls' := #[.val (.int p0), .val (.int p1), .val (.int p2), .val (.int p3), .val (.int p4), .val (.int p5), .val (.int (4 : Int32)), .val (.ref b1), .val (.ref b9), .val (.ref b17), .val (.ref b31), .val (.int p4)]) W48 at_171 rfl ?_
        refine g_aload (pc := 173) W48 at_173 rfl rfl ?_
        refine g_iload (pc := 175) W48 at_175 rfl ?_
        refine g_virtual (i := 6) (pc := 177) (Wt := 0) (argsL := [.int (4 : Int32)]) (rest := []) (loc := [(b31, (.object "com/example/traverso/traverso/search/Path"), [.int p0, .ref b37, .ref b36, .ref b35]), (b37, (.array .int), [.int p1, .int p3]), (b36, (.array .int), [.int p2, .int p4])]) (rst := [(b17, (.array .boolean), [.int z21, .int z26]), (b35, (.array .boolean), [.int z21, .int z26]), (b9, (.array .int), [.int (p2 ^^^ (-1 : Int32)), .int (p4 ^^^ (-1 : Int32))]), (b1, (.array .int), [.int (p1 ^^^ (-1 : Int32)), .int (p3 ^^^ (-1 : Int32))])]) W48 (hw _ (List.mem_of_getElem? (i := 42) rfl)) (hw _ (List.mem_of_getElem? (i := 44) rfl)) (hw _ (List.mem_of_getElem? (i := 5) rfl)) (hw _ (List.mem_of_getElem? (i := 46) rfl)) (hw _ (List.mem_of_getElem? (i := 43) rfl)) (hw _ (List.mem_of_getElem? (i := 45) rfl)) rfl (by decide) (c_term4 l Z a0 hw b31 b37 b36 b35 p0 p1 p3 p2 p4) ⟨[6, 5, 3, 0, 1, 2, 4], by decide, rfl⟩ rfl pd_I__I rfl rfl rfl (Nat.le_of_ble_eq_true rfl) (by decide) (by decide) (by decide) (by decide) at_177 ?_
        rintro T61 _ _ ⟨rfl, rfl⟩ W62
        have W63 := W62.re (os' := [(b31, (.object "com/example/traverso/traverso/search/Path"), [.int p0, .ref b37, .ref b36, .ref b35]), (b37, (.array .int), [.int p1, .int p3]), (b36, (.array .int), [.int p2, .int p4]), (b17, (.array .boolean), [.int z21, .int z26]), (b35, (.array .boolean), [.int z21, .int z26]), (b9, (.array .int), [.int (p2 ^^^ (-1 : Int32)), .int (p4 ^^^ (-1 : Int32))]), (b1, (.array .int), [.int (p1 ^^^ (-1 : Int32)), .int (p3 ^^^ (-1 : Int32))])]) rfl
        show Go p_ e_ bl_ _ (T61.setTop (mkF m_ 180 #[.val (.int p0), .val (.int p1), .val (.int p2), .val (.int p3), .val (.int p4), .val (.int p5), .val (.int (4 : Int32)), .val (.ref b1), .val (.ref b9), .val (.ref b17), .val (.ref b31), .val (.int p4)] [.int p4]))
        refine g_iload (pc := 180) W63 at_180 rfl ?_
        refine g_icmpN (pc := 182) W63 at_182 (by first | exact (teq rfl).1 | exact (teq rfl).2 | exact (flt (by simp)).1 | exact (flt (by simp)).2.1 | exact (flt (by simp)).2.2.1 | exact (flt (by simp)).2.2.2) ?_
        refine g_iconst (pc := 185) (1 : Int32) (by decide) W63 at_185 ?_
        refine g_goto 190 (pc := 186) W63 at_186 (by decide) (by decide) ?_
        exact g_zreturn (pc := 190) rfl (by decide) W63 at_190 (by decide) (by decide) rfl
    · refine g_if_eq 75 (pc := 68) W25 at_68 (by decide) (by decide) (fun c64 => ?_) (fun c64 => ?_)
      · refine g_iconst (pc := 75) (0 : Int32) (by decide) W25 at_75 ?_
        exact j28 _ (by simp only [if_pos c64])
      · refine g_iconst (pc := 71) (1 : Int32) (by decide) W25 at_71 ?_
        refine g_goto 76 (pc := 72) W25 at_72 (by decide) (by decide) ?_
        exact j28 _ (by simp only [if_neg c64])
  · refine g_if_ge 57 (pc := 50) W20 at_50 (by decide) (by decide) (fun c65 => ?_) (fun c65 => ?_)
    · refine g_iconst (pc := 57) (0 : Int32) (by decide) W20 at_57 ?_
      exact j23 _ (by simp only [if_neg c65])
    · refine g_iconst (pc := 53) (1 : Int32) (by decide) W20 at_53 ?_
      refine g_goto 58 (pc := 54) W20 at_54 (by decide) (by decide) ?_
      exact j23 _ (by simp only [if_pos c65])
set_option maxRecDepth 65536 in
set_option maxHeartbeats 40000000 in
theorem comes_1 {Post : Tables → Env → Array Value → State → Outcome → State → Prop} (hpost : ∀ tb e args s v u, (limb_1_1.after args s (.returned v) u = true ∧ limb_1_2.after args s (.returned v) u = true ∧ True) → FrameEnd s (.returned v) u (Jvm.fieldLocs frame_1_writes args s ++ Jvm.arrayLocs frame_1_arrays args s ++ Jvm.staticLocs frame_1_statics s) 24 128 → Post tb e args s (.returned v) u) :
    ArmFor flags0 classFile x code maxLocals ret World_1 tables_1 room_1 Calls_1 rest_1 Pre_1 Post := by
  intro l hfl _ _ p e ha hc hk s m args below hf hA hF happ hP
  obtain ⟨hcalls, hrest, hpre⟩ := hP
  obtain ⟨-, -, -, hnamed, -, -, -, hat⟩ := (Spec.applies_iff hf).mp happ
  obtain ⟨hg, hn⟩ := and_e (Cond.before_iff.mp (show (Jvm.Cond.and given_1 narrow_1).before args s = true from hpre))
  obtain ⟨h1, hr0⟩ := and_e hg
  obtain ⟨w0, w1, w2, w3, w4, w5, rfl⟩ : ∃ w0 w1 w2 w3 w4 w5 : Value, args = #[w0, w1, w2, w3, w4, w5] := by
    have hs : args.size = 6 := by simpa [Cond.value, given_1] using h1
    obtain ⟨L⟩ := args
    match L, hs with
    | [w0, w1, w2, w3, w4, w5], _ => exact ⟨w0, w1, w2, w3, w4, w5, rfl⟩
  have hw := fun d (hd : d ∈ tables_1) => atoms_spec (ws := Jvm.Cond.code x code maxLocals ret :: tables_1) hat d (List.mem_cons_of_mem _ hd)
  obtain ⟨ha0, hr1⟩ := and_e hr0
  obtain ⟨i0, e0⟩ := is_v ha0
  obtain rfl : w0 = (.int i0) := Option.some.inj e0
  obtain ⟨ha1, hr2⟩ := and_e hr1
  obtain ⟨i1, e1⟩ := is_v ha1
  obtain rfl : w1 = (.int i1) := Option.some.inj e1
  obtain ⟨ha2, hr3⟩ := and_e hr2
  obtain ⟨i2, e2⟩ := is_v ha2
  obtain rfl : w2 = (.int i2) := Option.some.inj e2
  obtain ⟨ha3, hr4⟩ := and_e hr3
  obtain ⟨i3, e3⟩ := is_v ha3
  obtain rfl : w3 = (.int i3) := Option.some.inj e3
  obtain ⟨ha4, hr5⟩ := and_e hr4
  obtain ⟨i4, e4⟩ := is_v ha4
  obtain rfl : w4 = (.int i4) := Option.some.inj e4
  obtain ⟨i5, e5⟩ := is_v hr5
  obtain rfl : w5 = (.int i5) := Option.some.inj e5
  obtain ⟨n, o, h1, h2, h3, _, L, rfl, hQ, hq⟩ := c_law l s _ hw (B := s.heap.size) i0 i1 i2 i3 i4 i5 s.heap Hp.nil (fun _ q => nomatch q) (Nat.le_refl _) p e ha hc hk s m _ below hf ((Spec.applies_iff_loose hf).mp happ).1 ⟨rfl, State.Warmed39.refl s, rfl⟩ trivial
  have N := Con.frame (y := x) (as := #[]) (rm := room_1) hQ
  obtain ⟨-, os', -, rfl⟩ := hQ
  refine ⟨n, _, h1, h2, h3, hpost _ _ _ _ _ _ ⟨Cond.after_iff.mpr rfl, Cond.after_iff.mpr (eq_i res_at (Term.int_eval (1)) rfl), trivial⟩ ⟨hq.1, hq.2.1, (hq.2.2.sift fun y hy => Or.inr (N y hy)).mono (by decide) (by decide)⟩⟩
theorem main_1_1 : Claimed_1_1 := comes_1 fun _ _ _ _ _ _ h hF => ⟨h.1, hF⟩
theorem main_1_2 : Claimed_1_2 := comes_1 fun _ _ _ _ _ _ h hF => ⟨h.2.1, hF⟩
end Jvm.Pilot.@@N@@
namespace Jvm.Pilot.@@N@@
open Jvm Jvm.ClassFile Sem Op Lib Jvm.Free Jvm.Stand Jvm.Pilot.@@N@@.Jvm.D
/-! MADE BY PROGRAM (witnessworld.py) out of the Statement's table words and the real class files: 12 classes; the members and pool entries that the words name. The judged class is class 1, her method 1. -/
namespace start1
open Jvm.ClassFile
def u (s : String) : CpInfo := .utf8 (stringToUtf16 s)
/-- a pool by its gaps: so many unusable entries, then the entry; so many at the end -/
def gap : Nat → List CpInfo → List CpInfo
  | 0, r => r
  | n + 1, r => .unusable :: gap n r
def poolList (es : List (Nat × CpInfo)) (last : Nat) : List CpInfo := es.foldr (fun e r => gap e.1 (e.2 :: r)) (gap last [])
def pool (es : List (Nat × CpInfo)) (last : Nat) : Array CpInfo := ⟨poolList es last⟩
def fileOf (pool : Array CpInfo) (this : Nat) (attrs : Array Attribute := #[]) (ms : Array MethodInfo := #[]) (fl : Nat := 33) (sup : Nat := 0) (ifs : Array Nat := #[]) (fds : Array FieldInfo := #[]) : ClassFile where
  minorVersion := 0
  majorVersion := 65
  constantPool := pool
  accessFlags := fl
  thisClass := this
  superClass := sup
  interfaces := ifs
  fields := fds
  methods := ms
  attributes := attrs
def plain (name : String) (sup : Option ClassId) : Class where
  name := name
  kind := .ordinary
  loader := none
  accessFlags := 33
  super := sup
  interfaces := #[]
  cf := none
  fields := #[]
  methods := #[]
  instanceTypes := #[]
  staticTypes := #[]
  resolved := #[]
  callSites := []
  init := .initialized
  statics := none
  mirror := none

def pool0 : Array CpInfo := pool [(5, u "<init>"), (0, u "()V"), (1, .class_ 10), (1, u "java/lang/Object"), (85, u "clone"), (0, u "()Ljava/lang/Object;")] 26

def k0c0 : Code := { maxStack := 0, maxLocals := 1, code := object_method_1_code, exceptionTable := #[], attributes := #[] }
def k0m0 : Method := { name := "<init>", desc := "()V", sig := { parameters := [], returnType := none }, accessFlags := 1, code := some k0c0 }
def k0m1 : Method := { name := "clone", desc := "()Ljava/lang/Object;", sig := { parameters := [], returnType := some (.object "java/lang/Object") }, accessFlags := 260, code := none }
/-- java/lang/Object -/
def k0 : Class := { plain "java/lang/Object" none with
  accessFlags := 33
  interfaces := #[]
  cf := some (fileOf pool0 8 #[] #[{ accessFlags := 1, nameIndex := 5, descriptorIndex := 6, attributes := #[] }, { accessFlags := 260, nameIndex := 96, descriptorIndex := 97, attributes := #[] }] 33 0 #[] #[])
  fields := #[]
  methods := #[k0m0, k0m1]
  instanceTypes := #[]
  staticTypes := #[]
  resolved := Array.replicate 124 none
  statics := none }

def pool1 : Array CpInfo := pool [(2, .class_ 4), (1, u "java/lang/Object"), (0, u "<init>"), (0, u "()V"), (0, .integer 2147483647), (0, .class_ 9), (0, u "com/example/traverso/traverso/search/Path"), (0, .methodref 8 11), (0, .nameAndType 5 12), (0, u "(I[I[I[Z)V"), (0, .methodref 8 14), (0, .nameAndType 15 16), (0, u "term"), (0, u "(I)I"), (0, .class_ 18), (0, u "com/example/traverso/traverso/search/PathTermPinLaw"), (2, u "law"), (0, u "(IIIIII)Z")] 7

def k1m0 : Method := { name := "<init>", desc := "()V", sig := { parameters := [], returnType := none }, accessFlags := 1, code := none }
def k1c1 : Code := { maxStack := 6, maxLocals := 12, code := code, exceptionTable := #[], attributes := #[] }
def k1m1 : Method := { name := "law", desc := "(IIIIII)Z", sig := { parameters := [.int, .int, .int, .int, .int, .int], returnType := some .boolean }, accessFlags := 9, code := some k1c1 }
/-- com/example/traverso/traverso/search/PathTermPinLaw -/
def k1 : Class := { plain "com/example/traverso/traverso/search/PathTermPinLaw" (some 0) with
  accessFlags := 49
  interfaces := #[]
  cf := some (fileOf pool1 17 #[] #[{ accessFlags := 1, nameIndex := 5, descriptorIndex := 6, attributes := #[] }, { accessFlags := 9, nameIndex := 21, descriptorIndex := 22, attributes := #[] }] 49 2 #[] #[])
  fields := #[]
  methods := #[k1m0, k1m1]
  instanceTypes := #[]
  staticTypes := #[]
  resolved := Array.replicate 30 none
  statics := none }

def pool2 : Array CpInfo := pool [(2, .class_ 4), (1, u "com/example/traverso/traverso/search/Path"), (0, u "<init>"), (0, u "(I[I[I[Z)V"), (0, .methodref 8 9), (0, .class_ 10), (0, .nameAndType 5 11), (0, u "java/lang/Object"), (0, u "()V"), (9, .fieldref 2 22), (0, .nameAndType 23 24), (0, u "start"), (0, u "I"), (0, .methodref 26 27), (0, .class_ 28), (0, .nameAndType 29 30), (0, u "java/util/Arrays"), (0, u "copyOf"), (0, u "([II)[I"), (0, .fieldref 2 32), (0, .nameAndType 33 34), (0, u "predicates"), (0, u "[I"), (0, .fieldref 2 36), (0, .nameAndType 37 34), (0, u "nodes"), (0, .methodref 26 39), (0, .nameAndType 29 40), (0, u "([ZI)[Z"), (0, .fieldref 2 42), (0, .nameAndType 43 44), (0, u "backwards"), (0, u "[Z"), (7, u "term"), (0, u "(I)I")] 51

def k2c0 : Code := { maxStack := 5, maxLocals := 5, code := prog_45_method_2_code, exceptionTable := #[], attributes := #[] }
def k2m0 : Method := { name := "<init>", desc := "(I[I[I[Z)V", sig := { parameters := [.int, (.array .int), (.array .int), (.array .boolean)], returnType := none }, accessFlags := 1, code := some k2c0 }
def k2c1 : Code := { maxStack := 3, maxLocals := 3, code := prog_45_method_6_code, exceptionTable := #[], attributes := #[] }
def k2m1 : Method := { name := "term", desc := "(I)I", sig := { parameters := [.int], returnType := some .int }, accessFlags := 1, code := some k2c1 }
/-- com/example/traverso/traverso/search/Path -/
def k2 : Class := { plain "com/example/traverso/traverso/search/Path" (some 0) with
  accessFlags := 49
  interfaces := #[]
  cf := some (fileOf pool2 2 #[] #[{ accessFlags := 1, nameIndex := 5, descriptorIndex := 6, attributes := #[] }, { accessFlags := 1, nameIndex := 52, descriptorIndex := 53, attributes := #[] }] 49 8 #[] #[{ accessFlags := 18, nameIndex := 23, descriptorIndex := 24, attributes := #[] }, { accessFlags := 18, nameIndex := 33, descriptorIndex := 34, attributes := #[] }, { accessFlags := 18, nameIndex := 37, descriptorIndex := 34, attributes := #[] }, { accessFlags := 18, nameIndex := 43, descriptorIndex := 44, attributes := #[] }])
  fields := #[{ name := "start", type := .int, accessFlags := 18, slot := 0, constantValue := 0 }, { name := "predicates", type := (.array .int), accessFlags := 18, slot := 1, constantValue := 0 }, { name := "nodes", type := (.array .int), accessFlags := 18, slot := 2, constantValue := 0 }, { name := "backwards", type := (.array .boolean), accessFlags := 18, slot := 3, constantValue := 0 }]
  methods := #[k2m0, k2m1]
  instanceTypes := #[.int, (.array .int), (.array .int), (.array .boolean)]
  staticTypes := #[]
  resolved := Array.replicate 105 none
  statics := none }

def pool3 : Array CpInfo := pool [(2, .class_ 4), (1, u "java/lang/Object"), (0, u "<init>"), (0, u "()V"), (7, .class_ 16), (1, u "java/util/Arrays"), (57, .class_ 76), (1, u "java/util/Arrays$NaturalOrder"), (32, u "()Ljava/lang/Object;"), (3, .class_ 115), (1, u "java/util/Arrays$LegacyMergeSort"), (1, u "Z"), (10, .nameAndType 129 109), (0, u "clone"), (172, u "copyOf"), (13, .methodref 317 128), (0, .class_ 318), (0, u "[I"), (12, .methodref 332 128), (0, .class_ 333), (0, u "[Z"), (41, .class_ 376), (0, u "java/util/Arrays$ArrayList"), (68, u "$assertionsDisabled"), (269, u "MIN_ARRAY_SORT_GRAN"), (0, u "I"), (2, u "INSERTIONSORT_THRESHOLD"), (151, u "([II)[I"), (4, u "([ZI)[Z"), (98, .class_ 976), (0, u "java/util/Arrays$ArrayItr")] 52

def k3m0 : Method := { name := "<init>", desc := "()V", sig := { parameters := [], returnType := none }, accessFlags := 2, code := none }
def k3c1 : Code := { maxStack := 6, maxLocals := 3, code := jdk_65_method_123_code, exceptionTable := #[], attributes := #[] }
def k3m1 : Method := { name := "copyOf", desc := "([II)[I", sig := { parameters := [(.array .int), .int], returnType := some (.array .int) }, accessFlags := 9, code := some k3c1 }
def k3c2 : Code := { maxStack := 6, maxLocals := 3, code := jdk_65_method_128_code, exceptionTable := #[], attributes := #[] }
def k3m2 : Method := { name := "copyOf", desc := "([ZI)[Z", sig := { parameters := [(.array .boolean), .int], returnType := some (.array .boolean) }, accessFlags := 9, code := some k3c2 }
/-- java/util/Arrays -/
def k3 : Class := { plain "java/util/Arrays" (some 0) with
  accessFlags := 49
  interfaces := #[]
  cf := some (fileOf pool3 14 #[.nestMembers #[975, 375, 113, 74]] #[{ accessFlags := 2, nameIndex := 5, descriptorIndex := 6, attributes := #[] }, { accessFlags := 9, nameIndex := 302, descriptorIndex := 871, attributes := #[] }, { accessFlags := 9, nameIndex := 302, descriptorIndex := 876, attributes := #[] }] 49 2 #[] #[{ accessFlags := 26, nameIndex := 715, descriptorIndex := 716, attributes := #[] }, { accessFlags := 26, nameIndex := 719, descriptorIndex := 716, attributes := #[] }, { accessFlags := 4120, nameIndex := 445, descriptorIndex := 117, attributes := #[] }])
  fields := #[{ name := "MIN_ARRAY_SORT_GRAN", type := .int, accessFlags := 26, slot := 0, constantValue := 0 }, { name := "INSERTIONSORT_THRESHOLD", type := .int, accessFlags := 26, slot := 1, constantValue := 0 }, { name := "$assertionsDisabled", type := .boolean, accessFlags := 4120, slot := 2, constantValue := 0 }]
  methods := #[k3m0, k3m1, k3m2]
  instanceTypes := #[]
  staticTypes := #[.int, .int, .boolean]
  resolved := Array.replicate 1029 none
  statics := none }

def pool4 : Array CpInfo := pool [(1, .class_ 2), (0, u "java/lang/Cloneable"), (0, .class_ 4), (0, u "java/lang/Object")] 2

/-- java/lang/Cloneable -/
def k4 : Class := { plain "java/lang/Cloneable" (some 0) with
  accessFlags := 1537
  interfaces := #[]
  cf := some (fileOf pool4 1 #[] #[] 1537 3 #[] #[])
  fields := #[]
  methods := #[]
  instanceTypes := #[]
  staticTypes := #[]
  resolved := Array.replicate 7 none
  statics := none }

def pool5 : Array CpInfo := pool [(1, u "java/io/Serializable"), (0, .class_ 1), (0, u "java/lang/Object"), (0, .class_ 3)] 3

/-- java/io/Serializable -/
def k5 : Class := { plain "java/io/Serializable" (some 0) with
  accessFlags := 1537
  interfaces := #[]
  cf := some (fileOf pool5 2 #[] #[] 1537 4 #[] #[])
  fields := #[]
  methods := #[]
  instanceTypes := #[]
  staticTypes := #[]
  resolved := Array.replicate 8 none
  statics := none }

/-- the primitive boolean -/
def k6 : Class := { plain "boolean" none with kind := .primitive 'Z', accessFlags := 0x411 }
/-- [Z -/
def k7 : Class := { plain "[Z" (some 0) with kind := .array 6 .boolean, interfaces := #[4, 5], accessFlags := 1041 }

/-- the primitive byte -/
def k8 : Class := { plain "byte" none with kind := .primitive 'B', accessFlags := 0x411 }
/-- [B -/
def k9 : Class := { plain "[B" (some 0) with kind := .array 8 .byte, interfaces := #[4, 5], accessFlags := 1041 }

/-- the primitive int -/
def k10 : Class := { plain "int" none with kind := .primitive 'I', accessFlags := 0x411 }
/-- [I -/
def k11 : Class := { plain "[I" (some 0) with kind := .array 10 .int, interfaces := #[4, 5], accessFlags := 1041 }

def heap : Heap := #[]
def classes : Array Class := #[k0, k1, k2, k3, k4, k5, k6, k7, k8, k9, k10, k11]
def interned : List (Array UInt16 × Addr) := []
def slotsUsed : Nat := 0
def theMethod : MethodId := ⟨1, 1⟩
def args0 : Array Value := #[.int 5, .int 7, .int 1, .int 2, .int 3, .int 4]
def aboutOver (below : List Frame) : State where
  vm := { classes := classes, interned := interned.toArray }
  heap := heap
  slotsUsed := slotsUsed
  threads := #[{ frames := .invoking theMethod args0 :: below }]
def below0 : List Frame := [.native { method := ⟨0, 0⟩, args := #[] }]
def about1 : State := aboutOver below0
def p0 : Program := .bare "" "" ""
def e0 : Env := launch0.env 0 0 0
theorem w_frames : about1.frames = Frame.invoking theMethod args0 :: below0 := rfl
set_option maxRecDepth 65536 in
theorem w_args : argsFit about1.vm theMethod args0 = true := by decide +kernel
set_option maxRecDepth 65536 in
theorem w_heap : heapFits about1 = true := by decide +kernel
set_option maxRecDepth 65536 in
theorem w_runnable : about1.curStatus? = some .runnable := by decide +kernel
set_option maxRecDepth 65536 in
theorem w_alone : about1.alone = true := by decide +kernel
set_option maxRecDepth 65536 in
theorem w_named : about1.methodNamed? x = some theMethod := by decide +kernel
set_option maxRecDepth 65536 in
theorem w_hears : about1.hears theMethod below0 = true := by decide +kernel
set_option maxRecDepth 65536 in
theorem w_ripe : about1.ripe theMethod args0 below0 = true := by decide +kernel
theorem w_running : about1.status = .running := rfl
set_option maxRecDepth 65536 in
theorem w_room : about1.hasRoom e0.platform room_1 = true :=
  launch0.hasRoom_least _ room_1 (by decide +kernel) (by decide +kernel) (by decide +kernel) (by decide +kernel) (by decide +kernel) (by decide +kernel)
theorem allAtoms_all (ts : List Jvm.Cond) (a : Array Jvm.Value) (st : Jvm.State) : (allAtoms ts).before a st = ts.all (fun c => c.before a st) := by
  induction ts with
  | nil => rfl
  | cons c t ih =>
    show (Jvm.Cond.and c (allAtoms t)).before a st = _
    rw [Jvm.Cond.before_and, ih, List.all_cons]
def words1 : List Jvm.Cond := Jvm.Cond.code x code maxLocals ret :: tables_1
/-- a 'code' word, met by the world's own term for the bytes: nothing is compared byte by byte -/
theorem code_word {y : MethodName} {bytes : ByteArray} {mx : Nat} {rt : Option FieldType} {a : Array Value} {s : State} {m : MethodId} {meth : Method} {c : Code} (h1 : s.methodNamed? y = some m) (h2 : s.vm.method? m = some meth) (h3 : meth.code = some c) (h4 : c.code = bytes)
    (h5 : (c.maxLocals == mx && c.exceptionTable.isEmpty && decide (c.maxStack ≤ mostOperands) && decide (meth.sig.returnType = rt) && !meth.locks && decide (parseMethodDescriptor y.desc = some meth.sig)) = true) : (Jvm.Cond.code y bytes mx rt).before a s = true := by
  simp only [Bool.and_eq_true, beq_iff_eq, Bool.not_eq_true', decide_eq_true_eq] at h5
  obtain ⟨⟨⟨⟨⟨g1, g2⟩, g3⟩, g4⟩, g5⟩, g6⟩ := h5
  simp [Cond.before, Cond.holds, Cond.value, h1, h2, h3, h4, g1, g2, g3, g4, g5, g6]
def isCode : Jvm.Cond → Bool
  | .code _ _ _ _ => true
  | _ => false
theorem all_split {L : List Jvm.Cond} {P : Jvm.Cond → Bool} (h1 : L.all (fun c => isCode c || P c) = true) (h2 : ∀ c ∈ L.filter isCode, P c = true) : L.all P = true := by
  refine List.all_eq_true.mpr fun c hc => ?_
  have h := List.all_eq_true.mp h1 c hc
  rcases Bool.eq_false_or_eq_true (isCode c) with hi | hi
  · exact h2 c (List.mem_filter.mpr ⟨hc, hi⟩)
  · simpa [hi] using h
set_option maxRecDepth 65536 in
theorem w_c0 : (Jvm.Cond.code x code maxLocals ret).before args0 about1 = true := code_word (m := ⟨1, 1⟩) (meth := k1m1) (c := k1c1) (by decide +kernel) rfl rfl rfl (by decide +kernel)
set_option maxRecDepth 65536 in
theorem w_c1 : (Jvm.Cond.code ({ cls := "com/example/traverso/traverso/search/Path", name := "<init>", desc := "(I[I[I[Z)V" } : Jvm.MethodName) prog_45_method_2_code (5 : Nat) (Option.none : Option Jvm.ClassFile.FieldType)).before args0 about1 = true := code_word (m := ⟨2, 0⟩) (meth := k2m0) (c := k2c0) (by decide +kernel) rfl rfl rfl (by decide +kernel)
set_option maxRecDepth 65536 in
theorem w_c2 : (Jvm.Cond.code ({ cls := "java/lang/Object", name := "<init>", desc := "()V" } : Jvm.MethodName) object_method_1_code (1 : Nat) (Option.none : Option Jvm.ClassFile.FieldType)).before args0 about1 = true := code_word (m := ⟨0, 0⟩) (meth := k0m0) (c := k0c0) (by decide +kernel) rfl rfl rfl (by decide +kernel)
set_option maxRecDepth 65536 in
theorem w_c3 : (Jvm.Cond.code ({ cls := "java/util/Arrays", name := "copyOf", desc := "([II)[I" } : Jvm.MethodName) jdk_65_method_123_code (3 : Nat) (Option.some (Jvm.ClassFile.FieldType.array Jvm.ClassFile.FieldType.int))).before args0 about1 = true := code_word (m := ⟨3, 1⟩) (meth := k3m1) (c := k3c1) (by decide +kernel) rfl rfl rfl (by decide +kernel)
set_option maxRecDepth 65536 in
theorem w_c4 : (Jvm.Cond.code ({ cls := "java/util/Arrays", name := "copyOf", desc := "([ZI)[Z" } : Jvm.MethodName) jdk_65_method_128_code (3 : Nat) (Option.some (Jvm.ClassFile.FieldType.array Jvm.ClassFile.FieldType.boolean))).before args0 about1 = true := code_word (m := ⟨3, 2⟩) (meth := k3m2) (c := k3c2) (by decide +kernel) rfl rfl rfl (by decide +kernel)
set_option maxRecDepth 65536 in
theorem w_c5 : (Jvm.Cond.code ({ cls := "com/example/traverso/traverso/search/Path", name := "term", desc := "(I)I" } : Jvm.MethodName) prog_45_method_6_code (3 : Nat) (Option.some Jvm.ClassFile.FieldType.int)).before args0 about1 = true := code_word (m := ⟨2, 1⟩) (meth := k2m1) (c := k2c1) (by decide +kernel) rfl rfl rfl (by decide +kernel)
def codes1 : List Jvm.Cond := [Jvm.Cond.code x code maxLocals ret, Jvm.Cond.code ({ cls := "com/example/traverso/traverso/search/Path", name := "<init>", desc := "(I[I[I[Z)V" } : Jvm.MethodName) prog_45_method_2_code (5 : Nat) (Option.none : Option Jvm.ClassFile.FieldType), Jvm.Cond.code ({ cls := "java/lang/Object", name := "<init>", desc := "()V" } : Jvm.MethodName) object_method_1_code (1 : Nat) (Option.none : Option Jvm.ClassFile.FieldType), Jvm.Cond.code ({ cls := "java/util/Arrays", name := "copyOf", desc := "([II)[I" } : Jvm.MethodName) jdk_65_method_123_code (3 : Nat) (Option.some (Jvm.ClassFile.FieldType.array Jvm.ClassFile.FieldType.int)), Jvm.Cond.code ({ cls := "java/util/Arrays", name := "copyOf", desc := "([ZI)[Z" } : Jvm.MethodName) jdk_65_method_128_code (3 : Nat) (Option.some (Jvm.ClassFile.FieldType.array Jvm.ClassFile.FieldType.boolean)), Jvm.Cond.code ({ cls := "com/example/traverso/traverso/search/Path", name := "term", desc := "(I)I" } : Jvm.MethodName) prog_45_method_6_code (3 : Nat) (Option.some Jvm.ClassFile.FieldType.int)]
set_option maxRecDepth 65536 in
theorem codes_eq : words1.filter isCode = codes1 := rfl
theorem w_codes : ∀ c ∈ words1.filter isCode, c.before args0 about1 = true := by
  rw [codes_eq]
  intro c hc
  simp only [codes1, List.mem_cons, List.not_mem_nil, or_false] at hc
  rcases hc with rfl | rfl | rfl | rfl | rfl | rfl
  · exact w_c0
  · exact w_c1
  · exact w_c2
  · exact w_c3
  · exact w_c4
  · exact w_c5
set_option maxRecDepth 65536 in
theorem w_t1 : (words1.take 24).all (fun c => isCode c || c.before args0 about1) = true := by decide +kernel
set_option maxRecDepth 65536 in
theorem w_t2 : (words1.drop 24).all (fun c => isCode c || c.before args0 about1) = true := by decide +kernel
theorem w_tables : (allAtoms (Jvm.Cond.code x code maxLocals ret :: tables_1)).before args0 about1 = true := by
  rw [allAtoms_all]
  show words1.all (fun c => c.before args0 about1) = true
  refine all_split ?_ w_codes
  rw [← List.take_append_drop 24 words1, List.all_append, w_t1, w_t2]
  rfl
set_option maxRecDepth 65536 in
theorem w_case : (Jvm.Cond.and given_1 narrow_1).before args0 about1 = true := by decide +kernel
theorem w_applies : (headSpec (Jvm.Cond.code x code maxLocals ret :: tables_1) room_1).applies x e0.platform about1 = true :=
  (Spec.applies_iff w_frames).mpr ⟨w_running, w_runnable, w_alone, w_named, w_hears, w_ripe, w_room, w_tables⟩
theorem atStart : AtStart classFile x code maxLocals ret World_1 tables_1 room_1 Calls_1 rest_1 Pre_1 launch0 p0 e0 about1 theMethod args0 below0 :=
  ⟨lists_1, trivial, launch0.admits_env _ _ _, launch0.least_env, fairChoices_fair.cas, fairChoices_fair.clock, w_frames, w_args, w_heap, w_applies, trivial, trivial, w_case⟩
end start1
theorem witness_1 : WitnessClaimed_1 := ⟨start1.p0, start1.e0, start1.about1, start1.theMethod, start1.args0, start1.below0, start1.atStart⟩
end Jvm.Pilot.@@N@@
