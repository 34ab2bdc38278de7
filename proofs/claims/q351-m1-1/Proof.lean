import JvmDerived
import JvmDerived.Pilot.@@N@@Statement
import JvmDerived.Pilot.@@N@@Code
set_option linter.unusedVariables false
set_option linter.unusedSimpArgs false
@@BLOCK:NumsL.lean.txt@@
namespace Jvm.Pilot.@@N@@
open Jvm Jvm.ClassFile Sem Op Lib Jvm.Free Jvm.Stand Jvm.LawKit Jvm.RoadKit Bundle Jvm.Pilot.@@N@@.Jvm.D
/-! ## own base: a heap as a list of objects; a body by its contract; one lemma an instruction -/
section Own
abbrev Ob : Type := Addr × FieldType × List Value
abbrev Fm : Type := String → List (String × String)
/-- what the cell at a holds -/
def Oat (F : Fm) (Z : State) (h : Heap) (a : Addr) (t : FieldType) (vs : List Value) : Prop :=
  match t with
  | .array ty => Exa Z h a ("[" ++ ty.toString) ∧ (∀ v ∈ vs, fits ty v = true) ∧ ∃ c : Cell, Arr Z h a c ty ∧ c.slots = vs.toArray
  | .object C => Exa Z h a C ∧ vs.length = (F C).length ∧ ∀ (i : Nat) (n d : String) (v : Value), (F C)[i]? = some (n, d) → vs[i]? = some v → Fld Z h a C n d v
  | _ => False
def Hp (F : Fm) (Z : State) (h : Heap) (os : List Ob) : Prop := (os.map (·.1)).Nodup ∧ ∀ o ∈ os, Oat F Z h o.1 o.2.1 o.2.2
/-- an address that the body may write: one of A, or a new one -/
def Okk (A : List Addr) (N : Nat) (a : Addr) : Prop := a ∈ A ∨ N ≤ a
def Hin (F : Fm) (Z : State) (h0 : Heap) (A : List Addr) (h : Heap) (os : List Ob) : Prop := Keep h0 h A ∧ Hp F Z h os ∧ ∀ o ∈ os, Okk A h0.size o.1
def Qc (F : Fm) (Z : State) (B : Nat) (loc : List Ob) (h0 : Heap) (P : Option Value → List Ob → Prop) (v : Option Value) (h : Heap) (L : List Loc) : Prop :=
  (∀ y ∈ L, B ≤ y.base) ∧ ∃ os', Hin F Z h0 (loc.map (·.1)) h os' ∧ P v os'
/-- a body's contract: over the objects loc, with the arguments as, it returns v and leaves os', and P v os' -/
def Con (l : Launch) (Z : State) (F : Fm) (B : Nat) (y : MethodName) (bytes : ByteArray) (mL : Nat) (ret : Option FieldType) (rm : Room) (ws : List Jvm.Cond) (as : Array Value) (loc : List Ob) (P : Option Value → List Ob → Prop) : Prop :=
  ∀ h0, Hp F Z h0 loc → (∀ a ∈ loc.map (·.1), B ≤ a) → B ≤ h0.size → MetFree l y (head1 (Jvm.Cond.code y bytes mL ret :: ws) rm) (fun a U => a = as ∧ Z.Warmed39 U.vm ∧ U.heap = h0) (fun _ _ _ _ _ => True) (fun _ U o U' => ∃ v L, o = .returned v ∧ Qc F Z B loc h0 P v U'.heap L ∧ FrameEnd U o U' L rm.cells rm.slots)
/-- the run stands in the body of y; the objects are os -/
def Here (p : Program) (l : Launch) (e : Env) (R : Room) (s : State) (m : MethodId) (args : Array Value) (below : List Frame) (meth : Method) (c : Code) (Z : State) (F : Fm) (B : Nat) (h0 : Heap) (A : List Addr) (y : MethodName) (bytes : ByteArray) (mL : Nat) (ret : Option FieldType) (T : State) (k n : Nat) (os : List Ob) : Prop :=
  (p.tables.exec = Jvm.exec ∧ Z.Warmed39 s.vm ∧ c.code = bytes ∧ c.maxLocals = mL ∧ s.vm.findClass y.cls = some m.cls ∧ meth.sig.returnType = ret ∧ meth.locks = false ∧ meth.name = y.name) ∧
  ∃ locs, Stand p l e R s m args below meth c T locs k n ∧ ((∀ y ∈ locs, B ≤ y.base) ∧ (∀ a ∈ A, B ≤ a) ∧ B ≤ h0.size) ∧ Hin F Z h0 A T.heap os
def Fin1 (below : List Frame) (s : State) (Z : State) (F : Fm) (B : Nat) (h0 : Heap) (A : List Addr) (kc ks : Nat) (P : Option Value → List Ob → Prop) (t : State) : Prop :=
  t.status = .running ∧ ∃ v L, Ended t below (.returned v) ∧ ((∀ y ∈ L, B ≤ y.base) ∧ ∃ os', Hin F Z h0 A t.heap os' ∧ P v os') ∧ FrameEnd s (.returned v) t L kc ks
def Go (p : Program) (e : Env) (below : List Frame) (G : State → Prop) (S : State) : Prop := ∃ t, Steps p.tables e below S t ∧ G t

variable {p : Program} {l : Launch} {e : Env} {R : Room} {s : State} {m : MethodId} {args : Array Value} {below : List Frame} {meth : Method} {c : Code} {Z : State} {F : Fm} {B : Nat} {h0 : Heap} {A : List Addr} {y : MethodName} {bytes : ByteArray} {mL : Nat} {ret : Option FieldType} {T : State} {k n : Nat} {os : List Ob} {G : State → Prop} {pc : Nat} {ls : Array Slot} {st : List Value} {a0 : Array Value}
theorem Go.by {S S' : State} (k : ∀ t, Steps p.tables e below S' t → Steps p.tables e below S t) (g : Go p e below G S') : Go p e below G S := by
  obtain ⟨t, h, g⟩ := g; exact ⟨t, k t h, g⟩
theorem Go.join {α : Type} {T : State} {fr : α → JFrame} (tree : α) {S : State} (K : ∀ z, z = tree → Go p e below G (T.setTop (fr z))) (M : (∀ z, z = tree → Go p e below G (T.setTop (fr z))) → Go p e below G S) : Go p e below G S := M K
theorem Go.cut {α : Type} {T : State} {fr : α → JFrame} (Q : α → Prop) {S : State} (K : ∀ z, Q z → Go p e below G (T.setTop (fr z))) (M : (∀ z, Q z → Go p e below G (T.setTop (fr z))) → Go p e below G S) : Go p e below G S := M K
theorem Go.cast {S S' : State} (q : S' = S) (g : Go p e below G S') : Go p e below G S := q ▸ g
theorem Oat.keep {h h' : Heap} {ws : List Addr} {a : Addr} {t : FieldType} {vs : List Value} (O : Oat F Z h a t vs) (K : Keep h h' ws) (q : a ∉ ws) : Oat F Z h' a t vs := by
  unfold Oat at O ⊢
  split at O
  · obtain ⟨E, f, cl, Ar, S⟩ := O; exact ⟨E.keep K, f, cl, ⟨K.2.1 a cl Ar.1 q, Ar.2⟩, S⟩
  · obtain ⟨E, hl, f⟩ := O; exact ⟨E.keep K, hl, fun i n d v h1 h2 => (f i n d v h1 h2).keep K q⟩
  · exact O
theorem Oat.lt {h : Heap} {a : Addr} {t : FieldType} {vs : List Value} (O : Oat F Z h a t vs) : a < h.size := by
  unfold Oat at O
  split at O
  · exact O.1.lt
  · exact O.1.lt
  · exact O.elim
theorem Okk.ge {A : List Addr} {N B : Nat} {a : Addr} (h : Okk A N a) (h1 : ∀ a ∈ A, B ≤ a) (h2 : B ≤ N) : B ≤ a := h.elim (h1 a) fun q => Nat.le_trans h2 q
theorem Keep.self (h : Heap) : Keep h h [] := Keep.refl h []
theorem Hp.nil {h : Heap} : Hp F Z h [] := ⟨List.nodup_nil, fun o q => nomatch q⟩
theorem Hp.get {h : Heap} {i : Nat} {o : Ob} (H : Hp F Z h os) (hi : os[i]? = some o) : Oat F Z h o.1 o.2.1 o.2.2 := H.2 o (List.mem_of_getElem? hi)
theorem nodup_at {L : List Addr} (hn : L.Nodup) {i j : Nat} {a : Addr} (hi : L[i]? = some a) (hj : L[j]? = some a) : i = j := by
  obtain ⟨h1, e1⟩ := List.getElem?_eq_some_iff.mp hi
  obtain ⟨h2, e2⟩ := List.getElem?_eq_some_iff.mp hj
  exact (List.getElem_inj hn).mp (e1.trans e2.symm)
theorem Hp.ext {h h' : Heap} (H : Hp F Z h os) (E : Ext h h') : Hp F Z h' os :=
  ⟨H.1, fun o ho => (H.2 o ho).keep ((Keep.refl h []).ext E) (fun q => nomatch q)⟩
theorem Hp.push {h h' : Heap} {t : FieldType} {vs : List Value} (H : Hp F Z h os) (E : Ext h h') (O : Oat F Z h' h.size t vs) : Hp F Z h' (os ++ [(h.size, t, vs)]) := by
  refine ⟨?_, fun o ho => ?_⟩
  · rw [List.map_append, List.nodup_append]
    refine ⟨H.1, by simp, fun a ha b hb => ?_⟩
    obtain ⟨o, ho, rfl⟩ := List.mem_map.mp ha
    have := (H.2 o ho).lt
    simp only [List.map_cons, List.map_nil, List.mem_singleton] at hb
    subst hb
    exact Nat.ne_of_lt this
  · rcases List.mem_append.mp ho with q | q
    · exact (H.ext E).2 o q
    · cases List.mem_singleton.mp q; exact O
/-- one object is written -/
theorem Hp.set {h h' : Heap} {i : Nat} {a : Addr} {t : FieldType} {vs vs' : List Value} (H : Hp F Z h os) (hi : os[i]? = some (a, t, vs)) (K : Keep h h' [a]) (O : Oat F Z h' a t vs') : Hp F Z h' (os.set i (a, t, vs')) := by
  obtain ⟨hlt, he⟩ := List.getElem?_eq_some_iff.mp hi
  have em : (os.set i (a, t, vs')).map (·.1) = os.map (·.1) := by
    rw [List.map_set]
    refine List.ext_getElem? fun j => ?_
    rw [List.getElem?_set]
    split
    · rename_i e; subst e; simp [he, hlt]
    · rfl
  refine ⟨em ▸ H.1, fun o ho => ?_⟩
  obtain ⟨j, hj⟩ := List.mem_iff_getElem?.mp ho
  rw [List.getElem?_set] at hj
  split at hj
  · simp [hlt] at hj; subst hj; exact O
  · rename_i ne
    refine (H.get hj).keep K (fun q => ne ?_)
    have q' : o.1 = a := List.mem_singleton.mp q
    exact (nodup_at H.1 (i := j) (j := i) (a := a) (by rw [List.getElem?_map, hj, ← q']; rfl) (by rw [List.getElem?_map, hi]; rfl)).symm
theorem Hin.mem {h : Heap} {i : Nat} {o : Ob} (H : Hin F Z h0 A h os) (hi : os[i]? = some o) : Okk A h0.size o.1 := H.2.2 o (List.mem_of_getElem? hi)
theorem Hin.push {h h' : Heap} {t : FieldType} {vs : List Value} (H : Hin F Z h0 A h os) (E : Ext h h') (O : Oat F Z h' h.size t vs) : Hin F Z h0 A h' (os ++ [(h.size, t, vs)]) :=
  ⟨H.1.ext E, H.2.1.push E O, fun o ho => (List.mem_append.mp ho).elim (H.2.2 o) fun q => by cases List.mem_singleton.mp q; exact Or.inr H.1.1⟩
theorem Hin.set {h h' : Heap} {i : Nat} {a : Addr} {t : FieldType} {vs vs' : List Value} (H : Hin F Z h0 A h os) (hi : os[i]? = some (a, t, vs)) (K : Keep h h' [a]) (O : Oat F Z h' a t vs') : Hin F Z h0 A h' (os.set i (a, t, vs')) := by
  refine ⟨H.1.trans K fun x hx => by cases List.mem_singleton.mp hx; exact H.mem hi, H.2.1.set hi K O, fun o ho => ?_⟩
  rcases List.mem_or_eq_of_mem_set ho with q | q
  · exact H.2.2 o q
  · subst q; have z := H.mem hi; exact z

/-- the body, entered -/
theorem Con.of {as : Array Value} {loc : List Ob} {P : Option Value → List Ob → Prop} {rm : Room} {ws : List Jvm.Cond} {ls : Array Slot} (hpl : plainFor y = true) (hef : ∀ m, entryFrame m as mL = mkF m 0 ls [])
    (body : ∀ p e h0 s m below meth c T, Here p l e rm s m as below meth c Z F B h0 (loc.map (·.1)) y bytes mL ret T 0 0 loc → Go p e below (Fin1 below s Z F B h0 (loc.map (·.1)) rm.cells rm.slots P) (T.setTop (mkF m 0 ls []))) :
    Con l Z F B y bytes mL ret rm ws as loc P := by
  intro h0 H hA hB
  refine MetFree.of_bodySF hpl hisR ?_
  intro p e s m args below meth c s₁ Bd hml0 hP hK
  obtain ⟨rfl, hZ, hh⟩ := hP
  have X0 : Stand p l e rm s m args below meth c s₁ [] 0 0 := Stand.of_body Bd
  have e0 : s₁.heap = h0 := by rw [← hh, Bd.state]; rfl
  obtain ⟨t, st, hr, v, L, hE, ⟨hL, os', hI, hp⟩, hF⟩ := body p e h0 s m below meth c s₁ ⟨⟨Bd.exec, hZ, Bd.bytes, hml0, findClass_of_methodNamed Bd.named, Bd.returns, Bd.notSynchronized, (name_of_methodNamed Bd.named Bd.method).1⟩, [], X0, ⟨fun y q => (nomatch q), hA, hB⟩, by rw [e0]; exact ⟨Keep.refl _ _, H, fun o ho => Or.inl (List.mem_map.mpr ⟨o, ho, rfl⟩)⟩⟩
  exact ⟨t, _, castTop (hef m) st, hr, hE, v, L, rfl, ⟨hL, os', hI, hp⟩, hF⟩

theorem g_iload_n {j : Fin 4} {v : Int32} (W : Here p l e R s m args below meth c Z F B h0 A y bytes mL ret T k n os) (hd : decode bytes pc = .ok (.iload_n j, 1)) (hl : ls[j.val]? = some (.val (.int v))) (K : Go p e below G (T.setTop (mkF m (pc + 1) ls (.int v :: st)))) : Go p e below G (T.setTop (mkF m pc ls (st))) := by
  obtain ⟨⟨hx, hZ, hby, -⟩, locs, X, -⟩ := W
  exact K.by fun t q => XS.iloadN X.here hx rfl (hb hby hd) hl q
theorem g_iload {j : Nat} {v : Int32} (W : Here p l e R s m args below meth c Z F B h0 A y bytes mL ret T k n os) (hd : decode bytes pc = .ok (.iload j, 2)) (hl : ls[j]? = some (.val (.int v))) (K : Go p e below G (T.setTop (mkF m (pc + 2) ls (.int v :: st)))) : Go p e below G (T.setTop (mkF m pc ls (st))) := by
  obtain ⟨⟨hx, hZ, hby, -⟩, locs, X, -⟩ := W
  exact K.by fun t q => XS.iload X.here hx rfl (hb hby hd) hl q
theorem g_lload_n {j : Fin 4} {v : Int64} (W : Here p l e R s m args below meth c Z F B h0 A y bytes mL ret T k n os) (hd : decode bytes pc = .ok (.lload_n j, 1)) (hl : ls[j.val]? = some (.val (.long v))) (K : Go p e below G (T.setTop (mkF m (pc + 1) ls (.long v :: st)))) : Go p e below G (T.setTop (mkF m pc ls (st))) := by
  obtain ⟨⟨hx, hZ, hby, -⟩, locs, X, -⟩ := W
  exact K.by fun t q => XT.lloadN X.here hx rfl (hb hby hd) hl q
theorem g_lload {j : Nat} {v : Int64} (W : Here p l e R s m args below meth c Z F B h0 A y bytes mL ret T k n os) (hd : decode bytes pc = .ok (.lload j, 2)) (hl : ls[j]? = some (.val (.long v))) (K : Go p e below G (T.setTop (mkF m (pc + 2) ls (.long v :: st)))) : Go p e below G (T.setTop (mkF m pc ls (st))) := by
  obtain ⟨⟨hx, hZ, hby, -⟩, locs, X, -⟩ := W
  exact K.by fun t q => XT.lload X.here hx rfl (hb hby hd) hl q
theorem g_aload_n {j : Fin 4} {v : Value} (W : Here p l e R s m args below meth c Z F B h0 A y bytes mL ret T k n os) (hd : decode bytes pc = .ok (.aload_n j, 1)) (hl : ls[j.val]? = some (.val v)) (hv : v.isRef = true) (K : Go p e below G (T.setTop (mkF m (pc + 1) ls (v :: st)))) : Go p e below G (T.setTop (mkF m pc ls (st))) := by
  obtain ⟨⟨hx, hZ, hby, -⟩, locs, X, -⟩ := W
  exact K.by fun t q => XS.aloadN X.here hx rfl (hb hby hd) hl hv q
theorem g_aload {j : Nat} {v : Value} (W : Here p l e R s m args below meth c Z F B h0 A y bytes mL ret T k n os) (hd : decode bytes pc = .ok (.aload j, 2)) (hl : ls[j]? = some (.val v)) (hv : v.isRef = true) (K : Go p e below G (T.setTop (mkF m (pc + 2) ls (v :: st)))) : Go p e below G (T.setTop (mkF m pc ls (st))) := by
  obtain ⟨⟨hx, hZ, hby, -⟩, locs, X, -⟩ := W
  exact K.by fun t q => XS.aload X.here hx rfl (hb hby hd) hl hv q
theorem g_istore_n {j : Fin 4} {v : Int32} {ls' : Array Slot} (W : Here p l e R s m args below meth c Z F B h0 A y bytes mL ret T k n os) (hd : decode bytes pc = .ok (.istore_n j, 1)) (hl : storeLocals ls j.val (.int v) = some ls') (K : Go p e below G (T.setTop (mkF m (pc + 1) ls' (st)))) : Go p e below G (T.setTop (mkF m pc ls (.int v :: st))) := by
  obtain ⟨⟨hx, hZ, hby, -⟩, locs, X, -⟩ := W
  exact K.by fun t q => XS.istoreN X.here hx rfl (hb hby hd) rfl hl q
theorem g_istore {j : Nat} {v : Int32} {ls' : Array Slot} (W : Here p l e R s m args below meth c Z F B h0 A y bytes mL ret T k n os) (hd : decode bytes pc = .ok (.istore j, 2)) (hl : storeLocals ls j (.int v) = some ls') (K : Go p e below G (T.setTop (mkF m (pc + 2) ls' (st)))) : Go p e below G (T.setTop (mkF m pc ls (.int v :: st))) := by
  obtain ⟨⟨hx, hZ, hby, -⟩, locs, X, -⟩ := W
  exact K.by fun t q => XS.istore X.here hx rfl (hb hby hd) rfl hl q
theorem g_lstore_n {j : Fin 4} {v : Int64} {ls' : Array Slot} (W : Here p l e R s m args below meth c Z F B h0 A y bytes mL ret T k n os) (hd : decode bytes pc = .ok (.lstore_n j, 1)) (hl : storeLocals ls j.val (.long v) = some ls') (K : Go p e below G (T.setTop (mkF m (pc + 1) ls' (st)))) : Go p e below G (T.setTop (mkF m pc ls (.long v :: st))) := by
  obtain ⟨⟨hx, hZ, hby, -⟩, locs, X, -⟩ := W
  exact K.by fun t q => XT.lstoreN X.here hx rfl (hb hby hd) rfl hl q
theorem g_lstore {j : Nat} {v : Int64} {ls' : Array Slot} (W : Here p l e R s m args below meth c Z F B h0 A y bytes mL ret T k n os) (hd : decode bytes pc = .ok (.lstore j, 2)) (hl : storeLocals ls j (.long v) = some ls') (K : Go p e below G (T.setTop (mkF m (pc + 2) ls' (st)))) : Go p e below G (T.setTop (mkF m pc ls (.long v :: st))) := by
  obtain ⟨⟨hx, hZ, hby, -⟩, locs, X, -⟩ := W
  exact K.by fun t q => XT.lstore X.here hx rfl (hb hby hd) rfl hl q
theorem g_astore_n {j : Fin 4} {v : Value} {ls' : Array Slot} (W : Here p l e R s m args below meth c Z F B h0 A y bytes mL ret T k n os) (hd : decode bytes pc = .ok (.astore_n j, 1)) (hv : v.isRef = true) (hl : storeLocals ls j.val v = some ls') (K : Go p e below G (T.setTop (mkF m (pc + 1) ls' (st)))) : Go p e below G (T.setTop (mkF m pc ls (v :: st))) := by
  obtain ⟨⟨hx, hZ, hby, -⟩, locs, X, -⟩ := W
  exact K.by fun t q => XS.astoreN X.here hx rfl (hb hby hd) rfl hv hl q
theorem g_astore {j : Nat} {v : Value} {ls' : Array Slot} (W : Here p l e R s m args below meth c Z F B h0 A y bytes mL ret T k n os) (hd : decode bytes pc = .ok (.astore j, 2)) (hv : v.isRef = true) (hl : storeLocals ls j v = some ls') (K : Go p e below G (T.setTop (mkF m (pc + 2) ls' (st)))) : Go p e below G (T.setTop (mkF m pc ls (v :: st))) := by
  obtain ⟨⟨hx, hZ, hby, -⟩, locs, X, -⟩ := W
  exact K.by fun t q => XS.astore X.here hx rfl (hb hby hd) rfl hv hl q
theorem g_iconst {i : Int} (v : Int32) (hv : Int32.ofInt i = v) (W : Here p l e R s m args below meth c Z F B h0 A y bytes mL ret T k n os) (hd : decode bytes pc = .ok (.iconst i, 1)) (K : Go p e below G (T.setTop (mkF m (pc + 1) ls (.int v :: st)))) : Go p e below G (T.setTop (mkF m pc ls st)) := by
  obtain ⟨⟨hx, hZ, hby, -⟩, locs, X, -⟩ := W
  subst hv
  exact K.by fun t q => XS.iconst X.here hx rfl (hb hby hd) q
theorem g_bipush {i : Int} (v : Int32) (hv : (Int8.ofInt i).toInt32 = v) (W : Here p l e R s m args below meth c Z F B h0 A y bytes mL ret T k n os) (hd : decode bytes pc = .ok (.bipush i, 2)) (K : Go p e below G (T.setTop (mkF m (pc + 2) ls (.int v :: st)))) : Go p e below G (T.setTop (mkF m pc ls st)) := by
  obtain ⟨⟨hx, hZ, hby, -⟩, locs, X, -⟩ := W
  subst hv
  exact K.by fun t q => XS.bipush X.here hx rfl (hb hby hd) q
theorem g_sipush {i : Int} (v : Int32) (hv : (Int16.ofInt i).toInt32 = v) (W : Here p l e R s m args below meth c Z F B h0 A y bytes mL ret T k n os) (hd : decode bytes pc = .ok (.sipush i, 3)) (K : Go p e below G (T.setTop (mkF m (pc + 3) ls (.int v :: st)))) : Go p e below G (T.setTop (mkF m pc ls st)) := by
  obtain ⟨⟨hx, hZ, hby, -⟩, locs, X, -⟩ := W
  subst hv
  exact K.by fun t q => XS.sipush X.here hx rfl (hb hby hd) q
theorem g_lconst {i : Fin 2} (v : Int64) (hv : Int64.ofNat i = v) (W : Here p l e R s m args below meth c Z F B h0 A y bytes mL ret T k n os) (hd : decode bytes pc = .ok (.lconst i, 1)) (K : Go p e below G (T.setTop (mkF m (pc + 1) ls (.long v :: st)))) : Go p e below G (T.setTop (mkF m pc ls st)) := by
  obtain ⟨⟨hx, hZ, hby, -⟩, locs, X, -⟩ := W
  subst hv
  exact K.by fun t q => XT.lconst X.here hx rfl (hb hby hd) q
theorem g_aconst_null  (W : Here p l e R s m args below meth c Z F B h0 A y bytes mL ret T k n os) (hd : decode bytes pc = .ok (.aconst_null, 1)) (K : Go p e below G (T.setTop (mkF m (pc + 1) ls (.null :: st)))) : Go p e below G (T.setTop (mkF m pc ls (st))) := by
  obtain ⟨⟨hx, hZ, hby, -⟩, locs, X, -⟩ := W
  exact K.by fun t q => XS.aconstNull X.here hx rfl (hb hby hd)  q
theorem g_iadd {x z : Int32} (W : Here p l e R s m args below meth c Z F B h0 A y bytes mL ret T k n os) (hd : decode bytes pc = .ok (.iadd, 1)) (K : Go p e below G (T.setTop (mkF m (pc + 1) ls (.int (x + z) :: st)))) : Go p e below G (T.setTop (mkF m pc ls (.int z :: .int x :: st))) := by
  obtain ⟨⟨hx, hZ, hby, -⟩, locs, X, -⟩ := W
  exact K.by fun t q => XS.iadd X.here hx rfl (hb hby hd) rfl q
theorem g_isub {x z : Int32} (W : Here p l e R s m args below meth c Z F B h0 A y bytes mL ret T k n os) (hd : decode bytes pc = .ok (.isub, 1)) (K : Go p e below G (T.setTop (mkF m (pc + 1) ls (.int (x - z) :: st)))) : Go p e below G (T.setTop (mkF m pc ls (.int z :: .int x :: st))) := by
  obtain ⟨⟨hx, hZ, hby, -⟩, locs, X, -⟩ := W
  exact K.by fun t q => XS.isub X.here hx rfl (hb hby hd) rfl q
theorem g_iand {x z : Int32} (W : Here p l e R s m args below meth c Z F B h0 A y bytes mL ret T k n os) (hd : decode bytes pc = .ok (.iand, 1)) (K : Go p e below G (T.setTop (mkF m (pc + 1) ls (.int (x &&& z) :: st)))) : Go p e below G (T.setTop (mkF m pc ls (.int z :: .int x :: st))) := by
  obtain ⟨⟨hx, hZ, hby, -⟩, locs, X, -⟩ := W
  exact K.by fun t q => XS.iand X.here hx rfl (hb hby hd) rfl q
theorem g_imul {x z : Int32} (W : Here p l e R s m args below meth c Z F B h0 A y bytes mL ret T k n os) (hd : decode bytes pc = .ok (.imul, 1)) (K : Go p e below G (T.setTop (mkF m (pc + 1) ls (.int (x * z) :: st)))) : Go p e below G (T.setTop (mkF m pc ls (.int z :: .int x :: st))) := by
  obtain ⟨⟨hx, hZ, hby, -⟩, locs, X, -⟩ := W
  exact K.by fun t q => XS.imul X.here hx rfl (hb hby hd) rfl q
theorem g_ior {x z : Int32} (W : Here p l e R s m args below meth c Z F B h0 A y bytes mL ret T k n os) (hd : decode bytes pc = .ok (.ior, 1)) (K : Go p e below G (T.setTop (mkF m (pc + 1) ls (.int (x ||| z) :: st)))) : Go p e below G (T.setTop (mkF m pc ls (.int z :: .int x :: st))) := by
  obtain ⟨⟨hx, hZ, hby, -⟩, locs, X, -⟩ := W
  exact K.by fun t q => XT.ior X.here hx rfl (hb hby hd) rfl q
theorem g_ixor {x z : Int32} (W : Here p l e R s m args below meth c Z F B h0 A y bytes mL ret T k n os) (hd : decode bytes pc = .ok (.ixor, 1)) (K : Go p e below G (T.setTop (mkF m (pc + 1) ls (.int (x ^^^ z) :: st)))) : Go p e below G (T.setTop (mkF m pc ls (.int z :: .int x :: st))) := by
  obtain ⟨⟨hx, hZ, hby, -⟩, locs, X, -⟩ := W
  exact K.by fun t q => XT.ixor X.here hx rfl (hb hby hd) rfl q
theorem g_ishl {x z : Int32} (W : Here p l e R s m args below meth c Z F B h0 A y bytes mL ret T k n os) (hd : decode bytes pc = .ok (.ishl, 1)) (K : Go p e below G (T.setTop (mkF m (pc + 1) ls (.int (x <<< (z &&& 31)) :: st)))) : Go p e below G (T.setTop (mkF m pc ls (.int z :: .int x :: st))) := by
  obtain ⟨⟨hx, hZ, hby, -⟩, locs, X, -⟩ := W
  exact K.by fun t q => XT.ishl X.here hx rfl (hb hby hd) rfl q
theorem g_ishr {x z : Int32} (W : Here p l e R s m args below meth c Z F B h0 A y bytes mL ret T k n os) (hd : decode bytes pc = .ok (.ishr, 1)) (K : Go p e below G (T.setTop (mkF m (pc + 1) ls (.int (x >>> (z &&& 31)) :: st)))) : Go p e below G (T.setTop (mkF m pc ls (.int z :: .int x :: st))) := by
  obtain ⟨⟨hx, hZ, hby, -⟩, locs, X, -⟩ := W
  exact K.by fun t q => XT.ishr X.here hx rfl (hb hby hd) rfl q
theorem g_iushr {x z : Int32} (W : Here p l e R s m args below meth c Z F B h0 A y bytes mL ret T k n os) (hd : decode bytes pc = .ok (.iushr, 1)) (K : Go p e below G (T.setTop (mkF m (pc + 1) ls (.int (XT.ushr x z) :: st)))) : Go p e below G (T.setTop (mkF m pc ls (.int z :: .int x :: st))) := by
  obtain ⟨⟨hx, hZ, hby, -⟩, locs, X, -⟩ := W
  exact K.by fun t q => XT.iushr X.here hx rfl (hb hby hd) rfl q
theorem g_ladd {x z : Int64} (W : Here p l e R s m args below meth c Z F B h0 A y bytes mL ret T k n os) (hd : decode bytes pc = .ok (.ladd, 1)) (K : Go p e below G (T.setTop (mkF m (pc + 1) ls (.long (x + z) :: st)))) : Go p e below G (T.setTop (mkF m pc ls (.long z :: .long x :: st))) := by
  obtain ⟨⟨hx, hZ, hby, -⟩, locs, X, -⟩ := W
  exact K.by fun t q => XT.ladd X.here hx rfl (hb hby hd) rfl q
theorem g_lsub {x z : Int64} (W : Here p l e R s m args below meth c Z F B h0 A y bytes mL ret T k n os) (hd : decode bytes pc = .ok (.lsub, 1)) (K : Go p e below G (T.setTop (mkF m (pc + 1) ls (.long (x - z) :: st)))) : Go p e below G (T.setTop (mkF m pc ls (.long z :: .long x :: st))) := by
  obtain ⟨⟨hx, hZ, hby, -⟩, locs, X, -⟩ := W
  exact K.by fun t q => XT.lsub X.here hx rfl (hb hby hd) rfl q
theorem g_lmul {x z : Int64} (W : Here p l e R s m args below meth c Z F B h0 A y bytes mL ret T k n os) (hd : decode bytes pc = .ok (.lmul, 1)) (K : Go p e below G (T.setTop (mkF m (pc + 1) ls (.long (x * z) :: st)))) : Go p e below G (T.setTop (mkF m pc ls (.long z :: .long x :: st))) := by
  obtain ⟨⟨hx, hZ, hby, -⟩, locs, X, -⟩ := W
  exact K.by fun t q => XT.lmul X.here hx rfl (hb hby hd) rfl q
theorem g_land {x z : Int64} (W : Here p l e R s m args below meth c Z F B h0 A y bytes mL ret T k n os) (hd : decode bytes pc = .ok (.land, 1)) (K : Go p e below G (T.setTop (mkF m (pc + 1) ls (.long (x &&& z) :: st)))) : Go p e below G (T.setTop (mkF m pc ls (.long z :: .long x :: st))) := by
  obtain ⟨⟨hx, hZ, hby, -⟩, locs, X, -⟩ := W
  exact K.by fun t q => XT.land X.here hx rfl (hb hby hd) rfl q
theorem g_lor {x z : Int64} (W : Here p l e R s m args below meth c Z F B h0 A y bytes mL ret T k n os) (hd : decode bytes pc = .ok (.lor, 1)) (K : Go p e below G (T.setTop (mkF m (pc + 1) ls (.long (x ||| z) :: st)))) : Go p e below G (T.setTop (mkF m pc ls (.long z :: .long x :: st))) := by
  obtain ⟨⟨hx, hZ, hby, -⟩, locs, X, -⟩ := W
  exact K.by fun t q => XT.lor X.here hx rfl (hb hby hd) rfl q
theorem g_lxor {x z : Int64} (W : Here p l e R s m args below meth c Z F B h0 A y bytes mL ret T k n os) (hd : decode bytes pc = .ok (.lxor, 1)) (K : Go p e below G (T.setTop (mkF m (pc + 1) ls (.long (x ^^^ z) :: st)))) : Go p e below G (T.setTop (mkF m pc ls (.long z :: .long x :: st))) := by
  obtain ⟨⟨hx, hZ, hby, -⟩, locs, X, -⟩ := W
  exact K.by fun t q => XT.lxor X.here hx rfl (hb hby hd) rfl q
theorem g_idiv {x z : Int32} (W : Here p l e R s m args below meth c Z F B h0 A y bytes mL ret T k n os) (hd : decode bytes pc = .ok (.idiv, 1)) (hz : z ≠ 0) (K : Go p e below G (T.setTop (mkF m (pc + 1) ls (.int (x / z) :: st)))) : Go p e below G (T.setTop (mkF m pc ls (.int z :: .int x :: st))) := by
  obtain ⟨⟨hx, hZ, hby, -⟩, locs, X, -⟩ := W
  exact K.by fun t q => XS.idiv X.here hx rfl (hb hby hd) rfl hz q
theorem g_irem {x z : Int32} (W : Here p l e R s m args below meth c Z F B h0 A y bytes mL ret T k n os) (hd : decode bytes pc = .ok (.irem, 1)) (hz : z ≠ 0) (K : Go p e below G (T.setTop (mkF m (pc + 1) ls (.int (x % z) :: st)))) : Go p e below G (T.setTop (mkF m pc ls (.int z :: .int x :: st))) := by
  obtain ⟨⟨hx, hZ, hby, -⟩, locs, X, -⟩ := W
  exact K.by fun t q => iremM X hx rfl (hb hby hd) rfl hz q
theorem g_ineg {x : Int32} (W : Here p l e R s m args below meth c Z F B h0 A y bytes mL ret T k n os) (hd : decode bytes pc = .ok (.ineg, 1)) (K : Go p e below G (T.setTop (mkF m (pc + 1) ls (.int (-x) :: st)))) : Go p e below G (T.setTop (mkF m pc ls (.int x :: st))) := by
  obtain ⟨⟨hx, hZ, hby, -⟩, locs, X, -⟩ := W
  exact K.by fun t q => XS.ineg X.here hx rfl (hb hby hd) rfl q
theorem g_lneg {x : Int64} (W : Here p l e R s m args below meth c Z F B h0 A y bytes mL ret T k n os) (hd : decode bytes pc = .ok (.lneg, 1)) (K : Go p e below G (T.setTop (mkF m (pc + 1) ls (.long (-x) :: st)))) : Go p e below G (T.setTop (mkF m pc ls (.long x :: st))) := by
  obtain ⟨⟨hx, hZ, hby, -⟩, locs, X, -⟩ := W
  exact K.by fun t q => XT.lneg X.here hx rfl (hb hby hd) rfl q
theorem g_i2l {x : Int32} (W : Here p l e R s m args below meth c Z F B h0 A y bytes mL ret T k n os) (hd : decode bytes pc = .ok (.i2l, 1)) (K : Go p e below G (T.setTop (mkF m (pc + 1) ls (.long x.toInt64 :: st)))) : Go p e below G (T.setTop (mkF m pc ls (.int x :: st))) := by
  obtain ⟨⟨hx, hZ, hby, -⟩, locs, X, -⟩ := W
  exact K.by fun t q => XT.i2l X.here hx rfl (hb hby hd) rfl q
theorem g_l2i {x : Int64} (W : Here p l e R s m args below meth c Z F B h0 A y bytes mL ret T k n os) (hd : decode bytes pc = .ok (.l2i, 1)) (K : Go p e below G (T.setTop (mkF m (pc + 1) ls (.int x.toInt32 :: st)))) : Go p e below G (T.setTop (mkF m pc ls (.long x :: st))) := by
  obtain ⟨⟨hx, hZ, hby, -⟩, locs, X, -⟩ := W
  exact K.by fun t q => XT.l2i X.here hx rfl (hb hby hd) rfl q
theorem g_i2b {x : Int32} (W : Here p l e R s m args below meth c Z F B h0 A y bytes mL ret T k n os) (hd : decode bytes pc = .ok (.i2b, 1)) (K : Go p e below G (T.setTop (mkF m (pc + 1) ls (.int x.toInt8.toInt32 :: st)))) : Go p e below G (T.setTop (mkF m pc ls (.int x :: st))) := by
  obtain ⟨⟨hx, hZ, hby, -⟩, locs, X, -⟩ := W
  exact K.by fun t q => XT.i2b X.here hx rfl (hb hby hd) rfl q
theorem g_i2c {x : Int32} (W : Here p l e R s m args below meth c Z F B h0 A y bytes mL ret T k n os) (hd : decode bytes pc = .ok (.i2c, 1)) (K : Go p e below G (T.setTop (mkF m (pc + 1) ls (.int x.toUInt32.toUInt16.toUInt32.toInt32 :: st)))) : Go p e below G (T.setTop (mkF m pc ls (.int x :: st))) := by
  obtain ⟨⟨hx, hZ, hby, -⟩, locs, X, -⟩ := W
  exact K.by fun t q => XT.i2c X.here hx rfl (hb hby hd) rfl q
theorem g_i2s {x : Int32} (W : Here p l e R s m args below meth c Z F B h0 A y bytes mL ret T k n os) (hd : decode bytes pc = .ok (.i2s, 1)) (K : Go p e below G (T.setTop (mkF m (pc + 1) ls (.int x.toInt16.toInt32 :: st)))) : Go p e below G (T.setTop (mkF m pc ls (.int x :: st))) := by
  obtain ⟨⟨hx, hZ, hby, -⟩, locs, X, -⟩ := W
  exact K.by fun t q => XT.i2s X.here hx rfl (hb hby hd) rfl q
theorem g_lcmp {x z : Int64} (W : Here p l e R s m args below meth c Z F B h0 A y bytes mL ret T k n os) (hd : decode bytes pc = .ok (.lcmp, 1)) (K : Go p e below G (T.setTop (mkF m (pc + 1) ls (.int (XT.cmpL x z) :: st)))) : Go p e below G (T.setTop (mkF m pc ls (.long z :: .long x :: st))) := by
  obtain ⟨⟨hx, hZ, hby, -⟩, locs, X, -⟩ := W
  exact K.by fun t q => XT.lcmp X.here hx rfl (hb hby hd) rfl q
theorem g_dup {v : Value} (W : Here p l e R s m args below meth c Z F B h0 A y bytes mL ret T k n os) (hd : decode bytes pc = .ok (.dup, 1)) (hv : v.category = 1) (K : Go p e below G (T.setTop (mkF m (pc + 1) ls (v :: v :: st)))) : Go p e below G (T.setTop (mkF m pc ls (v :: st))) := by
  obtain ⟨⟨hx, hZ, hby, -⟩, locs, X, -⟩ := W
  exact K.by fun t q => XS.dup X.here hx rfl (hb hby hd) rfl hv q
theorem g_pop {v : Value} (W : Here p l e R s m args below meth c Z F B h0 A y bytes mL ret T k n os) (hd : decode bytes pc = .ok (.pop, 1)) (hv : v.category = 1) (K : Go p e below G (T.setTop (mkF m (pc + 1) ls (st)))) : Go p e below G (T.setTop (mkF m pc ls (v :: st))) := by
  obtain ⟨⟨hx, hZ, hby, -⟩, locs, X, -⟩ := W
  exact K.by fun t q => XT.pop X.here hx rfl (hb hby hd) rfl hv q
theorem g_dup_x1 {v w : Value} (W : Here p l e R s m args below meth c Z F B h0 A y bytes mL ret T k n os) (hd : decode bytes pc = .ok (.dup_x1, 1)) (hv : v.category = 1) (hw : w.category = 1) (K : Go p e below G (T.setTop (mkF m (pc + 1) ls (v :: w :: v :: st)))) : Go p e below G (T.setTop (mkF m pc ls (v :: w :: st))) := by
  obtain ⟨⟨hx, hZ, hby, -⟩, locs, X, -⟩ := W
  exact K.by fun t q => XT.dupX1 X.here hx rfl (hb hby hd) rfl hv hw q
theorem g_dup2 {v w : Value} (W : Here p l e R s m args below meth c Z F B h0 A y bytes mL ret T k n os) (hd : decode bytes pc = .ok (.dup2, 1)) (hv : v.category = 1) (hw : w.category = 1) (K : Go p e below G (T.setTop (mkF m (pc + 1) ls (v :: w :: v :: w :: st)))) : Go p e below G (T.setTop (mkF m pc ls (v :: w :: st))) := by
  obtain ⟨⟨hx, hZ, hby, -⟩, locs, X, -⟩ := W
  exact K.by fun t q => XT.dup2 X.here hx rfl (hb hby hd) rfl hv hw q
theorem g_iinc {j : Nat} {i : Int} {x : Int32} (v : Int32) (hv : Int32.ofInt i = v) {ls' : Array Slot} (W : Here p l e R s m args below meth c Z F B h0 A y bytes mL ret T k n os) (hd : decode bytes pc = .ok (.iinc j i, 3)) (hl : ls[j]? = some (.val (.int x))) (hl' : storeLocals ls j (.int (x + v)) = some ls') (K : Go p e below G (T.setTop (mkF m (pc + 3) ls' st))) : Go p e below G (T.setTop (mkF m pc ls st)) := by
  obtain ⟨⟨hx, hZ, hby, -⟩, locs, X, -⟩ := W
  subst hv
  exact K.by fun t q => XS.iinc X.here hx rfl (hb hby hd) hl hl' q
theorem g_goto {o : Int} (pc' : Nat) (W : Here p l e R s m args below meth c Z F B h0 A y bytes mL ret T k n os) (hd : decode bytes pc = .ok (.goto o, 3)) (ho : 0 ≤ (pc : Int) + o) (hp : ((pc : Int) + o).toNat = pc') (K : Go p e below G (T.setTop (mkF m pc' ls st))) : Go p e below G (T.setTop (mkF m pc ls st)) := by
  obtain ⟨⟨hx, hZ, hby, -⟩, locs, X, -⟩ := W
  exact K.by fun t q => XS.goto X.here hx rfl rfl (hb hby hd) ho hp q
theorem g_icmpY {cd : ClassFile.Cond} {o : Int} {x z : Int32} (pc' : Nat) (W : Here p l e R s m args below meth c Z F B h0 A y bytes mL ret T k n os) (hd : decode bytes pc = .ok (.if_icmp cd o, 3)) (ho : 0 ≤ (pc : Int) + o) (hp : ((pc : Int) + o).toNat = pc') (hc : if_icmp.holds cd x z = true) (K : Go p e below G (T.setTop (mkF m pc' ls st))) : Go p e below G (T.setTop (mkF m pc ls (.int z :: .int x :: st))) := by
  obtain ⟨⟨hx, hZ, hby, -⟩, locs, X, -⟩ := W
  exact K.by fun t q => XS.icmpYes X.here hx rfl rfl (hb hby hd) rfl hc ho hp q
theorem g_icmpN {cd : ClassFile.Cond} {o : Int} {x z : Int32} (W : Here p l e R s m args below meth c Z F B h0 A y bytes mL ret T k n os) (hd : decode bytes pc = .ok (.if_icmp cd o, 3)) (hc : if_icmp.holds cd x z = false) (K : Go p e below G (T.setTop (mkF m (pc + 3) ls st))) : Go p e below G (T.setTop (mkF m pc ls (.int z :: .int x :: st))) := by
  obtain ⟨⟨hx, hZ, hby, -⟩, locs, X, -⟩ := W
  exact K.by fun t q => XS.icmpNo X.here hx rfl (hb hby hd) rfl hc q
theorem g_ifY {cd : ClassFile.Cond} {o : Int} {x : Int32} (pc' : Nat) (W : Here p l e R s m args below meth c Z F B h0 A y bytes mL ret T k n os) (hd : decode bytes pc = .ok (.ifCond cd o, 3)) (ho : 0 ≤ (pc : Int) + o) (hp : ((pc : Int) + o).toNat = pc') (hc : if_icmp.holds cd x 0 = true) (K : Go p e below G (T.setTop (mkF m pc' ls st))) : Go p e below G (T.setTop (mkF m pc ls (.int x :: st))) := by
  obtain ⟨⟨hx, hZ, hby, -⟩, locs, X, -⟩ := W
  exact K.by fun t q => XS.ifYes X.here hx rfl rfl (hb hby hd) rfl ((if0 _ _).trans hc) ho hp q
theorem g_ifN {cd : ClassFile.Cond} {o : Int} {x : Int32} (W : Here p l e R s m args below meth c Z F B h0 A y bytes mL ret T k n os) (hd : decode bytes pc = .ok (.ifCond cd o, 3)) (hc : if_icmp.holds cd x 0 = false) (K : Go p e below G (T.setTop (mkF m (pc + 3) ls st))) : Go p e below G (T.setTop (mkF m pc ls (.int x :: st))) := by
  obtain ⟨⟨hx, hZ, hby, -⟩, locs, X, -⟩ := W
  exact K.by fun t q => XS.ifNo X.here hx rfl (hb hby hd) rfl ((if0 _ _).trans hc) q
theorem g_icmp_lt {o : Int} {x z : Int32} (pc' : Nat) (W : Here p l e R s m args below meth c Z F B h0 A y bytes mL ret T k n os) (hd : decode bytes pc = .ok (.if_icmp .lt o, 3)) (ho : 0 ≤ (pc : Int) + o) (hp : ((pc : Int) + o).toNat = pc') (Y : x < z → Go p e below G (T.setTop (mkF m pc' ls st))) (N : ¬ (x < z) → Go p e below G (T.setTop (mkF m (pc + 3) ls st))) : Go p e below G (T.setTop (mkF m pc ls (.int z :: .int x :: st))) := by
  by_cases q : x < z
  · exact g_icmpY pc' W hd ho hp (tlt q).1 (Y q)
  · exact g_icmpN W hd (flt q).1 (N q)
theorem g_if_lt {o : Int} {x : Int32} (pc' : Nat) (W : Here p l e R s m args below meth c Z F B h0 A y bytes mL ret T k n os) (hd : decode bytes pc = .ok (.ifCond .lt o, 3)) (ho : 0 ≤ (pc : Int) + o) (hp : ((pc : Int) + o).toNat = pc') (Y : x < 0 → Go p e below G (T.setTop (mkF m pc' ls st))) (N : ¬ (x < 0) → Go p e below G (T.setTop (mkF m (pc + 3) ls st))) : Go p e below G (T.setTop (mkF m pc ls (.int x :: st))) := by
  by_cases q : x < 0
  · exact g_ifY pc' W hd ho hp (tlt q).1 (Y q)
  · exact g_ifN W hd (flt q).1 (N q)
theorem g_icmp_ge {o : Int} {x z : Int32} (pc' : Nat) (W : Here p l e R s m args below meth c Z F B h0 A y bytes mL ret T k n os) (hd : decode bytes pc = .ok (.if_icmp .ge o, 3)) (ho : 0 ≤ (pc : Int) + o) (hp : ((pc : Int) + o).toNat = pc') (Y : ¬ (x < z) → Go p e below G (T.setTop (mkF m pc' ls st))) (N : x < z → Go p e below G (T.setTop (mkF m (pc + 3) ls st))) : Go p e below G (T.setTop (mkF m pc ls (.int z :: .int x :: st))) := by
  by_cases q : x < z
  · exact g_icmpN W hd (tlt q).2.1 (N q)
  · exact g_icmpY pc' W hd ho hp (flt q).2.1 (Y q)
theorem g_if_ge {o : Int} {x : Int32} (pc' : Nat) (W : Here p l e R s m args below meth c Z F B h0 A y bytes mL ret T k n os) (hd : decode bytes pc = .ok (.ifCond .ge o, 3)) (ho : 0 ≤ (pc : Int) + o) (hp : ((pc : Int) + o).toNat = pc') (Y : ¬ (x < 0) → Go p e below G (T.setTop (mkF m pc' ls st))) (N : x < 0 → Go p e below G (T.setTop (mkF m (pc + 3) ls st))) : Go p e below G (T.setTop (mkF m pc ls (.int x :: st))) := by
  by_cases q : x < 0
  · exact g_ifN W hd (tlt q).2.1 (N q)
  · exact g_ifY pc' W hd ho hp (flt q).2.1 (Y q)
theorem g_icmp_gt {o : Int} {x z : Int32} (pc' : Nat) (W : Here p l e R s m args below meth c Z F B h0 A y bytes mL ret T k n os) (hd : decode bytes pc = .ok (.if_icmp .gt o, 3)) (ho : 0 ≤ (pc : Int) + o) (hp : ((pc : Int) + o).toNat = pc') (Y : z < x → Go p e below G (T.setTop (mkF m pc' ls st))) (N : ¬ (z < x) → Go p e below G (T.setTop (mkF m (pc + 3) ls st))) : Go p e below G (T.setTop (mkF m pc ls (.int z :: .int x :: st))) := by
  by_cases q : z < x
  · exact g_icmpY pc' W hd ho hp (tlt q).2.2.1 (Y q)
  · exact g_icmpN W hd (flt q).2.2.1 (N q)
theorem g_if_gt {o : Int} {x : Int32} (pc' : Nat) (W : Here p l e R s m args below meth c Z F B h0 A y bytes mL ret T k n os) (hd : decode bytes pc = .ok (.ifCond .gt o, 3)) (ho : 0 ≤ (pc : Int) + o) (hp : ((pc : Int) + o).toNat = pc') (Y : 0 < x → Go p e below G (T.setTop (mkF m pc' ls st))) (N : ¬ (0 < x) → Go p e below G (T.setTop (mkF m (pc + 3) ls st))) : Go p e below G (T.setTop (mkF m pc ls (.int x :: st))) := by
  by_cases q : 0 < x
  · exact g_ifY pc' W hd ho hp (tlt q).2.2.1 (Y q)
  · exact g_ifN W hd (flt q).2.2.1 (N q)
theorem g_icmp_le {o : Int} {x z : Int32} (pc' : Nat) (W : Here p l e R s m args below meth c Z F B h0 A y bytes mL ret T k n os) (hd : decode bytes pc = .ok (.if_icmp .le o, 3)) (ho : 0 ≤ (pc : Int) + o) (hp : ((pc : Int) + o).toNat = pc') (Y : ¬ (z < x) → Go p e below G (T.setTop (mkF m pc' ls st))) (N : z < x → Go p e below G (T.setTop (mkF m (pc + 3) ls st))) : Go p e below G (T.setTop (mkF m pc ls (.int z :: .int x :: st))) := by
  by_cases q : z < x
  · exact g_icmpN W hd (tlt q).2.2.2 (N q)
  · exact g_icmpY pc' W hd ho hp (flt q).2.2.2 (Y q)
theorem g_if_le {o : Int} {x : Int32} (pc' : Nat) (W : Here p l e R s m args below meth c Z F B h0 A y bytes mL ret T k n os) (hd : decode bytes pc = .ok (.ifCond .le o, 3)) (ho : 0 ≤ (pc : Int) + o) (hp : ((pc : Int) + o).toNat = pc') (Y : ¬ (0 < x) → Go p e below G (T.setTop (mkF m pc' ls st))) (N : 0 < x → Go p e below G (T.setTop (mkF m (pc + 3) ls st))) : Go p e below G (T.setTop (mkF m pc ls (.int x :: st))) := by
  by_cases q : 0 < x
  · exact g_ifN W hd (tlt q).2.2.2 (N q)
  · exact g_ifY pc' W hd ho hp (flt q).2.2.2 (Y q)
theorem g_icmp_eq {o : Int} {x z : Int32} (pc' : Nat) (W : Here p l e R s m args below meth c Z F B h0 A y bytes mL ret T k n os) (hd : decode bytes pc = .ok (.if_icmp .eq o, 3)) (ho : 0 ≤ (pc : Int) + o) (hp : ((pc : Int) + o).toNat = pc') (Y : x = z → Go p e below G (T.setTop (mkF m pc' ls st))) (N : ¬ (x = z) → Go p e below G (T.setTop (mkF m (pc + 3) ls st))) : Go p e below G (T.setTop (mkF m pc ls (.int z :: .int x :: st))) := by
  by_cases q : x = z
  · exact g_icmpY pc' W hd ho hp (teq q).1 (Y q)
  · exact g_icmpN W hd (feq q).1 (N q)
theorem g_if_eq {o : Int} {x : Int32} (pc' : Nat) (W : Here p l e R s m args below meth c Z F B h0 A y bytes mL ret T k n os) (hd : decode bytes pc = .ok (.ifCond .eq o, 3)) (ho : 0 ≤ (pc : Int) + o) (hp : ((pc : Int) + o).toNat = pc') (Y : x = 0 → Go p e below G (T.setTop (mkF m pc' ls st))) (N : ¬ (x = 0) → Go p e below G (T.setTop (mkF m (pc + 3) ls st))) : Go p e below G (T.setTop (mkF m pc ls (.int x :: st))) := by
  by_cases q : x = 0
  · exact g_ifY pc' W hd ho hp (teq q).1 (Y q)
  · exact g_ifN W hd (feq q).1 (N q)
theorem g_icmp_ne {o : Int} {x z : Int32} (pc' : Nat) (W : Here p l e R s m args below meth c Z F B h0 A y bytes mL ret T k n os) (hd : decode bytes pc = .ok (.if_icmp .ne o, 3)) (ho : 0 ≤ (pc : Int) + o) (hp : ((pc : Int) + o).toNat = pc') (Y : ¬ (x = z) → Go p e below G (T.setTop (mkF m pc' ls st))) (N : x = z → Go p e below G (T.setTop (mkF m (pc + 3) ls st))) : Go p e below G (T.setTop (mkF m pc ls (.int z :: .int x :: st))) := by
  by_cases q : x = z
  · exact g_icmpN W hd (teq q).2 (N q)
  · exact g_icmpY pc' W hd ho hp (feq q).2 (Y q)
theorem g_if_ne {o : Int} {x : Int32} (pc' : Nat) (W : Here p l e R s m args below meth c Z F B h0 A y bytes mL ret T k n os) (hd : decode bytes pc = .ok (.ifCond .ne o, 3)) (ho : 0 ≤ (pc : Int) + o) (hp : ((pc : Int) + o).toNat = pc') (Y : ¬ (x = 0) → Go p e below G (T.setTop (mkF m pc' ls st))) (N : x = 0 → Go p e below G (T.setTop (mkF m (pc + 3) ls st))) : Go p e below G (T.setTop (mkF m pc ls (.int x :: st))) := by
  by_cases q : x = 0
  · exact g_ifN W hd (teq q).2 (N q)
  · exact g_ifY pc' W hd ho hp (feq q).2 (Y q)
theorem g_lookup {dfl : Int} {pairs : Array (Int × Int)} {len : Nat} {x : Int32} (W : Here p l e R s m args below meth c Z F B h0 A y bytes mL ret T k n os) (hd : decode bytes pc = .ok (.lookupswitch dfl pairs, len)) (hs : (pairs.toList.zip (pairs.toList.drop 1)).all (fun (a, next) => a.1 < next.1) = true) (ho : ∀ q ∈ pairs.toList, 0 ≤ (pc : Int) + q.2) (ho' : 0 ≤ (pc : Int) + dfl)
    (Y : ∀ a off, (a, off) ∈ pairs.toList → x.toInt = a → Go p e below G (T.setTop (mkF m ((pc : Int) + off).toNat ls st))) (N : (∀ q ∈ pairs.toList, q.1 ≠ x.toInt) → Go p e below G (T.setTop (mkF m ((pc : Int) + dfl).toNat ls st))) : Go p e below G (T.setTop (mkF m pc ls (.int x :: st))) := by
  obtain ⟨⟨hx, hZ, hby, -⟩, locs, X, -⟩ := W
  cases hf : pairs.find? (·.1 == x.toInt) with
  | none =>
    have K := N fun q hq e => by
      rw [Array.find?_eq_none] at hf
      exact hf q (Array.mem_toList_iff.mp hq) (by simp [e])
    exact K.by fun t q => X.lookupswitchMiss hx (g := mkF m pc ls (.int x :: st)) rfl rfl (hb hby hd) hs hf ho' t q
  | some q =>
    obtain ⟨a, off⟩ := q
    have h1 := Array.find?_some hf
    have h2 := Array.mem_toList_iff.mpr (Array.mem_of_find?_eq_some hf)
    have K := Y a off h2 (by simpa using (beq_iff_eq.mp h1).symm)
    exact K.by fun t q => X.lookupswitchHit hx (g := mkF m pc ls (.int x :: st)) rfl rfl (hb hby hd) hs hf (ho _ h2) t q
theorem g_ldc_int {i : Nat} {v : Int32} (W : Here p l e R s m args below meth c Z F B h0 A y bytes mL ret T k n os) (w : (Jvm.Cond.constant y.cls i v).before a0 Z = true) (hd : decode bytes pc = .ok (.ldc i, 2)) (K : Go p e below G (T.setTop (mkF m (pc + 2) ls (.int v :: st)))) : Go p e below G (T.setTop (mkF m pc ls st)) := by
  obtain ⟨⟨hx, hZ, hby, -, hown, -⟩, locs, X, -⟩ := W
  exact K.by fun t q => X.ldcInt hx hown (mvT hZ w) (g := mkF m pc ls st) rfl (hb hby hd) t q
theorem g_ldc2_long {i : Nat} {v : Int64} (W : Here p l e R s m args below meth c Z F B h0 A y bytes mL ret T k n os) (w : (Jvm.Cond.constantLong y.cls i v).before a0 Z = true) (hd : decode bytes pc = .ok (.ldc2_w i, 3)) (K : Go p e below G (T.setTop (mkF m (pc + 3) ls (.long v :: st)))) : Go p e below G (T.setTop (mkF m pc ls st)) := by
  obtain ⟨⟨hx, hZ, hby, -, hown, -⟩, locs, X, -⟩ := W
  exact K.by fun t q => X.ldc2Long hx hown (mvT hZ w) (g := mkF m pc ls st) rfl (hb hby hd) t q
theorem g_ireturn {z : Int32} (hT : ret = some .int) {kc ks : Nat} {P : Option Value → List Ob → Prop} (W : Here p l e R s m args below meth c Z F B h0 A y bytes mL ret T k n os) (hd : decode bytes pc = .ok (.ireturn, 1)) (hk : k ≤ kc) (hn : n ≤ ks) (hp : P (some (.int z)) os) : Go p e below (Fin1 below s Z F B h0 A kc ks P) (T.setTop (mkF m pc ls (.int z :: st))) := by
  obtain ⟨⟨hx, hZ, hby, -, hown, hret, hlk, -⟩, locs, X, hL, hI⟩ := W
  obtain ⟨fs, hr, hrun, hended, hW, hsame⟩ := X.leave (v := some (.int z)) (fun h => by rw [hret, hT] at h; cases h) hlk
  exact ⟨_, retOut X hx (hret.trans hT) rfl (Or.inl ⟨rfl, Or.inl rfl, z, rfl⟩) (hb hby hd) hr, hrun, _, locs, hended, ⟨hL.1, os, hI, hp⟩, ⟨_, rfl⟩, hW, hsame.mono hk hn⟩
theorem g_zreturn {z : Int32} (hT : ret = some .boolean) (hz : z &&& 1 = z) {kc ks : Nat} {P : Option Value → List Ob → Prop} (W : Here p l e R s m args below meth c Z F B h0 A y bytes mL ret T k n os) (hd : decode bytes pc = .ok (.ireturn, 1)) (hk : k ≤ kc) (hn : n ≤ ks) (hp : P (some (.int z)) os) : Go p e below (Fin1 below s Z F B h0 A kc ks P) (T.setTop (mkF m pc ls (.int z :: st))) := by
  obtain ⟨⟨hx, hZ, hby, -, hown, hret, hlk, -⟩, locs, X, hL, hI⟩ := W
  obtain ⟨fs, hr, hrun, hended, hW, hsame⟩ := X.leave (v := some (.int z)) (fun h => by rw [hret, hT] at h; cases h) hlk
  exact ⟨_, retOut (t := .boolean) (w := .int z) X hx (hret.trans hT) (show Value.int (z &&& 1) = .int z by rw [hz]) (Or.inl ⟨rfl, Or.inr (Or.inl rfl), z, rfl⟩) (hb hby hd) hr, hrun, _, locs, hended, ⟨hL.1, os, hI, hp⟩, ⟨_, rfl⟩, hW, hsame.mono hk hn⟩
theorem g_lreturn {z : Int64} (hT : ret = some .long) {kc ks : Nat} {P : Option Value → List Ob → Prop} (W : Here p l e R s m args below meth c Z F B h0 A y bytes mL ret T k n os) (hd : decode bytes pc = .ok (.lreturn, 1)) (hk : k ≤ kc) (hn : n ≤ ks) (hp : P (some (.long z)) os) : Go p e below (Fin1 below s Z F B h0 A kc ks P) (T.setTop (mkF m pc ls (.long z :: st))) := by
  obtain ⟨⟨hx, hZ, hby, -, hown, hret, hlk, -⟩, locs, X, hL, hI⟩ := W
  obtain ⟨fs, hr, hrun, hended, hW, hsame⟩ := X.leave (v := some (.long z)) (fun h => by rw [hret, hT] at h; cases h) hlk
  exact ⟨_, retOut X hx (hret.trans hT) rfl (Or.inr (Or.inl ⟨rfl, rfl, z, rfl⟩)) (hb hby hd) hr, hrun, _, locs, hended, ⟨hL.1, os, hI, hp⟩, ⟨_, rfl⟩, hW, hsame.mono hk hn⟩
theorem g_areturn {z : Addr} {t : FieldType} (hT : ret = some t) (ht : t.isReference = true) {kc ks : Nat} {P : Option Value → List Ob → Prop} (W : Here p l e R s m args below meth c Z F B h0 A y bytes mL ret T k n os) (hd : decode bytes pc = .ok (.areturn, 1)) (hk : k ≤ kc) (hn : n ≤ ks) (hp : P (some (.ref z)) os) : Go p e below (Fin1 below s Z F B h0 A kc ks P) (T.setTop (mkF m pc ls (.ref z :: st))) := by
  obtain ⟨⟨hx, hZ, hby, -, hown, hret, hlk, -⟩, locs, X, hL, hI⟩ := W
  obtain ⟨fs, hr, hrun, hended, hW, hsame⟩ := X.leave (v := some (.ref z)) (fun h => by rw [hret, hT] at h; cases h) hlk
  exact ⟨_, retOut X hx (hret.trans hT) (by cases t <;> first | rfl | simp [FieldType.isReference] at ht) (Or.inr (Or.inr (Or.inr (Or.inr ⟨rfl, ht, rfl⟩)))) (hb hby hd) hr, hrun, _, locs, hended, ⟨hL.1, os, hI, hp⟩, ⟨_, rfl⟩, hW, hsame.mono hk hn⟩
theorem g_return (hT : ret = none) {kc ks : Nat} {P : Option Value → List Ob → Prop} (W : Here p l e R s m args below meth c Z F B h0 A y bytes mL ret T k n os) (hd : decode bytes pc = .ok (.return_, 1)) (hk : k ≤ kc) (hn : n ≤ ks) (hp : P (none) os) : Go p e below (Fin1 below s Z F B h0 A kc ks P) (T.setTop (mkF m pc ls ([]))) := by
  obtain ⟨⟨hx, hZ, hby, -, hown, hret, hlk, -⟩, locs, X, hL, hI⟩ := W
  obtain ⟨fs, hr, hrun, hended, hW, hsame⟩ := X.leave (v := none) (fun _ => rfl) hlk
  exact ⟨_, X.returnOut hx (hret.trans hT) (hb hby hd) hr, hrun, _, locs, hended, ⟨hL.1, os, hI, hp⟩, ⟨_, rfl⟩, hW, hsame.mono hk hn⟩
theorem own_bb (v : Int32) : v.toInt8.toInt32.toInt8.toInt32 = v.toInt8.toInt32 := by rw [Int8.toInt8_toInt32]
theorem g_acmp {cd : ACond} {o : Int} {v w : Value} (pc' : Nat) (same : Bool) (W : Here p l e R s m args below meth c Z F B h0 A y bytes mL ret T k n os) (hd : decode bytes pc = .ok (.if_acmp cd o, 3)) (h1 : v.isRef = true) (h2 : w.isRef = true) (hq : decide (v = w) = same) (ho : 0 ≤ (pc : Int) + o) (hp : pc' = if acV cd same = true then ((pc : Int) + o).toNat else pc + 3) (K : Go p e below G (T.setTop (mkF m pc' ls st))) : Go p e below G (T.setTop (mkF m pc ls (w :: v :: st))) := by
  obtain ⟨⟨hx, hZ, hby, -⟩, locs, X, -⟩ := W
  exact K.by fun t q => Jvm.RoadKit.acmp (g := mkF m pc ls (w :: v :: st)) X hx rfl h1 h2 rfl (hb hby hd) rfl hq ho hp q
theorem Here.re {os' : List Ob} (W : Here p l e R s m args below meth c Z F B h0 A y bytes mL ret T k n os) (h : os = os') : Here p l e R s m args below meth c Z F B h0 A y bytes mL ret T k n os' := h ▸ W
theorem Here.kn {k' n' : Nat} (W : Here p l e R s m args below meth c Z F B h0 A y bytes mL ret T k n os) (h : k = k') (h' : n = n') : Here p l e R s m args below meth c Z F B h0 A y bytes mL ret T k' n' os := by subst h h'; exact W
/-- what the sheet says of a class: its fields are laid, under names of their own -/
def Cls (Z : State) (a0 : Array Value) (F : Fm) (C : String) : Prop := (∀ x ∈ F C, Laid Z a0 C C x.1 x.2 ∧ ∃ t, parseFieldDescriptor x.2 = some t) ∧ ((F C).map (·.1)).Nodup
theorem Cls.ne {C : String} (H : Cls Z a0 F C) {i j : Nat} {x x' : String × String} (hi : (F C)[i]? = some x) (hj : (F C)[j]? = some x') (ne : i ≠ j) : Jvm.RoadKit.slotOf Z C x.1 x.2 ≠ Jvm.RoadKit.slotOf Z C x'.1 x'.2 := by
  obtain ⟨L, t, ht⟩ := H.1 x (List.mem_of_getElem? hi)
  obtain ⟨L', t', ht'⟩ := H.1 x' (List.mem_of_getElem? hj)
  refine slot_ne L L' (fun e => ne ?_) ht ht'
  obtain ⟨h1, e1⟩ := List.getElem?_eq_some_iff.mp hi
  obtain ⟨h2, e2⟩ := List.getElem?_eq_some_iff.mp hj
  refine (List.getElem_inj (xs := (F C).map (·.1)) (h₀ := by simpa using h1) (h₁ := by simpa using h2) H.2).mp ?_
  simp [e1, e2, e]
def dflt (d : String) : Value := ((parseFieldDescriptor d).map defaultValue).getD .null
theorem g_getfield {i index j : Nat} {a : Addr} {C nm d host : String} {vs : List Value} {v : Value} (W : Here p l e R s m args below meth c Z F B h0 A y bytes mL ret T k n os) (w : (Jvm.Cond.fieldLink y.cls index C nm d).before a0 Z = true ∨ (Jvm.Cond.fieldLinkNest y.cls index C nm d host).before a0 Z = true)
    (hi : os[i]? = some (a, .object C, vs)) (hf : (F C)[j]? = some (nm, d)) (hv : vs[j]? = some v) (hd : decode bytes pc = .ok (.getfield index, 3)) (K : ∀ T', Here p l e R s m args below meth c Z F B h0 A y bytes mL ret T' k n os → Go p e below G (T'.setTop (mkF m (pc + 3) ls (v :: st)))) : Go p e below G (T.setTop (mkF m pc ls (.ref a :: st))) := by
  obtain ⟨H0, locs, X, hL, hI⟩ := W
  have O : Oat F Z T.heap a (.object C) vs := hI.2.1.get hi
  obtain ⟨T', X', e', stp⟩ := getF X H0.1 H0.2.1 H0.2.2.2.2.1 w Via.refl rfl (O.2.2 j nm d v hf hv) (g := mkF m pc ls (.ref a :: st)) rfl rfl (hb H0.2.2.1 hd)
  exact (K T' ⟨H0, locs, X', hL, by rw [e']; exact hI⟩).by stp
theorem g_putfield {i index j kk : Nat} {a : Addr} {C nm d host : String} {vs : List Value} {v old : Value} {ty : FieldType} {os' : List Ob} (W : Here p l e R s m args below meth c Z F B h0 A y bytes mL ret T k n os) (w : (Jvm.Cond.fieldLink y.cls index C nm d).before a0 Z = true ∨ (Jvm.Cond.fieldLinkNest y.cls index C nm d host).before a0 Z = true)
    (hC : Cls Z a0 F C) (L : (Jvm.Cond.lays C C nm d).before a0 Z = true ∨ ((Jvm.Cond.laysFinal C C nm d).before a0 Z = true ∧ y.cls = C ∧ y.name = "<init>")) (wi : (Jvm.Cond.instantiable C kk).before a0 Z = true)
    (hi : os[i]? = some (a, .object C, vs)) (hf : (F C)[j]? = some (nm, d)) (hv : vs[j]? = some old) (hty : parseFieldDescriptor d = some ty) (hn : narrow ty v = v) (hfit : fits ty v = true) (ho : os.set i (a, .object C, vs.set j v) = os')
    (hd : decode bytes pc = .ok (.putfield index, 3)) (K : ∀ T', Here p l e R s m args below meth c Z F B h0 A y bytes mL ret T' k n os' → Go p e below G (T'.setTop (mkF m (pc + 3) ls (st)))) : Go p e below G (T.setTop (mkF m pc ls (v :: .ref a :: st))) := by
  obtain ⟨H0, locs, X, hL, hI⟩ := W
  have O : Oat F Z T.heap a (.object C) vs := hI.2.1.get hi
  obtain ⟨E, hlen, hF⟩ := O
  obtain ⟨T', h', X', e', Wr', stp⟩ := putF X H0.1 H0.2.1 H0.2.2.2.2.1 w Via.refl rfl (hF j nm d old hf hv) E (L.imp id fun q => ⟨q.1, q.2.1, H0.2.2.2.2.2.2.2.trans q.2.2⟩) wi hty hn hfit (g := mkF m pc ls (v :: .ref a :: st)) rfl rfl (hb H0.2.2.1 hd)
  refine (K T' ⟨H0, _, X', ⟨fun z hz => ?_, hL.2⟩, ?_⟩).by stp
  · rcases List.mem_append.mp hz with q | q
    · exact hL.1 z q
    · cases List.mem_singleton.mp q; exact (hI.mem hi).ge hL.2.1 hL.2.2
  · rw [e', ← ho]
    refine hI.set hi (Keep.of_wr Wr') ⟨E.wr Wr', by simpa using hlen, fun i' n' d' v' h1 h2 => ?_⟩
    rw [List.getElem?_set] at h2
    split at h2
    · rename_i e1; subst e1
      have : v' = v := by split at h2 <;> simp_all
      cases hf.symm.trans h1
      subst this
      exact (hF j nm d old hf hv).same Wr'
    · rename_i ne
      have q : Jvm.RoadKit.slotOf Z C n' d' ≠ Jvm.RoadKit.slotOf Z C nm d := hC.ne (x := (n', d')) (x' := (nm, d)) h1 hf (Ne.symm ne)
      exact (hF i' n' d' v' h1 h2).other Wr' (Or.inr q)
theorem g_new {index nsl : Nat} {C : String} {vs : List Value} (W : Here p l e R s m args below meth c Z F B h0 A y bytes mL ret T k n os) (w : (Jvm.Cond.classLink y.cls index C).before a0 Z = true) (wi : (Jvm.Cond.instantiable C nsl).before a0 Z = true) (wz : (Jvm.Cond.initialized C).before a0 Z = true) (hC : Cls Z a0 F C) (hvs : (F C).map (fun x => dflt x.2) = vs)
    (hd : decode bytes pc = .ok (.new index, 3)) (hc : k + 1 ≤ R.cells) (hs : n + nsl ≤ R.slots)
    (K : ∀ T' a, Here p l e R s m args below meth c Z F B h0 A y bytes mL ret T' (k + 1) (n + nsl) (os ++ [(a, .object C, vs)]) → Go p e below G (T'.setTop (mkF m (pc + 3) ls (.ref a :: st)))) : Go p e below G (T.setTop (mkF m pc ls st)) := by
  obtain ⟨H0, locs, X, hL, hI⟩ := W
  obtain ⟨T', h', X', e', E', A', D', -, stp⟩ := newO X H0.1 H0.2.1 H0.2.2.2.2.1 w wi wz rfl (g := mkF m pc ls st) rfl (hb H0.2.2.1 hd) hc hs
  refine (K T' T.heap.size ⟨H0, locs, X', hL, ?_⟩).by stp
  rw [e']
  refine hI.push E' ⟨A', by rw [← hvs]; simp, fun i nm d v h1 h2 => ?_⟩
  obtain ⟨La, t, ht⟩ := hC.1 _ (List.mem_of_getElem? h1)
  have q := D' La ht
  rw [← hvs, List.getElem?_map, h1] at h2
  simp only [Option.map_some, dflt, ht, Option.getD_some, Option.some.injEq] at h2
  rw [← h2]; exact q
theorem fits_dflt (aty : ArrayType) : fits (newarray.typeOf aty) (defaultValue (newarray.typeOf aty)) = true := by cases aty <;> rfl
theorem g_newarray {aty : ArrayType} {z : Int32} {ty : FieldType} {vs : List Value} (cap : Nat) (W : Here p l e R s m args below meth c Z F B h0 A y bytes mL ret T k n os) (w : (Jvm.Cond.arrayClass ty).before a0 Z = true) (hty : newarray.typeOf aty = ty) (hz : ¬ z < 0) (hcap : z.toNatClampNeg ≤ cap) (hb8 : cap * 8 ≤ 536870912) (hvs : List.replicate z.toNatClampNeg (defaultValue ty) = vs)
    (hd : decode bytes pc = .ok (.newarray aty, 2)) (hc : k + 1 ≤ R.cells) (hs : n + cap ≤ R.slots)
    (K : ∀ T' a, Here p l e R s m args below meth c Z F B h0 A y bytes mL ret T' (k + 1) (n + cap) (os ++ [(a, .array ty, vs)]) → Go p e below G (T'.setTop (mkF m (pc + 2) ls (.ref a :: st)))) : Go p e below G (T.setTop (mkF m pc ls (.int z :: st))) := by
  obtain ⟨H0, locs, X, hL, hI⟩ := W
  subst hty hvs
  obtain ⟨T', h', cA, X', e', E', A', Ex, stp⟩ := newPE X H0.1 H0.2.1 w rfl (g := mkF m pc ls (.int z :: st)) rfl (hb H0.2.2.1 hd) rfl hz hcap hb8 hc hs rfl
  refine (K T' T.heap.size ⟨H0, locs, X', hL, ?_⟩).by stp
  rw [e']
  refine hI.push E' ⟨Ex, fun v hv => ?_, _, A', by simp [newA]⟩
  rw [(List.mem_replicate.mp hv).2]; exact fits_dflt aty
theorem g_anewarray {index : Nat} {z : Int32} {C : String} {vs : List Value} (cap : Nat) (W : Here p l e R s m args below meth c Z F B h0 A y bytes mL ret T k n os) (w : (Jvm.Cond.classLink y.cls index C).before a0 Z = true) (w2 : (Jvm.Cond.arrayOver (.object C)).before a0 Z = true) (hz : ¬ z < 0) (hcap : z.toNatClampNeg ≤ cap) (hb8 : cap * 8 ≤ 536870912) (hvs : List.replicate z.toNatClampNeg .null = vs)
    (hd : decode bytes pc = .ok (.anewarray index, 3)) (hc : k + 1 ≤ R.cells) (hs : n + cap ≤ R.slots)
    (K : ∀ T' a, Here p l e R s m args below meth c Z F B h0 A y bytes mL ret T' (k + 1) (n + cap) (os ++ [(a, .array (.object C), vs)]) → Go p e below G (T'.setTop (mkF m (pc + 3) ls (.ref a :: st)))) : Go p e below G (T.setTop (mkF m pc ls (.int z :: st))) := by
  obtain ⟨H0, locs, X, hL, hI⟩ := W
  subst hvs
  obtain ⟨T', h', cA, X', e', E', A', Ex, -, stp⟩ := newRE X H0.1 H0.2.1 H0.2.2.2.2.1 w w2 rfl (g := mkF m pc ls (.int z :: st)) rfl (hb H0.2.2.1 hd) rfl hz hcap hb8 hc hs rfl
  refine (K T' T.heap.size ⟨H0, locs, X', hL, ?_⟩).by stp
  rw [e']
  refine hI.push E' ⟨Ex, fun v hv => ?_, _, A', by simp [newA, defaultValue]⟩
  rw [(List.mem_replicate.mp hv).2]; rfl
theorem inb_list {cl : Cell} {vs : List Value} {z : Int32} {v : Value} (S : cl.slots = vs.toArray) (hz : ¬ z < 0) (hv : vs[z.toNatClampNeg]? = some v) : ¬ (z < 0 ∨ cl.slots.size ≤ z.toNatClampNeg) ∧ cl.slots[z.toNatClampNeg]? = some v := by
  have h1 := (List.getElem?_eq_some_iff.mp hv).1
  refine ⟨fun q => q.elim hz fun q => ?_, by rw [S]; simpa using hv⟩
  rw [S] at q; simp at q; omega
theorem g_iaload {i : Nat} {a : Addr} {z : Int32} {vs : List Value} {v : Value} (W : Here p l e R s m args below meth c Z F B h0 A y bytes mL ret T k n os) (hi : os[i]? = some (a, .array .int, vs)) (hz : ¬ z < 0) (hv : vs[z.toNatClampNeg]? = some v) (hd : decode bytes pc = .ok (.iaload, 1)) (K : Go p e below G (T.setTop (mkF m (pc + 1) ls (v :: st)))) : Go p e below G (T.setTop (mkF m pc ls (.int z :: .ref a :: st))) := by
  obtain ⟨H0, locs, X, hL, hI⟩ := W
  have O : Oat F Z T.heap a (.array .int) vs := hI.2.1.get hi
  obtain ⟨E, -, cl, Ar, S⟩ := O
  obtain ⟨h1, h2⟩ := inb_list S hz hv
  exact K.by fun t q => X.iaload H0.1 (j := z) (v := v) Ar.1 (State.isArrayOf_alike H0.2.1.alike Ar.2.1) Ar.2.2 h1 h2 (g := mkF m pc ls (.int z :: .ref a :: st)) rfl rfl (hb H0.2.2.1 hd) t q
theorem g_laload {i : Nat} {a : Addr} {z : Int32} {vs : List Value} {v : Value} (W : Here p l e R s m args below meth c Z F B h0 A y bytes mL ret T k n os) (hi : os[i]? = some (a, .array .long, vs)) (hz : ¬ z < 0) (hv : vs[z.toNatClampNeg]? = some v) (hd : decode bytes pc = .ok (.laload, 1)) (K : Go p e below G (T.setTop (mkF m (pc + 1) ls (v :: st)))) : Go p e below G (T.setTop (mkF m pc ls (.int z :: .ref a :: st))) := by
  obtain ⟨H0, locs, X, hL, hI⟩ := W
  have O : Oat F Z T.heap a (.array .long) vs := hI.2.1.get hi
  obtain ⟨E, -, cl, Ar, S⟩ := O
  obtain ⟨h1, h2⟩ := inb_list S hz hv
  exact K.by fun t q => X.laload H0.1 (j := z) (v := v) Ar.1 (State.isArrayOf_alike H0.2.1.alike Ar.2.1) Ar.2.2 h1 h2 (g := mkF m pc ls (.int z :: .ref a :: st)) rfl rfl (hb H0.2.2.1 hd) t q
theorem g_baload {i : Nat} {a : Addr} {z : Int32} {vs : List Value} {v : Value} (W : Here p l e R s m args below meth c Z F B h0 A y bytes mL ret T k n os) (hi : os[i]? = some (a, .array .byte, vs)) (hz : ¬ z < 0) (hv : vs[z.toNatClampNeg]? = some v) (hd : decode bytes pc = .ok (.baload, 1)) (K : Go p e below G (T.setTop (mkF m (pc + 1) ls (v :: st)))) : Go p e below G (T.setTop (mkF m pc ls (.int z :: .ref a :: st))) := by
  obtain ⟨H0, locs, X, hL, hI⟩ := W
  have O : Oat F Z T.heap a (.array .byte) vs := hI.2.1.get hi
  obtain ⟨E, -, cl, Ar, S⟩ := O
  obtain ⟨h1, h2⟩ := inb_list S hz hv
  exact K.by fun t q => X.baloadBytes H0.1 (j := z) (v := v) Ar.1 (State.isArrayOf_alike H0.2.1.alike Ar.2.1) Ar.2.2 h1 h2 (g := mkF m pc ls (.int z :: .ref a :: st)) rfl rfl (hb H0.2.2.1 hd) t q
theorem g_arraylength {i : Nat} {a : Addr} {ty : FieldType} {vs : List Value} (N : Int32) (W : Here p l e R s m args below meth c Z F B h0 A y bytes mL ret T k n os) (hi : os[i]? = some (a, .array ty, vs)) (hN : vs.length.toInt32 = N) (hd : decode bytes pc = .ok (.arraylength, 1)) (K : Go p e below G (T.setTop (mkF m (pc + 1) ls (.int N :: st)))) : Go p e below G (T.setTop (mkF m pc ls (.ref a :: st))) := by
  obtain ⟨H0, locs, X, hL, hI⟩ := W
  have O : Oat F Z T.heap a (.array ty) vs := hI.2.1.get hi
  obtain ⟨E, -, cl, Ar, S⟩ := O
  have q2 : cl.slots.size.toInt32 = N := by rw [S, ← hN]; simp
  subst q2
  exact K.by fun t q => X.arraylength H0.1 Ar.1 (State.isArrayOf_alike H0.2.1.alike Ar.2.1) (g := mkF m pc ls (.ref a :: st)) rfl rfl (hb H0.2.2.1 hd) t q
theorem Oat.put {h h' : Heap} {a : Addr} {ty : FieldType} {vs : List Value} {cl : Cell} {v : Value} {j : Nat} (O : Oat F Z h a (.array ty) vs) (Ar : Arr Z h a cl ty) (S : cl.slots = vs.toArray) (hf : fits ty v = true) (Wr' : Wr h h' a j v) : Oat F Z h' a (.array ty) (vs.set j v) := by
  obtain ⟨E, f, -⟩ := O
  refine ⟨E.wr Wr', fun u hu => ?_, cl.setSlot j v, Ar.same Wr', by simp [Cell.setSlot, S]⟩
  rcases List.mem_or_eq_of_mem_set hu with q | q
  · exact f u q
  · rw [q]; exact hf
theorem g_iastore {i : Nat} {a : Addr} {z : Int32} {x : Int32} {vs : List Value} {os' : List Ob} (j : Nat) (W : Here p l e R s m args below meth c Z F B h0 A y bytes mL ret T k n os) (hi : os[i]? = some (a, .array .int, vs)) (hz : ¬ z < 0) (hj : z.toNatClampNeg = j) (hlt : j < vs.length) (ho : os.set i (a, .array .int, vs.set j (.int x)) = os')
    (hd : decode bytes pc = .ok (.iastore, 1)) (K : ∀ T', Here p l e R s m args below meth c Z F B h0 A y bytes mL ret T' k n os' → Go p e below G (T'.setTop (mkF m (pc + 1) ls (st)))) : Go p e below G (T.setTop (mkF m pc ls (.int x :: .int z :: .ref a :: st))) := by
  obtain ⟨H0, locs, X, hL, hI⟩ := W
  have O : Oat F Z T.heap a (.array .int) vs := hI.2.1.get hi
  obtain ⟨E, -, cl, Ar, S⟩ := id O
  have hin : ¬ (z < 0 ∨ cl.slots.size ≤ z.toNatClampNeg) := fun q => q.elim hz fun q => by rw [S] at q; simp at q; omega
  obtain ⟨T', h', X', e', Wr', stp⟩ := stI X H0.1 H0.2.1 rfl Ar (j := z) hin (g := mkF m pc ls (.int x :: .int z :: .ref a :: st)) rfl rfl (hb H0.2.2.1 hd)
  subst hj
  refine (K T' ⟨H0, _, X', ⟨fun z hz => ?_, hL.2⟩, ?_⟩).by stp
  · rcases List.mem_append.mp hz with q | q
    · exact hL.1 z q
    · cases List.mem_singleton.mp q; exact (hI.mem hi).ge hL.2.1 hL.2.2
  · rw [e', ← ho]
    exact hI.set hi (Keep.of_wr Wr') (O.put Ar S rfl Wr')
theorem g_lastore {i : Nat} {a : Addr} {z : Int32} {x : Int64} {vs : List Value} {os' : List Ob} (j : Nat) (W : Here p l e R s m args below meth c Z F B h0 A y bytes mL ret T k n os) (hi : os[i]? = some (a, .array .long, vs)) (hz : ¬ z < 0) (hj : z.toNatClampNeg = j) (hlt : j < vs.length) (ho : os.set i (a, .array .long, vs.set j (.long x)) = os')
    (hd : decode bytes pc = .ok (.lastore, 1)) (K : ∀ T', Here p l e R s m args below meth c Z F B h0 A y bytes mL ret T' k n os' → Go p e below G (T'.setTop (mkF m (pc + 1) ls (st)))) : Go p e below G (T.setTop (mkF m pc ls (.long x :: .int z :: .ref a :: st))) := by
  obtain ⟨H0, locs, X, hL, hI⟩ := W
  have O : Oat F Z T.heap a (.array .long) vs := hI.2.1.get hi
  obtain ⟨E, -, cl, Ar, S⟩ := id O
  have hin : ¬ (z < 0 ∨ cl.slots.size ≤ z.toNatClampNeg) := fun q => q.elim hz fun q => by rw [S] at q; simp at q; omega
  obtain ⟨T', h', X', e', Wr', stp⟩ := stJ X H0.1 H0.2.1 rfl Ar (j := z) hin (g := mkF m pc ls (.long x :: .int z :: .ref a :: st)) rfl rfl (hb H0.2.2.1 hd)
  subst hj
  refine (K T' ⟨H0, _, X', ⟨fun z hz => ?_, hL.2⟩, ?_⟩).by stp
  · rcases List.mem_append.mp hz with q | q
    · exact hL.1 z q
    · cases List.mem_singleton.mp q; exact (hI.mem hi).ge hL.2.1 hL.2.2
  · rw [e', ← ho]
    exact hI.set hi (Keep.of_wr Wr') (O.put Ar S rfl Wr')
theorem g_bastore {i : Nat} {a : Addr} {z : Int32} {x : Int32} {x' : Int32} (hx' : x.toInt8.toInt32 = x') {vs : List Value} {os' : List Ob} (j : Nat) (W : Here p l e R s m args below meth c Z F B h0 A y bytes mL ret T k n os) (hi : os[i]? = some (a, .array .byte, vs)) (hz : ¬ z < 0) (hj : z.toNatClampNeg = j) (hlt : j < vs.length) (ho : os.set i (a, .array .byte, vs.set j (.int x')) = os')
    (hd : decode bytes pc = .ok (.bastore, 1)) (K : ∀ T', Here p l e R s m args below meth c Z F B h0 A y bytes mL ret T' k n os' → Go p e below G (T'.setTop (mkF m (pc + 1) ls (st)))) : Go p e below G (T.setTop (mkF m pc ls (.int x :: .int z :: .ref a :: st))) := by
  obtain ⟨H0, locs, X, hL, hI⟩ := W
  have O : Oat F Z T.heap a (.array .byte) vs := hI.2.1.get hi
  obtain ⟨E, -, cl, Ar, S⟩ := id O
  have hin : ¬ (z < 0 ∨ cl.slots.size ≤ z.toNatClampNeg) := fun q => q.elim hz fun q => by rw [S] at q; simp at q; omega
  obtain ⟨T', h', X', e', Wr', stp⟩ := stB X H0.1 H0.2.1 rfl Ar (j := z) hin (g := mkF m pc ls (.int x :: .int z :: .ref a :: st)) rfl rfl (hb H0.2.2.1 hd)
  subst hj
  subst hx'
  refine (K T' ⟨H0, _, X', ⟨fun z hz => ?_, hL.2⟩, ?_⟩).by stp
  · rcases List.mem_append.mp hz with q | q
    · exact hL.1 z q
    · cases List.mem_singleton.mp q; exact (hI.mem hi).ge hL.2.1 hL.2.2
  · rw [e', ← ho]
    exact hI.set hi (Keep.of_wr Wr') (O.put Ar S (fits_nar_byte x) Wr')
theorem g_zastore {i : Nat} {a : Addr} {z : Int32} {x : Int32} {x' : Int32} (hx' : x &&& 1 = x') {vs : List Value} {os' : List Ob} (j : Nat) (W : Here p l e R s m args below meth c Z F B h0 A y bytes mL ret T k n os) (hi : os[i]? = some (a, .array .boolean, vs)) (hz : ¬ z < 0) (hj : z.toNatClampNeg = j) (hlt : j < vs.length) (ho : os.set i (a, .array .boolean, vs.set j (.int x')) = os')
    (hd : decode bytes pc = .ok (.bastore, 1)) (K : ∀ T', Here p l e R s m args below meth c Z F B h0 A y bytes mL ret T' k n os' → Go p e below G (T'.setTop (mkF m (pc + 1) ls (st)))) : Go p e below G (T.setTop (mkF m pc ls (.int x :: .int z :: .ref a :: st))) := by
  obtain ⟨H0, locs, X, hL, hI⟩ := W
  have O : Oat F Z T.heap a (.array .boolean) vs := hI.2.1.get hi
  obtain ⟨E, -, cl, Ar, S⟩ := id O
  have hin : ¬ (z < 0 ∨ cl.slots.size ≤ z.toNatClampNeg) := fun q => q.elim hz fun q => by rw [S] at q; simp at q; omega
  obtain ⟨T', h', X', e', Wr', stp⟩ := stZ X H0.1 H0.2.1 rfl Ar (j := z) hin (g := mkF m pc ls (.int x :: .int z :: .ref a :: st)) rfl rfl (hb H0.2.2.1 hd)
  subst hj
  subst hx'
  refine (K T' ⟨H0, _, X', ⟨fun z hz => ?_, hL.2⟩, ?_⟩).by stp
  · rcases List.mem_append.mp hz with q | q
    · exact hL.1 z q
    · cases List.mem_singleton.mp q; exact (hI.mem hi).ge hL.2.1 hL.2.2
  · rw [e', ← ho]
    exact hI.set hi (Keep.of_wr Wr') (O.put Ar S (fits_nar_bool x) Wr')
/-- os is loc and rst, in another order -/
def Spl (os loc rst : List Ob) : Prop := ∃ pm : List Nat, pm.Nodup ∧ (loc ++ rst).map some = pm.map (fun i => os[i]?)
theorem Spl.none : Spl os [] os := ⟨List.range os.length, List.nodup_range, by
  refine List.ext_getElem? fun i => ?_
  simp only [List.nil_append, List.getElem?_map]
  by_cases h : i < os.length
  · simp [h]
  · simp [h]⟩
theorem Spl.all : Spl os os [] := by obtain ⟨pm, h1, h2⟩ := Spl.none (os := os); exact ⟨pm, h1, by simpa using h2⟩
theorem Spl.mem {loc rst : List Ob} (S : Spl os loc rst) {o : Ob} (ho : o ∈ loc ++ rst) : o ∈ os := by
  obtain ⟨pm, -, h2⟩ := S
  have q : some o ∈ pm.map (fun i => os[i]?) := h2 ▸ List.mem_map.mpr ⟨o, ho, rfl⟩
  obtain ⟨i, -, hi⟩ := List.mem_map.mp q
  exact List.mem_of_getElem? hi
theorem Spl.nodup {loc rst : List Ob} (S : Spl os loc rst) (hn : (os.map (·.1)).Nodup) : ((loc ++ rst).map (·.1)).Nodup := by
  obtain ⟨pm, h1, h2⟩ := S
  generalize loc ++ rst = L at h2
  have key : ∀ i, (L[i]?).map some = (pm[i]?).map (fun j => os[j]?) := fun i => by rw [← List.getElem?_map, h2, List.getElem?_map]
  have key2 : ∀ i o, L[i]? = some o → ∃ j, pm[i]? = some j ∧ os[j]? = some o := fun i o ho => by
    have q := key i
    rw [ho] at q
    cases hp : pm[i]? with
    | none => simp [hp] at q
    | some j => simp [hp] at q; exact ⟨j, hp, q.symm⟩
  rw [List.nodup_iff_pairwise_ne, List.pairwise_iff_getElem]
  intro i j hi hj hij e
  simp only [List.length_map] at hi hj
  obtain ⟨oj, hoj⟩ : ∃ o, L[j]? = some o := ⟨L[j], List.getElem?_eq_getElem hj⟩
  obtain ⟨oi, hoi⟩ : ∃ o, L[i]? = some o := ⟨L[i], List.getElem?_eq_getElem hi⟩
  have e : oi.1 = oj.1 := by
    simp only [List.getElem_map] at e
    rw [List.getElem?_eq_getElem hi] at hoi
    rw [List.getElem?_eq_getElem hj] at hoj
    rw [← Option.some.inj hoi, ← Option.some.inj hoj]; exact e
  obtain ⟨i', p1, q1⟩ := key2 i oi hoi
  obtain ⟨j', p2, q2⟩ := key2 j oj hoj
  have e2 := nodup_at hn (i := i') (j := j') (a := oi.1) (by rw [List.getElem?_map, q1]; rfl) (by rw [List.getElem?_map, q2, e]; rfl)
  subst e2
  obtain ⟨u1, u2⟩ := List.getElem?_eq_some_iff.mp p1
  obtain ⟨u3, u4⟩ := List.getElem?_eq_some_iff.mp p2
  exact absurd ((List.getElem_inj h1).mp (u2.trans u4.symm)) (Nat.ne_of_lt hij)
theorem Spl.loc {loc rst : List Ob} {h : Heap} (S : Spl os loc rst) (H : Hp F Z h os) : Hp F Z h loc :=
  ⟨by have q := S.nodup H.1; rw [List.map_append] at q; exact (List.nodup_append.mp q).1, fun o ho => H.2 o (S.mem (List.mem_append_left _ ho))⟩
theorem Spl.after {loc rst os' : List Ob} {h h' : Heap} (S : Spl os loc rst) (I : Hin F Z h0 A h os) (I' : Hin F Z h (loc.map (·.1)) h' os') : Hin F Z h0 A h' (os' ++ rst) := by
  have nd := S.nodup I.2.1.1
  rw [List.map_append] at nd
  obtain ⟨n1, n2, n3⟩ := List.nodup_append.mp nd
  have hloc : ∀ x ∈ loc.map (·.1), Okk A h0.size x := fun x hx => by
    obtain ⟨o, ho, rfl⟩ := List.mem_map.mp hx
    exact I.2.2 o (S.mem (List.mem_append_left _ ho))
  refine ⟨I.1.trans I'.1 hloc, ⟨?_, fun o ho => ?_⟩, fun o ho => ?_⟩
  · rw [List.map_append, List.nodup_append]
    refine ⟨I'.2.1.1, n2, fun a ha b hb e => ?_⟩
    subst e
    obtain ⟨o, ho, rfl⟩ := List.mem_map.mp ha
    rcases I'.2.2 o ho with q | q
    · exact n3 _ q _ hb rfl
    · obtain ⟨o2, ho2, e2⟩ := List.mem_map.mp hb
      have := (I.2.1.2 o2 (S.mem (List.mem_append_right _ ho2))).lt
      rw [e2] at this
      exact absurd this (Nat.not_lt.mpr q)
  · rcases List.mem_append.mp ho with q | q
    · exact I'.2.1.2 o q
    · exact (I.2.1.2 o (S.mem (List.mem_append_right _ q))).keep I'.1 (fun z => n3 _ z _ (List.mem_map.mpr ⟨o, q, rfl⟩) rfl)
  · rcases List.mem_append.mp ho with q | q
    · rcases I'.2.2 o q with z | z
      · exact hloc _ z
      · exact Or.inr (Nat.le_trans I.1.1 z)
    · exact I.2.2 o (S.mem (List.mem_append_right _ q))
theorem Spl.locs {locs L : List Loc} (hL : (∀ y ∈ locs, B ≤ y.base) ∧ (∀ a ∈ A, B ≤ a) ∧ B ≤ h0.size) (hL' : ∀ y ∈ L, B ≤ y.base) : (∀ y ∈ locs ++ L, B ≤ y.base) ∧ (∀ a ∈ A, B ≤ a) ∧ B ≤ h0.size :=
  ⟨fun y hy => (List.mem_append.mp hy).elim (hL.1 y) (hL' y), hL.2⟩
theorem Spl.ge {loc rst : List Ob} {h : Heap} {locs : List Loc} (S : Spl os loc rst) (I : Hin F Z h0 A h os) (hL : (∀ y ∈ locs, B ≤ y.base) ∧ (∀ a ∈ A, B ≤ a) ∧ B ≤ h0.size) : ∀ a ∈ loc.map (·.1), B ≤ a := fun a ha => by
  obtain ⟨o, ho, e⟩ := List.mem_map.mp ha
  rw [← e]; exact (I.2.2 o (S.mem (List.mem_append_left _ ho))).ge hL.2.1 hL.2.2
theorem g_static {index Wt : Nat} {y' : MethodName} {bytes' : ByteArray} {mL' : Nat} {ret' : Option FieldType} {rm : Room} {as : Array Value} {loc rst : List Ob} {P : Option Value → List Ob → Prop} {argsL rest : List Value} {ps : List FieldType} {r : Option FieldType} (W : Here p l e R s m args below meth c Z F B h0 A y bytes mL ret T k n os) (w1 : (Jvm.Cond.methodLink y.cls index y').before a0 Z = true) (w2 : (Jvm.Cond.static y').before a0 Z = true) (w3 : (Jvm.Cond.initialized y'.cls).before a0 Z = true) (w4 : (Jvm.Cond.code y' bytes' mL' ret').before a0 Z = true)
    (hy : y'.cls ≠ "java/lang/invoke/MethodHandle" ∧ y'.cls ≠ "java/lang/invoke/VarHandle") (C : Con l Z F B y' bytes' mL' ret' rm [] as loc P) (S : Spl os loc rst) (has : as = argsL.toArray) (hpd : parseMethodDescriptor y'.desc = some ⟨ps, r⟩) (hpl : argsL.length = ps.length)
    (hst : st = argsL.reverse ++ rest) (hsz : ls.size = mL) (hW : (rest.map fun v => v.category).sum ≤ Wt) (hfr : rm.frames + 1 ≤ R.frames) (hlo : Wt + (mL' + 11) + rm.locals ≤ R.locals) (hc : k + rm.cells ≤ R.cells) (hs : n + rm.slots ≤ R.slots) (hd : decode bytes pc = .ok (.invokestatic index, 3)) (K : ∀ T' v os', P v os' → Here p l e R s m args below meth c Z F B h0 A y bytes mL ret T' (k + rm.cells) (n + rm.slots) (os' ++ rst) → Go p e below G (T'.setTop (mkF m (pc + 3) ls (v.toList ++ rest)))) : Go p e below G (T.setTop (mkF m pc ls st)) := by
  obtain ⟨H0, locs, X, hL, hI⟩ := W
  subst has hst
  obtain ⟨v, _, ⟨T', L', k', n'⟩, -, X', ⟨Lc, hQ, l1, y1, z1⟩, stp⟩ := Jvm.LawKit.callS X H0.1 (y := y') H0.2.2.2.2.1 (mvT H0.2.1 w1) (mvT H0.2.1 w2) (mvT H0.2.1 w3) (mvT H0.2.1 w4) hy (backOf (W := Wt) (C T.heap (S.loc hI.2.1) (S.ge hI hL) (Nat.le_trans hL.2.2 hI.1.1)) H0.2.1 w4 w3 hfr hlo) (g := mkF m pc ls (argsL.reverse ++ rest)) rfl (hsz.trans H0.2.2.2.1.symm) (argsL := argsL) (rest := rest) (lenOf hpd hpl) rfl (by show 2 * 0 + _ ≤ _; omega) (hb H0.2.2.1 hd) (fun _ _ => ⟨rfl, rfl, hc, hs⟩)
  dsimp only [Pt.U, Pt.locs, Pt.cells, Pt.slots] at X' l1 y1 z1 stp hQ
  subst l1 y1 z1
  obtain ⟨hLc, os', hI', hp⟩ := hQ
  exact (K T' v os' hp ⟨H0, _, X', Spl.locs hL hLc, S.after hI hI'⟩).by stp
theorem Go.to {S S' : State} (h : Steps p.tables e below S S') (g : Go p e below G S') : Go p e below G S := by
  obtain ⟨t, h', g⟩ := g; exact ⟨t, h.trans h', g⟩
theorem g_init {index Wt : Nat} {y' : MethodName} {bytes' : ByteArray} {mL' : Nat} {rm : Room} {as : Array Value} {loc rst : List Ob} {P : Option Value → List Ob → Prop} {argsL rest : List Value} {ps : List FieldType} {r : Option FieldType} {a : Addr} (W : Here p l e R s m args below meth c Z F B h0 A y bytes mL ret T k n os) (hy1 : y'.name = "<init>") (w1 : (Jvm.Cond.methodLink y.cls index y').before a0 Z = true) (w2 : (Jvm.Cond.instanceMethod y').before a0 Z = true) (w3 : (Jvm.Cond.initialized y'.cls).before a0 Z = true) (w4 : (Jvm.Cond.code y' bytes' mL' none).before a0 Z = true)
    (hy : y'.cls ≠ "java/lang/invoke/MethodHandle" ∧ y'.cls ≠ "java/lang/invoke/VarHandle") (C : Con l Z F B y' bytes' mL' none rm [] as loc P) (S : Spl os loc rst) (has : as = (.ref a :: argsL).toArray) (hpd : parseMethodDescriptor y'.desc = some ⟨ps, r⟩) (hpl : argsL.length = ps.length)
    (hst : st = argsL.reverse ++ .ref a :: rest) (hsz : ls.size = mL) (hW : (rest.map fun v => v.category).sum ≤ Wt) (hfr : rm.frames + 1 ≤ R.frames) (hlo : Wt + (mL' + 11) + rm.locals ≤ R.locals) (hc : k + rm.cells ≤ R.cells) (hs : n + rm.slots ≤ R.slots) (hd : decode bytes pc = .ok (.invokespecial index, 3)) (K : ∀ T' v os', P v os' → Here p l e R s m args below meth c Z F B h0 A y bytes mL ret T' (k + rm.cells) (n + rm.slots) (os' ++ rst) → Go p e below G (T'.setTop (mkF m (pc + 3) ls (v.toList ++ rest)))) : Go p e below G (T.setTop (mkF m pc ls st)) := by
  obtain ⟨H0, locs, X, hL, hI⟩ := W
  subst has hst
  obtain ⟨v, _, ⟨T', L', k', n'⟩, -, X', ⟨Lc, hQ, l1, y1, z1⟩, stp⟩ := X.specialBack H0.1 (y := y') hy1 H0.2.2.2.2.1 (mvT H0.2.1 w1) (mvT H0.2.1 w2) (mvT H0.2.1 w4) hy (backOf (W := Wt) (C T.heap (S.loc hI.2.1) (S.ge hI hL) (Nat.le_trans hL.2.2 hI.1.1)) H0.2.1 w4 w3 hfr hlo) (g := mkF m pc ls (argsL.reverse ++ .ref a :: rest)) rfl (hsz.trans H0.2.2.2.1.symm) (Steps.refl _) (a := a) (argsL := argsL) (rest := rest) (lenOf hpd hpl) rfl (by show 2 * 0 + _ ≤ _; omega) (hb H0.2.2.1 hd) (fun _ _ => ⟨rfl, rfl, hc, hs⟩)
  dsimp only [Pt.U, Pt.locs, Pt.cells, Pt.slots] at X' l1 y1 z1 stp hQ
  subst l1 y1 z1
  obtain ⟨hLc, os', hI', hp⟩ := hQ
  exact (K T' v os' hp ⟨H0, _, X', Spl.locs hL hLc, S.after hI hI'⟩).to stp
theorem g_virtual {index Wt : Nat} {y' : MethodName} {bytes' : ByteArray} {mL' : Nat} {ret' : Option FieldType} {rm : Room} {as : Array Value} {loc rst : List Ob} {P : Option Value → List Ob → Prop} {argsL rest : List Value} {ps : List FieldType} {r : Option FieldType} {a : Addr} {i : Nat} {vs : List Value} (W : Here p l e R s m args below meth c Z F B h0 A y bytes mL ret T k n os) (w1 : (Jvm.Cond.methodLink y.cls index y').before a0 Z = true) (w2 : (Jvm.Cond.instanceMethod y').before a0 Z = true) (w3 : (Jvm.Cond.initialized y'.cls).before a0 Z = true) (w4 : (Jvm.Cond.code y' bytes' mL' ret').before a0 Z = true)
    (w5 : (Jvm.Cond.declares y').before a0 Z = true) (w6 : (Jvm.Cond.selects y'.cls y' y').before a0 Z = true) (hi : os[i]? = some (a, .object y'.cls, vs))
    (hy : y'.cls ≠ "java/lang/invoke/MethodHandle" ∧ y'.cls ≠ "java/lang/invoke/VarHandle") (C : Con l Z F B y' bytes' mL' ret' rm [] as loc P) (S : Spl os loc rst) (has : as = (.ref a :: argsL).toArray) (hpd : parseMethodDescriptor y'.desc = some ⟨ps, r⟩) (hpl : argsL.length = ps.length)
    (hst : st = argsL.reverse ++ .ref a :: rest) (hsz : ls.size = mL) (hW : (rest.map fun v => v.category).sum ≤ Wt) (hfr : rm.frames + 1 ≤ R.frames) (hlo : Wt + (mL' + 11) + rm.locals ≤ R.locals) (hc : k + rm.cells ≤ R.cells) (hs : n + rm.slots ≤ R.slots) (hd : decode bytes pc = .ok (.invokevirtual index, 3)) (K : ∀ T' v os', P v os' → Here p l e R s m args below meth c Z F B h0 A y bytes mL ret T' (k + rm.cells) (n + rm.slots) (os' ++ rst) → Go p e below G (T'.setTop (mkF m (pc + 3) ls (v.toList ++ rest)))) : Go p e below G (T.setTop (mkF m pc ls st)) := by
  obtain ⟨H0, locs, X, hL, hI⟩ := W
  subst has hst
  have O : Oat F Z T.heap a (.object y'.cls) vs := hI.2.1.get hi
  obtain ⟨cq, kq, qa, qb, qc⟩ := isOf H0.2.1 rfl O.1
  obtain ⟨v, _, ⟨T', L', k', n'⟩, -, X', ⟨Lc, hQ, l1, y1, z1⟩, stp⟩ := X.virtualBack H0.1 (y := y') (z := y') H0.2.2.2.2.1 (mvT H0.2.1 w1) (mvT H0.2.1 w5) (notFace_of_selects (args := #[]) (mvT H0.2.1 w6)) (mvT H0.2.1 w6) (mvT H0.2.1 w2) hy (backOf (W := Wt) (C T.heap (S.loc hI.2.1) (S.ge hI hL) (Nat.le_trans hL.2.2 hI.1.1)) H0.2.1 w4 w3 hfr hlo) qa qc (g := mkF m pc ls (argsL.reverse ++ .ref a :: rest)) rfl (hsz.trans H0.2.2.2.1.symm) (Steps.refl _) (argsL := argsL) (rest := rest) (lenOf hpd hpl) rfl (by show 2 * 0 + _ ≤ _; omega) (hb H0.2.2.1 hd) (fun _ _ => ⟨rfl, rfl, hc, hs⟩)
  dsimp only [Pt.U, Pt.locs, Pt.cells, Pt.slots] at X' l1 y1 z1 stp hQ
  subst l1 y1 z1
  obtain ⟨hLc, os', hI', hp⟩ := hQ
  exact (K T' v os' hp ⟨H0, _, X', Spl.locs hL hLc, S.after hI hI'⟩).to stp
theorem g_object {index : Nat} {a : Addr} (Wt : Nat) (W : Here p l e R s m args below meth c Z F B h0 A y bytes mL ret T k n os) (w1 : (Jvm.Cond.methodLink y.cls index Lib.objectInit).before a0 Z = true) (w2 : (Jvm.Cond.instanceMethod Lib.objectInit).before a0 Z = true) (w3 : (Jvm.Cond.code Lib.objectInit ⟨#[0xb1]⟩ 1 none).before a0 Z = true)
    (hsz : ls.size = mL) (hW : (st.map fun v => v.category).sum ≤ Wt) (hfr : 1 ≤ R.frames) (hlo : Wt + 12 ≤ R.locals) (hd : decode bytes pc = .ok (.invokespecial index, 3)) (K : ∀ T', Here p l e R s m args below meth c Z F B h0 A y bytes mL ret T' k n os → Go p e below G (T'.setTop (mkF m (pc + 3) ls (st)))) : Go p e below G (T.setTop (mkF m pc ls (.ref a :: st))) := by
  obtain ⟨H0, locs, X, hL, hI⟩ := W
  obtain ⟨T', X', e', stp⟩ := initO X H0.1 H0.2.1 H0.2.2.2.2.1 w1 w2 w3 rfl (g := mkF m pc ls (.ref a :: st)) rfl (hsz.trans H0.2.2.2.1.symm) rfl (hb H0.2.2.1 hd) hfr (W := Wt) (by show 2 * 0 + _ ≤ _; omega) hlo
  exact (K T' ⟨H0, locs, X', hL, by rw [e']; exact hI⟩).by stp
theorem g_clone {index i Wt : Nat} {a : Addr} {ty : FieldType} {vs : List Value} {ad : String} (cap : Nat) (W : Here p l e R s m args below meth c Z F B h0 A y bytes mL ret T k n os) (w1 : (Jvm.Cond.methodLink y.cls index ⟨ad, "clone", "()Ljava/lang/Object;"⟩).before a0 Z = true) (w2 : (Jvm.Cond.sameMethod ad "java/lang/Object" "clone" "()Ljava/lang/Object;").before a0 Z = true) (w3 : (Jvm.Cond.native ⟨"java/lang/Object", "clone", "()Ljava/lang/Object;"⟩).before a0 Z = true)
    (w4 : (Jvm.Cond.instanceMethod ⟨"java/lang/Object", "clone", "()Ljava/lang/Object;"⟩).before a0 Z = true) (w5 : (Jvm.Cond.selects ad ⟨ad, "clone", "()Ljava/lang/Object;"⟩ ⟨"java/lang/Object", "clone", "()Ljava/lang/Object;"⟩).before a0 Z = true) (w6 : (Jvm.Cond.castable ad "java/lang/Cloneable").before a0 Z = true)
    (had : "[" ++ ty.toString = ad) (hi : os[i]? = some (a, .array ty, vs)) (hsz : ls.size = mL) (hW : (st.map fun v => v.category).sum ≤ Wt) (hfr : 1 ≤ R.frames) (hlo : Wt + 14 ≤ R.locals) (hcap : vs.length ≤ cap) (hc : k + 1 ≤ R.cells) (hs : n + cap ≤ R.slots) (hd : decode bytes pc = .ok (.invokevirtual index, 3))
    (K : ∀ T' b, Here p l e R s m args below meth c Z F B h0 A y bytes mL ret T' (k + 1) (n + cap) (os ++ [(b, .array ty, vs)]) → Go p e below G (T'.setTop (mkF m (pc + 3) ls (.ref b :: st)))) : Go p e below G (T.setTop (mkF m pc ls (.ref a :: st))) := by
  obtain ⟨H0, locs, X, hL, hI⟩ := W
  subst had
  have O : Oat F Z T.heap a (.array ty) vs := hI.2.1.get hi
  obtain ⟨E, f, cl, Ar, S⟩ := O
  have FC : FitC Z cl := fitC_of Ar fun i hi v hv => f v (by rw [S] at hv; exact List.mem_of_getElem? (by simpa using hv))
  obtain ⟨T', h', X', e', E', A', Ex, stp⟩ := cloneA X H0.1 H0.2.1 H0.2.2.2.2.1 w1 w2 w3 w4 w5 w6 rfl Ar E FC (g := mkF m pc ls (.ref a :: st)) rfl (hsz.trans H0.2.2.2.1.symm) rfl (hb H0.2.2.1 hd) hfr (W := Wt) (cap := cap) (by show 2 * 0 + _ ≤ _; omega) hlo (by rw [S]; simpa using hcap) hc hs
  refine (K T' T.heap.size ⟨H0, locs, X', hL, ?_⟩).by stp
  rw [e']
  exact hI.push E' ⟨Ex, f, _, A', S⟩
theorem g_castarr {index i : Nat} {a : Addr} {ty : FieldType} {vs : List Value} {ad : String} (W : Here p l e R s m args below meth c Z F B h0 A y bytes mL ret T k n os) (w : (Jvm.Cond.classLink y.cls index ad).before a0 Z = true) (had : "[" ++ ty.toString = ad) (hi : os[i]? = some (a, .array ty, vs)) (hd : decode bytes pc = .ok (.checkcast index, 3)) (K : ∀ T', Here p l e R s m args below meth c Z F B h0 A y bytes mL ret T' k n os → Go p e below G (T'.setTop (mkF m (pc + 3) ls (.ref a :: st)))) : Go p e below G (T.setTop (mkF m pc ls (.ref a :: st))) := by
  obtain ⟨H0, locs, X, hL, hI⟩ := W
  subst had
  have O : Oat F Z T.heap a (.array ty) vs := hI.2.1.get hi
  obtain ⟨T', X', e', stp⟩ := castY X H0.1 H0.2.1 H0.2.2.2.2.1 w rfl (Ins.self O.1) (g := mkF m pc ls (.ref a :: st)) rfl rfl (hb H0.2.2.1 hd)
  exact (K T' ⟨H0, locs, X', hL, by rw [e']; exact hI⟩).by stp
theorem Oat.arv {h : Heap} {a : Addr} {ty : FieldType} {vs : List Value} (O : Oat F Z h a (.array ty) vs) (hl : vs.length < 2 ^ 31) (d : Value) : ∃ kk, Arv Z h a kk ty vs.length.toInt32 vs d := by
  obtain ⟨E, f, cl, Ar, S⟩ := O
  have e1 : vs.length.toInt32.toInt = vs.length := len_toInt hl
  have e2 : vs.length.toInt32.toNatClampNeg = vs.length := by simp only [Int32.toNatClampNeg, e1]; omega
  have sz : cl.slots.size = vs.length := by rw [S]; simp
  have gd : ∀ i, i < vs.length → vs.getD i d = vs.getD i d ∧ vs[i]? = some (vs.getD i d) := fun i hi => ⟨rfl, by simp [List.getD_eq_getElem?_getD, List.getElem?_eq_getElem hi]⟩
  refine ⟨cl.cls, cl, Ar, rfl, by rw [e2, sz], by rw [Int32.lt_iff_toInt_lt, e1]; simp only [Int32.reduceToInt]; omega, fun i hi => ?_, fun i hi => ?_⟩
  · rw [S]; simpa using (gd i (sz ▸ hi)).2
  · exact f _ (List.mem_of_getElem? (gd i (sz ▸ hi)).2)
theorem Oat.of_arv {h h' : Heap} {a : Addr} {ty : FieldType} {vs vs' : List Value} {kk : ClassId} {z : Int32} {d : Value} (O : Oat F Z h a (.array ty) vs) {ws : List Addr} (K : Keep h h' ws) (V : Arv Z h' a kk ty z vs' d) (hz : z.toNatClampNeg = vs'.length) : Oat F Z h' a (.array ty) vs' := by
  obtain ⟨E, f, -⟩ := O
  obtain ⟨cl, Ar, -, S, -, H, G⟩ := V
  have key : ∀ i, i < vs'.length → vs'[i]? = some (vs'.getD i d) := fun i hi => by simp [List.getD_eq_getElem?_getD, List.getElem?_eq_getElem hi]
  refine ⟨E.keep K, fun v hv => ?_, cl, Ar, ?_⟩
  · obtain ⟨i, hi⟩ := List.mem_iff_getElem?.mp hv
    have hlt := (List.getElem?_eq_some_iff.mp hi).1
    have q := G i (by rw [S, hz]; exact hlt)
    rw [key i hlt] at hi
    rw [← Option.some.inj hi]; exact q
  · refine Array.ext_getElem? fun i => ?_
    by_cases hi : i < vs'.length
    · rw [H i (by rw [S, hz]; exact hi)]; simpa using (key i hi).symm
    · rw [Array.getElem?_eq_none (by rw [S, hz]; omega), Array.getElem?_eq_none (by simpa using hi)]
theorem g_arraycopy {index i j Wt : Nat} {a b : Addr} {ty : FieldType} {vs vd vd' : List Value} {sp dp nn : Int32} {os' : List Ob} (W : Here p l e R s m args below meth c Z F B h0 A y bytes mL ret T k n os) (w1 : (Jvm.Cond.methodLink y.cls index Jvm.Stand.acN).before a0 Z = true) (w2 : (Jvm.Cond.native Jvm.Stand.acN).before a0 Z = true) (w3 : (Jvm.Cond.static Jvm.Stand.acN).before a0 Z = true) (w4 : (Jvm.Cond.initialized "java/lang/System").before a0 Z = true)
    (hi : os[i]? = some (a, .array ty, vs)) (hj : os[j]? = some (b, .array ty, vd)) (hr : refKind ty = false) (h1 : ¬ sp < 0) (h2 : ¬ dp < 0) (h3 : ¬ nn < 0) (l1 : vs.length < 2 ^ 31) (l2 : vd.length < 2 ^ 31) (h4 : sp.toNatClampNeg + nn.toNatClampNeg ≤ vs.length) (h5 : dp.toNatClampNeg + nn.toNatClampNeg ≤ vd.length)
    (hv : vd.take dp.toNatClampNeg ++ ((List.range nn.toNatClampNeg).map fun i => vs.getD (sp.toNatClampNeg + i) .null) ++ vd.drop (dp.toNatClampNeg + nn.toNatClampNeg) = vd') (ho : os.set j (b, .array ty, vd') = os')
    (hsz : ls.size = mL) (hW : (st.map fun v => v.category).sum ≤ Wt) (hfr : 1 ≤ R.frames) (hlo : Wt + (nativeFrameWords "java/lang/System" "arraycopy" 5 + 11) ≤ R.locals) (hd : decode bytes pc = .ok (.invokestatic index, 3)) (K : ∀ T', Here p l e R s m args below meth c Z F B h0 A y bytes mL ret T' k n os' → Go p e below G (T'.setTop (mkF m (pc + 3) ls (st)))) : Go p e below G (T.setTop (mkF m pc ls (.int nn :: .int dp :: .ref b :: .int sp :: .ref a :: st))) := by
  obtain ⟨H0, locs, X, hL, hI⟩ := W
  have Oa : Oat F Z T.heap a (.array ty) vs := hI.2.1.get hi
  have Ob' : Oat F Z T.heap b (.array ty) vd := hI.2.1.get hj
  obtain ⟨ka, Va⟩ := Oa.arv l1 .null
  obtain ⟨kb, Vb⟩ := Ob'.arv l2 .null
  have ez : ∀ (L : List Value), L.length < 2 ^ 31 → L.length.toInt32.toNatClampNeg = L.length := fun L hl => by
    have e1 : L.length.toInt32.toInt = L.length := len_toInt hl
    simp only [Int32.toNatClampNeg, e1]; omega
  obtain ⟨T', h', L', X', e', N', Kp, V', stp⟩ := cpA X H0.1 H0.2.1 H0.2.2.2.2.1 w1 w2 w3 w4 rfl Va Vb (Or.inl ⟨rfl, hr⟩) h1 h2 h3 (by rw [ez _ l1]; exact h4) (by rw [ez _ l2]; exact h5) rfl h5 (n0 := B) hL.1 ((hI.mem hj).ge hL.2.1 hL.2.2) (g := mkF m pc ls (.int nn :: .int dp :: .ref b :: .int sp :: .ref a :: st)) rfl (hsz.trans H0.2.2.2.1.symm) rfl (hb H0.2.2.1 hd) hfr (W := Wt) (by show 2 * 0 + _ ≤ _; omega) hlo
  refine (K T' ⟨H0, L', X', ⟨N', hL.2⟩, ?_⟩).by stp
  rw [e', ← ho]
  rw [hv] at V'
  refine hI.set hj Kp (Ob'.of_arv Kp V' ?_)
  rw [ez _ l2, ← hv]
  simp only [List.length_append, List.length_take, List.length_map, List.length_range, List.length_drop]
  omega
/-- the end: what a law's own contract gives -/
theorem Con.frame {y : MethodName} {as : Array Value} {P : Option Value → List Ob → Prop} {rm : Room} {h : Heap} {v : Option Value} {hh : Heap} {L : List Loc} (Q : Qc F Z B [] h P v hh L) : ∀ y ∈ L, B ≤ y.base := Q.1
end Own
def FM : Fm := fun c => if c = "com/example/metanode/metanode/graph/IntPairs" then [("ends", "[I"), ("count", "I")] else []
theorem cls_IntPairs {Z : State} {a0 : Array Value} (hw : ∀ d ∈ tables_1, d.before a0 Z = true) : Cls Z a0 FM "com/example/metanode/metanode/graph/IntPairs" := by
  have e : FM "com/example/metanode/metanode/graph/IntPairs" = [("ends", "[I"), ("count", "I")] := by decide
  refine ⟨fun x hx => ?_, by rw [e]; decide⟩
  rw [e] at hx
  simp only [List.mem_cons, List.not_mem_nil, or_false] at hx
  rcases hx with rfl | rfl
  · exact ⟨Or.inl (hw _ (List.mem_of_getElem? (i := 11) rfl)), (.array .int), by decide⟩
  · exact ⟨Or.inl (hw _ (List.mem_of_getElem? (i := 18) rfl)), .int, by decide⟩
theorem pd___I : parseMethodDescriptor "()I" = some ⟨[], some .int⟩ := by decide +kernel
theorem pd___V : parseMethodDescriptor "()V" = some ⟨[], none⟩ := by decide +kernel
theorem pd_I__I : parseMethodDescriptor "(I)I" = some ⟨[.int], some .int⟩ := by decide +kernel
theorem pd_II__I : parseMethodDescriptor "(II)I" = some ⟨[.int, .int], some .int⟩ := by decide +kernel
theorem pd_II__Z : parseMethodDescriptor "(II)Z" = some ⟨[.int, .int], some .boolean⟩ := by decide +kernel
theorem pd_IIIIII__Z : parseMethodDescriptor "(IIIIII)Z" = some ⟨[.int, .int, .int, .int, .int, .int], some .boolean⟩ := by decide +kernel
theorem pd_AII__AI : parseMethodDescriptor "([II)[I" = some ⟨[(.array .int), .int], some (.array .int)⟩ := by decide +kernel
theorem d_init_0 : decode prog_22_method_1_code 0 = .ok (.aload_n 0, 1) := by decide +kernel
theorem d_init_1 : decode prog_22_method_1_code 1 = .ok (.invokespecial 3, 3) := by decide +kernel
theorem d_init_4 : decode prog_22_method_1_code 4 = .ok (.aload_n 0, 1) := by decide +kernel
theorem d_init_5 : decode prog_22_method_1_code 5 = .ok (.bipush 64, 2) := by decide +kernel
theorem d_init_7 : decode prog_22_method_1_code 7 = .ok (.newarray .int, 2) := by decide +kernel
theorem d_init_9 : decode prog_22_method_1_code 9 = .ok (.putfield 9, 3) := by decide +kernel
theorem d_init_12 : decode prog_22_method_1_code 12 = .ok (.return_, 1) := by decide +kernel
set_option maxRecDepth 65536 in
set_option maxHeartbeats 40000000 in
theorem c_init (l : Launch) (Z : State) (a0 : Array Value) (hw : ∀ d ∈ tables_1, d.before a0 Z = true) {B : Nat} (a0' : Addr) :
    Con l Z FM B (⟨"com/example/metanode/metanode/graph/IntPairs", "<init>", "()V"⟩ : MethodName) prog_22_method_1_code 1 none ({ frames := 1, cells := 1, slots := 64, locals := 12 } : Room) [] #[.ref a0'] [(a0', (.object "com/example/metanode/metanode/graph/IntPairs"), [.null, .int (0 : Int32)])] (fun v os => v = none ∧ ∃ b, os = [(a0', .object "com/example/metanode/metanode/graph/IntPairs", [.ref b, .int 0]), (b, .array .int, List.replicate 64 (.int 0))]) := by
  refine Con.of (plainFor_of_name (by first | (simp [plainName, overriddenIn]; done) | decide +kernel)) (ls := #[.val (.ref a0')]) (fun m => by first | (simp [entryFrame, mkF, argsToLocals, Value.category]; done) | rfl) ?_
  intro p_ e_ h_ s_ m_ bl_ me_ c_ T0 W0
  refine g_aload_n (pc := 0) W0 d_init_0 rfl rfl ?_
  refine g_object (pc := 1) 0 W0 (hw _ (List.mem_of_getElem? (i := 6) rfl)) (hw _ (List.mem_of_getElem? (i := 7) rfl)) (hw _ (List.mem_of_getElem? (i := 8) rfl)) rfl (Nat.le_of_ble_eq_true rfl) (by decide) (by decide) d_init_1 (fun T1 W2 => ?_)
  refine g_aload_n (pc := 4) W2 d_init_4 rfl rfl ?_
  refine g_bipush (pc := 5) (64 : Int32) (by decide) W2 d_init_5 ?_
  refine g_newarray (pc := 7) (ty := .int) (vs := (List.replicate 64 (.int (0 : Int32)))) 64 W2 (hw _ (List.mem_of_getElem? (i := 9) rfl)) rfl (by decide) (by decide) (by decide) rfl d_init_7 (by decide) (by decide) (fun T4 b3 W5 => ?_)
  have W6 := W5.re (os' := [(a0', (.object "com/example/metanode/metanode/graph/IntPairs"), [.null, .int (0 : Int32)]), (b3, (.array .int), (List.replicate 64 (.int (0 : Int32))))]) rfl
  refine g_putfield (pc := 9) (i := 0) (j := 0) (ty := (.array .int)) (os' := [(a0', (.object "com/example/metanode/metanode/graph/IntPairs"), [.ref b3, .int (0 : Int32)]), (b3, (.array .int), (List.replicate 64 (.int (0 : Int32))))]) (host := "") W6 (Or.inl (hw _ (List.mem_of_getElem? (i := 10) rfl))) (cls_IntPairs hw) (Or.inl (hw _ (List.mem_of_getElem? (i := 11) rfl))) (hw _ (List.mem_of_getElem? (i := 1) rfl)) rfl rfl rfl (by decide) rfl rfl rfl d_init_9 (fun T7 W8 => ?_)
  exact g_return (pc := 12) rfl W8 d_init_12 (by decide) (by decide) ⟨rfl, b3, rfl⟩
theorem d_add_0 : decode prog_22_method_3_code 0 = .ok (.iconst 2, 1) := by decide +kernel
theorem d_add_1 : decode prog_22_method_3_code 1 = .ok (.aload_n 0, 1) := by decide +kernel
theorem d_add_2 : decode prog_22_method_3_code 2 = .ok (.getfield 15, 3) := by decide +kernel
theorem d_add_5 : decode prog_22_method_3_code 5 = .ok (.imul, 1) := by decide +kernel
theorem d_add_6 : decode prog_22_method_3_code 6 = .ok (.aload_n 0, 1) := by decide +kernel
theorem d_add_7 : decode prog_22_method_3_code 7 = .ok (.getfield 9, 3) := by decide +kernel
theorem d_add_10 : decode prog_22_method_3_code 10 = .ok (.arraylength, 1) := by decide +kernel
theorem d_add_11 : decode prog_22_method_3_code 11 = .ok (.if_icmp .ne 42, 3) := by decide +kernel
theorem d_add_53 : decode prog_22_method_3_code 53 = .ok (.aload_n 0, 1) := by decide +kernel
theorem d_add_54 : decode prog_22_method_3_code 54 = .ok (.getfield 9, 3) := by decide +kernel
theorem d_add_57 : decode prog_22_method_3_code 57 = .ok (.iconst 2, 1) := by decide +kernel
theorem d_add_58 : decode prog_22_method_3_code 58 = .ok (.aload_n 0, 1) := by decide +kernel
theorem d_add_59 : decode prog_22_method_3_code 59 = .ok (.getfield 15, 3) := by decide +kernel
theorem d_add_62 : decode prog_22_method_3_code 62 = .ok (.imul, 1) := by decide +kernel
theorem d_add_63 : decode prog_22_method_3_code 63 = .ok (.iload_n 1, 1) := by decide +kernel
theorem d_add_64 : decode prog_22_method_3_code 64 = .ok (.iastore, 1) := by decide +kernel
theorem d_add_65 : decode prog_22_method_3_code 65 = .ok (.aload_n 0, 1) := by decide +kernel
theorem d_add_66 : decode prog_22_method_3_code 66 = .ok (.getfield 9, 3) := by decide +kernel
theorem d_add_69 : decode prog_22_method_3_code 69 = .ok (.iconst 2, 1) := by decide +kernel
theorem d_add_70 : decode prog_22_method_3_code 70 = .ok (.aload_n 0, 1) := by decide +kernel
theorem d_add_71 : decode prog_22_method_3_code 71 = .ok (.getfield 15, 3) := by decide +kernel
theorem d_add_74 : decode prog_22_method_3_code 74 = .ok (.imul, 1) := by decide +kernel
theorem d_add_75 : decode prog_22_method_3_code 75 = .ok (.iconst 1, 1) := by decide +kernel
theorem d_add_76 : decode prog_22_method_3_code 76 = .ok (.iadd, 1) := by decide +kernel
theorem d_add_77 : decode prog_22_method_3_code 77 = .ok (.iload_n 2, 1) := by decide +kernel
theorem d_add_78 : decode prog_22_method_3_code 78 = .ok (.iastore, 1) := by decide +kernel
theorem d_add_79 : decode prog_22_method_3_code 79 = .ok (.aload_n 0, 1) := by decide +kernel
theorem d_add_80 : decode prog_22_method_3_code 80 = .ok (.dup, 1) := by decide +kernel
theorem d_add_81 : decode prog_22_method_3_code 81 = .ok (.getfield 15, 3) := by decide +kernel
theorem d_add_84 : decode prog_22_method_3_code 84 = .ok (.iconst 1, 1) := by decide +kernel
theorem d_add_85 : decode prog_22_method_3_code 85 = .ok (.iadd, 1) := by decide +kernel
theorem d_add_86 : decode prog_22_method_3_code 86 = .ok (.putfield 15, 3) := by decide +kernel
theorem d_add_89 : decode prog_22_method_3_code 89 = .ok (.iconst 1, 1) := by decide +kernel
theorem d_add_90 : decode prog_22_method_3_code 90 = .ok (.ireturn, 1) := by decide +kernel
set_option maxRecDepth 65536 in
set_option maxHeartbeats 40000000 in
theorem c_add (l : Launch) (Z : State) (a0 : Array Value) (hw : ∀ d ∈ tables_1, d.before a0 Z = true) {B : Nat} (a0' b : Addr) (c c' p q : Int32) (vs : List Value) (j : Nat) (hlen : vs.length = 64) (hc : c + 1 = c') (h0 : ¬ (2 * c = 64)) (h1 : ¬ 2 * c < 0) (h2 : (2 * c).toNatClampNeg = j) (h3 : ¬ 2 * c + 1 < 0) (h4 : (2 * c + 1).toNatClampNeg = j + 1) (h5 : j + 1 < 64) :
    Con l Z FM B (⟨"com/example/metanode/metanode/graph/IntPairs", "add", "(II)Z"⟩ : MethodName) prog_22_method_3_code 3 (some .boolean) ({ frames := 0, cells := 0, slots := 0, locals := 0 } : Room) [] #[.ref a0', .int p, .int q] [(a0', (.object "com/example/metanode/metanode/graph/IntPairs"), [.ref b, .int c]), (b, (.array .int), vs)] (fun v os => v = some (.int 1) ∧ os = [(a0', .object "com/example/metanode/metanode/graph/IntPairs", [.ref b, .int c']), (b, .array .int, (vs.set j (.int p)).set (j + 1) (.int q))]) := by
  refine Con.of (plainFor_of_name (by first | (simp [plainName, overriddenIn]; done) | decide +kernel)) (ls := #[.val (.ref a0'), .val (.int p), .val (.int q)]) (fun m => by first | (simp [entryFrame, mkF, argsToLocals, Value.category]; done) | rfl) ?_
  intro p_ e_ h_ s_ m_ bl_ me_ c_ T0 W0
  refine g_iconst (pc := 0) (2 : Int32) (by decide) W0 d_add_0 ?_
  refine g_aload_n (pc := 1) W0 d_add_1 rfl rfl ?_
  refine g_getfield (pc := 2) (i := 0) (j := 1) (host := "") W0 (Or.inl (hw _ (List.mem_of_getElem? (i := 17) rfl))) rfl rfl rfl d_add_2 (fun T1 W2 => ?_)
  refine g_imul (pc := 5) W2 d_add_5 ?_
  refine g_aload_n (pc := 6) W2 d_add_6 rfl rfl ?_
  refine g_getfield (pc := 7) (i := 0) (j := 0) (host := "") W2 (Or.inl (hw _ (List.mem_of_getElem? (i := 10) rfl))) rfl rfl rfl d_add_7 (fun T3 W4 => ?_)
  refine g_arraylength (pc := 10) (i := 1) (64 : Int32) W4 rfl (by rw [hlen]; rfl) d_add_10 ?_
  refine g_icmpY 53 (pc := 11) W4 d_add_11 (by decide) (by decide) (feq h0).2 ?_
  refine g_aload_n (pc := 53) W4 d_add_53 rfl rfl ?_
  refine g_getfield (pc := 54) (i := 0) (j := 0) (host := "") W4 (Or.inl (hw _ (List.mem_of_getElem? (i := 10) rfl))) rfl rfl rfl d_add_54 (fun T5 W6 => ?_)
  refine g_iconst (pc := 57) (2 : Int32) (by decide) W6 d_add_57 ?_
  refine g_aload_n (pc := 58) W6 d_add_58 rfl rfl ?_
  refine g_getfield (pc := 59) (i := 0) (j := 1) (host := "") W6 (Or.inl (hw _ (List.mem_of_getElem? (i := 17) rfl))) rfl rfl rfl d_add_59 (fun T7 W8 => ?_)
  refine g_imul (pc := 62) W8 d_add_62 ?_
  refine g_iload_n (pc := 63) W8 d_add_63 rfl ?_
  refine g_iastore (pc := 64) (i := 1) (os' := [(a0', (.object "com/example/metanode/metanode/graph/IntPairs"), [.ref b, .int c]), (b, (.array .int), (vs.set j (.int p)))]) j W8 rfl h1 h2 (by omega) rfl d_add_64 (fun T9 W10 => ?_)
  refine g_aload_n (pc := 65) W10 d_add_65 rfl rfl ?_
  refine g_getfield (pc := 66) (i := 0) (j := 0) (host := "") W10 (Or.inl (hw _ (List.mem_of_getElem? (i := 10) rfl))) rfl rfl rfl d_add_66 (fun T11 W12 => ?_)
  refine g_iconst (pc := 69) (2 : Int32) (by decide) W12 d_add_69 ?_
  refine g_aload_n (pc := 70) W12 d_add_70 rfl rfl ?_
  refine g_getfield (pc := 71) (i := 0) (j := 1) (host := "") W12 (Or.inl (hw _ (List.mem_of_getElem? (i := 17) rfl))) rfl rfl rfl d_add_71 (fun T13 W14 => ?_)
  refine g_imul (pc := 74) W14 d_add_74 ?_
  refine g_iconst (pc := 75) (1 : Int32) (by decide) W14 d_add_75 ?_
  refine g_iadd (pc := 76) W14 d_add_76 ?_
  refine g_iload_n (pc := 77) W14 d_add_77 rfl ?_
  refine g_iastore (pc := 78) (i := 1) (os' := [(a0', (.object "com/example/metanode/metanode/graph/IntPairs"), [.ref b, .int c]), (b, (.array .int), ((vs.set j (.int p)).set (j + 1) (.int q)))]) (j + 1) W14 rfl h3 h4 (by simp only [List.length_set]; omega) rfl d_add_78 (fun T15 W16 => ?_)
  refine g_aload_n (pc := 79) W16 d_add_79 rfl rfl ?_
  refine g_dup (pc := 80) W16 d_add_80 rfl ?_
  refine g_getfield (pc := 81) (i := 0) (j := 1) (host := "") W16 (Or.inl (hw _ (List.mem_of_getElem? (i := 17) rfl))) rfl rfl rfl d_add_81 (fun T17 W18 => ?_)
  refine g_iconst (pc := 84) (1 : Int32) (by decide) W18 d_add_84 ?_
  refine g_iadd (pc := 85) W18 d_add_85 ?_
  refine g_putfield (pc := 86) (i := 0) (j := 1) (ty := .int) (os' := [(a0', (.object "com/example/metanode/metanode/graph/IntPairs"), [.ref b, .int (c + (1 : Int32))]), (b, (.array .int), ((vs.set j (.int p)).set (j + 1) (.int q)))]) (host := "") W18 (Or.inl (hw _ (List.mem_of_getElem? (i := 17) rfl))) (cls_IntPairs hw) (Or.inl (hw _ (List.mem_of_getElem? (i := 18) rfl))) (hw _ (List.mem_of_getElem? (i := 1) rfl)) rfl rfl rfl (by decide) rfl rfl rfl d_add_86 (fun T19 W20 => ?_)
  refine g_iconst (pc := 89) (1 : Int32) (by decide) W20 d_add_89 ?_
  exact g_zreturn (pc := 90) rfl (by decide) W20 d_add_90 (by decide) (by decide) ⟨rfl, by rw [hc]⟩
theorem d_count_0 : decode prog_22_method_8_code 0 = .ok (.aload_n 0, 1) := by decide +kernel
theorem d_count_1 : decode prog_22_method_8_code 1 = .ok (.getfield 15, 3) := by decide +kernel
theorem d_count_4 : decode prog_22_method_8_code 4 = .ok (.ireturn, 1) := by decide +kernel
set_option maxRecDepth 65536 in
set_option maxHeartbeats 40000000 in
theorem c_count (l : Launch) (Z : State) (a0 : Array Value) (hw : ∀ d ∈ tables_1, d.before a0 Z = true) {B : Nat} (a0' b : Addr) (c : Int32) :
    Con l Z FM B (⟨"com/example/metanode/metanode/graph/IntPairs", "count", "()I"⟩ : MethodName) prog_22_method_8_code 1 (some .int) ({ frames := 0, cells := 0, slots := 0, locals := 0 } : Room) [] #[.ref a0'] [(a0', (.object "com/example/metanode/metanode/graph/IntPairs"), [.ref b, .int c])] (fun v os => v = some (.int c) ∧ os = [(a0', (.object "com/example/metanode/metanode/graph/IntPairs"), [.ref b, .int c])]) := by
  refine Con.of (plainFor_of_name (by first | (simp [plainName, overriddenIn]; done) | decide +kernel)) (ls := #[.val (.ref a0')]) (fun m => by first | (simp [entryFrame, mkF, argsToLocals, Value.category]; done) | rfl) ?_
  intro p_ e_ h_ s_ m_ bl_ me_ c_ T0 W0
  refine g_aload_n (pc := 0) W0 d_count_0 rfl rfl ?_
  refine g_getfield (pc := 1) (i := 0) (j := 1) (host := "") W0 (Or.inl (hw _ (List.mem_of_getElem? (i := 17) rfl))) rfl rfl rfl d_count_1 (fun T1 W2 => ?_)
  exact g_ireturn (pc := 4) rfl W2 d_count_4 (by decide) (by decide) ⟨rfl, rfl⟩
theorem d_first_0 : decode prog_22_method_9_code 0 = .ok (.aload_n 0, 1) := by decide +kernel
theorem d_first_1 : decode prog_22_method_9_code 1 = .ok (.getfield 9, 3) := by decide +kernel
theorem d_first_4 : decode prog_22_method_9_code 4 = .ok (.iconst 2, 1) := by decide +kernel
theorem d_first_5 : decode prog_22_method_9_code 5 = .ok (.iload_n 1, 1) := by decide +kernel
theorem d_first_6 : decode prog_22_method_9_code 6 = .ok (.imul, 1) := by decide +kernel
theorem d_first_7 : decode prog_22_method_9_code 7 = .ok (.iaload, 1) := by decide +kernel
theorem d_first_8 : decode prog_22_method_9_code 8 = .ok (.ireturn, 1) := by decide +kernel
set_option maxRecDepth 65536 in
set_option maxHeartbeats 40000000 in
theorem c_first (l : Launch) (Z : State) (a0 : Array Value) (hw : ∀ d ∈ tables_1, d.before a0 Z = true) {B : Nat} (a0' b : Addr) (c i r : Int32) (vs : List Value) (h1 : ¬ 2 * i < 0) (h2 : vs[(2 * i).toNatClampNeg]? = some (.int r)) :
    Con l Z FM B (⟨"com/example/metanode/metanode/graph/IntPairs", "first", "(I)I"⟩ : MethodName) prog_22_method_9_code 2 (some .int) ({ frames := 0, cells := 0, slots := 0, locals := 0 } : Room) [] #[.ref a0', .int i] [(a0', (.object "com/example/metanode/metanode/graph/IntPairs"), [.ref b, .int c]), (b, (.array .int), vs)] (fun v os => v = some (.int r) ∧ os = [(a0', (.object "com/example/metanode/metanode/graph/IntPairs"), [.ref b, .int c]), (b, (.array .int), vs)]) := by
  refine Con.of (plainFor_of_name (by first | (simp [plainName, overriddenIn]; done) | decide +kernel)) (ls := #[.val (.ref a0'), .val (.int i)]) (fun m => by first | (simp [entryFrame, mkF, argsToLocals, Value.category]; done) | rfl) ?_
  intro p_ e_ h_ s_ m_ bl_ me_ c_ T0 W0
  refine g_aload_n (pc := 0) W0 d_first_0 rfl rfl ?_
  refine g_getfield (pc := 1) (i := 0) (j := 0) (host := "") W0 (Or.inl (hw _ (List.mem_of_getElem? (i := 10) rfl))) rfl rfl rfl d_first_1 (fun T1 W2 => ?_)
  refine g_iconst (pc := 4) (2 : Int32) (by decide) W2 d_first_4 ?_
  refine g_iload_n (pc := 5) W2 d_first_5 rfl ?_
  refine g_imul (pc := 6) W2 d_first_6 ?_
  refine g_iaload (pc := 7) (i := 1) (v := .int r) W2 rfl h1 h2 d_first_7 ?_
  exact g_ireturn (pc := 8) rfl W2 d_first_8 (by decide) (by decide) ⟨rfl, rfl⟩
theorem d_second_0 : decode prog_22_method_10_code 0 = .ok (.aload_n 0, 1) := by decide +kernel
theorem d_second_1 : decode prog_22_method_10_code 1 = .ok (.getfield 9, 3) := by decide +kernel
theorem d_second_4 : decode prog_22_method_10_code 4 = .ok (.iconst 2, 1) := by decide +kernel
theorem d_second_5 : decode prog_22_method_10_code 5 = .ok (.iload_n 1, 1) := by decide +kernel
theorem d_second_6 : decode prog_22_method_10_code 6 = .ok (.imul, 1) := by decide +kernel
theorem d_second_7 : decode prog_22_method_10_code 7 = .ok (.iconst 1, 1) := by decide +kernel
theorem d_second_8 : decode prog_22_method_10_code 8 = .ok (.iadd, 1) := by decide +kernel
theorem d_second_9 : decode prog_22_method_10_code 9 = .ok (.iaload, 1) := by decide +kernel
theorem d_second_10 : decode prog_22_method_10_code 10 = .ok (.ireturn, 1) := by decide +kernel
set_option maxRecDepth 65536 in
set_option maxHeartbeats 40000000 in
theorem c_second (l : Launch) (Z : State) (a0 : Array Value) (hw : ∀ d ∈ tables_1, d.before a0 Z = true) {B : Nat} (a0' b : Addr) (c i r : Int32) (vs : List Value) (h1 : ¬ 2 * i + 1 < 0) (h2 : vs[(2 * i + 1).toNatClampNeg]? = some (.int r)) :
    Con l Z FM B (⟨"com/example/metanode/metanode/graph/IntPairs", "second", "(I)I"⟩ : MethodName) prog_22_method_10_code 2 (some .int) ({ frames := 0, cells := 0, slots := 0, locals := 0 } : Room) [] #[.ref a0', .int i] [(a0', (.object "com/example/metanode/metanode/graph/IntPairs"), [.ref b, .int c]), (b, (.array .int), vs)] (fun v os => v = some (.int r) ∧ os = [(a0', (.object "com/example/metanode/metanode/graph/IntPairs"), [.ref b, .int c]), (b, (.array .int), vs)]) := by
  refine Con.of (plainFor_of_name (by first | (simp [plainName, overriddenIn]; done) | decide +kernel)) (ls := #[.val (.ref a0'), .val (.int i)]) (fun m => by first | (simp [entryFrame, mkF, argsToLocals, Value.category]; done) | rfl) ?_
  intro p_ e_ h_ s_ m_ bl_ me_ c_ T0 W0
  refine g_aload_n (pc := 0) W0 d_second_0 rfl rfl ?_
  refine g_getfield (pc := 1) (i := 0) (j := 0) (host := "") W0 (Or.inl (hw _ (List.mem_of_getElem? (i := 10) rfl))) rfl rfl rfl d_second_1 (fun T1 W2 => ?_)
  refine g_iconst (pc := 4) (2 : Int32) (by decide) W2 d_second_4 ?_
  refine g_iload_n (pc := 5) W2 d_second_5 rfl ?_
  refine g_imul (pc := 6) W2 d_second_6 ?_
  refine g_iconst (pc := 7) (1 : Int32) (by decide) W2 d_second_7 ?_
  refine g_iadd (pc := 8) W2 d_second_8 ?_
  refine g_iaload (pc := 9) (i := 1) (v := .int r) W2 rfl h1 h2 d_second_9 ?_
  exact g_ireturn (pc := 10) rfl W2 d_second_10 (by decide) (by decide) ⟨rfl, rfl⟩
theorem d_c_min0_0 : decode jdk_29_method_69_code 0 = .ok (.iload_n 0, 1) := by decide +kernel
theorem d_c_min0_1 : decode jdk_29_method_69_code 1 = .ok (.iload_n 1, 1) := by decide +kernel
theorem d_c_min0_2 : decode jdk_29_method_69_code 2 = .ok (.if_icmp .gt 7, 3) := by decide +kernel
theorem d_c_min0_9 : decode jdk_29_method_69_code 9 = .ok (.iload_n 1, 1) := by decide +kernel
theorem d_c_min0_10 : decode jdk_29_method_69_code 10 = .ok (.ireturn, 1) := by decide +kernel
set_option maxRecDepth 65536 in
set_option maxHeartbeats 40000000 in
theorem c_min0 (l : Launch) (Z : State) (a0 : Array Value) (hw : ∀ d ∈ tables_1, d.before a0 Z = true) {B : Nat}  :
    Con l Z FM B (⟨"java/lang/Math", "min", "(II)I"⟩ : MethodName) jdk_29_method_69_code 2 (some .int) ({ frames := 0, cells := 0, slots := 0, locals := 0 } : Room) [] #[.int (64 : Int32), .int (0 : Int32)] [] (fun v os => v = some (.int (0 : Int32)) ∧ os = []) := by
  refine Con.of (JP.mathPlain rfl (by decide +kernel)) (ls := #[.val (.int (64 : Int32)), .val (.int (0 : Int32))]) (fun m => by first | (simp [entryFrame, mkF, argsToLocals, Value.category]; done) | rfl) ?_
  intro p_ e_ h_ s_ m_ bl_ me_ c_ T0 W0
  refine g_iload_n (pc := 0) W0 d_c_min0_0 rfl ?_
  refine g_iload_n (pc := 1) W0 d_c_min0_1 rfl ?_
  refine g_icmpY 9 (pc := 2) W0 d_c_min0_2 (by decide) (by decide) (by decide) ?_
  refine g_iload_n (pc := 9) W0 d_c_min0_9 rfl ?_
  exact g_ireturn (pc := 10) rfl W0 d_c_min0_10 (by decide) (by decide) ⟨rfl, rfl⟩
theorem d_c_cp0_0 : decode jdk_65_method_123_code 0 = .ok (.iload_n 1, 1) := by decide +kernel
theorem d_c_cp0_1 : decode jdk_65_method_123_code 1 = .ok (.aload_n 0, 1) := by decide +kernel
theorem d_c_cp0_2 : decode jdk_65_method_123_code 2 = .ok (.arraylength, 1) := by decide +kernel
theorem d_c_cp0_3 : decode jdk_65_method_123_code 3 = .ok (.if_icmp .ne 11, 3) := by decide +kernel
theorem d_c_cp0_14 : decode jdk_65_method_123_code 14 = .ok (.iload_n 1, 1) := by decide +kernel
theorem d_c_cp0_15 : decode jdk_65_method_123_code 15 = .ok (.newarray .int, 2) := by decide +kernel
theorem d_c_cp0_17 : decode jdk_65_method_123_code 17 = .ok (.astore_n 2, 1) := by decide +kernel
theorem d_c_cp0_18 : decode jdk_65_method_123_code 18 = .ok (.aload_n 0, 1) := by decide +kernel
theorem d_c_cp0_19 : decode jdk_65_method_123_code 19 = .ok (.iconst 0, 1) := by decide +kernel
theorem d_c_cp0_20 : decode jdk_65_method_123_code 20 = .ok (.aload_n 2, 1) := by decide +kernel
theorem d_c_cp0_21 : decode jdk_65_method_123_code 21 = .ok (.iconst 0, 1) := by decide +kernel
theorem d_c_cp0_22 : decode jdk_65_method_123_code 22 = .ok (.aload_n 0, 1) := by decide +kernel
theorem d_c_cp0_23 : decode jdk_65_method_123_code 23 = .ok (.arraylength, 1) := by decide +kernel
theorem d_c_cp0_24 : decode jdk_65_method_123_code 24 = .ok (.iload_n 1, 1) := by decide +kernel
theorem d_c_cp0_25 : decode jdk_65_method_123_code 25 = .ok (.invokestatic 304, 3) := by decide +kernel
theorem d_c_cp0_28 : decode jdk_65_method_123_code 28 = .ok (.invokestatic 150, 3) := by decide +kernel
theorem d_c_cp0_31 : decode jdk_65_method_123_code 31 = .ok (.aload_n 2, 1) := by decide +kernel
theorem d_c_cp0_32 : decode jdk_65_method_123_code 32 = .ok (.areturn, 1) := by decide +kernel
set_option maxRecDepth 65536 in
set_option maxHeartbeats 40000000 in
theorem c_cp0 (l : Launch) (Z : State) (a0 : Array Value) (hw : ∀ d ∈ tables_1, d.before a0 Z = true) {B : Nat} (a : Addr) (vs : List Value) (hlen : vs.length = 64) :
    Con l Z FM B (⟨"java/util/Arrays", "copyOf", "([II)[I"⟩ : MethodName) jdk_65_method_123_code 3 (some (.array .int)) ({ frames := 1, cells := 1, slots := 0, locals := 18 } : Room) [] #[.ref a, .int (0 : Int32)] [(a, (.array .int), vs)] (fun v os => ∃ b1, v = some (.ref b1) ∧ os = [(a, (.array .int), vs), (b1, (.array .int), [])]) := by
  refine Con.of (plainFor_of_name (by first | (simp [plainName, overriddenIn]; done) | decide +kernel)) (ls := #[.val (.ref a), .val (.int (0 : Int32)), .unset]) (fun m => by first | (simp [entryFrame, mkF, argsToLocals, Value.category]; done) | rfl) ?_
  intro p_ e_ h_ s_ m_ bl_ me_ c_ T0 W0
  refine g_iload_n (pc := 0) W0 d_c_cp0_0 rfl ?_
  refine g_aload_n (pc := 1) W0 d_c_cp0_1 rfl rfl ?_
  refine g_arraylength (pc := 2) (i := 0) (64 : Int32) W0 rfl (by rw [hlen]; rfl) d_c_cp0_2 ?_
  refine g_icmpY 14 (pc := 3) W0 d_c_cp0_3 (by decide) (by decide) (by decide) ?_
  refine g_iload_n (pc := 14) W0 d_c_cp0_14 rfl ?_
  refine g_newarray (pc := 15) (ty := .int) (vs := []) 0 W0 (hw _ (List.mem_of_getElem? (i := 9) rfl)) rfl (by decide) (by decide) (by decide) rfl d_c_cp0_15 (by decide) (by decide) (fun T2 b1 W3 => ?_)
  have W4 := W3.re (os' := [(a, (.array .int), vs), (b1, (.array .int), [])]) rfl
  refine g_astore_n (pc := 17) (ls' := #[.val (.ref a), .val (.int (0 : Int32)), .val (.ref b1)]) W4 d_c_cp0_17 rfl rfl ?_
  refine g_aload_n (pc := 18) W4 d_c_cp0_18 rfl rfl ?_
  refine g_iconst (pc := 19) (0 : Int32) (by decide) W4 d_c_cp0_19 ?_
  refine g_aload_n (pc := 20) W4 d_c_cp0_20 rfl rfl ?_
  refine g_iconst (pc := 21) (0 : Int32) (by decide) W4 d_c_cp0_21 ?_
  refine g_aload_n (pc := 22) W4 d_c_cp0_22 rfl rfl ?_
  refine g_arraylength (pc := 23) (i := 0) (64 : Int32) W4 rfl (by rw [hlen]; rfl) d_c_cp0_23 ?_
  refine g_iload_n (pc := 24) W4 d_c_cp0_24 rfl ?_
  refine g_static (pc := 25) (Wt := 4) (argsL := [.int (64 : Int32), .int (0 : Int32)]) (rest := [.int (0 : Int32), .ref b1, .int (0 : Int32), .ref a]) (loc := []) (rst := [(a, (.array .int), vs), (b1, (.array .int), [])]) W4 (hw _ (List.mem_of_getElem? (i := 23) rfl)) (hw _ (List.mem_of_getElem? (i := 24) rfl)) (hw _ (List.mem_of_getElem? (i := 25) rfl)) (hw _ (List.mem_of_getElem? (i := 26) rfl)) (by decide) (c_min0 l Z a0 hw ) Spl.none rfl pd_II__I rfl rfl rfl (Nat.le_of_ble_eq_true rfl) (by decide) (by decide) (by decide) (by decide) d_c_cp0_25 ?_
  rintro T5 _ _ ⟨rfl, rfl⟩ W6
  have W7 := W6.re (os' := [(a, (.array .int), vs), (b1, (.array .int), [])]) rfl
  show Go p_ e_ bl_ _ (T5.setTop (mkF m_ 28 #[.val (.ref a), .val (.int (0 : Int32)), .val (.ref b1)] [.int (0 : Int32), .int (0 : Int32), .ref b1, .int (0 : Int32), .ref a]))
  refine g_arraycopy (pc := 28) (i := 0) (j := 1) (Wt := 0) (vd' := []) (os' := [(a, (.array .int), vs), (b1, (.array .int), [])]) W7 (hw _ (List.mem_of_getElem? (i := 27) rfl)) (hw _ (List.mem_of_getElem? (i := 30) rfl)) (hw _ (List.mem_of_getElem? (i := 28) rfl)) (hw _ (List.mem_of_getElem? (i := 29) rfl)) rfl rfl rfl (by decide) (by decide) (by decide) (by rw [hlen]; decide) (by decide) (by rw [hlen]; decide) (by decide) rfl rfl rfl (Nat.le_of_ble_eq_true rfl) (by decide) (by decide) d_c_cp0_28 (fun T8 W9 => ?_)
  refine g_aload_n (pc := 31) W9 d_c_cp0_31 rfl rfl ?_
  exact g_areturn (pc := 32) rfl rfl W9 d_c_cp0_32 (by decide) (by decide) ⟨b1, rfl, rfl⟩
theorem d_c_trim0_0 : decode prog_22_method_7_code 0 = .ok (.aload_n 0, 1) := by decide +kernel
theorem d_c_trim0_1 : decode prog_22_method_7_code 1 = .ok (.getfield 9, 3) := by decide +kernel
theorem d_c_trim0_4 : decode prog_22_method_7_code 4 = .ok (.arraylength, 1) := by decide +kernel
theorem d_c_trim0_5 : decode prog_22_method_7_code 5 = .ok (.iconst 2, 1) := by decide +kernel
theorem d_c_trim0_6 : decode prog_22_method_7_code 6 = .ok (.aload_n 0, 1) := by decide +kernel
theorem d_c_trim0_7 : decode prog_22_method_7_code 7 = .ok (.getfield 15, 3) := by decide +kernel
theorem d_c_trim0_10 : decode prog_22_method_7_code 10 = .ok (.imul, 1) := by decide +kernel
theorem d_c_trim0_11 : decode prog_22_method_7_code 11 = .ok (.if_icmp .le 20, 3) := by decide +kernel
theorem d_c_trim0_14 : decode prog_22_method_7_code 14 = .ok (.aload_n 0, 1) := by decide +kernel
theorem d_c_trim0_15 : decode prog_22_method_7_code 15 = .ok (.aload_n 0, 1) := by decide +kernel
theorem d_c_trim0_16 : decode prog_22_method_7_code 16 = .ok (.getfield 9, 3) := by decide +kernel
theorem d_c_trim0_19 : decode prog_22_method_7_code 19 = .ok (.iconst 2, 1) := by decide +kernel
theorem d_c_trim0_20 : decode prog_22_method_7_code 20 = .ok (.aload_n 0, 1) := by decide +kernel
theorem d_c_trim0_21 : decode prog_22_method_7_code 21 = .ok (.getfield 15, 3) := by decide +kernel
theorem d_c_trim0_24 : decode prog_22_method_7_code 24 = .ok (.imul, 1) := by decide +kernel
theorem d_c_trim0_25 : decode prog_22_method_7_code 25 = .ok (.invokestatic 30, 3) := by decide +kernel
theorem d_c_trim0_28 : decode prog_22_method_7_code 28 = .ok (.putfield 9, 3) := by decide +kernel
theorem d_c_trim0_31 : decode prog_22_method_7_code 31 = .ok (.return_, 1) := by decide +kernel
set_option maxRecDepth 65536 in
set_option maxHeartbeats 40000000 in
theorem c_trim0 (l : Launch) (Z : State) (a0 : Array Value) (hw : ∀ d ∈ tables_1, d.before a0 Z = true) {B : Nat} (a b : Addr) (vs : List Value) (hlen : vs.length = 64) :
    Con l Z FM B (⟨"com/example/metanode/metanode/graph/IntPairs", "trim", "()V"⟩ : MethodName) prog_22_method_7_code 1 none ({ frames := 2, cells := 1, slots := 0, locals := 33 } : Room) [] #[.ref a] [(a, (.object "com/example/metanode/metanode/graph/IntPairs"), [.ref b, .int (0 : Int32)]), (b, (.array .int), vs)] (fun v os => ∃ b9, v = none ∧ os = [(b, (.array .int), vs), (b9, (.array .int), []), (a, (.object "com/example/metanode/metanode/graph/IntPairs"), [.ref b9, .int (0 : Int32)])]) := by
  refine Con.of (plainFor_of_name (by first | (simp [plainName, overriddenIn]; done) | decide +kernel)) (ls := #[.val (.ref a)]) (fun m => by first | (simp [entryFrame, mkF, argsToLocals, Value.category]; done) | rfl) ?_
  intro p_ e_ h_ s_ m_ bl_ me_ c_ T0 W0
  refine g_aload_n (pc := 0) W0 d_c_trim0_0 rfl rfl ?_
  refine g_getfield (pc := 1) (i := 0) (j := 0) (host := "") W0 (Or.inl (hw _ (List.mem_of_getElem? (i := 10) rfl))) rfl rfl rfl d_c_trim0_1 (fun T1 W2 => ?_)
  refine g_arraylength (pc := 4) (i := 1) (64 : Int32) W2 rfl (by rw [hlen]; rfl) d_c_trim0_4 ?_
  refine g_iconst (pc := 5) (2 : Int32) (by decide) W2 d_c_trim0_5 ?_
  refine g_aload_n (pc := 6) W2 d_c_trim0_6 rfl rfl ?_
  refine g_getfield (pc := 7) (i := 0) (j := 1) (host := "") W2 (Or.inl (hw _ (List.mem_of_getElem? (i := 17) rfl))) rfl rfl rfl d_c_trim0_7 (fun T3 W4 => ?_)
  refine g_imul (pc := 10) W4 d_c_trim0_10 ?_
  show Go p_ e_ bl_ _ (T3.setTop (mkF m_ 11 #[.val (.ref a)] [.int (0 : Int32), .int (64 : Int32)]))
  refine g_icmpN (pc := 11) W4 d_c_trim0_11 (by decide) ?_
  refine g_aload_n (pc := 14) W4 d_c_trim0_14 rfl rfl ?_
  refine g_aload_n (pc := 15) W4 d_c_trim0_15 rfl rfl ?_
  refine g_getfield (pc := 16) (i := 0) (j := 0) (host := "") W4 (Or.inl (hw _ (List.mem_of_getElem? (i := 10) rfl))) rfl rfl rfl d_c_trim0_16 (fun T5 W6 => ?_)
  refine g_iconst (pc := 19) (2 : Int32) (by decide) W6 d_c_trim0_19 ?_
  refine g_aload_n (pc := 20) W6 d_c_trim0_20 rfl rfl ?_
  refine g_getfield (pc := 21) (i := 0) (j := 1) (host := "") W6 (Or.inl (hw _ (List.mem_of_getElem? (i := 17) rfl))) rfl rfl rfl d_c_trim0_21 (fun T7 W8 => ?_)
  refine g_imul (pc := 24) W8 d_c_trim0_24 ?_
  show Go p_ e_ bl_ _ (T7.setTop (mkF m_ 25 #[.val (.ref a)] [.int (0 : Int32), .ref b, .ref a]))
  refine g_static (pc := 25) (Wt := 1) (argsL := [.ref b, .int (0 : Int32)]) (rest := [.ref a]) (loc := [(b, (.array .int), vs)]) (rst := [(a, (.object "com/example/metanode/metanode/graph/IntPairs"), [.ref b, .int (0 : Int32)])]) W8 (hw _ (List.mem_of_getElem? (i := 19) rfl)) (hw _ (List.mem_of_getElem? (i := 20) rfl)) (hw _ (List.mem_of_getElem? (i := 21) rfl)) (hw _ (List.mem_of_getElem? (i := 22) rfl)) (by decide) (c_cp0 l Z a0 hw b vs hlen) ⟨[1, 0], by decide, rfl⟩ rfl pd_AII__AI rfl rfl rfl (Nat.le_of_ble_eq_true rfl) (by decide) (by decide) (by decide) (by decide) d_c_trim0_25 ?_
  rintro T10 _ _ ⟨b9, rfl, rfl⟩ W11
  have W12 := W11.re (os' := [(b, (.array .int), vs), (b9, (.array .int), []), (a, (.object "com/example/metanode/metanode/graph/IntPairs"), [.ref b, .int (0 : Int32)])]) rfl
  show Go p_ e_ bl_ _ (T10.setTop (mkF m_ 28 #[.val (.ref a)] [.ref b9, .ref a]))
  refine g_putfield (pc := 28) (i := 2) (j := 0) (ty := (.array .int)) (os' := [(b, (.array .int), vs), (b9, (.array .int), []), (a, (.object "com/example/metanode/metanode/graph/IntPairs"), [.ref b9, .int (0 : Int32)])]) (host := "") W12 (Or.inl (hw _ (List.mem_of_getElem? (i := 10) rfl))) (cls_IntPairs hw) (Or.inl (hw _ (List.mem_of_getElem? (i := 11) rfl))) (hw _ (List.mem_of_getElem? (i := 1) rfl)) rfl rfl rfl (by decide) rfl rfl rfl d_c_trim0_28 (fun T13 W14 => ?_)
  exact g_return (pc := 31) rfl W14 d_c_trim0_31 (by decide) (by decide) ⟨b9, rfl, rfl⟩
theorem d_c_again0_0 : decode prog_22_method_7_code 0 = .ok (.aload_n 0, 1) := by decide +kernel
theorem d_c_again0_1 : decode prog_22_method_7_code 1 = .ok (.getfield 9, 3) := by decide +kernel
theorem d_c_again0_4 : decode prog_22_method_7_code 4 = .ok (.arraylength, 1) := by decide +kernel
theorem d_c_again0_5 : decode prog_22_method_7_code 5 = .ok (.iconst 2, 1) := by decide +kernel
theorem d_c_again0_6 : decode prog_22_method_7_code 6 = .ok (.aload_n 0, 1) := by decide +kernel
theorem d_c_again0_7 : decode prog_22_method_7_code 7 = .ok (.getfield 15, 3) := by decide +kernel
theorem d_c_again0_10 : decode prog_22_method_7_code 10 = .ok (.imul, 1) := by decide +kernel
theorem d_c_again0_11 : decode prog_22_method_7_code 11 = .ok (.if_icmp .le 20, 3) := by decide +kernel
theorem d_c_again0_31 : decode prog_22_method_7_code 31 = .ok (.return_, 1) := by decide +kernel
set_option maxRecDepth 65536 in
set_option maxHeartbeats 40000000 in
theorem c_again0 (l : Launch) (Z : State) (a0 : Array Value) (hw : ∀ d ∈ tables_1, d.before a0 Z = true) {B : Nat} (a b : Addr) :
    Con l Z FM B (⟨"com/example/metanode/metanode/graph/IntPairs", "trim", "()V"⟩ : MethodName) prog_22_method_7_code 1 none ({ frames := 0, cells := 0, slots := 0, locals := 0 } : Room) [] #[.ref a] [(a, (.object "com/example/metanode/metanode/graph/IntPairs"), [.ref b, .int (0 : Int32)]), (b, (.array .int), [])] (fun v os => v = none ∧ os = [(a, (.object "com/example/metanode/metanode/graph/IntPairs"), [.ref b, .int (0 : Int32)]), (b, (.array .int), [])]) := by
  refine Con.of (plainFor_of_name (by first | (simp [plainName, overriddenIn]; done) | decide +kernel)) (ls := #[.val (.ref a)]) (fun m => by first | (simp [entryFrame, mkF, argsToLocals, Value.category]; done) | rfl) ?_
  intro p_ e_ h_ s_ m_ bl_ me_ c_ T0 W0
  refine g_aload_n (pc := 0) W0 d_c_again0_0 rfl rfl ?_
  refine g_getfield (pc := 1) (i := 0) (j := 0) (host := "") W0 (Or.inl (hw _ (List.mem_of_getElem? (i := 10) rfl))) rfl rfl rfl d_c_again0_1 (fun T1 W2 => ?_)
  refine g_arraylength (pc := 4) (i := 1) (0 : Int32) W2 rfl rfl d_c_again0_4 ?_
  refine g_iconst (pc := 5) (2 : Int32) (by decide) W2 d_c_again0_5 ?_
  refine g_aload_n (pc := 6) W2 d_c_again0_6 rfl rfl ?_
  refine g_getfield (pc := 7) (i := 0) (j := 1) (host := "") W2 (Or.inl (hw _ (List.mem_of_getElem? (i := 17) rfl))) rfl rfl rfl d_c_again0_7 (fun T3 W4 => ?_)
  refine g_imul (pc := 10) W4 d_c_again0_10 ?_
  show Go p_ e_ bl_ _ (T3.setTop (mkF m_ 11 #[.val (.ref a)] [.int (0 : Int32), .int (0 : Int32)]))
  refine g_icmpY 31 (pc := 11) W4 d_c_again0_11 (by decide) (by decide) (by decide) ?_
  exact g_return (pc := 31) rfl W4 d_c_again0_31 (by decide) (by decide) ⟨rfl, rfl⟩
theorem d_c_min2_0 : decode jdk_29_method_69_code 0 = .ok (.iload_n 0, 1) := by decide +kernel
theorem d_c_min2_1 : decode jdk_29_method_69_code 1 = .ok (.iload_n 1, 1) := by decide +kernel
theorem d_c_min2_2 : decode jdk_29_method_69_code 2 = .ok (.if_icmp .gt 7, 3) := by decide +kernel
theorem d_c_min2_9 : decode jdk_29_method_69_code 9 = .ok (.iload_n 1, 1) := by decide +kernel
theorem d_c_min2_10 : decode jdk_29_method_69_code 10 = .ok (.ireturn, 1) := by decide +kernel
set_option maxRecDepth 65536 in
set_option maxHeartbeats 40000000 in
theorem c_min2 (l : Launch) (Z : State) (a0 : Array Value) (hw : ∀ d ∈ tables_1, d.before a0 Z = true) {B : Nat}  :
    Con l Z FM B (⟨"java/lang/Math", "min", "(II)I"⟩ : MethodName) jdk_29_method_69_code 2 (some .int) ({ frames := 0, cells := 0, slots := 0, locals := 0 } : Room) [] #[.int (64 : Int32), .int (2 : Int32)] [] (fun v os => v = some (.int (2 : Int32)) ∧ os = []) := by
  refine Con.of (JP.mathPlain rfl (by decide +kernel)) (ls := #[.val (.int (64 : Int32)), .val (.int (2 : Int32))]) (fun m => by first | (simp [entryFrame, mkF, argsToLocals, Value.category]; done) | rfl) ?_
  intro p_ e_ h_ s_ m_ bl_ me_ c_ T0 W0
  refine g_iload_n (pc := 0) W0 d_c_min2_0 rfl ?_
  refine g_iload_n (pc := 1) W0 d_c_min2_1 rfl ?_
  refine g_icmpY 9 (pc := 2) W0 d_c_min2_2 (by decide) (by decide) (by decide) ?_
  refine g_iload_n (pc := 9) W0 d_c_min2_9 rfl ?_
  exact g_ireturn (pc := 10) rfl W0 d_c_min2_10 (by decide) (by decide) ⟨rfl, rfl⟩
theorem d_c_cp2_0 : decode jdk_65_method_123_code 0 = .ok (.iload_n 1, 1) := by decide +kernel
theorem d_c_cp2_1 : decode jdk_65_method_123_code 1 = .ok (.aload_n 0, 1) := by decide +kernel
theorem d_c_cp2_2 : decode jdk_65_method_123_code 2 = .ok (.arraylength, 1) := by decide +kernel
theorem d_c_cp2_3 : decode jdk_65_method_123_code 3 = .ok (.if_icmp .ne 11, 3) := by decide +kernel
theorem d_c_cp2_14 : decode jdk_65_method_123_code 14 = .ok (.iload_n 1, 1) := by decide +kernel
theorem d_c_cp2_15 : decode jdk_65_method_123_code 15 = .ok (.newarray .int, 2) := by decide +kernel
theorem d_c_cp2_17 : decode jdk_65_method_123_code 17 = .ok (.astore_n 2, 1) := by decide +kernel
theorem d_c_cp2_18 : decode jdk_65_method_123_code 18 = .ok (.aload_n 0, 1) := by decide +kernel
theorem d_c_cp2_19 : decode jdk_65_method_123_code 19 = .ok (.iconst 0, 1) := by decide +kernel
theorem d_c_cp2_20 : decode jdk_65_method_123_code 20 = .ok (.aload_n 2, 1) := by decide +kernel
theorem d_c_cp2_21 : decode jdk_65_method_123_code 21 = .ok (.iconst 0, 1) := by decide +kernel
theorem d_c_cp2_22 : decode jdk_65_method_123_code 22 = .ok (.aload_n 0, 1) := by decide +kernel
theorem d_c_cp2_23 : decode jdk_65_method_123_code 23 = .ok (.arraylength, 1) := by decide +kernel
theorem d_c_cp2_24 : decode jdk_65_method_123_code 24 = .ok (.iload_n 1, 1) := by decide +kernel
theorem d_c_cp2_25 : decode jdk_65_method_123_code 25 = .ok (.invokestatic 304, 3) := by decide +kernel
theorem d_c_cp2_28 : decode jdk_65_method_123_code 28 = .ok (.invokestatic 150, 3) := by decide +kernel
theorem d_c_cp2_31 : decode jdk_65_method_123_code 31 = .ok (.aload_n 2, 1) := by decide +kernel
theorem d_c_cp2_32 : decode jdk_65_method_123_code 32 = .ok (.areturn, 1) := by decide +kernel
set_option maxRecDepth 65536 in
set_option maxHeartbeats 40000000 in
theorem c_cp2 (l : Launch) (Z : State) (a0 : Array Value) (hw : ∀ d ∈ tables_1, d.before a0 Z = true) {B : Nat} (a : Addr) (vs : List Value) (x0 x1 : Int32) (hlen : vs.length = 64) (q0 : vs[0]? = some (.int x0)) (q1 : vs[1]? = some (.int x1)) :
    Con l Z FM B (⟨"java/util/Arrays", "copyOf", "([II)[I"⟩ : MethodName) jdk_65_method_123_code 3 (some (.array .int)) ({ frames := 1, cells := 1, slots := 2, locals := 18 } : Room) [] #[.ref a, .int (2 : Int32)] [(a, (.array .int), vs)] (fun v os => ∃ b1, v = some (.ref b1) ∧ os = [(a, (.array .int), vs), (b1, (.array .int), [.int x0, .int x1])]) := by
  refine Con.of (plainFor_of_name (by first | (simp [plainName, overriddenIn]; done) | decide +kernel)) (ls := #[.val (.ref a), .val (.int (2 : Int32)), .unset]) (fun m => by first | (simp [entryFrame, mkF, argsToLocals, Value.category]; done) | rfl) ?_
  intro p_ e_ h_ s_ m_ bl_ me_ c_ T0 W0
  refine g_iload_n (pc := 0) W0 d_c_cp2_0 rfl ?_
  refine g_aload_n (pc := 1) W0 d_c_cp2_1 rfl rfl ?_
  refine g_arraylength (pc := 2) (i := 0) (64 : Int32) W0 rfl (by rw [hlen]; rfl) d_c_cp2_2 ?_
  refine g_icmpY 14 (pc := 3) W0 d_c_cp2_3 (by decide) (by decide) (by decide) ?_
  refine g_iload_n (pc := 14) W0 d_c_cp2_14 rfl ?_
  refine g_newarray (pc := 15) (ty := .int) (vs := [.int (0 : Int32), .int (0 : Int32)]) 2 W0 (hw _ (List.mem_of_getElem? (i := 9) rfl)) rfl (by decide) (by decide) (by decide) rfl d_c_cp2_15 (by decide) (by decide) (fun T2 b1 W3 => ?_)
  have W4 := W3.re (os' := [(a, (.array .int), vs), (b1, (.array .int), [.int (0 : Int32), .int (0 : Int32)])]) rfl
  refine g_astore_n (pc := 17) (ls' := #[.val (.ref a), .val (.int (2 : Int32)), .val (.ref b1)]) W4 d_c_cp2_17 rfl rfl ?_
  refine g_aload_n (pc := 18) W4 d_c_cp2_18 rfl rfl ?_
  refine g_iconst (pc := 19) (0 : Int32) (by decide) W4 d_c_cp2_19 ?_
  refine g_aload_n (pc := 20) W4 d_c_cp2_20 rfl rfl ?_
  refine g_iconst (pc := 21) (0 : Int32) (by decide) W4 d_c_cp2_21 ?_
  refine g_aload_n (pc := 22) W4 d_c_cp2_22 rfl rfl ?_
  refine g_arraylength (pc := 23) (i := 0) (64 : Int32) W4 rfl (by rw [hlen]; rfl) d_c_cp2_23 ?_
  refine g_iload_n (pc := 24) W4 d_c_cp2_24 rfl ?_
  refine g_static (pc := 25) (Wt := 4) (argsL := [.int (64 : Int32), .int (2 : Int32)]) (rest := [.int (0 : Int32), .ref b1, .int (0 : Int32), .ref a]) (loc := []) (rst := [(a, (.array .int), vs), (b1, (.array .int), [.int (0 : Int32), .int (0 : Int32)])]) W4 (hw _ (List.mem_of_getElem? (i := 23) rfl)) (hw _ (List.mem_of_getElem? (i := 24) rfl)) (hw _ (List.mem_of_getElem? (i := 25) rfl)) (hw _ (List.mem_of_getElem? (i := 26) rfl)) (by decide) (c_min2 l Z a0 hw ) Spl.none rfl pd_II__I rfl rfl rfl (Nat.le_of_ble_eq_true rfl) (by decide) (by decide) (by decide) (by decide) d_c_cp2_25 ?_
  rintro T5 _ _ ⟨rfl, rfl⟩ W6
  have W7 := W6.re (os' := [(a, (.array .int), vs), (b1, (.array .int), [.int (0 : Int32), .int (0 : Int32)])]) rfl
  show Go p_ e_ bl_ _ (T5.setTop (mkF m_ 28 #[.val (.ref a), .val (.int (2 : Int32)), .val (.ref b1)] [.int (2 : Int32), .int (0 : Int32), .ref b1, .int (0 : Int32), .ref a]))
  refine g_arraycopy (pc := 28) (i := 0) (j := 1) (Wt := 0) (vd' := [.int x0, .int x1]) (os' := [(a, (.array .int), vs), (b1, (.array .int), [.int x0, .int x1])]) W7 (hw _ (List.mem_of_getElem? (i := 27) rfl)) (hw _ (List.mem_of_getElem? (i := 30) rfl)) (hw _ (List.mem_of_getElem? (i := 28) rfl)) (hw _ (List.mem_of_getElem? (i := 29) rfl)) rfl rfl rfl (by decide) (by decide) (by decide) (by rw [hlen]; decide) (by decide) (by rw [hlen]; decide) (by decide) (by show [vs.getD (0 + 0) .null, vs.getD (0 + 1) .null] = _; simp only [Nat.zero_add, List.getD_eq_getElem?_getD, q0, q1, Option.getD_some]) rfl rfl (Nat.le_of_ble_eq_true rfl) (by decide) (by decide) d_c_cp2_28 (fun T8 W9 => ?_)
  refine g_aload_n (pc := 31) W9 d_c_cp2_31 rfl rfl ?_
  exact g_areturn (pc := 32) rfl rfl W9 d_c_cp2_32 (by decide) (by decide) ⟨b1, rfl, rfl⟩
theorem d_c_trim1_0 : decode prog_22_method_7_code 0 = .ok (.aload_n 0, 1) := by decide +kernel
theorem d_c_trim1_1 : decode prog_22_method_7_code 1 = .ok (.getfield 9, 3) := by decide +kernel
theorem d_c_trim1_4 : decode prog_22_method_7_code 4 = .ok (.arraylength, 1) := by decide +kernel
theorem d_c_trim1_5 : decode prog_22_method_7_code 5 = .ok (.iconst 2, 1) := by decide +kernel
theorem d_c_trim1_6 : decode prog_22_method_7_code 6 = .ok (.aload_n 0, 1) := by decide +kernel
theorem d_c_trim1_7 : decode prog_22_method_7_code 7 = .ok (.getfield 15, 3) := by decide +kernel
theorem d_c_trim1_10 : decode prog_22_method_7_code 10 = .ok (.imul, 1) := by decide +kernel
theorem d_c_trim1_11 : decode prog_22_method_7_code 11 = .ok (.if_icmp .le 20, 3) := by decide +kernel
theorem d_c_trim1_14 : decode prog_22_method_7_code 14 = .ok (.aload_n 0, 1) := by decide +kernel
theorem d_c_trim1_15 : decode prog_22_method_7_code 15 = .ok (.aload_n 0, 1) := by decide +kernel
theorem d_c_trim1_16 : decode prog_22_method_7_code 16 = .ok (.getfield 9, 3) := by decide +kernel
theorem d_c_trim1_19 : decode prog_22_method_7_code 19 = .ok (.iconst 2, 1) := by decide +kernel
theorem d_c_trim1_20 : decode prog_22_method_7_code 20 = .ok (.aload_n 0, 1) := by decide +kernel
theorem d_c_trim1_21 : decode prog_22_method_7_code 21 = .ok (.getfield 15, 3) := by decide +kernel
theorem d_c_trim1_24 : decode prog_22_method_7_code 24 = .ok (.imul, 1) := by decide +kernel
theorem d_c_trim1_25 : decode prog_22_method_7_code 25 = .ok (.invokestatic 30, 3) := by decide +kernel
theorem d_c_trim1_28 : decode prog_22_method_7_code 28 = .ok (.putfield 9, 3) := by decide +kernel
theorem d_c_trim1_31 : decode prog_22_method_7_code 31 = .ok (.return_, 1) := by decide +kernel
set_option maxRecDepth 65536 in
set_option maxHeartbeats 40000000 in
theorem c_trim1 (l : Launch) (Z : State) (a0 : Array Value) (hw : ∀ d ∈ tables_1, d.before a0 Z = true) {B : Nat} (a b : Addr) (vs : List Value) (x0 x1 : Int32) (hlen : vs.length = 64) (q0 : vs[0]? = some (.int x0)) (q1 : vs[1]? = some (.int x1)) :
    Con l Z FM B (⟨"com/example/metanode/metanode/graph/IntPairs", "trim", "()V"⟩ : MethodName) prog_22_method_7_code 1 none ({ frames := 2, cells := 1, slots := 2, locals := 33 } : Room) [] #[.ref a] [(a, (.object "com/example/metanode/metanode/graph/IntPairs"), [.ref b, .int (1 : Int32)]), (b, (.array .int), vs)] (fun v os => ∃ b9, v = none ∧ os = [(b, (.array .int), vs), (b9, (.array .int), [.int x0, .int x1]), (a, (.object "com/example/metanode/metanode/graph/IntPairs"), [.ref b9, .int (1 : Int32)])]) := by
  refine Con.of (plainFor_of_name (by first | (simp [plainName, overriddenIn]; done) | decide +kernel)) (ls := #[.val (.ref a)]) (fun m => by first | (simp [entryFrame, mkF, argsToLocals, Value.category]; done) | rfl) ?_
  intro p_ e_ h_ s_ m_ bl_ me_ c_ T0 W0
  refine g_aload_n (pc := 0) W0 d_c_trim1_0 rfl rfl ?_
  refine g_getfield (pc := 1) (i := 0) (j := 0) (host := "") W0 (Or.inl (hw _ (List.mem_of_getElem? (i := 10) rfl))) rfl rfl rfl d_c_trim1_1 (fun T1 W2 => ?_)
  refine g_arraylength (pc := 4) (i := 1) (64 : Int32) W2 rfl (by rw [hlen]; rfl) d_c_trim1_4 ?_
  refine g_iconst (pc := 5) (2 : Int32) (by decide) W2 d_c_trim1_5 ?_
  refine g_aload_n (pc := 6) W2 d_c_trim1_6 rfl rfl ?_
  refine g_getfield (pc := 7) (i := 0) (j := 1) (host := "") W2 (Or.inl (hw _ (List.mem_of_getElem? (i := 17) rfl))) rfl rfl rfl d_c_trim1_7 (fun T3 W4 => ?_)
  refine g_imul (pc := 10) W4 d_c_trim1_10 ?_
  show Go p_ e_ bl_ _ (T3.setTop (mkF m_ 11 #[.val (.ref a)] [.int (2 : Int32), .int (64 : Int32)]))
  refine g_icmpN (pc := 11) W4 d_c_trim1_11 (by decide) ?_
  refine g_aload_n (pc := 14) W4 d_c_trim1_14 rfl rfl ?_
  refine g_aload_n (pc := 15) W4 d_c_trim1_15 rfl rfl ?_
  refine g_getfield (pc := 16) (i := 0) (j := 0) (host := "") W4 (Or.inl (hw _ (List.mem_of_getElem? (i := 10) rfl))) rfl rfl rfl d_c_trim1_16 (fun T5 W6 => ?_)
  refine g_iconst (pc := 19) (2 : Int32) (by decide) W6 d_c_trim1_19 ?_
  refine g_aload_n (pc := 20) W6 d_c_trim1_20 rfl rfl ?_
  refine g_getfield (pc := 21) (i := 0) (j := 1) (host := "") W6 (Or.inl (hw _ (List.mem_of_getElem? (i := 17) rfl))) rfl rfl rfl d_c_trim1_21 (fun T7 W8 => ?_)
  refine g_imul (pc := 24) W8 d_c_trim1_24 ?_
  show Go p_ e_ bl_ _ (T7.setTop (mkF m_ 25 #[.val (.ref a)] [.int (2 : Int32), .ref b, .ref a]))
  refine g_static (pc := 25) (Wt := 1) (argsL := [.ref b, .int (2 : Int32)]) (rest := [.ref a]) (loc := [(b, (.array .int), vs)]) (rst := [(a, (.object "com/example/metanode/metanode/graph/IntPairs"), [.ref b, .int (1 : Int32)])]) W8 (hw _ (List.mem_of_getElem? (i := 19) rfl)) (hw _ (List.mem_of_getElem? (i := 20) rfl)) (hw _ (List.mem_of_getElem? (i := 21) rfl)) (hw _ (List.mem_of_getElem? (i := 22) rfl)) (by decide) (c_cp2 l Z a0 hw b vs x0 x1 hlen q0 q1) ⟨[1, 0], by decide, rfl⟩ rfl pd_AII__AI rfl rfl rfl (Nat.le_of_ble_eq_true rfl) (by decide) (by decide) (by decide) (by decide) d_c_trim1_25 ?_
  rintro T10 _ _ ⟨b9, rfl, rfl⟩ W11
  have W12 := W11.re (os' := [(b, (.array .int), vs), (b9, (.array .int), [.int x0, .int x1]), (a, (.object "com/example/metanode/metanode/graph/IntPairs"), [.ref b, .int (1 : Int32)])]) rfl
  show Go p_ e_ bl_ _ (T10.setTop (mkF m_ 28 #[.val (.ref a)] [.ref b9, .ref a]))
  refine g_putfield (pc := 28) (i := 2) (j := 0) (ty := (.array .int)) (os' := [(b, (.array .int), vs), (b9, (.array .int), [.int x0, .int x1]), (a, (.object "com/example/metanode/metanode/graph/IntPairs"), [.ref b9, .int (1 : Int32)])]) (host := "") W12 (Or.inl (hw _ (List.mem_of_getElem? (i := 10) rfl))) (cls_IntPairs hw) (Or.inl (hw _ (List.mem_of_getElem? (i := 11) rfl))) (hw _ (List.mem_of_getElem? (i := 1) rfl)) rfl rfl rfl (by decide) rfl rfl rfl d_c_trim1_28 (fun T13 W14 => ?_)
  exact g_return (pc := 31) rfl W14 d_c_trim1_31 (by decide) (by decide) ⟨b9, rfl, rfl⟩
theorem d_c_again1_0 : decode prog_22_method_7_code 0 = .ok (.aload_n 0, 1) := by decide +kernel
theorem d_c_again1_1 : decode prog_22_method_7_code 1 = .ok (.getfield 9, 3) := by decide +kernel
theorem d_c_again1_4 : decode prog_22_method_7_code 4 = .ok (.arraylength, 1) := by decide +kernel
theorem d_c_again1_5 : decode prog_22_method_7_code 5 = .ok (.iconst 2, 1) := by decide +kernel
theorem d_c_again1_6 : decode prog_22_method_7_code 6 = .ok (.aload_n 0, 1) := by decide +kernel
theorem d_c_again1_7 : decode prog_22_method_7_code 7 = .ok (.getfield 15, 3) := by decide +kernel
theorem d_c_again1_10 : decode prog_22_method_7_code 10 = .ok (.imul, 1) := by decide +kernel
theorem d_c_again1_11 : decode prog_22_method_7_code 11 = .ok (.if_icmp .le 20, 3) := by decide +kernel
theorem d_c_again1_31 : decode prog_22_method_7_code 31 = .ok (.return_, 1) := by decide +kernel
set_option maxRecDepth 65536 in
set_option maxHeartbeats 40000000 in
theorem c_again1 (l : Launch) (Z : State) (a0 : Array Value) (hw : ∀ d ∈ tables_1, d.before a0 Z = true) {B : Nat} (a b : Addr) (x0 x1 : Int32) :
    Con l Z FM B (⟨"com/example/metanode/metanode/graph/IntPairs", "trim", "()V"⟩ : MethodName) prog_22_method_7_code 1 none ({ frames := 0, cells := 0, slots := 0, locals := 0 } : Room) [] #[.ref a] [(a, (.object "com/example/metanode/metanode/graph/IntPairs"), [.ref b, .int (1 : Int32)]), (b, (.array .int), [.int x0, .int x1])] (fun v os => v = none ∧ os = [(a, (.object "com/example/metanode/metanode/graph/IntPairs"), [.ref b, .int (1 : Int32)]), (b, (.array .int), [.int x0, .int x1])]) := by
  refine Con.of (plainFor_of_name (by first | (simp [plainName, overriddenIn]; done) | decide +kernel)) (ls := #[.val (.ref a)]) (fun m => by first | (simp [entryFrame, mkF, argsToLocals, Value.category]; done) | rfl) ?_
  intro p_ e_ h_ s_ m_ bl_ me_ c_ T0 W0
  refine g_aload_n (pc := 0) W0 d_c_again1_0 rfl rfl ?_
  refine g_getfield (pc := 1) (i := 0) (j := 0) (host := "") W0 (Or.inl (hw _ (List.mem_of_getElem? (i := 10) rfl))) rfl rfl rfl d_c_again1_1 (fun T1 W2 => ?_)
  refine g_arraylength (pc := 4) (i := 1) (2 : Int32) W2 rfl rfl d_c_again1_4 ?_
  refine g_iconst (pc := 5) (2 : Int32) (by decide) W2 d_c_again1_5 ?_
  refine g_aload_n (pc := 6) W2 d_c_again1_6 rfl rfl ?_
  refine g_getfield (pc := 7) (i := 0) (j := 1) (host := "") W2 (Or.inl (hw _ (List.mem_of_getElem? (i := 17) rfl))) rfl rfl rfl d_c_again1_7 (fun T3 W4 => ?_)
  refine g_imul (pc := 10) W4 d_c_again1_10 ?_
  show Go p_ e_ bl_ _ (T3.setTop (mkF m_ 11 #[.val (.ref a)] [.int (2 : Int32), .int (2 : Int32)]))
  refine g_icmpY 31 (pc := 11) W4 d_c_again1_11 (by decide) (by decide) (by decide) ?_
  exact g_return (pc := 31) rfl W4 d_c_again1_31 (by decide) (by decide) ⟨rfl, rfl⟩
theorem d_c_min4_0 : decode jdk_29_method_69_code 0 = .ok (.iload_n 0, 1) := by decide +kernel
theorem d_c_min4_1 : decode jdk_29_method_69_code 1 = .ok (.iload_n 1, 1) := by decide +kernel
theorem d_c_min4_2 : decode jdk_29_method_69_code 2 = .ok (.if_icmp .gt 7, 3) := by decide +kernel
theorem d_c_min4_9 : decode jdk_29_method_69_code 9 = .ok (.iload_n 1, 1) := by decide +kernel
theorem d_c_min4_10 : decode jdk_29_method_69_code 10 = .ok (.ireturn, 1) := by decide +kernel
set_option maxRecDepth 65536 in
set_option maxHeartbeats 40000000 in
theorem c_min4 (l : Launch) (Z : State) (a0 : Array Value) (hw : ∀ d ∈ tables_1, d.before a0 Z = true) {B : Nat}  :
    Con l Z FM B (⟨"java/lang/Math", "min", "(II)I"⟩ : MethodName) jdk_29_method_69_code 2 (some .int) ({ frames := 0, cells := 0, slots := 0, locals := 0 } : Room) [] #[.int (64 : Int32), .int (4 : Int32)] [] (fun v os => v = some (.int (4 : Int32)) ∧ os = []) := by
  refine Con.of (JP.mathPlain rfl (by decide +kernel)) (ls := #[.val (.int (64 : Int32)), .val (.int (4 : Int32))]) (fun m => by first | (simp [entryFrame, mkF, argsToLocals, Value.category]; done) | rfl) ?_
  intro p_ e_ h_ s_ m_ bl_ me_ c_ T0 W0
  refine g_iload_n (pc := 0) W0 d_c_min4_0 rfl ?_
  refine g_iload_n (pc := 1) W0 d_c_min4_1 rfl ?_
  refine g_icmpY 9 (pc := 2) W0 d_c_min4_2 (by decide) (by decide) (by decide) ?_
  refine g_iload_n (pc := 9) W0 d_c_min4_9 rfl ?_
  exact g_ireturn (pc := 10) rfl W0 d_c_min4_10 (by decide) (by decide) ⟨rfl, rfl⟩
theorem d_c_cp4_0 : decode jdk_65_method_123_code 0 = .ok (.iload_n 1, 1) := by decide +kernel
theorem d_c_cp4_1 : decode jdk_65_method_123_code 1 = .ok (.aload_n 0, 1) := by decide +kernel
theorem d_c_cp4_2 : decode jdk_65_method_123_code 2 = .ok (.arraylength, 1) := by decide +kernel
theorem d_c_cp4_3 : decode jdk_65_method_123_code 3 = .ok (.if_icmp .ne 11, 3) := by decide +kernel
theorem d_c_cp4_14 : decode jdk_65_method_123_code 14 = .ok (.iload_n 1, 1) := by decide +kernel
theorem d_c_cp4_15 : decode jdk_65_method_123_code 15 = .ok (.newarray .int, 2) := by decide +kernel
theorem d_c_cp4_17 : decode jdk_65_method_123_code 17 = .ok (.astore_n 2, 1) := by decide +kernel
theorem d_c_cp4_18 : decode jdk_65_method_123_code 18 = .ok (.aload_n 0, 1) := by decide +kernel
theorem d_c_cp4_19 : decode jdk_65_method_123_code 19 = .ok (.iconst 0, 1) := by decide +kernel
theorem d_c_cp4_20 : decode jdk_65_method_123_code 20 = .ok (.aload_n 2, 1) := by decide +kernel
theorem d_c_cp4_21 : decode jdk_65_method_123_code 21 = .ok (.iconst 0, 1) := by decide +kernel
theorem d_c_cp4_22 : decode jdk_65_method_123_code 22 = .ok (.aload_n 0, 1) := by decide +kernel
theorem d_c_cp4_23 : decode jdk_65_method_123_code 23 = .ok (.arraylength, 1) := by decide +kernel
theorem d_c_cp4_24 : decode jdk_65_method_123_code 24 = .ok (.iload_n 1, 1) := by decide +kernel
theorem d_c_cp4_25 : decode jdk_65_method_123_code 25 = .ok (.invokestatic 304, 3) := by decide +kernel
theorem d_c_cp4_28 : decode jdk_65_method_123_code 28 = .ok (.invokestatic 150, 3) := by decide +kernel
theorem d_c_cp4_31 : decode jdk_65_method_123_code 31 = .ok (.aload_n 2, 1) := by decide +kernel
theorem d_c_cp4_32 : decode jdk_65_method_123_code 32 = .ok (.areturn, 1) := by decide +kernel
set_option maxRecDepth 65536 in
set_option maxHeartbeats 40000000 in
theorem c_cp4 (l : Launch) (Z : State) (a0 : Array Value) (hw : ∀ d ∈ tables_1, d.before a0 Z = true) {B : Nat} (a : Addr) (vs : List Value) (x0 x1 x2 x3 : Int32) (hlen : vs.length = 64) (q0 : vs[0]? = some (.int x0)) (q1 : vs[1]? = some (.int x1)) (q2 : vs[2]? = some (.int x2)) (q3 : vs[3]? = some (.int x3)) :
    Con l Z FM B (⟨"java/util/Arrays", "copyOf", "([II)[I"⟩ : MethodName) jdk_65_method_123_code 3 (some (.array .int)) ({ frames := 1, cells := 1, slots := 4, locals := 18 } : Room) [] #[.ref a, .int (4 : Int32)] [(a, (.array .int), vs)] (fun v os => ∃ b1, v = some (.ref b1) ∧ os = [(a, (.array .int), vs), (b1, (.array .int), [.int x0, .int x1, .int x2, .int x3])]) := by
  refine Con.of (plainFor_of_name (by first | (simp [plainName, overriddenIn]; done) | decide +kernel)) (ls := #[.val (.ref a), .val (.int (4 : Int32)), .unset]) (fun m => by first | (simp [entryFrame, mkF, argsToLocals, Value.category]; done) | rfl) ?_
  intro p_ e_ h_ s_ m_ bl_ me_ c_ T0 W0
  refine g_iload_n (pc := 0) W0 d_c_cp4_0 rfl ?_
  refine g_aload_n (pc := 1) W0 d_c_cp4_1 rfl rfl ?_
  refine g_arraylength (pc := 2) (i := 0) (64 : Int32) W0 rfl (by rw [hlen]; rfl) d_c_cp4_2 ?_
  refine g_icmpY 14 (pc := 3) W0 d_c_cp4_3 (by decide) (by decide) (by decide) ?_
  refine g_iload_n (pc := 14) W0 d_c_cp4_14 rfl ?_
  refine g_newarray (pc := 15) (ty := .int) (vs := [.int (0 : Int32), .int (0 : Int32), .int (0 : Int32), .int (0 : Int32)]) 4 W0 (hw _ (List.mem_of_getElem? (i := 9) rfl)) rfl (by decide) (by decide) (by decide) rfl d_c_cp4_15 (by decide) (by decide) (fun T2 b1 W3 => ?_)
  have W4 := W3.re (os' := [(a, (.array .int), vs), (b1, (.array .int), [.int (0 : Int32), .int (0 : Int32), .int (0 : Int32), .int (0 : Int32)])]) rfl
  refine g_astore_n (pc := 17) (ls' := #[.val (.ref a), .val (.int (4 : Int32)), .val (.ref b1)]) W4 d_c_cp4_17 rfl rfl ?_
  refine g_aload_n (pc := 18) W4 d_c_cp4_18 rfl rfl ?_
  refine g_iconst (pc := 19) (0 : Int32) (by decide) W4 d_c_cp4_19 ?_
  refine g_aload_n (pc := 20) W4 d_c_cp4_20 rfl rfl ?_
  refine g_iconst (pc := 21) (0 : Int32) (by decide) W4 d_c_cp4_21 ?_
  refine g_aload_n (pc := 22) W4 d_c_cp4_22 rfl rfl ?_
  refine g_arraylength (pc := 23) (i := 0) (64 : Int32) W4 rfl (by rw [hlen]; rfl) d_c_cp4_23 ?_
  refine g_iload_n (pc := 24) W4 d_c_cp4_24 rfl ?_
  refine g_static (pc := 25) (Wt := 4) (argsL := [.int (64 : Int32), .int (4 : Int32)]) (rest := [.int (0 : Int32), .ref b1, .int (0 : Int32), .ref a]) (loc := []) (rst := [(a, (.array .int), vs), (b1, (.array .int), [.int (0 : Int32), .int (0 : Int32), .int (0 : Int32), .int (0 : Int32)])]) W4 (hw _ (List.mem_of_getElem? (i := 23) rfl)) (hw _ (List.mem_of_getElem? (i := 24) rfl)) (hw _ (List.mem_of_getElem? (i := 25) rfl)) (hw _ (List.mem_of_getElem? (i := 26) rfl)) (by decide) (c_min4 l Z a0 hw ) Spl.none rfl pd_II__I rfl rfl rfl (Nat.le_of_ble_eq_true rfl) (by decide) (by decide) (by decide) (by decide) d_c_cp4_25 ?_
  rintro T5 _ _ ⟨rfl, rfl⟩ W6
  have W7 := W6.re (os' := [(a, (.array .int), vs), (b1, (.array .int), [.int (0 : Int32), .int (0 : Int32), .int (0 : Int32), .int (0 : Int32)])]) rfl
  show Go p_ e_ bl_ _ (T5.setTop (mkF m_ 28 #[.val (.ref a), .val (.int (4 : Int32)), .val (.ref b1)] [.int (4 : Int32), .int (0 : Int32), .ref b1, .int (0 : Int32), .ref a]))
  refine g_arraycopy (pc := 28) (i := 0) (j := 1) (Wt := 0) (vd' := [.int x0, .int x1, .int x2, .int x3]) (os' := [(a, (.array .int), vs), (b1, (.array .int), [.int x0, .int x1, .int x2, .int x3])]) W7 (hw _ (List.mem_of_getElem? (i := 27) rfl)) (hw _ (List.mem_of_getElem? (i := 30) rfl)) (hw _ (List.mem_of_getElem? (i := 28) rfl)) (hw _ (List.mem_of_getElem? (i := 29) rfl)) rfl rfl rfl (by decide) (by decide) (by decide) (by rw [hlen]; decide) (by decide) (by rw [hlen]; decide) (by decide) (by show [vs.getD (0 + 0) .null, vs.getD (0 + 1) .null, vs.getD (0 + 2) .null, vs.getD (0 + 3) .null] = _; simp only [Nat.zero_add, List.getD_eq_getElem?_getD, q0, q1, q2, q3, Option.getD_some]) rfl rfl (Nat.le_of_ble_eq_true rfl) (by decide) (by decide) d_c_cp4_28 (fun T8 W9 => ?_)
  refine g_aload_n (pc := 31) W9 d_c_cp4_31 rfl rfl ?_
  exact g_areturn (pc := 32) rfl rfl W9 d_c_cp4_32 (by decide) (by decide) ⟨b1, rfl, rfl⟩
theorem d_c_trim2_0 : decode prog_22_method_7_code 0 = .ok (.aload_n 0, 1) := by decide +kernel
theorem d_c_trim2_1 : decode prog_22_method_7_code 1 = .ok (.getfield 9, 3) := by decide +kernel
theorem d_c_trim2_4 : decode prog_22_method_7_code 4 = .ok (.arraylength, 1) := by decide +kernel
theorem d_c_trim2_5 : decode prog_22_method_7_code 5 = .ok (.iconst 2, 1) := by decide +kernel
theorem d_c_trim2_6 : decode prog_22_method_7_code 6 = .ok (.aload_n 0, 1) := by decide +kernel
theorem d_c_trim2_7 : decode prog_22_method_7_code 7 = .ok (.getfield 15, 3) := by decide +kernel
theorem d_c_trim2_10 : decode prog_22_method_7_code 10 = .ok (.imul, 1) := by decide +kernel
theorem d_c_trim2_11 : decode prog_22_method_7_code 11 = .ok (.if_icmp .le 20, 3) := by decide +kernel
theorem d_c_trim2_14 : decode prog_22_method_7_code 14 = .ok (.aload_n 0, 1) := by decide +kernel
theorem d_c_trim2_15 : decode prog_22_method_7_code 15 = .ok (.aload_n 0, 1) := by decide +kernel
theorem d_c_trim2_16 : decode prog_22_method_7_code 16 = .ok (.getfield 9, 3) := by decide +kernel
theorem d_c_trim2_19 : decode prog_22_method_7_code 19 = .ok (.iconst 2, 1) := by decide +kernel
theorem d_c_trim2_20 : decode prog_22_method_7_code 20 = .ok (.aload_n 0, 1) := by decide +kernel
theorem d_c_trim2_21 : decode prog_22_method_7_code 21 = .ok (.getfield 15, 3) := by decide +kernel
theorem d_c_trim2_24 : decode prog_22_method_7_code 24 = .ok (.imul, 1) := by decide +kernel
theorem d_c_trim2_25 : decode prog_22_method_7_code 25 = .ok (.invokestatic 30, 3) := by decide +kernel
theorem d_c_trim2_28 : decode prog_22_method_7_code 28 = .ok (.putfield 9, 3) := by decide +kernel
theorem d_c_trim2_31 : decode prog_22_method_7_code 31 = .ok (.return_, 1) := by decide +kernel
set_option maxRecDepth 65536 in
set_option maxHeartbeats 40000000 in
theorem c_trim2 (l : Launch) (Z : State) (a0 : Array Value) (hw : ∀ d ∈ tables_1, d.before a0 Z = true) {B : Nat} (a b : Addr) (vs : List Value) (x0 x1 x2 x3 : Int32) (hlen : vs.length = 64) (q0 : vs[0]? = some (.int x0)) (q1 : vs[1]? = some (.int x1)) (q2 : vs[2]? = some (.int x2)) (q3 : vs[3]? = some (.int x3)) :
    Con l Z FM B (⟨"com/example/metanode/metanode/graph/IntPairs", "trim", "()V"⟩ : MethodName) prog_22_method_7_code 1 none ({ frames := 2, cells := 1, slots := 4, locals := 33 } : Room) [] #[.ref a] [(a, (.object "com/example/metanode/metanode/graph/IntPairs"), [.ref b, .int (2 : Int32)]), (b, (.array .int), vs)] (fun v os => ∃ b9, v = none ∧ os = [(b, (.array .int), vs), (b9, (.array .int), [.int x0, .int x1, .int x2, .int x3]), (a, (.object "com/example/metanode/metanode/graph/IntPairs"), [.ref b9, .int (2 : Int32)])]) := by
  refine Con.of (plainFor_of_name (by first | (simp [plainName, overriddenIn]; done) | decide +kernel)) (ls := #[.val (.ref a)]) (fun m => by first | (simp [entryFrame, mkF, argsToLocals, Value.category]; done) | rfl) ?_
  intro p_ e_ h_ s_ m_ bl_ me_ c_ T0 W0
  refine g_aload_n (pc := 0) W0 d_c_trim2_0 rfl rfl ?_
  refine g_getfield (pc := 1) (i := 0) (j := 0) (host := "") W0 (Or.inl (hw _ (List.mem_of_getElem? (i := 10) rfl))) rfl rfl rfl d_c_trim2_1 (fun T1 W2 => ?_)
  refine g_arraylength (pc := 4) (i := 1) (64 : Int32) W2 rfl (by rw [hlen]; rfl) d_c_trim2_4 ?_
  refine g_iconst (pc := 5) (2 : Int32) (by decide) W2 d_c_trim2_5 ?_
  refine g_aload_n (pc := 6) W2 d_c_trim2_6 rfl rfl ?_
  refine g_getfield (pc := 7) (i := 0) (j := 1) (host := "") W2 (Or.inl (hw _ (List.mem_of_getElem? (i := 17) rfl))) rfl rfl rfl d_c_trim2_7 (fun T3 W4 => ?_)
  refine g_imul (pc := 10) W4 d_c_trim2_10 ?_
  show Go p_ e_ bl_ _ (T3.setTop (mkF m_ 11 #[.val (.ref a)] [.int (4 : Int32), .int (64 : Int32)]))
  refine g_icmpN (pc := 11) W4 d_c_trim2_11 (by decide) ?_
  refine g_aload_n (pc := 14) W4 d_c_trim2_14 rfl rfl ?_
  refine g_aload_n (pc := 15) W4 d_c_trim2_15 rfl rfl ?_
  refine g_getfield (pc := 16) (i := 0) (j := 0) (host := "") W4 (Or.inl (hw _ (List.mem_of_getElem? (i := 10) rfl))) rfl rfl rfl d_c_trim2_16 (fun T5 W6 => ?_)
  refine g_iconst (pc := 19) (2 : Int32) (by decide) W6 d_c_trim2_19 ?_
  refine g_aload_n (pc := 20) W6 d_c_trim2_20 rfl rfl ?_
  refine g_getfield (pc := 21) (i := 0) (j := 1) (host := "") W6 (Or.inl (hw _ (List.mem_of_getElem? (i := 17) rfl))) rfl rfl rfl d_c_trim2_21 (fun T7 W8 => ?_)
  refine g_imul (pc := 24) W8 d_c_trim2_24 ?_
  show Go p_ e_ bl_ _ (T7.setTop (mkF m_ 25 #[.val (.ref a)] [.int (4 : Int32), .ref b, .ref a]))
  refine g_static (pc := 25) (Wt := 1) (argsL := [.ref b, .int (4 : Int32)]) (rest := [.ref a]) (loc := [(b, (.array .int), vs)]) (rst := [(a, (.object "com/example/metanode/metanode/graph/IntPairs"), [.ref b, .int (2 : Int32)])]) W8 (hw _ (List.mem_of_getElem? (i := 19) rfl)) (hw _ (List.mem_of_getElem? (i := 20) rfl)) (hw _ (List.mem_of_getElem? (i := 21) rfl)) (hw _ (List.mem_of_getElem? (i := 22) rfl)) (by decide) (c_cp4 l Z a0 hw b vs x0 x1 x2 x3 hlen q0 q1 q2 q3) ⟨[1, 0], by decide, rfl⟩ rfl pd_AII__AI rfl rfl rfl (Nat.le_of_ble_eq_true rfl) (by decide) (by decide) (by decide) (by decide) d_c_trim2_25 ?_
  rintro T10 _ _ ⟨b9, rfl, rfl⟩ W11
  have W12 := W11.re (os' := [(b, (.array .int), vs), (b9, (.array .int), [.int x0, .int x1, .int x2, .int x3]), (a, (.object "com/example/metanode/metanode/graph/IntPairs"), [.ref b, .int (2 : Int32)])]) rfl
  show Go p_ e_ bl_ _ (T10.setTop (mkF m_ 28 #[.val (.ref a)] [.ref b9, .ref a]))
  refine g_putfield (pc := 28) (i := 2) (j := 0) (ty := (.array .int)) (os' := [(b, (.array .int), vs), (b9, (.array .int), [.int x0, .int x1, .int x2, .int x3]), (a, (.object "com/example/metanode/metanode/graph/IntPairs"), [.ref b9, .int (2 : Int32)])]) (host := "") W12 (Or.inl (hw _ (List.mem_of_getElem? (i := 10) rfl))) (cls_IntPairs hw) (Or.inl (hw _ (List.mem_of_getElem? (i := 11) rfl))) (hw _ (List.mem_of_getElem? (i := 1) rfl)) rfl rfl rfl (by decide) rfl rfl rfl d_c_trim2_28 (fun T13 W14 => ?_)
  exact g_return (pc := 31) rfl W14 d_c_trim2_31 (by decide) (by decide) ⟨b9, rfl, rfl⟩
theorem d_c_again2_0 : decode prog_22_method_7_code 0 = .ok (.aload_n 0, 1) := by decide +kernel
theorem d_c_again2_1 : decode prog_22_method_7_code 1 = .ok (.getfield 9, 3) := by decide +kernel
theorem d_c_again2_4 : decode prog_22_method_7_code 4 = .ok (.arraylength, 1) := by decide +kernel
theorem d_c_again2_5 : decode prog_22_method_7_code 5 = .ok (.iconst 2, 1) := by decide +kernel
theorem d_c_again2_6 : decode prog_22_method_7_code 6 = .ok (.aload_n 0, 1) := by decide +kernel
theorem d_c_again2_7 : decode prog_22_method_7_code 7 = .ok (.getfield 15, 3) := by decide +kernel
theorem d_c_again2_10 : decode prog_22_method_7_code 10 = .ok (.imul, 1) := by decide +kernel
theorem d_c_again2_11 : decode prog_22_method_7_code 11 = .ok (.if_icmp .le 20, 3) := by decide +kernel
theorem d_c_again2_31 : decode prog_22_method_7_code 31 = .ok (.return_, 1) := by decide +kernel
set_option maxRecDepth 65536 in
set_option maxHeartbeats 40000000 in
theorem c_again2 (l : Launch) (Z : State) (a0 : Array Value) (hw : ∀ d ∈ tables_1, d.before a0 Z = true) {B : Nat} (a b : Addr) (x0 x1 x2 x3 : Int32) :
    Con l Z FM B (⟨"com/example/metanode/metanode/graph/IntPairs", "trim", "()V"⟩ : MethodName) prog_22_method_7_code 1 none ({ frames := 0, cells := 0, slots := 0, locals := 0 } : Room) [] #[.ref a] [(a, (.object "com/example/metanode/metanode/graph/IntPairs"), [.ref b, .int (2 : Int32)]), (b, (.array .int), [.int x0, .int x1, .int x2, .int x3])] (fun v os => v = none ∧ os = [(a, (.object "com/example/metanode/metanode/graph/IntPairs"), [.ref b, .int (2 : Int32)]), (b, (.array .int), [.int x0, .int x1, .int x2, .int x3])]) := by
  refine Con.of (plainFor_of_name (by first | (simp [plainName, overriddenIn]; done) | decide +kernel)) (ls := #[.val (.ref a)]) (fun m => by first | (simp [entryFrame, mkF, argsToLocals, Value.category]; done) | rfl) ?_
  intro p_ e_ h_ s_ m_ bl_ me_ c_ T0 W0
  refine g_aload_n (pc := 0) W0 d_c_again2_0 rfl rfl ?_
  refine g_getfield (pc := 1) (i := 0) (j := 0) (host := "") W0 (Or.inl (hw _ (List.mem_of_getElem? (i := 10) rfl))) rfl rfl rfl d_c_again2_1 (fun T1 W2 => ?_)
  refine g_arraylength (pc := 4) (i := 1) (4 : Int32) W2 rfl rfl d_c_again2_4 ?_
  refine g_iconst (pc := 5) (2 : Int32) (by decide) W2 d_c_again2_5 ?_
  refine g_aload_n (pc := 6) W2 d_c_again2_6 rfl rfl ?_
  refine g_getfield (pc := 7) (i := 0) (j := 1) (host := "") W2 (Or.inl (hw _ (List.mem_of_getElem? (i := 17) rfl))) rfl rfl rfl d_c_again2_7 (fun T3 W4 => ?_)
  refine g_imul (pc := 10) W4 d_c_again2_10 ?_
  show Go p_ e_ bl_ _ (T3.setTop (mkF m_ 11 #[.val (.ref a)] [.int (4 : Int32), .int (4 : Int32)]))
  refine g_icmpY 31 (pc := 11) W4 d_c_again2_11 (by decide) (by decide) (by decide) ?_
  exact g_return (pc := 31) rfl W4 d_c_again2_31 (by decide) (by decide) ⟨rfl, rfl⟩
theorem d_c_min6_0 : decode jdk_29_method_69_code 0 = .ok (.iload_n 0, 1) := by decide +kernel
theorem d_c_min6_1 : decode jdk_29_method_69_code 1 = .ok (.iload_n 1, 1) := by decide +kernel
theorem d_c_min6_2 : decode jdk_29_method_69_code 2 = .ok (.if_icmp .gt 7, 3) := by decide +kernel
theorem d_c_min6_9 : decode jdk_29_method_69_code 9 = .ok (.iload_n 1, 1) := by decide +kernel
theorem d_c_min6_10 : decode jdk_29_method_69_code 10 = .ok (.ireturn, 1) := by decide +kernel
set_option maxRecDepth 65536 in
set_option maxHeartbeats 40000000 in
theorem c_min6 (l : Launch) (Z : State) (a0 : Array Value) (hw : ∀ d ∈ tables_1, d.before a0 Z = true) {B : Nat}  :
    Con l Z FM B (⟨"java/lang/Math", "min", "(II)I"⟩ : MethodName) jdk_29_method_69_code 2 (some .int) ({ frames := 0, cells := 0, slots := 0, locals := 0 } : Room) [] #[.int (64 : Int32), .int (6 : Int32)] [] (fun v os => v = some (.int (6 : Int32)) ∧ os = []) := by
  refine Con.of (JP.mathPlain rfl (by decide +kernel)) (ls := #[.val (.int (64 : Int32)), .val (.int (6 : Int32))]) (fun m => by first | (simp [entryFrame, mkF, argsToLocals, Value.category]; done) | rfl) ?_
  intro p_ e_ h_ s_ m_ bl_ me_ c_ T0 W0
  refine g_iload_n (pc := 0) W0 d_c_min6_0 rfl ?_
  refine g_iload_n (pc := 1) W0 d_c_min6_1 rfl ?_
  refine g_icmpY 9 (pc := 2) W0 d_c_min6_2 (by decide) (by decide) (by decide) ?_
  refine g_iload_n (pc := 9) W0 d_c_min6_9 rfl ?_
  exact g_ireturn (pc := 10) rfl W0 d_c_min6_10 (by decide) (by decide) ⟨rfl, rfl⟩
theorem d_c_cp6_0 : decode jdk_65_method_123_code 0 = .ok (.iload_n 1, 1) := by decide +kernel
theorem d_c_cp6_1 : decode jdk_65_method_123_code 1 = .ok (.aload_n 0, 1) := by decide +kernel
theorem d_c_cp6_2 : decode jdk_65_method_123_code 2 = .ok (.arraylength, 1) := by decide +kernel
theorem d_c_cp6_3 : decode jdk_65_method_123_code 3 = .ok (.if_icmp .ne 11, 3) := by decide +kernel
theorem d_c_cp6_14 : decode jdk_65_method_123_code 14 = .ok (.iload_n 1, 1) := by decide +kernel
theorem d_c_cp6_15 : decode jdk_65_method_123_code 15 = .ok (.newarray .int, 2) := by decide +kernel
theorem d_c_cp6_17 : decode jdk_65_method_123_code 17 = .ok (.astore_n 2, 1) := by decide +kernel
theorem d_c_cp6_18 : decode jdk_65_method_123_code 18 = .ok (.aload_n 0, 1) := by decide +kernel
theorem d_c_cp6_19 : decode jdk_65_method_123_code 19 = .ok (.iconst 0, 1) := by decide +kernel
theorem d_c_cp6_20 : decode jdk_65_method_123_code 20 = .ok (.aload_n 2, 1) := by decide +kernel
theorem d_c_cp6_21 : decode jdk_65_method_123_code 21 = .ok (.iconst 0, 1) := by decide +kernel
theorem d_c_cp6_22 : decode jdk_65_method_123_code 22 = .ok (.aload_n 0, 1) := by decide +kernel
theorem d_c_cp6_23 : decode jdk_65_method_123_code 23 = .ok (.arraylength, 1) := by decide +kernel
theorem d_c_cp6_24 : decode jdk_65_method_123_code 24 = .ok (.iload_n 1, 1) := by decide +kernel
theorem d_c_cp6_25 : decode jdk_65_method_123_code 25 = .ok (.invokestatic 304, 3) := by decide +kernel
theorem d_c_cp6_28 : decode jdk_65_method_123_code 28 = .ok (.invokestatic 150, 3) := by decide +kernel
theorem d_c_cp6_31 : decode jdk_65_method_123_code 31 = .ok (.aload_n 2, 1) := by decide +kernel
theorem d_c_cp6_32 : decode jdk_65_method_123_code 32 = .ok (.areturn, 1) := by decide +kernel
set_option maxRecDepth 65536 in
set_option maxHeartbeats 40000000 in
theorem c_cp6 (l : Launch) (Z : State) (a0 : Array Value) (hw : ∀ d ∈ tables_1, d.before a0 Z = true) {B : Nat} (a : Addr) (vs : List Value) (x0 x1 x2 x3 x4 x5 : Int32) (hlen : vs.length = 64) (q0 : vs[0]? = some (.int x0)) (q1 : vs[1]? = some (.int x1)) (q2 : vs[2]? = some (.int x2)) (q3 : vs[3]? = some (.int x3)) (q4 : vs[4]? = some (.int x4)) (q5 : vs[5]? = some (.int x5)) :
    Con l Z FM B (⟨"java/util/Arrays", "copyOf", "([II)[I"⟩ : MethodName) jdk_65_method_123_code 3 (some (.array .int)) ({ frames := 1, cells := 1, slots := 6, locals := 18 } : Room) [] #[.ref a, .int (6 : Int32)] [(a, (.array .int), vs)] (fun v os => ∃ b1, v = some (.ref b1) ∧ os = [(a, (.array .int), vs), (b1, (.array .int), [.int x0, .int x1, .int x2, .int x3, .int x4, .int x5])]) := by
  refine Con.of (plainFor_of_name (by first | (simp [plainName, overriddenIn]; done) | decide +kernel)) (ls := #[.val (.ref a), .val (.int (6 : Int32)), .unset]) (fun m => by first | (simp [entryFrame, mkF, argsToLocals, Value.category]; done) | rfl) ?_
  intro p_ e_ h_ s_ m_ bl_ me_ c_ T0 W0
  refine g_iload_n (pc := 0) W0 d_c_cp6_0 rfl ?_
  refine g_aload_n (pc := 1) W0 d_c_cp6_1 rfl rfl ?_
  refine g_arraylength (pc := 2) (i := 0) (64 : Int32) W0 rfl (by rw [hlen]; rfl) d_c_cp6_2 ?_
  refine g_icmpY 14 (pc := 3) W0 d_c_cp6_3 (by decide) (by decide) (by decide) ?_
  refine g_iload_n (pc := 14) W0 d_c_cp6_14 rfl ?_
  refine g_newarray (pc := 15) (ty := .int) (vs := [.int (0 : Int32), .int (0 : Int32), .int (0 : Int32), .int (0 : Int32), .int (0 : Int32), .int (0 : Int32)]) 6 W0 (hw _ (List.mem_of_getElem? (i := 9) rfl)) rfl (by decide) (by decide) (by decide) rfl d_c_cp6_15 (by decide) (by decide) (fun T2 b1 W3 => ?_)
  have W4 := W3.re (os' := [(a, (.array .int), vs), (b1, (.array .int), [.int (0 : Int32), .int (0 : Int32), .int (0 : Int32), .int (0 : Int32), .int (0 : Int32), .int (0 : Int32)])]) rfl
  refine g_astore_n (pc := 17) (ls' := #[.val (.ref a), .val (.int (6 : Int32)), .val (.ref b1)]) W4 d_c_cp6_17 rfl rfl ?_
  refine g_aload_n (pc := 18) W4 d_c_cp6_18 rfl rfl ?_
  refine g_iconst (pc := 19) (0 : Int32) (by decide) W4 d_c_cp6_19 ?_
  refine g_aload_n (pc := 20) W4 d_c_cp6_20 rfl rfl ?_
  refine g_iconst (pc := 21) (0 : Int32) (by decide) W4 d_c_cp6_21 ?_
  refine g_aload_n (pc := 22) W4 d_c_cp6_22 rfl rfl ?_
  refine g_arraylength (pc := 23) (i := 0) (64 : Int32) W4 rfl (by rw [hlen]; rfl) d_c_cp6_23 ?_
  refine g_iload_n (pc := 24) W4 d_c_cp6_24 rfl ?_
  refine g_static (pc := 25) (Wt := 4) (argsL := [.int (64 : Int32), .int (6 : Int32)]) (rest := [.int (0 : Int32), .ref b1, .int (0 : Int32), .ref a]) (loc := []) (rst := [(a, (.array .int), vs), (b1, (.array .int), [.int (0 : Int32), .int (0 : Int32), .int (0 : Int32), .int (0 : Int32), .int (0 : Int32), .int (0 : Int32)])]) W4 (hw _ (List.mem_of_getElem? (i := 23) rfl)) (hw _ (List.mem_of_getElem? (i := 24) rfl)) (hw _ (List.mem_of_getElem? (i := 25) rfl)) (hw _ (List.mem_of_getElem? (i := 26) rfl)) (by decide) (c_min6 l Z a0 hw ) Spl.none rfl pd_II__I rfl rfl rfl (Nat.le_of_ble_eq_true rfl) (by decide) (by decide) (by decide) (by decide) d_c_cp6_25 ?_
  rintro T5 _ _ ⟨rfl, rfl⟩ W6
  have W7 := W6.re (os' := [(a, (.array .int), vs), (b1, (.array .int), [.int (0 : Int32), .int (0 : Int32), .int (0 : Int32), .int (0 : Int32), .int (0 : Int32), .int (0 : Int32)])]) rfl
  show Go p_ e_ bl_ _ (T5.setTop (mkF m_ 28 #[.val (.ref a), .val (.int (6 : Int32)), .val (.ref b1)] [.int (6 : Int32), .int (0 : Int32), .ref b1, .int (0 : Int32), .ref a]))
  refine g_arraycopy (pc := 28) (i := 0) (j := 1) (Wt := 0) (vd' := [.int x0, .int x1, .int x2, .int x3, .int x4, .int x5]) (os' := [(a, (.array .int), vs), (b1, (.array .int), [.int x0, .int x1, .int x2, .int x3, .int x4, .int x5])]) W7 (hw _ (List.mem_of_getElem? (i := 27) rfl)) (hw _ (List.mem_of_getElem? (i := 30) rfl)) (hw _ (List.mem_of_getElem? (i := 28) rfl)) (hw _ (List.mem_of_getElem? (i := 29) rfl)) rfl rfl rfl (by decide) (by decide) (by decide) (by rw [hlen]; decide) (by decide) (by rw [hlen]; decide) (by decide) (by show [vs.getD (0 + 0) .null, vs.getD (0 + 1) .null, vs.getD (0 + 2) .null, vs.getD (0 + 3) .null, vs.getD (0 + 4) .null, vs.getD (0 + 5) .null] = _; simp only [Nat.zero_add, List.getD_eq_getElem?_getD, q0, q1, q2, q3, q4, q5, Option.getD_some]) rfl rfl (Nat.le_of_ble_eq_true rfl) (by decide) (by decide) d_c_cp6_28 (fun T8 W9 => ?_)
  refine g_aload_n (pc := 31) W9 d_c_cp6_31 rfl rfl ?_
  exact g_areturn (pc := 32) rfl rfl W9 d_c_cp6_32 (by decide) (by decide) ⟨b1, rfl, rfl⟩
theorem d_c_trim3_0 : decode prog_22_method_7_code 0 = .ok (.aload_n 0, 1) := by decide +kernel
theorem d_c_trim3_1 : decode prog_22_method_7_code 1 = .ok (.getfield 9, 3) := by decide +kernel
theorem d_c_trim3_4 : decode prog_22_method_7_code 4 = .ok (.arraylength, 1) := by decide +kernel
theorem d_c_trim3_5 : decode prog_22_method_7_code 5 = .ok (.iconst 2, 1) := by decide +kernel
theorem d_c_trim3_6 : decode prog_22_method_7_code 6 = .ok (.aload_n 0, 1) := by decide +kernel
theorem d_c_trim3_7 : decode prog_22_method_7_code 7 = .ok (.getfield 15, 3) := by decide +kernel
theorem d_c_trim3_10 : decode prog_22_method_7_code 10 = .ok (.imul, 1) := by decide +kernel
theorem d_c_trim3_11 : decode prog_22_method_7_code 11 = .ok (.if_icmp .le 20, 3) := by decide +kernel
theorem d_c_trim3_14 : decode prog_22_method_7_code 14 = .ok (.aload_n 0, 1) := by decide +kernel
theorem d_c_trim3_15 : decode prog_22_method_7_code 15 = .ok (.aload_n 0, 1) := by decide +kernel
theorem d_c_trim3_16 : decode prog_22_method_7_code 16 = .ok (.getfield 9, 3) := by decide +kernel
theorem d_c_trim3_19 : decode prog_22_method_7_code 19 = .ok (.iconst 2, 1) := by decide +kernel
theorem d_c_trim3_20 : decode prog_22_method_7_code 20 = .ok (.aload_n 0, 1) := by decide +kernel
theorem d_c_trim3_21 : decode prog_22_method_7_code 21 = .ok (.getfield 15, 3) := by decide +kernel
theorem d_c_trim3_24 : decode prog_22_method_7_code 24 = .ok (.imul, 1) := by decide +kernel
theorem d_c_trim3_25 : decode prog_22_method_7_code 25 = .ok (.invokestatic 30, 3) := by decide +kernel
theorem d_c_trim3_28 : decode prog_22_method_7_code 28 = .ok (.putfield 9, 3) := by decide +kernel
theorem d_c_trim3_31 : decode prog_22_method_7_code 31 = .ok (.return_, 1) := by decide +kernel
set_option maxRecDepth 65536 in
set_option maxHeartbeats 40000000 in
theorem c_trim3 (l : Launch) (Z : State) (a0 : Array Value) (hw : ∀ d ∈ tables_1, d.before a0 Z = true) {B : Nat} (a b : Addr) (vs : List Value) (x0 x1 x2 x3 x4 x5 : Int32) (hlen : vs.length = 64) (q0 : vs[0]? = some (.int x0)) (q1 : vs[1]? = some (.int x1)) (q2 : vs[2]? = some (.int x2)) (q3 : vs[3]? = some (.int x3)) (q4 : vs[4]? = some (.int x4)) (q5 : vs[5]? = some (.int x5)) :
    Con l Z FM B (⟨"com/example/metanode/metanode/graph/IntPairs", "trim", "()V"⟩ : MethodName) prog_22_method_7_code 1 none ({ frames := 2, cells := 1, slots := 6, locals := 33 } : Room) [] #[.ref a] [(a, (.object "com/example/metanode/metanode/graph/IntPairs"), [.ref b, .int (3 : Int32)]), (b, (.array .int), vs)] (fun v os => ∃ b9, v = none ∧ os = [(b, (.array .int), vs), (b9, (.array .int), [.int x0, .int x1, .int x2, .int x3, .int x4, .int x5]), (a, (.object "com/example/metanode/metanode/graph/IntPairs"), [.ref b9, .int (3 : Int32)])]) := by
  refine Con.of (plainFor_of_name (by first | (simp [plainName, overriddenIn]; done) | decide +kernel)) (ls := #[.val (.ref a)]) (fun m => by first | (simp [entryFrame, mkF, argsToLocals, Value.category]; done) | rfl) ?_
  intro p_ e_ h_ s_ m_ bl_ me_ c_ T0 W0
  refine g_aload_n (pc := 0) W0 d_c_trim3_0 rfl rfl ?_
  refine g_getfield (pc := 1) (i := 0) (j := 0) (host := "") W0 (Or.inl (hw _ (List.mem_of_getElem? (i := 10) rfl))) rfl rfl rfl d_c_trim3_1 (fun T1 W2 => ?_)
  refine g_arraylength (pc := 4) (i := 1) (64 : Int32) W2 rfl (by rw [hlen]; rfl) d_c_trim3_4 ?_
  refine g_iconst (pc := 5) (2 : Int32) (by decide) W2 d_c_trim3_5 ?_
  refine g_aload_n (pc := 6) W2 d_c_trim3_6 rfl rfl ?_
  refine g_getfield (pc := 7) (i := 0) (j := 1) (host := "") W2 (Or.inl (hw _ (List.mem_of_getElem? (i := 17) rfl))) rfl rfl rfl d_c_trim3_7 (fun T3 W4 => ?_)
  refine g_imul (pc := 10) W4 d_c_trim3_10 ?_
  show Go p_ e_ bl_ _ (T3.setTop (mkF m_ 11 #[.val (.ref a)] [.int (6 : Int32), .int (64 : Int32)]))
  refine g_icmpN (pc := 11) W4 d_c_trim3_11 (by decide) ?_
  refine g_aload_n (pc := 14) W4 d_c_trim3_14 rfl rfl ?_
  refine g_aload_n (pc := 15) W4 d_c_trim3_15 rfl rfl ?_
  refine g_getfield (pc := 16) (i := 0) (j := 0) (host := "") W4 (Or.inl (hw _ (List.mem_of_getElem? (i := 10) rfl))) rfl rfl rfl d_c_trim3_16 (fun T5 W6 => ?_)
  refine g_iconst (pc := 19) (2 : Int32) (by decide) W6 d_c_trim3_19 ?_
  refine g_aload_n (pc := 20) W6 d_c_trim3_20 rfl rfl ?_
  refine g_getfield (pc := 21) (i := 0) (j := 1) (host := "") W6 (Or.inl (hw _ (List.mem_of_getElem? (i := 17) rfl))) rfl rfl rfl d_c_trim3_21 (fun T7 W8 => ?_)
  refine g_imul (pc := 24) W8 d_c_trim3_24 ?_
  show Go p_ e_ bl_ _ (T7.setTop (mkF m_ 25 #[.val (.ref a)] [.int (6 : Int32), .ref b, .ref a]))
  refine g_static (pc := 25) (Wt := 1) (argsL := [.ref b, .int (6 : Int32)]) (rest := [.ref a]) (loc := [(b, (.array .int), vs)]) (rst := [(a, (.object "com/example/metanode/metanode/graph/IntPairs"), [.ref b, .int (3 : Int32)])]) W8 (hw _ (List.mem_of_getElem? (i := 19) rfl)) (hw _ (List.mem_of_getElem? (i := 20) rfl)) (hw _ (List.mem_of_getElem? (i := 21) rfl)) (hw _ (List.mem_of_getElem? (i := 22) rfl)) (by decide) (c_cp6 l Z a0 hw b vs x0 x1 x2 x3 x4 x5 hlen q0 q1 q2 q3 q4 q5) ⟨[1, 0], by decide, rfl⟩ rfl pd_AII__AI rfl rfl rfl (Nat.le_of_ble_eq_true rfl) (by decide) (by decide) (by decide) (by decide) d_c_trim3_25 ?_
  rintro T10 _ _ ⟨b9, rfl, rfl⟩ W11
  have W12 := W11.re (os' := [(b, (.array .int), vs), (b9, (.array .int), [.int x0, .int x1, .int x2, .int x3, .int x4, .int x5]), (a, (.object "com/example/metanode/metanode/graph/IntPairs"), [.ref b, .int (3 : Int32)])]) rfl
  show Go p_ e_ bl_ _ (T10.setTop (mkF m_ 28 #[.val (.ref a)] [.ref b9, .ref a]))
  refine g_putfield (pc := 28) (i := 2) (j := 0) (ty := (.array .int)) (os' := [(b, (.array .int), vs), (b9, (.array .int), [.int x0, .int x1, .int x2, .int x3, .int x4, .int x5]), (a, (.object "com/example/metanode/metanode/graph/IntPairs"), [.ref b9, .int (3 : Int32)])]) (host := "") W12 (Or.inl (hw _ (List.mem_of_getElem? (i := 10) rfl))) (cls_IntPairs hw) (Or.inl (hw _ (List.mem_of_getElem? (i := 11) rfl))) (hw _ (List.mem_of_getElem? (i := 1) rfl)) rfl rfl rfl (by decide) rfl rfl rfl d_c_trim3_28 (fun T13 W14 => ?_)
  exact g_return (pc := 31) rfl W14 d_c_trim3_31 (by decide) (by decide) ⟨b9, rfl, rfl⟩
theorem d_c_again3_0 : decode prog_22_method_7_code 0 = .ok (.aload_n 0, 1) := by decide +kernel
theorem d_c_again3_1 : decode prog_22_method_7_code 1 = .ok (.getfield 9, 3) := by decide +kernel
theorem d_c_again3_4 : decode prog_22_method_7_code 4 = .ok (.arraylength, 1) := by decide +kernel
theorem d_c_again3_5 : decode prog_22_method_7_code 5 = .ok (.iconst 2, 1) := by decide +kernel
theorem d_c_again3_6 : decode prog_22_method_7_code 6 = .ok (.aload_n 0, 1) := by decide +kernel
theorem d_c_again3_7 : decode prog_22_method_7_code 7 = .ok (.getfield 15, 3) := by decide +kernel
theorem d_c_again3_10 : decode prog_22_method_7_code 10 = .ok (.imul, 1) := by decide +kernel
theorem d_c_again3_11 : decode prog_22_method_7_code 11 = .ok (.if_icmp .le 20, 3) := by decide +kernel
theorem d_c_again3_31 : decode prog_22_method_7_code 31 = .ok (.return_, 1) := by decide +kernel
set_option maxRecDepth 65536 in
set_option maxHeartbeats 40000000 in
theorem c_again3 (l : Launch) (Z : State) (a0 : Array Value) (hw : ∀ d ∈ tables_1, d.before a0 Z = true) {B : Nat} (a b : Addr) (x0 x1 x2 x3 x4 x5 : Int32) :
    Con l Z FM B (⟨"com/example/metanode/metanode/graph/IntPairs", "trim", "()V"⟩ : MethodName) prog_22_method_7_code 1 none ({ frames := 0, cells := 0, slots := 0, locals := 0 } : Room) [] #[.ref a] [(a, (.object "com/example/metanode/metanode/graph/IntPairs"), [.ref b, .int (3 : Int32)]), (b, (.array .int), [.int x0, .int x1, .int x2, .int x3, .int x4, .int x5])] (fun v os => v = none ∧ os = [(a, (.object "com/example/metanode/metanode/graph/IntPairs"), [.ref b, .int (3 : Int32)]), (b, (.array .int), [.int x0, .int x1, .int x2, .int x3, .int x4, .int x5])]) := by
  refine Con.of (plainFor_of_name (by first | (simp [plainName, overriddenIn]; done) | decide +kernel)) (ls := #[.val (.ref a)]) (fun m => by first | (simp [entryFrame, mkF, argsToLocals, Value.category]; done) | rfl) ?_
  intro p_ e_ h_ s_ m_ bl_ me_ c_ T0 W0
  refine g_aload_n (pc := 0) W0 d_c_again3_0 rfl rfl ?_
  refine g_getfield (pc := 1) (i := 0) (j := 0) (host := "") W0 (Or.inl (hw _ (List.mem_of_getElem? (i := 10) rfl))) rfl rfl rfl d_c_again3_1 (fun T1 W2 => ?_)
  refine g_arraylength (pc := 4) (i := 1) (6 : Int32) W2 rfl rfl d_c_again3_4 ?_
  refine g_iconst (pc := 5) (2 : Int32) (by decide) W2 d_c_again3_5 ?_
  refine g_aload_n (pc := 6) W2 d_c_again3_6 rfl rfl ?_
  refine g_getfield (pc := 7) (i := 0) (j := 1) (host := "") W2 (Or.inl (hw _ (List.mem_of_getElem? (i := 17) rfl))) rfl rfl rfl d_c_again3_7 (fun T3 W4 => ?_)
  refine g_imul (pc := 10) W4 d_c_again3_10 ?_
  show Go p_ e_ bl_ _ (T3.setTop (mkF m_ 11 #[.val (.ref a)] [.int (6 : Int32), .int (6 : Int32)]))
  refine g_icmpY 31 (pc := 11) W4 d_c_again3_11 (by decide) (by decide) (by decide) ?_
  exact g_return (pc := 31) rfl W4 d_c_again3_31 (by decide) (by decide) ⟨rfl, rfl⟩
theorem own_is {x y : Int32} {k : Int} (h : x.toInt = k) (e : y.toInt = k) : x = y := Int32.toInt_inj.mp (h.trans e.symm)
theorem own_p (a : Int32) : a &&& 3 = 0 ∨ a &&& 3 = 1 ∨ a &&& 3 = 2 ∨ a &&& 3 = 3 := by
  have e : (a &&& 3).toInt = a.toInt % 2 ^ 2 := Jvm.Kit.i32_mask a 3 (k := 2) (by decide) (by decide)
  rcases (by omega : (a &&& 3).toInt = 0 ∨ (a &&& 3).toInt = 1 ∨ (a &&& 3).toInt = 2 ∨ (a &&& 3).toInt = 3) with h | h | h | h
  · exact Or.inl (own_is h (by decide))
  · exact Or.inr (Or.inl (own_is h (by decide)))
  · exact Or.inr (Or.inr (Or.inl (own_is h (by decide))))
  · exact Or.inr (Or.inr (Or.inr (own_is h (by decide))))
set_option maxRecDepth 65536 in
set_option maxHeartbeats 40000000 in
theorem c_law (l : Launch) (Z : State) (a0 : Array Value) (hw : ∀ d ∈ tables_1, d.before a0 Z = true) {B : Nat} (p0 p1 p2 p3 p4 p5 : Int32) :
    Con l Z FM B x code maxLocals ret room_1 tables_1 #[.int p0, .int p1, .int p2, .int p3, .int p4, .int p5] [] (fun v os => v = some (.int 1)) := by
  refine Con.of (plainFor_of_name (by first | (simp [plainName, overriddenIn]; done) | decide +kernel)) (ls := #[.val (.int p0), .val (.int p1), .val (.int p2), .val (.int p3), .val (.int p4), .val (.int p5), .unset, .unset, .unset, .unset, .unset]) (fun m => by first | (simp [entryFrame, mkF, argsToLocals, Value.category, maxLocals]; done) | rfl) ?_
  intro p_ e_ h_ s_ m_ bl_ me_ c_ T0 W0
  refine g_iload_n (pc := 0) W0 at_0 rfl ?_
  refine g_iconst (pc := 1) (3 : Int32) (by decide) W0 at_1 ?_
  refine g_iand (pc := 2) W0 at_2 ?_
  refine g_istore (pc := 3) (ls' := #[.val (.int p0), .val (.int p1), .val (.int p2), .val (.int p3), .val (.int p4), .val (.int p5), .val (.int (p0 &&& (3 : Int32))), .unset, .unset, .unset, .unset]) W0 at_3 rfl ?_
  refine g_iload_n (pc := 5) W0 at_5 rfl ?_
  refine g_iconst (pc := 6) (4 : Int32) (by decide) W0 at_6 ?_
  refine g_iand (pc := 7) W0 at_7 ?_
  refine Go.join (T := T0) (fr := fun z1 : Int32 => (mkF m_ 16 #[.val (.int p0), .val (.int p1), .val (.int p2), .val (.int p3), .val (.int p4), .val (.int p5), .val (.int (p0 &&& (3 : Int32))), .unset, .unset, .unset, .unset] [.int z1])) (if (p0 &&& (4 : Int32)) = (0 : Int32) then (0 : Int32) else (1 : Int32)) (fun z1 hz2 => ?_) (fun j3 => ?_)
  · refine g_istore (pc := 16) (ls' := #[.val (.int p0), .val (.int p1), .val (.int p2), .val (.int p3), .val (.int p4), .val (.int p5), .val (.int (p0 &&& (3 : Int32))), .val (.int z1), .unset, .unset, .unset]) W0 at_16 rfl ?_
    refine g_iload_n (pc := 18) W0 at_18 rfl ?_
    refine g_iconst (pc := 19) (-1 : Int32) (by decide) W0 at_19 ?_
    refine g_ixor (pc := 20) W0 at_20 ?_
    refine g_istore (pc := 21) (ls' := #[.val (.int p0), .val (.int p1), .val (.int p2), .val (.int p3), .val (.int p4), .val (.int p5), .val (.int (p0 &&& (3 : Int32))), .val (.int z1), .val (.int (p1 ^^^ (-1 : Int32))), .unset, .unset]) W0 at_21 rfl ?_
    refine g_new (pc := 23) (vs := [.null, .int (0 : Int32)]) W0 (hw _ (List.mem_of_getElem? (i := 0) rfl)) (hw _ (List.mem_of_getElem? (i := 1) rfl)) (hw _ (List.mem_of_getElem? (i := 2) rfl)) (cls_IntPairs hw) (by decide) at_23 (by decide) (by decide) (fun T5 b4 W6 => ?_)
    have W7 := W6.re (os' := [(b4, (.object "com/example/metanode/metanode/graph/IntPairs"), [.null, .int (0 : Int32)])]) rfl
    refine g_dup (pc := 26) W7 at_26 rfl ?_
    refine g_init (pc := 27) (Wt := 1) (argsL := []) (rest := [.ref b4]) (loc := [(b4, (.object "com/example/metanode/metanode/graph/IntPairs"), [.null, .int (0 : Int32)])]) (rst := []) W7 rfl (hw _ (List.mem_of_getElem? (i := 3) rfl)) (hw _ (List.mem_of_getElem? (i := 4) rfl)) (hw _ (List.mem_of_getElem? (i := 2) rfl)) (hw _ (List.mem_of_getElem? (i := 5) rfl)) (by decide) (c_init l Z a0 hw b4) ⟨[0], by decide, rfl⟩ rfl pd___V rfl rfl rfl (Nat.le_of_ble_eq_true rfl) (by decide) (by decide) (by decide) (by decide) at_27 ?_
    rintro T9 _ _ ⟨rfl, b8, rfl⟩ W10
    have W11 := W10.re (os' := [(b4, (.object "com/example/metanode/metanode/graph/IntPairs"), [.ref b8, .int (0 : Int32)]), (b8, (.array .int), (List.replicate 64 (.int (0 : Int32))))]) rfl
    show Go p_ e_ bl_ _ (T9.setTop (mkF m_ 30 #[.val (.int p0), .val (.int p1), .val (.int p2), .val (.int p3), .val (.int p4), .val (.int p5), .val (.int (p0 &&& (3 : Int32))), .val (.int z1), .val (.int (p1 ^^^ (-1 : Int32))), .unset, .unset] [.ref b4]))
    refine g_astore (pc := 30) (ls' := #[.val (.int p0), .val (.int p1), .val (.int p2), .val (.int p3), .val (.int p4), .val (.int p5), .val (.int (p0 &&& (3 : Int32))), .val (.int z1), .val (.int (p1 ^^^ (-1 : Int32))), .val (.ref b4), .unset]) W11 at_30 rfl rfl ?_
    refine g_iconst (pc := 32) (1 : Int32) (by decide) W11 at_32 ?_
    refine g_istore (pc := 33) (ls' := #[.val (.int p0), .val (.int p1), .val (.int p2), .val (.int p3), .val (.int p4), .val (.int p5), .val (.int (p0 &&& (3 : Int32))), .val (.int z1), .val (.int (p1 ^^^ (-1 : Int32))), .val (.ref b4), .val (.int (1 : Int32))]) W11 at_33 rfl ?_
    rcases own_p p0 with hl | hl | hl | hl
    · rw [hl]
      refine g_iload (pc := 35) W11 at_35 rfl ?_
      refine g_iconst (pc := 37) (1 : Int32) (by decide) W11 at_37 ?_
      refine g_icmpY 63 (pc := 38) W11 at_38 (by decide) (by decide) (by decide) ?_
      refine g_iload (pc := 63) W11 at_63 rfl ?_
      refine g_iconst (pc := 65) (2 : Int32) (by decide) W11 at_65 ?_
      refine g_icmpY 92 (pc := 66) W11 at_66 (by decide) (by decide) (by decide) ?_
      refine g_iload (pc := 92) W11 at_92 rfl ?_
      refine g_iconst (pc := 94) (3 : Int32) (by decide) W11 at_94 ?_
      refine g_icmpY 122 (pc := 95) W11 at_95 (by decide) (by decide) (by decide) ?_
      refine g_iload (pc := 122) W11 at_122 rfl ?_
      refine g_ifY 129 (pc := 124) W11 at_124 (by decide) (by decide) (by decide) ?_
      refine g_aload (pc := 129) W11 at_129 rfl rfl ?_
      refine g_virtual (i := 0) (pc := 131) (Wt := 0) (argsL := []) (rest := []) (loc := [(b4, (.object "com/example/metanode/metanode/graph/IntPairs"), [.ref b8, .int (0 : Int32)]), (b8, (.array .int), (List.replicate 64 (.int (0 : Int32))))]) (rst := []) W11 (hw _ (List.mem_of_getElem? (i := 12) rfl)) (hw _ (List.mem_of_getElem? (i := 14) rfl)) (hw _ (List.mem_of_getElem? (i := 2) rfl)) (hw _ (List.mem_of_getElem? (i := 16) rfl)) (hw _ (List.mem_of_getElem? (i := 13) rfl)) (hw _ (List.mem_of_getElem? (i := 15) rfl)) rfl (by decide) (c_trim0 l Z a0 hw b4 b8 (List.replicate 64 (.int (0 : Int32))) (by simp)) ⟨[0, 1], by decide, rfl⟩ rfl pd___V rfl rfl rfl (Nat.le_of_ble_eq_true rfl) (by decide) (by decide) (by decide) (by decide) at_131 ?_
      rintro T13 _ _ ⟨b12, rfl, rfl⟩ W14
      have W15 := W14.re (os' := [(b8, (.array .int), (List.replicate 64 (.int (0 : Int32)))), (b12, (.array .int), []), (b4, (.object "com/example/metanode/metanode/graph/IntPairs"), [.ref b12, .int (0 : Int32)])]) rfl
      show Go p_ e_ bl_ _ (T13.setTop (mkF m_ 134 #[.val (.int p0), .val (.int p1), .val (.int p2), .val (.int p3), .val (.int p4), .val (.int p5), .val (.int (0 : Int32)), .val (.int z1), .val (.int (p1 ^^^ (-1 : Int32))), .val (.ref b4), .val (.int (1 : Int32))] []))
      refine g_iload (pc := 134) W15 at_134 rfl ?_
      refine g_if_eq 144 (pc := 136) W15 at_136 (by decide) (by decide) (fun c16 => ?_) (fun c16 => ?_)
      · refine g_aload (pc := 144) W15 at_144 rfl rfl ?_
        refine g_virtual (i := 2) (pc := 146) (Wt := 0) (argsL := []) (rest := []) (loc := [(b4, (.object "com/example/metanode/metanode/graph/IntPairs"), [.ref b12, .int (0 : Int32)])]) (rst := [(b8, (.array .int), (List.replicate 64 (.int (0 : Int32)))), (b12, (.array .int), [])]) W15 (hw _ (List.mem_of_getElem? (i := 31) rfl)) (hw _ (List.mem_of_getElem? (i := 33) rfl)) (hw _ (List.mem_of_getElem? (i := 2) rfl)) (hw _ (List.mem_of_getElem? (i := 35) rfl)) (hw _ (List.mem_of_getElem? (i := 32) rfl)) (hw _ (List.mem_of_getElem? (i := 34) rfl)) rfl (by decide) (c_count l Z a0 hw b4 b12 (0 : Int32)) ⟨[2, 0, 1], by decide, rfl⟩ rfl pd___I rfl rfl rfl (Nat.le_of_ble_eq_true rfl) (by decide) (by decide) (by decide) (by decide) at_146 ?_
        rintro T17 _ _ ⟨rfl, rfl⟩ W18
        have W19 := W18.re (os' := [(b4, (.object "com/example/metanode/metanode/graph/IntPairs"), [.ref b12, .int (0 : Int32)]), (b8, (.array .int), (List.replicate 64 (.int (0 : Int32)))), (b12, (.array .int), [])]) rfl
        show Go p_ e_ bl_ _ (T17.setTop (mkF m_ 149 #[.val (.int p0), .val (.int p1), .val (.int p2), .val (.int p3), .val (.int p4), .val (.int p5), .val (.int (0 : Int32)), .val (.int z1), .val (.int (p1 ^^^ (-1 : Int32))), .val (.ref b4), .val (.int (1 : Int32))] [.int (0 : Int32)]))
        refine g_iload (pc := 149) W19 at_149 rfl ?_
        refine g_icmpY 156 (pc := 151) W19 at_151 (by decide) (by decide) (by decide) ?_
        refine g_iload (pc := 156) W19 at_156 rfl ?_
        refine g_iconst (pc := 158) (1 : Int32) (by decide) W19 at_158 ?_
        refine g_icmpY 184 (pc := 159) W19 at_159 (by decide) (by decide) (by decide) ?_
        refine g_iload (pc := 184) W19 at_184 rfl ?_
        refine g_iconst (pc := 186) (2 : Int32) (by decide) W19 at_186 ?_
        refine g_icmpY 213 (pc := 187) W19 at_187 (by decide) (by decide) (by decide) ?_
        refine g_iload (pc := 213) W19 at_213 rfl ?_
        refine g_iconst (pc := 215) (3 : Int32) (by decide) W19 at_215 ?_
        refine g_icmpY 243 (pc := 216) W19 at_216 (by decide) (by decide) (by decide) ?_
        refine g_iconst (pc := 243) (1 : Int32) (by decide) W19 at_243 ?_
        exact g_zreturn (pc := 244) rfl (by decide) W19 at_244 (by decide) (by decide) rfl
      · refine g_aload (pc := 139) W15 at_139 rfl rfl ?_
        refine g_virtual (i := 2) (pc := 141) (Wt := 0) (argsL := []) (rest := []) (loc := [(b4, (.object "com/example/metanode/metanode/graph/IntPairs"), [.ref b12, .int (0 : Int32)]), (b12, (.array .int), [])]) (rst := [(b8, (.array .int), (List.replicate 64 (.int (0 : Int32))))]) W15 (hw _ (List.mem_of_getElem? (i := 12) rfl)) (hw _ (List.mem_of_getElem? (i := 14) rfl)) (hw _ (List.mem_of_getElem? (i := 2) rfl)) (hw _ (List.mem_of_getElem? (i := 16) rfl)) (hw _ (List.mem_of_getElem? (i := 13) rfl)) (hw _ (List.mem_of_getElem? (i := 15) rfl)) rfl (by decide) (c_again0 l Z a0 hw b4 b12) ⟨[2, 1, 0], by decide, rfl⟩ rfl pd___V rfl rfl rfl (Nat.le_of_ble_eq_true rfl) (by decide) (by decide) (by decide) (by decide) at_141 ?_
        rintro T20 _ _ ⟨rfl, rfl⟩ W21
        have W22 := W21.re (os' := [(b4, (.object "com/example/metanode/metanode/graph/IntPairs"), [.ref b12, .int (0 : Int32)]), (b12, (.array .int), []), (b8, (.array .int), (List.replicate 64 (.int (0 : Int32))))]) rfl
        show Go p_ e_ bl_ _ (T20.setTop (mkF m_ 144 #[.val (.int p0), .val (.int p1), .val (.int p2), .val (.int p3), .val (.int p4), .val (.int p5), .val (.int (0 : Int32)), .val (.int z1), .val (.int (p1 ^^^ (-1 : Int32))), .val (.ref b4), .val (.int (1 : Int32))] []))
        refine g_aload (pc := 144) W22 at_144 rfl rfl ?_
        refine g_virtual (i := 0) (pc := 146) (Wt := 0) (argsL := []) (rest := []) (loc := [(b4, (.object "com/example/metanode/metanode/graph/IntPairs"), [.ref b12, .int (0 : Int32)])]) (rst := [(b12, (.array .int), []), (b8, (.array .int), (List.replicate 64 (.int (0 : Int32))))]) W22 (hw _ (List.mem_of_getElem? (i := 31) rfl)) (hw _ (List.mem_of_getElem? (i := 33) rfl)) (hw _ (List.mem_of_getElem? (i := 2) rfl)) (hw _ (List.mem_of_getElem? (i := 35) rfl)) (hw _ (List.mem_of_getElem? (i := 32) rfl)) (hw _ (List.mem_of_getElem? (i := 34) rfl)) rfl (by decide) (c_count l Z a0 hw b4 b12 (0 : Int32)) ⟨[0, 1, 2], by decide, rfl⟩ rfl pd___I rfl rfl rfl (Nat.le_of_ble_eq_true rfl) (by decide) (by decide) (by decide) (by decide) at_146 ?_
        rintro T23 _ _ ⟨rfl, rfl⟩ W24
        have W25 := W24.re (os' := [(b4, (.object "com/example/metanode/metanode/graph/IntPairs"), [.ref b12, .int (0 : Int32)]), (b12, (.array .int), []), (b8, (.array .int), (List.replicate 64 (.int (0 : Int32))))]) rfl
        show Go p_ e_ bl_ _ (T23.setTop (mkF m_ 149 #[.val (.int p0), .val (.int p1), .val (.int p2), .val (.int p3), .val (.int p4), .val (.int p5), .val (.int (0 : Int32)), .val (.int z1), .val (.int (p1 ^^^ (-1 : Int32))), .val (.ref b4), .val (.int (1 : Int32))] [.int (0 : Int32)]))
        refine g_iload (pc := 149) W25 at_149 rfl ?_
        refine g_icmpY 156 (pc := 151) W25 at_151 (by decide) (by decide) (by decide) ?_
        refine g_iload (pc := 156) W25 at_156 rfl ?_
        refine g_iconst (pc := 158) (1 : Int32) (by decide) W25 at_158 ?_
        refine g_icmpY 184 (pc := 159) W25 at_159 (by decide) (by decide) (by decide) ?_
        refine g_iload (pc := 184) W25 at_184 rfl ?_
        refine g_iconst (pc := 186) (2 : Int32) (by decide) W25 at_186 ?_
        refine g_icmpY 213 (pc := 187) W25 at_187 (by decide) (by decide) (by decide) ?_
        refine g_iload (pc := 213) W25 at_213 rfl ?_
        refine g_iconst (pc := 215) (3 : Int32) (by decide) W25 at_215 ?_
        refine g_icmpY 243 (pc := 216) W25 at_216 (by decide) (by decide) (by decide) ?_
        refine g_iconst (pc := 243) (1 : Int32) (by decide) W25 at_243 ?_
        exact g_zreturn (pc := 244) rfl (by decide) W25 at_244 (by decide) (by decide) rfl
    · rw [hl]
      refine g_iload (pc := 35) W11 at_35 rfl ?_
      refine g_iconst (pc := 37) (1 : Int32) (by decide) W11 at_37 ?_
      refine g_icmpN (pc := 38) W11 at_38 (by decide) ?_
      refine g_iload (pc := 41) W11 at_41 rfl ?_
      refine g_ifN (pc := 43) W11 at_43 (by decide) ?_
      refine g_aload (pc := 46) W11 at_46 rfl rfl ?_
      refine g_iload_n (pc := 48) W11 at_48 rfl ?_
      refine g_iload_n (pc := 49) W11 at_49 rfl ?_
      refine g_virtual (i := 0) (pc := 50) (Wt := 0) (argsL := [.int p1, .int p2]) (rest := []) (loc := [(b4, (.object "com/example/metanode/metanode/graph/IntPairs"), [.ref b8, .int (0 : Int32)]), (b8, (.array .int), (List.replicate 64 (.int (0 : Int32))))]) (rst := []) W11 (hw _ (List.mem_of_getElem? (i := 36) rfl)) (hw _ (List.mem_of_getElem? (i := 38) rfl)) (hw _ (List.mem_of_getElem? (i := 2) rfl)) (hw _ (List.mem_of_getElem? (i := 40) rfl)) (hw _ (List.mem_of_getElem? (i := 37) rfl)) (hw _ (List.mem_of_getElem? (i := 39) rfl)) rfl (by decide) (c_add l Z a0 hw b4 b8 (0 : Int32) (1 : Int32) p1 p2 (List.replicate 64 (.int (0 : Int32))) 0 (by simp) (by decide) (by decide) (by decide) (by decide) (by decide) (by decide) (by decide)) ⟨[0, 1], by decide, rfl⟩ rfl pd_II__Z rfl rfl rfl (Nat.le_of_ble_eq_true rfl) (by decide) (by decide) (by decide) (by decide) at_50 ?_
      rintro T26 _ _ ⟨rfl, rfl⟩ W27
      have W28 := W27.re (os' := [(b4, (.object "com/example/metanode/metanode/graph/IntPairs"), [.ref b8, .int (1 : Int32)]), (b8, (.array .int), (((List.replicate 64 (.int (0 : Int32))).set 0 (.int p1)).set 1 (.int p2)))]) rfl
      show Go p_ e_ bl_ _ (T26.setTop (mkF m_ 53 #[.val (.int p0), .val (.int p1), .val (.int p2), .val (.int p3), .val (.int p4), .val (.int p5), .val (.int (1 : Int32)), .val (.int z1), .val (.int (p1 ^^^ (-1 : Int32))), .val (.ref b4), .val (.int (1 : Int32))] [.int (1 : Int32)]))
      refine g_ifN (pc := 53) W28 at_53 (by decide) ?_
      refine g_iconst (pc := 56) (1 : Int32) (by decide) W28 at_56 ?_
      refine g_goto 61 (pc := 57) W28 at_57 (by decide) (by decide) ?_
      refine g_istore (pc := 61) (ls' := #[.val (.int p0), .val (.int p1), .val (.int p2), .val (.int p3), .val (.int p4), .val (.int p5), .val (.int (1 : Int32)), .val (.int z1), .val (.int (p1 ^^^ (-1 : Int32))), .val (.ref b4), .val (.int (1 : Int32))]) W28 at_61 rfl ?_
      refine g_iload (pc := 63) W28 at_63 rfl ?_
      refine g_iconst (pc := 65) (2 : Int32) (by decide) W28 at_65 ?_
      refine g_icmpY 92 (pc := 66) W28 at_66 (by decide) (by decide) (by decide) ?_
      refine g_iload (pc := 92) W28 at_92 rfl ?_
      refine g_iconst (pc := 94) (3 : Int32) (by decide) W28 at_94 ?_
      refine g_icmpY 122 (pc := 95) W28 at_95 (by decide) (by decide) (by decide) ?_
      refine g_iload (pc := 122) W28 at_122 rfl ?_
      refine g_ifY 129 (pc := 124) W28 at_124 (by decide) (by decide) (by decide) ?_
      refine g_aload (pc := 129) W28 at_129 rfl rfl ?_
      refine g_virtual (i := 0) (pc := 131) (Wt := 0) (argsL := []) (rest := []) (loc := [(b4, (.object "com/example/metanode/metanode/graph/IntPairs"), [.ref b8, .int (1 : Int32)]), (b8, (.array .int), (((List.replicate 64 (.int (0 : Int32))).set 0 (.int p1)).set 1 (.int p2)))]) (rst := []) W28 (hw _ (List.mem_of_getElem? (i := 12) rfl)) (hw _ (List.mem_of_getElem? (i := 14) rfl)) (hw _ (List.mem_of_getElem? (i := 2) rfl)) (hw _ (List.mem_of_getElem? (i := 16) rfl)) (hw _ (List.mem_of_getElem? (i := 13) rfl)) (hw _ (List.mem_of_getElem? (i := 15) rfl)) rfl (by decide) (c_trim1 l Z a0 hw b4 b8 (((List.replicate 64 (.int (0 : Int32))).set 0 (.int p1)).set 1 (.int p2)) p1 p2 (by simp) rfl rfl) ⟨[0, 1], by decide, rfl⟩ rfl pd___V rfl rfl rfl (Nat.le_of_ble_eq_true rfl) (by decide) (by decide) (by decide) (by decide) at_131 ?_
      rintro T30 _ _ ⟨b29, rfl, rfl⟩ W31
      have W32 := W31.re (os' := [(b8, (.array .int), (((List.replicate 64 (.int (0 : Int32))).set 0 (.int p1)).set 1 (.int p2))), (b29, (.array .int), [.int p1, .int p2]), (b4, (.object "com/example/metanode/metanode/graph/IntPairs"), [.ref b29, .int (1 : Int32)])]) rfl
      show Go p_ e_ bl_ _ (T30.setTop (mkF m_ 134 #[.val (.int p0), .val (.int p1), .val (.int p2), .val (.int p3), .val (.int p4), .val (.int p5), .val (.int (1 : Int32)), .val (.int z1), .val (.int (p1 ^^^ (-1 : Int32))), .val (.ref b4), .val (.int (1 : Int32))] []))
      refine g_iload (pc := 134) W32 at_134 rfl ?_
      refine g_if_eq 144 (pc := 136) W32 at_136 (by decide) (by decide) (fun c33 => ?_) (fun c33 => ?_)
      · refine g_aload (pc := 144) W32 at_144 rfl rfl ?_
        refine g_virtual (i := 2) (pc := 146) (Wt := 0) (argsL := []) (rest := []) (loc := [(b4, (.object "com/example/metanode/metanode/graph/IntPairs"), [.ref b29, .int (1 : Int32)])]) (rst := [(b8, (.array .int), (((List.replicate 64 (.int (0 : Int32))).set 0 (.int p1)).set 1 (.int p2))), (b29, (.array .int), [.int p1, .int p2])]) W32 (hw _ (List.mem_of_getElem? (i := 31) rfl)) (hw _ (List.mem_of_getElem? (i := 33) rfl)) (hw _ (List.mem_of_getElem? (i := 2) rfl)) (hw _ (List.mem_of_getElem? (i := 35) rfl)) (hw _ (List.mem_of_getElem? (i := 32) rfl)) (hw _ (List.mem_of_getElem? (i := 34) rfl)) rfl (by decide) (c_count l Z a0 hw b4 b29 (1 : Int32)) ⟨[2, 0, 1], by decide, rfl⟩ rfl pd___I rfl rfl rfl (Nat.le_of_ble_eq_true rfl) (by decide) (by decide) (by decide) (by decide) at_146 ?_
        rintro T34 _ _ ⟨rfl, rfl⟩ W35
        have W36 := W35.re (os' := [(b4, (.object "com/example/metanode/metanode/graph/IntPairs"), [.ref b29, .int (1 : Int32)]), (b8, (.array .int), (((List.replicate 64 (.int (0 : Int32))).set 0 (.int p1)).set 1 (.int p2))), (b29, (.array .int), [.int p1, .int p2])]) rfl
        show Go p_ e_ bl_ _ (T34.setTop (mkF m_ 149 #[.val (.int p0), .val (.int p1), .val (.int p2), .val (.int p3), .val (.int p4), .val (.int p5), .val (.int (1 : Int32)), .val (.int z1), .val (.int (p1 ^^^ (-1 : Int32))), .val (.ref b4), .val (.int (1 : Int32))] [.int (1 : Int32)]))
        refine g_iload (pc := 149) W36 at_149 rfl ?_
        refine g_icmpY 156 (pc := 151) W36 at_151 (by decide) (by decide) (by decide) ?_
        refine g_iload (pc := 156) W36 at_156 rfl ?_
        refine g_iconst (pc := 158) (1 : Int32) (by decide) W36 at_158 ?_
        refine g_icmpN (pc := 159) W36 at_159 (by decide) ?_
        refine g_aload (pc := 162) W36 at_162 rfl rfl ?_
        refine g_iconst (pc := 164) (0 : Int32) (by decide) W36 at_164 ?_
        refine g_virtual (i := 0) (pc := 165) (Wt := 0) (argsL := [.int (0 : Int32)]) (rest := []) (loc := [(b4, (.object "com/example/metanode/metanode/graph/IntPairs"), [.ref b29, .int (1 : Int32)]), (b29, (.array .int), [.int p1, .int p2])]) (rst := [(b8, (.array .int), (((List.replicate 64 (.int (0 : Int32))).set 0 (.int p1)).set 1 (.int p2)))]) W36 (hw _ (List.mem_of_getElem? (i := 41) rfl)) (hw _ (List.mem_of_getElem? (i := 43) rfl)) (hw _ (List.mem_of_getElem? (i := 2) rfl)) (hw _ (List.mem_of_getElem? (i := 45) rfl)) (hw _ (List.mem_of_getElem? (i := 42) rfl)) (hw _ (List.mem_of_getElem? (i := 44) rfl)) rfl (by decide) (c_first l Z a0 hw b4 b29 (1 : Int32) (0 : Int32) p1 [.int p1, .int p2] (by decide) rfl) ⟨[0, 2, 1], by decide, rfl⟩ rfl pd_I__I rfl rfl rfl (Nat.le_of_ble_eq_true rfl) (by decide) (by decide) (by decide) (by decide) at_165 ?_
        rintro T37 _ _ ⟨rfl, rfl⟩ W38
        have W39 := W38.re (os' := [(b4, (.object "com/example/metanode/metanode/graph/IntPairs"), [.ref b29, .int (1 : Int32)]), (b29, (.array .int), [.int p1, .int p2]), (b8, (.array .int), (((List.replicate 64 (.int (0 : Int32))).set 0 (.int p1)).set 1 (.int p2)))]) rfl
        show Go p_ e_ bl_ _ (T37.setTop (mkF m_ 168 #[.val (.int p0), .val (.int p1), .val (.int p2), .val (.int p3), .val (.int p4), .val (.int p5), .val (.int (1 : Int32)), .val (.int z1), .val (.int (p1 ^^^ (-1 : Int32))), .val (.ref b4), .val (.int (1 : Int32))] [.int p1]))
        refine g_iload_n (pc := 168) W39 at_168 rfl ?_
        refine g_icmpN (pc := 169) W39 at_169 (by first | exact (teq rfl).1 | exact (teq rfl).2 | exact (flt (by simp)).1 | exact (flt (by simp)).2.1 | exact (flt (by simp)).2.2.1 | exact (flt (by simp)).2.2.2) ?_
        refine g_aload (pc := 172) W39 at_172 rfl rfl ?_
        refine g_iconst (pc := 174) (0 : Int32) (by decide) W39 at_174 ?_
        refine g_virtual (i := 0) (pc := 175) (Wt := 0) (argsL := [.int (0 : Int32)]) (rest := []) (loc := [(b4, (.object "com/example/metanode/metanode/graph/IntPairs"), [.ref b29, .int (1 : Int32)]), (b29, (.array .int), [.int p1, .int p2])]) (rst := [(b8, (.array .int), (((List.replicate 64 (.int (0 : Int32))).set 0 (.int p1)).set 1 (.int p2)))]) W39 (hw _ (List.mem_of_getElem? (i := 46) rfl)) (hw _ (List.mem_of_getElem? (i := 48) rfl)) (hw _ (List.mem_of_getElem? (i := 2) rfl)) (hw _ (List.mem_of_getElem? (i := 50) rfl)) (hw _ (List.mem_of_getElem? (i := 47) rfl)) (hw _ (List.mem_of_getElem? (i := 49) rfl)) rfl (by decide) (c_second l Z a0 hw b4 b29 (1 : Int32) (0 : Int32) p2 [.int p1, .int p2] (by decide) rfl) ⟨[0, 1, 2], by decide, rfl⟩ rfl pd_I__I rfl rfl rfl (Nat.le_of_ble_eq_true rfl) (by decide) (by decide) (by decide) (by decide) at_175 ?_
        rintro T40 _ _ ⟨rfl, rfl⟩ W41
        have W42 := W41.re (os' := [(b4, (.object "com/example/metanode/metanode/graph/IntPairs"), [.ref b29, .int (1 : Int32)]), (b29, (.array .int), [.int p1, .int p2]), (b8, (.array .int), (((List.replicate 64 (.int (0 : Int32))).set 0 (.int p1)).set 1 (.int p2)))]) rfl
        show Go p_ e_ bl_ _ (T40.setTop (mkF m_ 178 #[.val (.int p0), .val (.int p1), .val (.int p2), .val (.int p3), .val (.int p4), .val (.int p5), .val (.int (1 : Int32)), .val (.int z1), .val (.int (p1 ^^^ (-1 : Int32))), .val (.ref b4), .val (.int (1 : Int32))] [.int p2]))
        refine g_iload_n (pc := 178) W42 at_178 rfl ?_
        refine g_icmpY 184 (pc := 179) W42 at_179 (by decide) (by decide) (by first | exact (teq rfl).1 | exact (teq rfl).2 | exact (flt (by simp)).1 | exact (flt (by simp)).2.1 | exact (flt (by simp)).2.2.1 | exact (flt (by simp)).2.2.2) ?_
        refine g_iload (pc := 184) W42 at_184 rfl ?_
        refine g_iconst (pc := 186) (2 : Int32) (by decide) W42 at_186 ?_
        refine g_icmpY 213 (pc := 187) W42 at_187 (by decide) (by decide) (by decide) ?_
        refine g_iload (pc := 213) W42 at_213 rfl ?_
        refine g_iconst (pc := 215) (3 : Int32) (by decide) W42 at_215 ?_
        refine g_icmpY 243 (pc := 216) W42 at_216 (by decide) (by decide) (by decide) ?_
        refine g_iconst (pc := 243) (1 : Int32) (by decide) W42 at_243 ?_
        exact g_zreturn (pc := 244) rfl (by decide) W42 at_244 (by decide) (by decide) rfl
      · refine g_aload (pc := 139) W32 at_139 rfl rfl ?_
        refine g_virtual (i := 2) (pc := 141) (Wt := 0) (argsL := []) (rest := []) (loc := [(b4, (.object "com/example/metanode/metanode/graph/IntPairs"), [.ref b29, .int (1 : Int32)]), (b29, (.array .int), [.int p1, .int p2])]) (rst := [(b8, (.array .int), (((List.replicate 64 (.int (0 : Int32))).set 0 (.int p1)).set 1 (.int p2)))]) W32 (hw _ (List.mem_of_getElem? (i := 12) rfl)) (hw _ (List.mem_of_getElem? (i := 14) rfl)) (hw _ (List.mem_of_getElem? (i := 2) rfl)) (hw _ (List.mem_of_getElem? (i := 16) rfl)) (hw _ (List.mem_of_getElem? (i := 13) rfl)) (hw _ (List.mem_of_getElem? (i := 15) rfl)) rfl (by decide) (c_again1 l Z a0 hw b4 b29 p1 p2) ⟨[2, 1, 0], by decide, rfl⟩ rfl pd___V rfl rfl rfl (Nat.le_of_ble_eq_true rfl) (by decide) (by decide) (by decide) (by decide) at_141 ?_
        rintro T43 _ _ ⟨rfl, rfl⟩ W44
        have W45 := W44.re (os' := [(b4, (.object "com/example/metanode/metanode/graph/IntPairs"), [.ref b29, .int (1 : Int32)]), (b29, (.array .int), [.int p1, .int p2]), (b8, (.array .int), (((List.replicate 64 (.int (0 : Int32))).set 0 (.int p1)).set 1 (.int p2)))]) rfl
        show Go p_ e_ bl_ _ (T43.setTop (mkF m_ 144 #[.val (.int p0), .val (.int p1), .val (.int p2), .val (.int p3), .val (.int p4), .val (.int p5), .val (.int (1 : Int32)), .val (.int z1), .val (.int (p1 ^^^ (-1 : Int32))), .val (.ref b4), .val (.int (1 : Int32))] []))
        refine g_aload (pc := 144) W45 at_144 rfl rfl ?_
        refine g_virtual (i := 0) (pc := 146) (Wt := 0) (argsL := []) (rest := []) (loc := [(b4, (.object "com/example/metanode/metanode/graph/IntPairs"), [.ref b29, .int (1 : Int32)])]) (rst := [(b29, (.array .int), [.int p1, .int p2]), (b8, (.array .int), (((List.replicate 64 (.int (0 : Int32))).set 0 (.int p1)).set 1 (.int p2)))]) W45 (hw _ (List.mem_of_getElem? (i := 31) rfl)) (hw _ (List.mem_of_getElem? (i := 33) rfl)) (hw _ (List.mem_of_getElem? (i := 2) rfl)) (hw _ (List.mem_of_getElem? (i := 35) rfl)) (hw _ (List.mem_of_getElem? (i := 32) rfl)) (hw _ (List.mem_of_getElem? (i := 34) rfl)) rfl (by decide) (c_count l Z a0 hw b4 b29 (1 : Int32)) ⟨[0, 1, 2], by decide, rfl⟩ rfl pd___I rfl rfl rfl (Nat.le_of_ble_eq_true rfl) (by decide) (by decide) (by decide) (by decide) at_146 ?_
        rintro T46 _ _ ⟨rfl, rfl⟩ W47
        have W48 := W47.re (os' := [(b4, (.object "com/example/metanode/metanode/graph/IntPairs"), [.ref b29, .int (1 : Int32)]), (b29, (.array .int), [.int p1, .int p2]), (b8, (.array .int), (((List.replicate 64 (.int (0 : Int32))).set 0 (.int p1)).set 1 (.int p2)))]) rfl
        show Go p_ e_ bl_ _ (T46.setTop (mkF m_ 149 #[.val (.int p0), .val (.int p1), .val (.int p2), .val (.int p3), .val (.int p4), .val (.int p5), .val (.int (1 : Int32)), .val (.int z1), .val (.int (p1 ^^^ (-1 : Int32))), .val (.ref b4), .val (.int (1 : Int32))] [.int (1 : Int32)]))
        refine g_iload (pc := 149) W48 at_149 rfl ?_
        refine g_icmpY 156 (pc := 151) W48 at_151 (by decide) (by decide) (by decide) ?_
        refine g_iload (pc := 156) W48 at_156 rfl ?_
        refine g_iconst (pc := 158) (1 : Int32) (by decide) W48 at_158 ?_
        refine g_icmpN (pc := 159) W48 at_159 (by decide) ?_
        refine g_aload (pc := 162) W48 at_162 rfl rfl ?_
        refine g_iconst (pc := 164) (0 : Int32) (by decide) W48 at_164 ?_
        refine g_virtual (i := 0) (pc := 165) (Wt := 0) (argsL := [.int (0 : Int32)]) (rest := []) (loc := [(b4, (.object "com/example/metanode/metanode/graph/IntPairs"), [.ref b29, .int (1 : Int32)]), (b29, (.array .int), [.int p1, .int p2])]) (rst := [(b8, (.array .int), (((List.replicate 64 (.int (0 : Int32))).set 0 (.int p1)).set 1 (.int p2)))]) W48 (hw _ (List.mem_of_getElem? (i := 41) rfl)) (hw _ (List.mem_of_getElem? (i := 43) rfl)) (hw _ (List.mem_of_getElem? (i := 2) rfl)) (hw _ (List.mem_of_getElem? (i := 45) rfl)) (hw _ (List.mem_of_getElem? (i := 42) rfl)) (hw _ (List.mem_of_getElem? (i := 44) rfl)) rfl (by decide) (c_first l Z a0 hw b4 b29 (1 : Int32) (0 : Int32) p1 [.int p1, .int p2] (by decide) rfl) ⟨[0, 1, 2], by decide, rfl⟩ rfl pd_I__I rfl rfl rfl (Nat.le_of_ble_eq_true rfl) (by decide) (by decide) (by decide) (by decide) at_165 ?_
        rintro T49 _ _ ⟨rfl, rfl⟩ W50
        have W51 := W50.re (os' := [(b4, (.object "com/example/metanode/metanode/graph/IntPairs"), [.ref b29, .int (1 : Int32)]), (b29, (.array .int), [.int p1, .int p2]), (b8, (.array .int), (((List.replicate 64 (.int (0 : Int32))).set 0 (.int p1)).set 1 (.int p2)))]) rfl
        show Go p_ e_ bl_ _ (T49.setTop (mkF m_ 168 #[.val (.int p0), .val (.int p1), .val (.int p2), .val (.int p3), .val (.int p4), .val (.int p5), .val (.int (1 : Int32)), .val (.int z1), .val (.int (p1 ^^^ (-1 : Int32))), .val (.ref b4), .val (.int (1 : Int32))] [.int p1]))
        refine g_iload_n (pc := 168) W51 at_168 rfl ?_
        refine g_icmpN (pc := 169) W51 at_169 (by first | exact (teq rfl).1 | exact (teq rfl).2 | exact (flt (by simp)).1 | exact (flt (by simp)).2.1 | exact (flt (by simp)).2.2.1 | exact (flt (by simp)).2.2.2) ?_
        refine g_aload (pc := 172) W51 at_172 rfl rfl ?_
        refine g_iconst (pc := 174) (0 : Int32) (by decide) W51 at_174 ?_
        refine g_virtual (i := 0) (pc := 175) (Wt := 0) (argsL := [.int (0 : Int32)]) (rest := []) (loc := [(b4, (.object "com/example/metanode/metanode/graph/IntPairs"), [.ref b29, .int (1 : Int32)]), (b29, (.array .int), [.int p1, .int p2])]) (rst := [(b8, (.array .int), (((List.replicate 64 (.int (0 : Int32))).set 0 (.int p1)).set 1 (.int p2)))]) W51 (hw _ (List.mem_of_getElem? (i := 46) rfl)) (hw _ (List.mem_of_getElem? (i := 48) rfl)) (hw _ (List.mem_of_getElem? (i := 2) rfl)) (hw _ (List.mem_of_getElem? (i := 50) rfl)) (hw _ (List.mem_of_getElem? (i := 47) rfl)) (hw _ (List.mem_of_getElem? (i := 49) rfl)) rfl (by decide) (c_second l Z a0 hw b4 b29 (1 : Int32) (0 : Int32) p2 [.int p1, .int p2] (by decide) rfl) ⟨[0, 1, 2], by decide, rfl⟩ rfl pd_I__I rfl rfl rfl (Nat.le_of_ble_eq_true rfl) (by decide) (by decide) (by decide) (by decide) at_175 ?_
        rintro T52 _ _ ⟨rfl, rfl⟩ W53
        have W54 := W53.re (os' := [(b4, (.object "com/example/metanode/metanode/graph/IntPairs"), [.ref b29, .int (1 : Int32)]), (b29, (.array .int), [.int p1, .int p2]), (b8, (.array .int), (((List.replicate 64 (.int (0 : Int32))).set 0 (.int p1)).set 1 (.int p2)))]) rfl
        show Go p_ e_ bl_ _ (T52.setTop (mkF m_ 178 #[.val (.int p0), .val (.int p1), .val (.int p2), .val (.int p3), .val (.int p4), .val (.int p5), .val (.int (1 : Int32)), .val (.int z1), .val (.int (p1 ^^^ (-1 : Int32))), .val (.ref b4), .val (.int (1 : Int32))] [.int p2]))
        refine g_iload_n (pc := 178) W54 at_178 rfl ?_
        refine g_icmpY 184 (pc := 179) W54 at_179 (by decide) (by decide) (by first | exact (teq rfl).1 | exact (teq rfl).2 | exact (flt (by simp)).1 | exact (flt (by simp)).2.1 | exact (flt (by simp)).2.2.1 | exact (flt (by simp)).2.2.2) ?_
        refine g_iload (pc := 184) W54 at_184 rfl ?_
        refine g_iconst (pc := 186) (2 : Int32) (by decide) W54 at_186 ?_
        refine g_icmpY 213 (pc := 187) W54 at_187 (by decide) (by decide) (by decide) ?_
        refine g_iload (pc := 213) W54 at_213 rfl ?_
        refine g_iconst (pc := 215) (3 : Int32) (by decide) W54 at_215 ?_
        refine g_icmpY 243 (pc := 216) W54 at_216 (by decide) (by decide) (by decide) ?_
        refine g_iconst (pc := 243) (1 : Int32) (by decide) W54 at_243 ?_
        exact g_zreturn (pc := 244) rfl (by decide) W54 at_244 (by decide) (by decide) rfl
    · rw [hl]
      refine g_iload (pc := 35) W11 at_35 rfl ?_
      refine g_iconst (pc := 37) (1 : Int32) (by decide) W11 at_37 ?_
      refine g_icmpN (pc := 38) W11 at_38 (by decide) ?_
      refine g_iload (pc := 41) W11 at_41 rfl ?_
      refine g_ifN (pc := 43) W11 at_43 (by decide) ?_
      refine g_aload (pc := 46) W11 at_46 rfl rfl ?_
      refine g_iload_n (pc := 48) W11 at_48 rfl ?_
      refine g_iload_n (pc := 49) W11 at_49 rfl ?_
      refine g_virtual (i := 0) (pc := 50) (Wt := 0) (argsL := [.int p1, .int p2]) (rest := []) (loc := [(b4, (.object "com/example/metanode/metanode/graph/IntPairs"), [.ref b8, .int (0 : Int32)]), (b8, (.array .int), (List.replicate 64 (.int (0 : Int32))))]) (rst := []) W11 (hw _ (List.mem_of_getElem? (i := 36) rfl)) (hw _ (List.mem_of_getElem? (i := 38) rfl)) (hw _ (List.mem_of_getElem? (i := 2) rfl)) (hw _ (List.mem_of_getElem? (i := 40) rfl)) (hw _ (List.mem_of_getElem? (i := 37) rfl)) (hw _ (List.mem_of_getElem? (i := 39) rfl)) rfl (by decide) (c_add l Z a0 hw b4 b8 (0 : Int32) (1 : Int32) p1 p2 (List.replicate 64 (.int (0 : Int32))) 0 (by simp) (by decide) (by decide) (by decide) (by decide) (by decide) (by decide) (by decide)) ⟨[0, 1], by decide, rfl⟩ rfl pd_II__Z rfl rfl rfl (Nat.le_of_ble_eq_true rfl) (by decide) (by decide) (by decide) (by decide) at_50 ?_
      rintro T55 _ _ ⟨rfl, rfl⟩ W56
      have W57 := W56.re (os' := [(b4, (.object "com/example/metanode/metanode/graph/IntPairs"), [.ref b8, .int (1 : Int32)]), (b8, (.array .int), (((List.replicate 64 (.int (0 : Int32))).set 0 (.int p1)).set 1 (.int p2)))]) rfl
      show Go p_ e_ bl_ _ (T55.setTop (mkF m_ 53 #[.val (.int p0), .val (.int p1), .val (.int p2), .val (.int p3), .val (.int p4), .val (.int p5), .val (.int (2 : Int32)), .val (.int z1), .val (.int (p1 ^^^ (-1 : Int32))), .val (.ref b4), .val (.int (1 : Int32))] [.int (1 : Int32)]))
      refine g_ifN (pc := 53) W57 at_53 (by decide) ?_
      refine g_iconst (pc := 56) (1 : Int32) (by decide) W57 at_56 ?_
      refine g_goto 61 (pc := 57) W57 at_57 (by decide) (by decide) ?_
      refine g_istore (pc := 61) (ls' := #[.val (.int p0), .val (.int p1), .val (.int p2), .val (.int p3), .val (.int p4), .val (.int p5), .val (.int (2 : Int32)), .val (.int z1), .val (.int (p1 ^^^ (-1 : Int32))), .val (.ref b4), .val (.int (1 : Int32))]) W57 at_61 rfl ?_
      refine g_iload (pc := 63) W57 at_63 rfl ?_
      refine g_iconst (pc := 65) (2 : Int32) (by decide) W57 at_65 ?_
      refine g_icmpN (pc := 66) W57 at_66 (by decide) ?_
      refine g_iload (pc := 69) W57 at_69 rfl ?_
      refine g_ifN (pc := 71) W57 at_71 (by decide) ?_
      refine g_aload (pc := 74) W57 at_74 rfl rfl ?_
      refine g_iload_n (pc := 76) W57 at_76 rfl ?_
      refine g_iload (pc := 77) W57 at_77 rfl ?_
      refine g_virtual (i := 0) (pc := 79) (Wt := 0) (argsL := [.int p3, .int p4]) (rest := []) (loc := [(b4, (.object "com/example/metanode/metanode/graph/IntPairs"), [.ref b8, .int (1 : Int32)]), (b8, (.array .int), (((List.replicate 64 (.int (0 : Int32))).set 0 (.int p1)).set 1 (.int p2)))]) (rst := []) W57 (hw _ (List.mem_of_getElem? (i := 36) rfl)) (hw _ (List.mem_of_getElem? (i := 38) rfl)) (hw _ (List.mem_of_getElem? (i := 2) rfl)) (hw _ (List.mem_of_getElem? (i := 40) rfl)) (hw _ (List.mem_of_getElem? (i := 37) rfl)) (hw _ (List.mem_of_getElem? (i := 39) rfl)) rfl (by decide) (c_add l Z a0 hw b4 b8 (1 : Int32) (2 : Int32) p3 p4 (((List.replicate 64 (.int (0 : Int32))).set 0 (.int p1)).set 1 (.int p2)) 2 (by simp) (by decide) (by decide) (by decide) (by decide) (by decide) (by decide) (by decide)) ⟨[0, 1], by decide, rfl⟩ rfl pd_II__Z rfl rfl rfl (Nat.le_of_ble_eq_true rfl) (by decide) (by decide) (by decide) (by decide) at_79 ?_
      rintro T58 _ _ ⟨rfl, rfl⟩ W59
      have W60 := W59.re (os' := [(b4, (.object "com/example/metanode/metanode/graph/IntPairs"), [.ref b8, .int (2 : Int32)]), (b8, (.array .int), (((((List.replicate 64 (.int (0 : Int32))).set 0 (.int p1)).set 1 (.int p2)).set 2 (.int p3)).set 3 (.int p4)))]) rfl
      show Go p_ e_ bl_ _ (T58.setTop (mkF m_ 82 #[.val (.int p0), .val (.int p1), .val (.int p2), .val (.int p3), .val (.int p4), .val (.int p5), .val (.int (2 : Int32)), .val (.int z1), .val (.int (p1 ^^^ (-1 : Int32))), .val (.ref b4), .val (.int (1 : Int32))] [.int (1 : Int32)]))
      refine g_ifN (pc := 82) W60 at_82 (by decide) ?_
      refine g_iconst (pc := 85) (1 : Int32) (by decide) W60 at_85 ?_
      refine g_goto 90 (pc := 86) W60 at_86 (by decide) (by decide) ?_
      refine g_istore (pc := 90) (ls' := #[.val (.int p0), .val (.int p1), .val (.int p2), .val (.int p3), .val (.int p4), .val (.int p5), .val (.int (2 : Int32)), .val (.int z1), .val (.int (p1 ^^^ (-1 : Int32))), .val (.ref b4), .val (.int (1 : Int32))]) W60 at_90 rfl ?_
      refine g_iload (pc := 92) W60 at_92 rfl ?_
      refine g_iconst (pc := 94) (3 : Int32) (by decide) W60 at_94 ?_
      refine g_icmpY 122 (pc := 95) W60 at_95 (by decide) (by decide) (by decide) ?_
      refine g_iload (pc := 122) W60 at_122 rfl ?_
      refine g_ifY 129 (pc := 124) W60 at_124 (by decide) (by decide) (by decide) ?_
      refine g_aload (pc := 129) W60 at_129 rfl rfl ?_
      refine g_virtual (i := 0) (pc := 131) (Wt := 0) (argsL := []) (rest := []) (loc := [(b4, (.object "com/example/metanode/metanode/graph/IntPairs"), [.ref b8, .int (2 : Int32)]), (b8, (.array .int), (((((List.replicate 64 (.int (0 : Int32))).set 0 (.int p1)).set 1 (.int p2)).set 2 (.int p3)).set 3 (.int p4)))]) (rst := []) W60 (hw _ (List.mem_of_getElem? (i := 12) rfl)) (hw _ (List.mem_of_getElem? (i := 14) rfl)) (hw _ (List.mem_of_getElem? (i := 2) rfl)) (hw _ (List.mem_of_getElem? (i := 16) rfl)) (hw _ (List.mem_of_getElem? (i := 13) rfl)) (hw _ (List.mem_of_getElem? (i := 15) rfl)) rfl (by decide) (c_trim2 l Z a0 hw b4 b8 (((((List.replicate 64 (.int (0 : Int32))).set 0 (.int p1)).set 1 (.int p2)).set 2 (.int p3)).set 3 (.int p4)) p1 p2 p3 p4 (by simp) rfl rfl rfl rfl) ⟨[0, 1], by decide, rfl⟩ rfl pd___V rfl rfl rfl (Nat.le_of_ble_eq_true rfl) (by decide) (by decide) (by decide) (by decide) at_131 ?_
      rintro T62 _ _ ⟨b61, rfl, rfl⟩ W63
      have W64 := W63.re (os' := [(b8, (.array .int), (((((List.replicate 64 (.int (0 : Int32))).set 0 (.int p1)).set 1 (.int p2)).set 2 (.int p3)).set 3 (.int p4))), (b61, (.array .int), [.int p1, .int p2, .int p3, .int p4]), (b4, (.object "com/example/metanode/metanode/graph/IntPairs"), [.ref b61, .int (2 : Int32)])]) rfl
      show Go p_ e_ bl_ _ (T62.setTop (mkF m_ 134 #[.val (.int p0), .val (.int p1), .val (.int p2), .val (.int p3), .val (.int p4), .val (.int p5), .val (.int (2 : Int32)), .val (.int z1), .val (.int (p1 ^^^ (-1 : Int32))), .val (.ref b4), .val (.int (1 : Int32))] []))
      refine g_iload (pc := 134) W64 at_134 rfl ?_
      refine g_if_eq 144 (pc := 136) W64 at_136 (by decide) (by decide) (fun c65 => ?_) (fun c65 => ?_)
      · refine g_aload (pc := 144) W64 at_144 rfl rfl ?_
        refine g_virtual (i := 2) (pc := 146) (Wt := 0) (argsL := []) (rest := []) (loc := [(b4, (.object "com/example/metanode/metanode/graph/IntPairs"), [.ref b61, .int (2 : Int32)])]) (rst := [(b8, (.array .int), (((((List.replicate 64 (.int (0 : Int32))).set 0 (.int p1)).set 1 (.int p2)).set 2 (.int p3)).set 3 (.int p4))), (b61, (.array .int), [.int p1, .int p2, .int p3, .int p4])]) W64 (hw _ (List.mem_of_getElem? (i := 31) rfl)) (hw _ (List.mem_of_getElem? (i := 33) rfl)) (hw _ (List.mem_of_getElem? (i := 2) rfl)) (hw _ (List.mem_of_getElem? (i := 35) rfl)) (hw _ (List.mem_of_getElem? (i := 32) rfl)) (hw _ (List.mem_of_getElem? (i := 34) rfl)) rfl (by decide) (c_count l Z a0 hw b4 b61 (2 : Int32)) ⟨[2, 0, 1], by decide, rfl⟩ rfl pd___I rfl rfl rfl (Nat.le_of_ble_eq_true rfl) (by decide) (by decide) (by decide) (by decide) at_146 ?_
        rintro T66 _ _ ⟨rfl, rfl⟩ W67
        have W68 := W67.re (os' := [(b4, (.object "com/example/metanode/metanode/graph/IntPairs"), [.ref b61, .int (2 : Int32)]), (b8, (.array .int), (((((List.replicate 64 (.int (0 : Int32))).set 0 (.int p1)).set 1 (.int p2)).set 2 (.int p3)).set 3 (.int p4))), (b61, (.array .int), [.int p1, .int p2, .int p3, .int p4])]) rfl
        show Go p_ e_ bl_ _ (T66.setTop (mkF m_ 149 #[.val (.int p0), .val (.int p1), .val (.int p2), .val (.int p3), .val (.int p4), .val (.int p5), .val (.int (2 : Int32)), .val (.int z1), .val (.int (p1 ^^^ (-1 : Int32))), .val (.ref b4), .val (.int (1 : Int32))] [.int (2 : Int32)]))
        refine g_iload (pc := 149) W68 at_149 rfl ?_
        refine g_icmpY 156 (pc := 151) W68 at_151 (by decide) (by decide) (by decide) ?_
        refine g_iload (pc := 156) W68 at_156 rfl ?_
        refine g_iconst (pc := 158) (1 : Int32) (by decide) W68 at_158 ?_
        refine g_icmpN (pc := 159) W68 at_159 (by decide) ?_
        refine g_aload (pc := 162) W68 at_162 rfl rfl ?_
        refine g_iconst (pc := 164) (0 : Int32) (by decide) W68 at_164 ?_
        refine g_virtual (i := 0) (pc := 165) (Wt := 0) (argsL := [.int (0 : Int32)]) (rest := []) (loc := [(b4, (.object "com/example/metanode/metanode/graph/IntPairs"), [.ref b61, .int (2 : Int32)]), (b61, (.array .int), [.int p1, .int p2, .int p3, .int p4])]) (rst := [(b8, (.array .int), (((((List.replicate 64 (.int (0 : Int32))).set 0 (.int p1)).set 1 (.int p2)).set 2 (.int p3)).set 3 (.int p4)))]) W68 (hw _ (List.mem_of_getElem? (i := 41) rfl)) (hw _ (List.mem_of_getElem? (i := 43) rfl)) (hw _ (List.mem_of_getElem? (i := 2) rfl)) (hw _ (List.mem_of_getElem? (i := 45) rfl)) (hw _ (List.mem_of_getElem? (i := 42) rfl)) (hw _ (List.mem_of_getElem? (i := 44) rfl)) rfl (by decide) (c_first l Z a0 hw b4 b61 (2 : Int32) (0 : Int32) p1 [.int p1, .int p2, .int p3, .int p4] (by decide) rfl) ⟨[0, 2, 1], by decide, rfl⟩ rfl pd_I__I rfl rfl rfl (Nat.le_of_ble_eq_true rfl) (by decide) (by decide) (by decide) (by decide) at_165 ?_
        rintro T69 _ _ ⟨rfl, rfl⟩ W70
        have W71 := W70.re (os' := [(b4, (.object "com/example/metanode/metanode/graph/IntPairs"), [.ref b61, .int (2 : Int32)]), (b61, (.array .int), [.int p1, .int p2, .int p3, .int p4]), (b8, (.array .int), (((((List.replicate 64 (.int (0 : Int32))).set 0 (.int p1)).set 1 (.int p2)).set 2 (.int p3)).set 3 (.int p4)))]) rfl
        show Go p_ e_ bl_ _ (T69.setTop (mkF m_ 168 #[.val (.int p0), .val (.int p1), .val (.int p2), .val (.int p3), .val (.int p4), .val (.int p5), .val (.int (2 : Int32)), .val (.int z1), .val (.int (p1 ^^^ (-1 : Int32))), .val (.ref b4), .val (.int (1 : Int32))] [.int p1]))
        refine g_iload_n (pc := 168) W71 at_168 rfl ?_
        refine g_icmpN (pc := 169) W71 at_169 (by first | exact (teq rfl).1 | exact (teq rfl).2 | exact (flt (by simp)).1 | exact (flt (by simp)).2.1 | exact (flt (by simp)).2.2.1 | exact (flt (by simp)).2.2.2) ?_
        refine g_aload (pc := 172) W71 at_172 rfl rfl ?_
        refine g_iconst (pc := 174) (0 : Int32) (by decide) W71 at_174 ?_
        refine g_virtual (i := 0) (pc := 175) (Wt := 0) (argsL := [.int (0 : Int32)]) (rest := []) (loc := [(b4, (.object "com/example/metanode/metanode/graph/IntPairs"), [.ref b61, .int (2 : Int32)]), (b61, (.array .int), [.int p1, .int p2, .int p3, .int p4])]) (rst := [(b8, (.array .int), (((((List.replicate 64 (.int (0 : Int32))).set 0 (.int p1)).set 1 (.int p2)).set 2 (.int p3)).set 3 (.int p4)))]) W71 (hw _ (List.mem_of_getElem? (i := 46) rfl)) (hw _ (List.mem_of_getElem? (i := 48) rfl)) (hw _ (List.mem_of_getElem? (i := 2) rfl)) (hw _ (List.mem_of_getElem? (i := 50) rfl)) (hw _ (List.mem_of_getElem? (i := 47) rfl)) (hw _ (List.mem_of_getElem? (i := 49) rfl)) rfl (by decide) (c_second l Z a0 hw b4 b61 (2 : Int32) (0 : Int32) p2 [.int p1, .int p2, .int p3, .int p4] (by decide) rfl) ⟨[0, 1, 2], by decide, rfl⟩ rfl pd_I__I rfl rfl rfl (Nat.le_of_ble_eq_true rfl) (by decide) (by decide) (by decide) (by decide) at_175 ?_
        rintro T72 _ _ ⟨rfl, rfl⟩ W73
        have W74 := W73.re (os' := [(b4, (.object "com/example/metanode/metanode/graph/IntPairs"), [.ref b61, .int (2 : Int32)]), (b61, (.array .int), [.int p1, .int p2, .int p3, .int p4]), (b8, (.array .int), (((((List.replicate 64 (.int (0 : Int32))).set 0 (.int p1)).set 1 (.int p2)).set 2 (.int p3)).set 3 (.int p4)))]) rfl
        show Go p_ e_ bl_ _ (T72.setTop (mkF m_ 178 #[.val (.int p0), .val (.int p1), .val (.int p2), .val (.int p3), .val (.int p4), .val (.int p5), .val (.int (2 : Int32)), .val (.int z1), .val (.int (p1 ^^^ (-1 : Int32))), .val (.ref b4), .val (.int (1 : Int32))] [.int p2]))
        refine g_iload_n (pc := 178) W74 at_178 rfl ?_
        refine g_icmpY 184 (pc := 179) W74 at_179 (by decide) (by decide) (by first | exact (teq rfl).1 | exact (teq rfl).2 | exact (flt (by simp)).1 | exact (flt (by simp)).2.1 | exact (flt (by simp)).2.2.1 | exact (flt (by simp)).2.2.2) ?_
        refine g_iload (pc := 184) W74 at_184 rfl ?_
        refine g_iconst (pc := 186) (2 : Int32) (by decide) W74 at_186 ?_
        refine g_icmpN (pc := 187) W74 at_187 (by decide) ?_
        refine g_aload (pc := 190) W74 at_190 rfl rfl ?_
        refine g_iconst (pc := 192) (1 : Int32) (by decide) W74 at_192 ?_
        refine g_virtual (i := 0) (pc := 193) (Wt := 0) (argsL := [.int (1 : Int32)]) (rest := []) (loc := [(b4, (.object "com/example/metanode/metanode/graph/IntPairs"), [.ref b61, .int (2 : Int32)]), (b61, (.array .int), [.int p1, .int p2, .int p3, .int p4])]) (rst := [(b8, (.array .int), (((((List.replicate 64 (.int (0 : Int32))).set 0 (.int p1)).set 1 (.int p2)).set 2 (.int p3)).set 3 (.int p4)))]) W74 (hw _ (List.mem_of_getElem? (i := 41) rfl)) (hw _ (List.mem_of_getElem? (i := 43) rfl)) (hw _ (List.mem_of_getElem? (i := 2) rfl)) (hw _ (List.mem_of_getElem? (i := 45) rfl)) (hw _ (List.mem_of_getElem? (i := 42) rfl)) (hw _ (List.mem_of_getElem? (i := 44) rfl)) rfl (by decide) (c_first l Z a0 hw b4 b61 (2 : Int32) (1 : Int32) p3 [.int p1, .int p2, .int p3, .int p4] (by decide) rfl) ⟨[0, 1, 2], by decide, rfl⟩ rfl pd_I__I rfl rfl rfl (Nat.le_of_ble_eq_true rfl) (by decide) (by decide) (by decide) (by decide) at_193 ?_
        rintro T75 _ _ ⟨rfl, rfl⟩ W76
        have W77 := W76.re (os' := [(b4, (.object "com/example/metanode/metanode/graph/IntPairs"), [.ref b61, .int (2 : Int32)]), (b61, (.array .int), [.int p1, .int p2, .int p3, .int p4]), (b8, (.array .int), (((((List.replicate 64 (.int (0 : Int32))).set 0 (.int p1)).set 1 (.int p2)).set 2 (.int p3)).set 3 (.int p4)))]) rfl
        show Go p_ e_ bl_ _ (T75.setTop (mkF m_ 196 #[.val (.int p0), .val (.int p1), .val (.int p2), .val (.int p3), .val (.int p4), .val (.int p5), .val (.int (2 : Int32)), .val (.int z1), .val (.int (p1 ^^^ (-1 : Int32))), .val (.ref b4), .val (.int (1 : Int32))] [.int p3]))
        refine g_iload_n (pc := 196) W77 at_196 rfl ?_
        refine g_icmpN (pc := 197) W77 at_197 (by first | exact (teq rfl).1 | exact (teq rfl).2 | exact (flt (by simp)).1 | exact (flt (by simp)).2.1 | exact (flt (by simp)).2.2.1 | exact (flt (by simp)).2.2.2) ?_
        refine g_aload (pc := 200) W77 at_200 rfl rfl ?_
        refine g_iconst (pc := 202) (1 : Int32) (by decide) W77 at_202 ?_
        refine g_virtual (i := 0) (pc := 203) (Wt := 0) (argsL := [.int (1 : Int32)]) (rest := []) (loc := [(b4, (.object "com/example/metanode/metanode/graph/IntPairs"), [.ref b61, .int (2 : Int32)]), (b61, (.array .int), [.int p1, .int p2, .int p3, .int p4])]) (rst := [(b8, (.array .int), (((((List.replicate 64 (.int (0 : Int32))).set 0 (.int p1)).set 1 (.int p2)).set 2 (.int p3)).set 3 (.int p4)))]) W77 (hw _ (List.mem_of_getElem? (i := 46) rfl)) (hw _ (List.mem_of_getElem? (i := 48) rfl)) (hw _ (List.mem_of_getElem? (i := 2) rfl)) (hw _ (List.mem_of_getElem? (i := 50) rfl)) (hw _ (List.mem_of_getElem? (i := 47) rfl)) (hw _ (List.mem_of_getElem? (i := 49) rfl)) rfl (by decide) (c_second l Z a0 hw b4 b61 (2 : Int32) (1 : Int32) p4 [.int p1, .int p2, .int p3, .int p4] (by decide) rfl) ⟨[0, 1, 2], by decide, rfl⟩ rfl pd_I__I rfl rfl rfl (Nat.le_of_ble_eq_true rfl) (by decide) (by decide) (by decide) (by decide) at_203 ?_
        rintro T78 _ _ ⟨rfl, rfl⟩ W79
        have W80 := W79.re (os' := [(b4, (.object "com/example/metanode/metanode/graph/IntPairs"), [.ref b61, .int (2 : Int32)]), (b61, (.array .int), [.int p1, .int p2, .int p3, .int p4]), (b8, (.array .int), (((((List.replicate 64 (.int (0 : Int32))).set 0 (.int p1)).set 1 (.int p2)).set 2 (.int p3)).set 3 (.int p4)))]) rfl
        show Go p_ e_ bl_ _ (T78.setTop (mkF m_ 206 #[.val (.int p0), .val (.int p1), .val (.int p2), .val (.int p3), .val (.int p4), .val (.int p5), .val (.int (2 : Int32)), .val (.int z1), .val (.int (p1 ^^^ (-1 : Int32))), .val (.ref b4), .val (.int (1 : Int32))] [.int p4]))
        refine g_iload (pc := 206) W80 at_206 rfl ?_
        refine g_icmpY 213 (pc := 208) W80 at_208 (by decide) (by decide) (by first | exact (teq rfl).1 | exact (teq rfl).2 | exact (flt (by simp)).1 | exact (flt (by simp)).2.1 | exact (flt (by simp)).2.2.1 | exact (flt (by simp)).2.2.2) ?_
        refine g_iload (pc := 213) W80 at_213 rfl ?_
        refine g_iconst (pc := 215) (3 : Int32) (by decide) W80 at_215 ?_
        refine g_icmpY 243 (pc := 216) W80 at_216 (by decide) (by decide) (by decide) ?_
        refine g_iconst (pc := 243) (1 : Int32) (by decide) W80 at_243 ?_
        exact g_zreturn (pc := 244) rfl (by decide) W80 at_244 (by decide) (by decide) rfl
      · refine g_aload (pc := 139) W64 at_139 rfl rfl ?_
        refine g_virtual (i := 2) (pc := 141) (Wt := 0) (argsL := []) (rest := []) (loc := [(b4, (.object "com/example/metanode/metanode/graph/IntPairs"), [.ref b61, .int (2 : Int32)]), (b61, (.array .int), [.int p1, .int p2, .int p3, .int p4])]) (rst := [(b8, (.array .int), (((((List.replicate 64 (.int (0 : Int32))).set 0 (.int p1)).set 1 (.int p2)).set 2 (.int p3)).set 3 (.int p4)))]) W64 (hw _ (List.mem_of_getElem? (i := 12) rfl)) (hw _ (List.mem_of_getElem? (i := 14) rfl)) (hw _ (List.mem_of_getElem? (i := 2) rfl)) (hw _ (List.mem_of_getElem? (i := 16) rfl)) (hw _ (List.mem_of_getElem? (i := 13) rfl)) (hw _ (List.mem_of_getElem? (i := 15) rfl)) rfl (by decide) (c_again2 l Z a0 hw b4 b61 p1 p2 p3 p4) ⟨[2, 1, 0], by decide, rfl⟩ rfl pd___V rfl rfl rfl (Nat.le_of_ble_eq_true rfl) (by decide) (by decide) (by decide) (by decide) at_141 ?_
        rintro T81 _ _ ⟨rfl, rfl⟩ W82
        have W83 := W82.re (os' := [(b4, (.object "com/example/metanode/metanode/graph/IntPairs"), [.ref b61, .int (2 : Int32)]), (b61, (.array .int), [.int p1, .int p2, .int p3, .int p4]), (b8, (.array .int), (((((List.replicate 64 (.int (0 : Int32))).set 0 (.int p1)).set 1 (.int p2)).set 2 (.int p3)).set 3 (.int p4)))]) rfl
        show Go p_ e_ bl_ _ (T81.setTop (mkF m_ 144 #[.val (.int p0), .val (.int p1), .val (.int p2), .val (.int p3), .val (.int p4), .val (.int p5), .val (.int (2 : Int32)), .val (.int z1), .val (.int (p1 ^^^ (-1 : Int32))), .val (.ref b4), .val (.int (1 : Int32))] []))
        refine g_aload (pc := 144) W83 at_144 rfl rfl ?_
        refine g_virtual (i := 0) (pc := 146) (Wt := 0) (argsL := []) (rest := []) (loc := [(b4, (.object "com/example/metanode/metanode/graph/IntPairs"), [.ref b61, .int (2 : Int32)])]) (rst := [(b61, (.array .int), [.int p1, .int p2, .int p3, .int p4]), (b8, (.array .int), (((((List.replicate 64 (.int (0 : Int32))).set 0 (.int p1)).set 1 (.int p2)).set 2 (.int p3)).set 3 (.int p4)))]) W83 (hw _ (List.mem_of_getElem? (i := 31) rfl)) (hw _ (List.mem_of_getElem? (i := 33) rfl)) (hw _ (List.mem_of_getElem? (i := 2) rfl)) (hw _ (List.mem_of_getElem? (i := 35) rfl)) (hw _ (List.mem_of_getElem? (i := 32) rfl)) (hw _ (List.mem_of_getElem? (i := 34) rfl)) rfl (by decide) (c_count l Z a0 hw b4 b61 (2 : Int32)) ⟨[0, 1, 2], by decide, rfl⟩ rfl pd___I rfl rfl rfl (Nat.le_of_ble_eq_true rfl) (by decide) (by decide) (by decide) (by decide) at_146 ?_
        rintro T84 _ _ ⟨rfl, rfl⟩ W85
        have W86 := W85.re (os' := [(b4, (.object "com/example/metanode/metanode/graph/IntPairs"), [.ref b61, .int (2 : Int32)]), (b61, (.array .int), [.int p1, .int p2, .int p3, .int p4]), (b8, (.array .int), (((((List.replicate 64 (.int (0 : Int32))).set 0 (.int p1)).set 1 (.int p2)).set 2 (.int p3)).set 3 (.int p4)))]) rfl
        show Go p_ e_ bl_ _ (T84.setTop (mkF m_ 149 #[.val (.int p0), .val (.int p1), .val (.int p2), .val (.int p3), .val (.int p4), .val (.int p5), .val (.int (2 : Int32)), .val (.int z1), .val (.int (p1 ^^^ (-1 : Int32))), .val (.ref b4), .val (.int (1 : Int32))] [.int (2 : Int32)]))
        refine g_iload (pc := 149) W86 at_149 rfl ?_
        refine g_icmpY 156 (pc := 151) W86 at_151 (by decide) (by decide) (by decide) ?_
        refine g_iload (pc := 156) W86 at_156 rfl ?_
        refine g_iconst (pc := 158) (1 : Int32) (by decide) W86 at_158 ?_
        refine g_icmpN (pc := 159) W86 at_159 (by decide) ?_
        refine g_aload (pc := 162) W86 at_162 rfl rfl ?_
        refine g_iconst (pc := 164) (0 : Int32) (by decide) W86 at_164 ?_
        refine g_virtual (i := 0) (pc := 165) (Wt := 0) (argsL := [.int (0 : Int32)]) (rest := []) (loc := [(b4, (.object "com/example/metanode/metanode/graph/IntPairs"), [.ref b61, .int (2 : Int32)]), (b61, (.array .int), [.int p1, .int p2, .int p3, .int p4])]) (rst := [(b8, (.array .int), (((((List.replicate 64 (.int (0 : Int32))).set 0 (.int p1)).set 1 (.int p2)).set 2 (.int p3)).set 3 (.int p4)))]) W86 (hw _ (List.mem_of_getElem? (i := 41) rfl)) (hw _ (List.mem_of_getElem? (i := 43) rfl)) (hw _ (List.mem_of_getElem? (i := 2) rfl)) (hw _ (List.mem_of_getElem? (i := 45) rfl)) (hw _ (List.mem_of_getElem? (i := 42) rfl)) (hw _ (List.mem_of_getElem? (i := 44) rfl)) rfl (by decide) (c_first l Z a0 hw b4 b61 (2 : Int32) (0 : Int32) p1 [.int p1, .int p2, .int p3, .int p4] (by decide) rfl) ⟨[0, 1, 2], by decide, rfl⟩ rfl pd_I__I rfl rfl rfl (Nat.le_of_ble_eq_true rfl) (by decide) (by decide) (by decide) (by decide) at_165 ?_
        rintro T87 _ _ ⟨rfl, rfl⟩ W88
        have W89 := W88.re (os' := [(b4, (.object "com/example/metanode/metanode/graph/IntPairs"), [.ref b61, .int (2 : Int32)]), (b61, (.array .int), [.int p1, .int p2, .int p3, .int p4]), (b8, (.array .int), (((((List.replicate 64 (.int (0 : Int32))).set 0 (.int p1)).set 1 (.int p2)).set 2 (.int p3)).set 3 (.int p4)))]) rfl
        show Go p_ e_ bl_ _ (T87.setTop (mkF m_ 168 #[.val (.int p0), .val (.int p1), .val (.int p2), .val (.int p3), .val (.int p4), .val (.int p5), .val (.int (2 : Int32)), .val (.int z1), .val (.int (p1 ^^^ (-1 : Int32))), .val (.ref b4), .val (.int (1 : Int32))] [.int p1]))
        refine g_iload_n (pc := 168) W89 at_168 rfl ?_
        refine g_icmpN (pc := 169) W89 at_169 (by first | exact (teq rfl).1 | exact (teq rfl).2 | exact (flt (by simp)).1 | exact (flt (by simp)).2.1 | exact (flt (by simp)).2.2.1 | exact (flt (by simp)).2.2.2) ?_
        refine g_aload (pc := 172) W89 at_172 rfl rfl ?_
        refine g_iconst (pc := 174) (0 : Int32) (by decide) W89 at_174 ?_
        refine g_virtual (i := 0) (pc := 175) (Wt := 0) (argsL := [.int (0 : Int32)]) (rest := []) (loc := [(b4, (.object "com/example/metanode/metanode/graph/IntPairs"), [.ref b61, .int (2 : Int32)]), (b61, (.array .int), [.int p1, .int p2, .int p3, .int p4])]) (rst := [(b8, (.array .int), (((((List.replicate 64 (.int (0 : Int32))).set 0 (.int p1)).set 1 (.int p2)).set 2 (.int p3)).set 3 (.int p4)))]) W89 (hw _ (List.mem_of_getElem? (i := 46) rfl)) (hw _ (List.mem_of_getElem? (i := 48) rfl)) (hw _ (List.mem_of_getElem? (i := 2) rfl)) (hw _ (List.mem_of_getElem? (i := 50) rfl)) (hw _ (List.mem_of_getElem? (i := 47) rfl)) (hw _ (List.mem_of_getElem? (i := 49) rfl)) rfl (by decide) (c_second l Z a0 hw b4 b61 (2 : Int32) (0 : Int32) p2 [.int p1, .int p2, .int p3, .int p4] (by decide) rfl) ⟨[0, 1, 2], by decide, rfl⟩ rfl pd_I__I rfl rfl rfl (Nat.le_of_ble_eq_true rfl) (by decide) (by decide) (by decide) (by decide) at_175 ?_
        rintro T90 _ _ ⟨rfl, rfl⟩ W91
        have W92 := W91.re (os' := [(b4, (.object "com/example/metanode/metanode/graph/IntPairs"), [.ref b61, .int (2 : Int32)]), (b61, (.array .int), [.int p1, .int p2, .int p3, .int p4]), (b8, (.array .int), (((((List.replicate 64 (.int (0 : Int32))).set 0 (.int p1)).set 1 (.int p2)).set 2 (.int p3)).set 3 (.int p4)))]) rfl
        show Go p_ e_ bl_ _ (T90.setTop (mkF m_ 178 #[.val (.int p0), .val (.int p1), .val (.int p2), .val (.int p3), .val (.int p4), .val (.int p5), .val (.int (2 : Int32)), .val (.int z1), .val (.int (p1 ^^^ (-1 : Int32))), .val (.ref b4), .val (.int (1 : Int32))] [.int p2]))
        refine g_iload_n (pc := 178) W92 at_178 rfl ?_
        refine g_icmpY 184 (pc := 179) W92 at_179 (by decide) (by decide) (by first | exact (teq rfl).1 | exact (teq rfl).2 | exact (flt (by simp)).1 | exact (flt (by simp)).2.1 | exact (flt (by simp)).2.2.1 | exact (flt (by simp)).2.2.2) ?_
        refine g_iload (pc := 184) W92 at_184 rfl ?_
        refine g_iconst (pc := 186) (2 : Int32) (by decide) W92 at_186 ?_
        refine g_icmpN (pc := 187) W92 at_187 (by decide) ?_
        refine g_aload (pc := 190) W92 at_190 rfl rfl ?_
        refine g_iconst (pc := 192) (1 : Int32) (by decide) W92 at_192 ?_
        refine g_virtual (i := 0) (pc := 193) (Wt := 0) (argsL := [.int (1 : Int32)]) (rest := []) (loc := [(b4, (.object "com/example/metanode/metanode/graph/IntPairs"), [.ref b61, .int (2 : Int32)]), (b61, (.array .int), [.int p1, .int p2, .int p3, .int p4])]) (rst := [(b8, (.array .int), (((((List.replicate 64 (.int (0 : Int32))).set 0 (.int p1)).set 1 (.int p2)).set 2 (.int p3)).set 3 (.int p4)))]) W92 (hw _ (List.mem_of_getElem? (i := 41) rfl)) (hw _ (List.mem_of_getElem? (i := 43) rfl)) (hw _ (List.mem_of_getElem? (i := 2) rfl)) (hw _ (List.mem_of_getElem? (i := 45) rfl)) (hw _ (List.mem_of_getElem? (i := 42) rfl)) (hw _ (List.mem_of_getElem? (i := 44) rfl)) rfl (by decide) (c_first l Z a0 hw b4 b61 (2 : Int32) (1 : Int32) p3 [.int p1, .int p2, .int p3, .int p4] (by decide) rfl) ⟨[0, 1, 2], by decide, rfl⟩ rfl pd_I__I rfl rfl rfl (Nat.le_of_ble_eq_true rfl) (by decide) (by decide) (by decide) (by decide) at_193 ?_
        rintro T93 _ _ ⟨rfl, rfl⟩ W94
        have W95 := W94.re (os' := [(b4, (.object "com/example/metanode/metanode/graph/IntPairs"), [.ref b61, .int (2 : Int32)]), (b61, (.array .int), [.int p1, .int p2, .int p3, .int p4]), (b8, (.array .int), (((((List.replicate 64 (.int (0 : Int32))).set 0 (.int p1)).set 1 (.int p2)).set 2 (.int p3)).set 3 (.int p4)))]) rfl
        show Go p_ e_ bl_ _ (T93.setTop (mkF m_ 196 #[.val (.int p0), .val (.int p1), .val (.int p2), .val (.int p3), .val (.int p4), .val (.int p5), .val (.int (2 : Int32)), .val (.int z1), .val (.int (p1 ^^^ (-1 : Int32))), .val (.ref b4), .val (.int (1 : Int32))] [.int p3]))
        refine g_iload_n (pc := 196) W95 at_196 rfl ?_
        refine g_icmpN (pc := 197) W95 at_197 (by first | exact (teq rfl).1 | exact (teq rfl).2 | exact (flt (by simp)).1 | exact (flt (by simp)).2.1 | exact (flt (by simp)).2.2.1 | exact (flt (by simp)).2.2.2) ?_
        refine g_aload (pc := 200) W95 at_200 rfl rfl ?_
        refine g_iconst (pc := 202) (1 : Int32) (by decide) W95 at_202 ?_
        refine g_virtual (i := 0) (pc := 203) (Wt := 0) (argsL := [.int (1 : Int32)]) (rest := []) (loc := [(b4, (.object "com/example/metanode/metanode/graph/IntPairs"), [.ref b61, .int (2 : Int32)]), (b61, (.array .int), [.int p1, .int p2, .int p3, .int p4])]) (rst := [(b8, (.array .int), (((((List.replicate 64 (.int (0 : Int32))).set 0 (.int p1)).set 1 (.int p2)).set 2 (.int p3)).set 3 (.int p4)))]) W95 (hw _ (List.mem_of_getElem? (i := 46) rfl)) (hw _ (List.mem_of_getElem? (i := 48) rfl)) (hw _ (List.mem_of_getElem? (i := 2) rfl)) (hw _ (List.mem_of_getElem? (i := 50) rfl)) (hw _ (List.mem_of_getElem? (i := 47) rfl)) (hw _ (List.mem_of_getElem? (i := 49) rfl)) rfl (by decide) (c_second l Z a0 hw b4 b61 (2 : Int32) (1 : Int32) p4 [.int p1, .int p2, .int p3, .int p4] (by decide) rfl) ⟨[0, 1, 2], by decide, rfl⟩ rfl pd_I__I rfl rfl rfl (Nat.le_of_ble_eq_true rfl) (by decide) (by decide) (by decide) (by decide) at_203 ?_
        rintro T96 _ _ ⟨rfl, rfl⟩ W97
        have W98 := W97.re (os' := [(b4, (.object "com/example/metanode/metanode/graph/IntPairs"), [.ref b61, .int (2 : Int32)]), (b61, (.array .int), [.int p1, .int p2, .int p3, .int p4]), (b8, (.array .int), (((((List.replicate 64 (.int (0 : Int32))).set 0 (.int p1)).set 1 (.int p2)).set 2 (.int p3)).set 3 (.int p4)))]) rfl
        show Go p_ e_ bl_ _ (T96.setTop (mkF m_ 206 #[.val (.int p0), .val (.int p1), .val (.int p2), .val (.int p3), .val (.int p4), .val (.int p5), .val (.int (2 : Int32)), .val (.int z1), .val (.int (p1 ^^^ (-1 : Int32))), .val (.ref b4), .val (.int (1 : Int32))] [.int p4]))
        refine g_iload (pc := 206) W98 at_206 rfl ?_
        refine g_icmpY 213 (pc := 208) W98 at_208 (by decide) (by decide) (by first | exact (teq rfl).1 | exact (teq rfl).2 | exact (flt (by simp)).1 | exact (flt (by simp)).2.1 | exact (flt (by simp)).2.2.1 | exact (flt (by simp)).2.2.2) ?_
        refine g_iload (pc := 213) W98 at_213 rfl ?_
        refine g_iconst (pc := 215) (3 : Int32) (by decide) W98 at_215 ?_
        refine g_icmpY 243 (pc := 216) W98 at_216 (by decide) (by decide) (by decide) ?_
        refine g_iconst (pc := 243) (1 : Int32) (by decide) W98 at_243 ?_
        exact g_zreturn (pc := 244) rfl (by decide) W98 at_244 (by decide) (by decide) rfl
    · rw [hl]
      refine g_iload (pc := 35) W11 at_35 rfl ?_
      refine g_iconst (pc := 37) (1 : Int32) (by decide) W11 at_37 ?_
      refine g_icmpN (pc := 38) W11 at_38 (by decide) ?_
      refine g_iload (pc := 41) W11 at_41 rfl ?_
      refine g_ifN (pc := 43) W11 at_43 (by decide) ?_
      refine g_aload (pc := 46) W11 at_46 rfl rfl ?_
      refine g_iload_n (pc := 48) W11 at_48 rfl ?_
      refine g_iload_n (pc := 49) W11 at_49 rfl ?_
      refine g_virtual (i := 0) (pc := 50) (Wt := 0) (argsL := [.int p1, .int p2]) (rest := []) (loc := [(b4, (.object "com/example/metanode/metanode/graph/IntPairs"), [.ref b8, .int (0 : Int32)]), (b8, (.array .int), (List.replicate 64 (.int (0 : Int32))))]) (rst := []) W11 (hw _ (List.mem_of_getElem? (i := 36) rfl)) (hw _ (List.mem_of_getElem? (i := 38) rfl)) (hw _ (List.mem_of_getElem? (i := 2) rfl)) (hw _ (List.mem_of_getElem? (i := 40) rfl)) (hw _ (List.mem_of_getElem? (i := 37) rfl)) (hw _ (List.mem_of_getElem? (i := 39) rfl)) rfl (by decide) (c_add l Z a0 hw b4 b8 (0 : Int32) (1 : Int32) p1 p2 (List.replicate 64 (.int (0 : Int32))) 0 (by simp) (by decide) (by decide) (by decide) (by decide) (by decide) (by decide) (by decide)) ⟨[0, 1], by decide, rfl⟩ rfl pd_II__Z rfl rfl rfl (Nat.le_of_ble_eq_true rfl) (by decide) (by decide) (by decide) (by decide) at_50 ?_
      rintro T99 _ _ ⟨rfl, rfl⟩ W100
      have W101 := W100.re (os' := [(b4, (.object "com/example/metanode/metanode/graph/IntPairs"), [.ref b8, .int (1 : Int32)]), (b8, (.array .int), (((List.replicate 64 (.int (0 : Int32))).set 0 (.int p1)).set 1 (.int p2)))]) rfl
      show Go p_ e_ bl_ _ (T99.setTop (mkF m_ 53 #[.val (.int p0), .val (.int p1), .val (.int p2), .val (.int p3), .val (.int p4), .val (.int p5), .val (.int (3 : Int32)), .val (.int z1), .val (.int (p1 ^^^ (-1 : Int32))), .val (.ref b4), .val (.int (1 : Int32))] [.int (1 : Int32)]))
      refine g_ifN (pc := 53) W101 at_53 (by decide) ?_
      refine g_iconst (pc := 56) (1 : Int32) (by decide) W101 at_56 ?_
      refine g_goto 61 (pc := 57) W101 at_57 (by decide) (by decide) ?_
      refine g_istore (pc := 61) (ls' := #[.val (.int p0), .val (.int p1), .val (.int p2), .val (.int p3), .val (.int p4), .val (.int p5), .val (.int (3 : Int32)), .val (.int z1), .val (.int (p1 ^^^ (-1 : Int32))), .val (.ref b4), .val (.int (1 : Int32))]) W101 at_61 rfl ?_
      refine g_iload (pc := 63) W101 at_63 rfl ?_
      refine g_iconst (pc := 65) (2 : Int32) (by decide) W101 at_65 ?_
      refine g_icmpN (pc := 66) W101 at_66 (by decide) ?_
      refine g_iload (pc := 69) W101 at_69 rfl ?_
      refine g_ifN (pc := 71) W101 at_71 (by decide) ?_
      refine g_aload (pc := 74) W101 at_74 rfl rfl ?_
      refine g_iload_n (pc := 76) W101 at_76 rfl ?_
      refine g_iload (pc := 77) W101 at_77 rfl ?_
      refine g_virtual (i := 0) (pc := 79) (Wt := 0) (argsL := [.int p3, .int p4]) (rest := []) (loc := [(b4, (.object "com/example/metanode/metanode/graph/IntPairs"), [.ref b8, .int (1 : Int32)]), (b8, (.array .int), (((List.replicate 64 (.int (0 : Int32))).set 0 (.int p1)).set 1 (.int p2)))]) (rst := []) W101 (hw _ (List.mem_of_getElem? (i := 36) rfl)) (hw _ (List.mem_of_getElem? (i := 38) rfl)) (hw _ (List.mem_of_getElem? (i := 2) rfl)) (hw _ (List.mem_of_getElem? (i := 40) rfl)) (hw _ (List.mem_of_getElem? (i := 37) rfl)) (hw _ (List.mem_of_getElem? (i := 39) rfl)) rfl (by decide) (c_add l Z a0 hw b4 b8 (1 : Int32) (2 : Int32) p3 p4 (((List.replicate 64 (.int (0 : Int32))).set 0 (.int p1)).set 1 (.int p2)) 2 (by simp) (by decide) (by decide) (by decide) (by decide) (by decide) (by decide) (by decide)) ⟨[0, 1], by decide, rfl⟩ rfl pd_II__Z rfl rfl rfl (Nat.le_of_ble_eq_true rfl) (by decide) (by decide) (by decide) (by decide) at_79 ?_
      rintro T102 _ _ ⟨rfl, rfl⟩ W103
      have W104 := W103.re (os' := [(b4, (.object "com/example/metanode/metanode/graph/IntPairs"), [.ref b8, .int (2 : Int32)]), (b8, (.array .int), (((((List.replicate 64 (.int (0 : Int32))).set 0 (.int p1)).set 1 (.int p2)).set 2 (.int p3)).set 3 (.int p4)))]) rfl
      show Go p_ e_ bl_ _ (T102.setTop (mkF m_ 82 #[.val (.int p0), .val (.int p1), .val (.int p2), .val (.int p3), .val (.int p4), .val (.int p5), .val (.int (3 : Int32)), .val (.int z1), .val (.int (p1 ^^^ (-1 : Int32))), .val (.ref b4), .val (.int (1 : Int32))] [.int (1 : Int32)]))
      refine g_ifN (pc := 82) W104 at_82 (by decide) ?_
      refine g_iconst (pc := 85) (1 : Int32) (by decide) W104 at_85 ?_
      refine g_goto 90 (pc := 86) W104 at_86 (by decide) (by decide) ?_
      refine g_istore (pc := 90) (ls' := #[.val (.int p0), .val (.int p1), .val (.int p2), .val (.int p3), .val (.int p4), .val (.int p5), .val (.int (3 : Int32)), .val (.int z1), .val (.int (p1 ^^^ (-1 : Int32))), .val (.ref b4), .val (.int (1 : Int32))]) W104 at_90 rfl ?_
      refine g_iload (pc := 92) W104 at_92 rfl ?_
      refine g_iconst (pc := 94) (3 : Int32) (by decide) W104 at_94 ?_
      refine g_icmpN (pc := 95) W104 at_95 (by decide) ?_
      refine g_iload (pc := 98) W104 at_98 rfl ?_
      refine g_ifN (pc := 100) W104 at_100 (by decide) ?_
      refine g_aload (pc := 103) W104 at_103 rfl rfl ?_
      refine g_iload (pc := 105) W104 at_105 rfl ?_
      refine g_iload (pc := 107) W104 at_107 rfl ?_
      refine g_virtual (i := 0) (pc := 109) (Wt := 0) (argsL := [.int p5, .int (p1 ^^^ (-1 : Int32))]) (rest := []) (loc := [(b4, (.object "com/example/metanode/metanode/graph/IntPairs"), [.ref b8, .int (2 : Int32)]), (b8, (.array .int), (((((List.replicate 64 (.int (0 : Int32))).set 0 (.int p1)).set 1 (.int p2)).set 2 (.int p3)).set 3 (.int p4)))]) (rst := []) W104 (hw _ (List.mem_of_getElem? (i := 36) rfl)) (hw _ (List.mem_of_getElem? (i := 38) rfl)) (hw _ (List.mem_of_getElem? (i := 2) rfl)) (hw _ (List.mem_of_getElem? (i := 40) rfl)) (hw _ (List.mem_of_getElem? (i := 37) rfl)) (hw _ (List.mem_of_getElem? (i := 39) rfl)) rfl (by decide) (c_add l Z a0 hw b4 b8 (2 : Int32) (3 : Int32) p5 (p1 ^^^ (-1 : Int32)) (((((List.replicate 64 (.int (0 : Int32))).set 0 (.int p1)).set 1 (.int p2)).set 2 (.int p3)).set 3 (.int p4)) 4 (by simp) (by decide) (by decide) (by decide) (by decide) (by decide) (by decide) (by decide)) ⟨[0, 1], by decide, rfl⟩ rfl pd_II__Z rfl rfl rfl (Nat.le_of_ble_eq_true rfl) (by decide) (by decide) (by decide) (by decide) at_109 ?_
      rintro T105 _ _ ⟨rfl, rfl⟩ W106
      have W107 := W106.re (os' := [(b4, (.object "com/example/metanode/metanode/graph/IntPairs"), [.ref b8, .int (3 : Int32)]), (b8, (.array .int), (((((((List.replicate 64 (.int (0 : Int32))).set 0 (.int p1)).set 1 (.int p2)).set 2 (.int p3)).set 3 (.int p4)).set 4 (.int p5)).set 5 (.int (p1 ^^^ (-1 : Int32)))))]) rfl
      show Go p_ e_ bl_ _ (T105.setTop (mkF m_ 112 #[.val (.int p0), .val (.int p1), .val (.int p2), .val (.int p3), .val (.int p4), .val (.int p5), .val (.int (3 : Int32)), .val (.int z1), .val (.int (p1 ^^^ (-1 : Int32))), .val (.ref b4), .val (.int (1 : Int32))] [.int (1 : Int32)]))
      refine g_ifN (pc := 112) W107 at_112 (by decide) ?_
      refine g_iconst (pc := 115) (1 : Int32) (by decide) W107 at_115 ?_
      refine g_goto 120 (pc := 116) W107 at_116 (by decide) (by decide) ?_
      refine g_istore (pc := 120) (ls' := #[.val (.int p0), .val (.int p1), .val (.int p2), .val (.int p3), .val (.int p4), .val (.int p5), .val (.int (3 : Int32)), .val (.int z1), .val (.int (p1 ^^^ (-1 : Int32))), .val (.ref b4), .val (.int (1 : Int32))]) W107 at_120 rfl ?_
      refine g_iload (pc := 122) W107 at_122 rfl ?_
      refine g_ifY 129 (pc := 124) W107 at_124 (by decide) (by decide) (by decide) ?_
      refine g_aload (pc := 129) W107 at_129 rfl rfl ?_
      refine g_virtual (i := 0) (pc := 131) (Wt := 0) (argsL := []) (rest := []) (loc := [(b4, (.object "com/example/metanode/metanode/graph/IntPairs"), [.ref b8, .int (3 : Int32)]), (b8, (.array .int), (((((((List.replicate 64 (.int (0 : Int32))).set 0 (.int p1)).set 1 (.int p2)).set 2 (.int p3)).set 3 (.int p4)).set 4 (.int p5)).set 5 (.int (p1 ^^^ (-1 : Int32)))))]) (rst := []) W107 (hw _ (List.mem_of_getElem? (i := 12) rfl)) (hw _ (List.mem_of_getElem? (i := 14) rfl)) (hw _ (List.mem_of_getElem? (i := 2) rfl)) (hw _ (List.mem_of_getElem? (i := 16) rfl)) (hw _ (List.mem_of_getElem? (i := 13) rfl)) (hw _ (List.mem_of_getElem? (i := 15) rfl)) rfl (by decide) (c_trim3 l Z a0 hw b4 b8 (((((((List.replicate 64 (.int (0 : Int32))).set 0 (.int p1)).set 1 (.int p2)).set 2 (.int p3)).set 3 (.int p4)).set 4 (.int p5)).set 5 (.int (p1 ^^^ (-1 : Int32)))) p1 p2 p3 p4 p5 (p1 ^^^ (-1 : Int32)) (by simp) rfl rfl rfl rfl rfl rfl) ⟨[0, 1], by decide, rfl⟩ rfl pd___V rfl rfl rfl (Nat.le_of_ble_eq_true rfl) (by decide) (by decide) (by decide) (by decide) at_131 ?_
      rintro T109 _ _ ⟨b108, rfl, rfl⟩ W110
      have W111 := W110.re (os' := [(b8, (.array .int), (((((((List.replicate 64 (.int (0 : Int32))).set 0 (.int p1)).set 1 (.int p2)).set 2 (.int p3)).set 3 (.int p4)).set 4 (.int p5)).set 5 (.int (p1 ^^^ (-1 : Int32))))), (b108, (.array .int), [.int p1, .int p2, .int p3, .int p4, .int p5, .int (p1 ^^^ (-1 : Int32))]), (b4, (.object "com/example/metanode/metanode/graph/IntPairs"), [.ref b108, .int (3 : Int32)])]) rfl
      show Go p_ e_ bl_ _ (T109.setTop (mkF m_ 134 #[.val (.int p0), .val (.int p1), .val (.int p2), .val (.int p3), .val (.int p4), .val (.int p5), .val (.int (3 : Int32)), .val (.int z1), .val (.int (p1 ^^^ (-1 : Int32))), .val (.ref b4), .val (.int (1 : Int32))] []))
      refine g_iload (pc := 134) W111 at_134 rfl ?_
      refine g_if_eq 144 (pc := 136) W111 at_136 (by decide) (by decide) (fun c112 => ?_) (fun c112 => ?_)
      · refine g_aload (pc := 144) W111 at_144 rfl rfl ?_
        refine g_virtual (i := 2) (pc := 146) (Wt := 0) (argsL := []) (rest := []) (loc := [(b4, (.object "com/example/metanode/metanode/graph/IntPairs"), [.ref b108, .int (3 : Int32)])]) (rst := [(b8, (.array .int), (((((((List.replicate 64 (.int (0 : Int32))).set 0 (.int p1)).set 1 (.int p2)).set 2 (.int p3)).set 3 (.int p4)).set 4 (.int p5)).set 5 (.int (p1 ^^^ (-1 : Int32))))), (b108, (.array .int), [.int p1, .int p2, .int p3, .int p4, .int p5, .int (p1 ^^^ (-1 : Int32))])]) W111 (hw _ (List.mem_of_getElem? (i := 31) rfl)) (hw _ (List.mem_of_getElem? (i := 33) rfl)) (hw _ (List.mem_of_getElem? (i := 2) rfl)) (hw _ (List.mem_of_getElem? (i := 35) rfl)) (hw _ (List.mem_of_getElem? (i := 32) rfl)) (hw _ (List.mem_of_getElem? (i := 34) rfl)) rfl (by decide) (c_count l Z a0 hw b4 b108 (3 : Int32)) ⟨[2, 0, 1], by decide, rfl⟩ rfl pd___I rfl rfl rfl (Nat.le_of_ble_eq_true rfl) (by decide) (by decide) (by decide) (by decide) at_146 ?_
        rintro T113 _ _ ⟨rfl, rfl⟩ W114
        have W115 := W114.re (os' := [(b4, (.object "com/example/metanode/metanode/graph/IntPairs"), [.ref b108, .int (3 : Int32)]), (b8, (.array .int), (((((((List.replicate 64 (.int (0 : Int32))).set 0 (.int p1)).set 1 (.int p2)).set 2 (.int p3)).set 3 (.int p4)).set 4 (.int p5)).set 5 (.int (p1 ^^^ (-1 : Int32))))), (b108, (.array .int), [.int p1, .int p2, .int p3, .int p4, .int p5, .int (p1 ^^^ (-1 : Int32))])]) rfl
        show Go p_ e_ bl_ _ (T113.setTop (mkF m_ 149 #[.val (.int p0), .val (.int p1), .val (.int p2), .val (.int p3), .val (.int p4), .val (.int p5), .val (.int (3 : Int32)), .val (.int z1), .val (.int (p1 ^^^ (-1 : Int32))), .val (.ref b4), .val (.int (1 : Int32))] [.int (3 : Int32)]))
        refine g_iload (pc := 149) W115 at_149 rfl ?_
        refine g_icmpY 156 (pc := 151) W115 at_151 (by decide) (by decide) (by decide) ?_
        refine g_iload (pc := 156) W115 at_156 rfl ?_
        refine g_iconst (pc := 158) (1 : Int32) (by decide) W115 at_158 ?_
        refine g_icmpN (pc := 159) W115 at_159 (by decide) ?_
        refine g_aload (pc := 162) W115 at_162 rfl rfl ?_
        refine g_iconst (pc := 164) (0 : Int32) (by decide) W115 at_164 ?_
        refine g_virtual (i := 0) (pc := 165) (Wt := 0) (argsL := [.int (0 : Int32)]) (rest := []) (loc := [(b4, (.object "com/example/metanode/metanode/graph/IntPairs"), [.ref b108, .int (3 : Int32)]), (b108, (.array .int), [.int p1, .int p2, .int p3, .int p4, .int p5, .int (p1 ^^^ (-1 : Int32))])]) (rst := [(b8, (.array .int), (((((((List.replicate 64 (.int (0 : Int32))).set 0 (.int p1)).set 1 (.int p2)).set 2 (.int p3)).set 3 (.int p4)).set 4 (.int p5)).set 5 (.int (p1 ^^^ (-1 : Int32)))))]) W115 (hw _ (List.mem_of_getElem? (i := 41) rfl)) (hw _ (List.mem_of_getElem? (i := 43) rfl)) (hw _ (List.mem_of_getElem? (i := 2) rfl)) (hw _ (List.mem_of_getElem? (i := 45) rfl)) (hw _ (List.mem_of_getElem? (i := 42) rfl)) (hw _ (List.mem_of_getElem? (i := 44) rfl)) rfl (by decide) (c_first l Z a0 hw b4 b108 (3 : Int32) (0 : Int32) p1 [.int p1, .int p2, .int p3, .int p4, .int p5, .int (p1 ^^^ (-1 : Int32))] (by decide) rfl) ⟨[0, 2, 1], by decide, rfl⟩ rfl pd_I__I rfl rfl rfl (Nat.le_of_ble_eq_true rfl) (by decide) (by decide) (by decide) (by decide) at_165 ?_
        rintro T116 _ _ ⟨rfl, rfl⟩ W117
        have W118 := W117.re (os' := [(b4, (.object "com/example/metanode/metanode/graph/IntPairs"), [.ref b108, .int (3 : Int32)]), (b108, (.array .int), [.int p1, .int p2, .int p3, .int p4, .int p5, .int (p1 ^^^ (-1 : Int32))]), (b8, (.array .int), (((((((List.replicate 64 (.int (0 : Int32))).set 0 (.int p1)).set 1 (.int p2)).set 2 (.int p3)).set 3 (.int p4)).set 4 (.int p5)).set 5 (.int (p1 ^^^ (-1 : Int32)))))]) rfl
        show Go p_ e_ bl_ _ (T116.setTop (mkF m_ 168 #[.val (.int p0), .val (.int p1), .val (.int p2), .val (.int p3), .val (.int p4), .val (.int p5), .val (.int (3 : Int32)), .val (.int z1), .val (.int (p1 ^^^ (-1 : Int32))), .val (.ref b4), .val (.int (1 : Int32))] [.int p1]))
        refine g_iload_n (pc := 168) W118 at_168 rfl ?_
        refine g_icmpN (pc := 169) W118 at_169 (by first | exact (teq rfl).1 | exact (teq rfl).2 | exact (flt (by simp)).1 | exact (flt (by simp)).2.1 | exact (flt (by simp)).2.2.1 | exact (flt (by simp)).2.2.2) ?_
        refine g_aload (pc := 172) W118 at_172 rfl rfl ?_
        refine g_iconst (pc := 174) (0 : Int32) (by decide) W118 at_174 ?_
        refine g_virtual (i := 0) (pc := 175) (Wt := 0) (argsL := [.int (0 : Int32)]) (rest := []) (loc := [(b4, (.object "com/example/metanode/metanode/graph/IntPairs"), [.ref b108, .int (3 : Int32)]), (b108, (.array .int), [.int p1, .int p2, .int p3, .int p4, .int p5, .int (p1 ^^^ (-1 : Int32))])]) (rst := [(b8, (.array .int), (((((((List.replicate 64 (.int (0 : Int32))).set 0 (.int p1)).set 1 (.int p2)).set 2 (.int p3)).set 3 (.int p4)).set 4 (.int p5)).set 5 (.int (p1 ^^^ (-1 : Int32)))))]) W118 (hw _ (List.mem_of_getElem? (i := 46) rfl)) (hw _ (List.mem_of_getElem? (i := 48) rfl)) (hw _ (List.mem_of_getElem? (i := 2) rfl)) (hw _ (List.mem_of_getElem? (i := 50) rfl)) (hw _ (List.mem_of_getElem? (i := 47) rfl)) (hw _ (List.mem_of_getElem? (i := 49) rfl)) rfl (by decide) (c_second l Z a0 hw b4 b108 (3 : Int32) (0 : Int32) p2 [.int p1, .int p2, .int p3, .int p4, .int p5, .int (p1 ^^^ (-1 : Int32))] (by decide) rfl) ⟨[0, 1, 2], by decide, rfl⟩ rfl pd_I__I rfl rfl rfl (Nat.le_of_ble_eq_true rfl) (by decide) (by decide) (by decide) (by decide) at_175 ?_
        rintro T119 _ _ ⟨rfl, rfl⟩ W120
        have W121 := W120.re (os' := [(b4, (.object "com/example/metanode/metanode/graph/IntPairs"), [.ref b108, .int (3 : Int32)]), (b108, (.array .int), [.int p1, .int p2, .int p3, .int p4, .int p5, .int (p1 ^^^ (-1 : Int32))]), (b8, (.array .int), (((((((List.replicate 64 (.int (0 : Int32))).set 0 (.int p1)).set 1 (.int p2)).set 2 (.int p3)).set 3 (.int p4)).set 4 (.int p5)).set 5 (.int (p1 ^^^ (-1 : Int32)))))]) rfl
        show Go p_ e_ bl_ _ (T119.setTop (mkF m_ 178 #[.val (.int p0), .val (.int p1), .val (.int p2), .val (.int p3), .val (.int p4), .val (.int p5), .val (.int (3 : Int32)), .val (.int z1), .val (.int (p1 ^^^ (-1 : Int32))), .val (.ref b4), .val (.int (1 : Int32))] [.int p2]))
        refine g_iload_n (pc := 178) W121 at_178 rfl ?_
        refine g_icmpY 184 (pc := 179) W121 at_179 (by decide) (by decide) (by first | exact (teq rfl).1 | exact (teq rfl).2 | exact (flt (by simp)).1 | exact (flt (by simp)).2.1 | exact (flt (by simp)).2.2.1 | exact (flt (by simp)).2.2.2) ?_
        refine g_iload (pc := 184) W121 at_184 rfl ?_
        refine g_iconst (pc := 186) (2 : Int32) (by decide) W121 at_186 ?_
        refine g_icmpN (pc := 187) W121 at_187 (by decide) ?_
        refine g_aload (pc := 190) W121 at_190 rfl rfl ?_
        refine g_iconst (pc := 192) (1 : Int32) (by decide) W121 at_192 ?_
        refine g_virtual (i := 0) (pc := 193) (Wt := 0) (argsL := [.int (1 : Int32)]) (rest := []) (loc := [(b4, (.object "com/example/metanode/metanode/graph/IntPairs"), [.ref b108, .int (3 : Int32)]), (b108, (.array .int), [.int p1, .int p2, .int p3, .int p4, .int p5, .int (p1 ^^^ (-1 : Int32))])]) (rst := [(b8, (.array .int), (((((((List.replicate 64 (.int (0 : Int32))).set 0 (.int p1)).set 1 (.int p2)).set 2 (.int p3)).set 3 (.int p4)).set 4 (.int p5)).set 5 (.int (p1 ^^^ (-1 : Int32)))))]) W121 (hw _ (List.mem_of_getElem? (i := 41) rfl)) (hw _ (List.mem_of_getElem? (i := 43) rfl)) (hw _ (List.mem_of_getElem? (i := 2) rfl)) (hw _ (List.mem_of_getElem? (i := 45) rfl)) (hw _ (List.mem_of_getElem? (i := 42) rfl)) (hw _ (List.mem_of_getElem? (i := 44) rfl)) rfl (by decide) (c_first l Z a0 hw b4 b108 (3 : Int32) (1 : Int32) p3 [.int p1, .int p2, .int p3, .int p4, .int p5, .int (p1 ^^^ (-1 : Int32))] (by decide) rfl) ⟨[0, 1, 2], by decide, rfl⟩ rfl pd_I__I rfl rfl rfl (Nat.le_of_ble_eq_true rfl) (by decide) (by decide) (by decide) (by decide) at_193 ?_
        rintro T122 _ _ ⟨rfl, rfl⟩ W123
        have W124 := W123.re (os' := [(b4, (.object "com/example/metanode/metanode/graph/IntPairs"), [.ref b108, .int (3 : Int32)]), (b108, (.array .int), [.int p1, .int p2, .int p3, .int p4, .int p5, .int (p1 ^^^ (-1 : Int32))]), (b8, (.array .int), (((((((List.replicate 64 (.int (0 : Int32))).set 0 (.int p1)).set 1 (.int p2)).set 2 (.int p3)).set 3 (.int p4)).set 4 (.int p5)).set 5 (.int (p1 ^^^ (-1 : Int32)))))]) rfl
        show Go p_ e_ bl_ _ (T122.setTop (mkF m_ 196 #[.val (.int p0), .val (.int p1), .val (.int p2), .val (.int p3), .val (.int p4), .val (.int p5), .val (.int (3 : Int32)), .val (.int z1), .val (.int (p1 ^^^ (-1 : Int32))), .val (.ref b4), .val (.int (1 : Int32))] [.int p3]))
        refine g_iload_n (pc := 196) W124 at_196 rfl ?_
        refine g_icmpN (pc := 197) W124 at_197 (by first | exact (teq rfl).1 | exact (teq rfl).2 | exact (flt (by simp)).1 | exact (flt (by simp)).2.1 | exact (flt (by simp)).2.2.1 | exact (flt (by simp)).2.2.2) ?_
        refine g_aload (pc := 200) W124 at_200 rfl rfl ?_
        refine g_iconst (pc := 202) (1 : Int32) (by decide) W124 at_202 ?_
        refine g_virtual (i := 0) (pc := 203) (Wt := 0) (argsL := [.int (1 : Int32)]) (rest := []) (loc := [(b4, (.object "com/example/metanode/metanode/graph/IntPairs"), [.ref b108, .int (3 : Int32)]), (b108, (.array .int), [.int p1, .int p2, .int p3, .int p4, .int p5, .int (p1 ^^^ (-1 : Int32))])]) (rst := [(b8, (.array .int), (((((((List.replicate 64 (.int (0 : Int32))).set 0 (.int p1)).set 1 (.int p2)).set 2 (.int p3)).set 3 (.int p4)).set 4 (.int p5)).set 5 (.int (p1 ^^^ (-1 : Int32)))))]) W124 (hw _ (List.mem_of_getElem? (i := 46) rfl)) (hw _ (List.mem_of_getElem? (i := 48) rfl)) (hw _ (List.mem_of_getElem? (i := 2) rfl)) (hw _ (List.mem_of_getElem? (i := 50) rfl)) (hw _ (List.mem_of_getElem? (i := 47) rfl)) (hw _ (List.mem_of_getElem? (i := 49) rfl)) rfl (by decide) (c_second l Z a0 hw b4 b108 (3 : Int32) (1 : Int32) p4 [.int p1, .int p2, .int p3, .int p4, .int p5, .int (p1 ^^^ (-1 : Int32))] (by decide) rfl) ⟨[0, 1, 2], by decide, rfl⟩ rfl pd_I__I rfl rfl rfl (Nat.le_of_ble_eq_true rfl) (by decide) (by decide) (by decide) (by decide) at_203 ?_
        rintro T125 _ _ ⟨rfl, rfl⟩ W126
        have W127 := W126.re (os' := [(b4, (.object "com/example/metanode/metanode/graph/IntPairs"), [.ref b108, .int (3 : Int32)]), (b108, (.array .int), [.int p1, .int p2, .int p3, .int p4, .int p5, .int (p1 ^^^ (-1 : Int32))]), (b8, (.array .int), (((((((List.replicate 64 (.int (0 : Int32))).set 0 (.int p1)).set 1 (.int p2)).set 2 (.int p3)).set 3 (.int p4)).set 4 (.int p5)).set 5 (.int (p1 ^^^ (-1 : Int32)))))]) rfl
        show Go p_ e_ bl_ _ (T125.setTop (mkF m_ 206 #[.val (.int p0), .val (.int p1), .val (.int p2), .val (.int p3), .val (.int p4), .val (.int p5), .val (.int (3 : Int32)), .val (.int z1), .val (.int (p1 ^^^ (-1 : Int32))), .val (.ref b4), .val (.int (1 : Int32))] [.int p4]))
        refine g_iload (pc := 206) W127 at_206 rfl ?_
        refine g_icmpY 213 (pc := 208) W127 at_208 (by decide) (by decide) (by first | exact (teq rfl).1 | exact (teq rfl).2 | exact (flt (by simp)).1 | exact (flt (by simp)).2.1 | exact (flt (by simp)).2.2.1 | exact (flt (by simp)).2.2.2) ?_
        refine g_iload (pc := 213) W127 at_213 rfl ?_
        refine g_iconst (pc := 215) (3 : Int32) (by decide) W127 at_215 ?_
        refine g_icmpN (pc := 216) W127 at_216 (by decide) ?_
        refine g_aload (pc := 219) W127 at_219 rfl rfl ?_
        refine g_iconst (pc := 221) (2 : Int32) (by decide) W127 at_221 ?_
        refine g_virtual (i := 0) (pc := 222) (Wt := 0) (argsL := [.int (2 : Int32)]) (rest := []) (loc := [(b4, (.object "com/example/metanode/metanode/graph/IntPairs"), [.ref b108, .int (3 : Int32)]), (b108, (.array .int), [.int p1, .int p2, .int p3, .int p4, .int p5, .int (p1 ^^^ (-1 : Int32))])]) (rst := [(b8, (.array .int), (((((((List.replicate 64 (.int (0 : Int32))).set 0 (.int p1)).set 1 (.int p2)).set 2 (.int p3)).set 3 (.int p4)).set 4 (.int p5)).set 5 (.int (p1 ^^^ (-1 : Int32)))))]) W127 (hw _ (List.mem_of_getElem? (i := 41) rfl)) (hw _ (List.mem_of_getElem? (i := 43) rfl)) (hw _ (List.mem_of_getElem? (i := 2) rfl)) (hw _ (List.mem_of_getElem? (i := 45) rfl)) (hw _ (List.mem_of_getElem? (i := 42) rfl)) (hw _ (List.mem_of_getElem? (i := 44) rfl)) rfl (by decide) (c_first l Z a0 hw b4 b108 (3 : Int32) (2 : Int32) p5 [.int p1, .int p2, .int p3, .int p4, .int p5, .int (p1 ^^^ (-1 : Int32))] (by decide) rfl) ⟨[0, 1, 2], by decide, rfl⟩ rfl pd_I__I rfl rfl rfl (Nat.le_of_ble_eq_true rfl) (by decide) (by decide) (by decide) (by decide) at_222 ?_
        rintro T128 _ _ ⟨rfl, rfl⟩ W129
        have W130 := W129.re (os' := [(b4, (.object "com/example/metanode/metanode/graph/IntPairs"), [.ref b108, .int (3 : Int32)]), (b108, (.array .int), [.int p1, .int p2, .int p3, .int p4, .int p5, .int (p1 ^^^ (-1 : Int32))]), (b8, (.array .int), (((((((List.replicate 64 (.int (0 : Int32))).set 0 (.int p1)).set 1 (.int p2)).set 2 (.int p3)).set 3 (.int p4)).set 4 (.int p5)).set 5 (.int (p1 ^^^ (-1 : Int32)))))]) rfl
        show Go p_ e_ bl_ _ (T128.setTop (mkF m_ 225 #[.val (.int p0), .val (.int p1), .val (.int p2), .val (.int p3), .val (.int p4), .val (.int p5), .val (.int (3 : Int32)), .val (.int z1), .val (.int (p1 ^^^ (-1 : Int32))), .val (.ref b4), .val (.int (1 : Int32))] [.int p5]))
        refine g_iload (pc := 225) W130 at_225 rfl ?_
        refine g_icmpN (pc := 227) W130 at_227 (by first | exact (teq rfl).1 | exact (teq rfl).2 | exact (flt (by simp)).1 | exact (flt (by simp)).2.1 | exact (flt (by simp)).2.2.1 | exact (flt (by simp)).2.2.2) ?_
        refine g_aload (pc := 230) W130 at_230 rfl rfl ?_
        refine g_iconst (pc := 232) (2 : Int32) (by decide) W130 at_232 ?_
        refine g_virtual (i := 0) (pc := 233) (Wt := 0) (argsL := [.int (2 : Int32)]) (rest := []) (loc := [(b4, (.object "com/example/metanode/metanode/graph/IntPairs"), [.ref b108, .int (3 : Int32)]), (b108, (.array .int), [.int p1, .int p2, .int p3, .int p4, .int p5, .int (p1 ^^^ (-1 : Int32))])]) (rst := [(b8, (.array .int), (((((((List.replicate 64 (.int (0 : Int32))).set 0 (.int p1)).set 1 (.int p2)).set 2 (.int p3)).set 3 (.int p4)).set 4 (.int p5)).set 5 (.int (p1 ^^^ (-1 : Int32)))))]) W130 (hw _ (List.mem_of_getElem? (i := 46) rfl)) (hw _ (List.mem_of_getElem? (i := 48) rfl)) (hw _ (List.mem_of_getElem? (i := 2) rfl)) (hw _ (List.mem_of_getElem? (i := 50) rfl)) (hw _ (List.mem_of_getElem? (i := 47) rfl)) (hw _ (List.mem_of_getElem? (i := 49) rfl)) rfl (by decide) (c_second l Z a0 hw b4 b108 (3 : Int32) (2 : Int32) (p1 ^^^ (-1 : Int32)) [.int p1, .int p2, .int p3, .int p4, .int p5, .int (p1 ^^^ (-1 : Int32))] (by decide) rfl) ⟨[0, 1, 2], by decide, rfl⟩ rfl pd_I__I rfl rfl rfl (Nat.le_of_ble_eq_true rfl) (by decide) (by decide) (by decide) (by decide) at_233 ?_
        rintro T131 _ _ ⟨rfl, rfl⟩ W132
        have W133 := W132.re (os' := [(b4, (.object "com/example/metanode/metanode/graph/IntPairs"), [.ref b108, .int (3 : Int32)]), (b108, (.array .int), [.int p1, .int p2, .int p3, .int p4, .int p5, .int (p1 ^^^ (-1 : Int32))]), (b8, (.array .int), (((((((List.replicate 64 (.int (0 : Int32))).set 0 (.int p1)).set 1 (.int p2)).set 2 (.int p3)).set 3 (.int p4)).set 4 (.int p5)).set 5 (.int (p1 ^^^ (-1 : Int32)))))]) rfl
        show Go p_ e_ bl_ _ (T131.setTop (mkF m_ 236 #[.val (.int p0), .val (.int p1), .val (.int p2), .val (.int p3), .val (.int p4), .val (.int p5), .val (.int (3 : Int32)), .val (.int z1), .val (.int (p1 ^^^ (-1 : Int32))), .val (.ref b4), .val (.int (1 : Int32))] [.int (p1 ^^^ (-1 : Int32))]))
        refine g_iload (pc := 236) W133 at_236 rfl ?_
        refine g_icmpY 243 (pc := 238) W133 at_238 (by decide) (by decide) (by first | exact (teq rfl).1 | exact (teq rfl).2 | exact (flt (by simp)).1 | exact (flt (by simp)).2.1 | exact (flt (by simp)).2.2.1 | exact (flt (by simp)).2.2.2) ?_
        refine g_iconst (pc := 243) (1 : Int32) (by decide) W133 at_243 ?_
        exact g_zreturn (pc := 244) rfl (by decide) W133 at_244 (by decide) (by decide) rfl
      · refine g_aload (pc := 139) W111 at_139 rfl rfl ?_
        refine g_virtual (i := 2) (pc := 141) (Wt := 0) (argsL := []) (rest := []) (loc := [(b4, (.object "com/example/metanode/metanode/graph/IntPairs"), [.ref b108, .int (3 : Int32)]), (b108, (.array .int), [.int p1, .int p2, .int p3, .int p4, .int p5, .int (p1 ^^^ (-1 : Int32))])]) (rst := [(b8, (.array .int), (((((((List.replicate 64 (.int (0 : Int32))).set 0 (.int p1)).set 1 (.int p2)).set 2 (.int p3)).set 3 (.int p4)).set 4 (.int p5)).set 5 (.int (p1 ^^^ (-1 : Int32)))))]) W111 (hw _ (List.mem_of_getElem? (i := 12) rfl)) (hw _ (List.mem_of_getElem? (i := 14) rfl)) (hw _ (List.mem_of_getElem? (i := 2) rfl)) (hw _ (List.mem_of_getElem? (i := 16) rfl)) (hw _ (List.mem_of_getElem? (i := 13) rfl)) (hw _ (List.mem_of_getElem? (i := 15) rfl)) rfl (by decide) (c_again3 l Z a0 hw b4 b108 p1 p2 p3 p4 p5 (p1 ^^^ (-1 : Int32))) ⟨[2, 1, 0], by decide, rfl⟩ rfl pd___V rfl rfl rfl (Nat.le_of_ble_eq_true rfl) (by decide) (by decide) (by decide) (by decide) at_141 ?_
        rintro T134 _ _ ⟨rfl, rfl⟩ W135
        have W136 := W135.re (os' := [(b4, (.object "com/example/metanode/metanode/graph/IntPairs"), [.ref b108, .int (3 : Int32)]), (b108, (.array .int), [.int p1, .int p2, .int p3, .int p4, .int p5, .int (p1 ^^^ (-1 : Int32))]), (b8, (.array .int), (((((((List.replicate 64 (.int (0 : Int32))).set 0 (.int p1)).set 1 (.int p2)).set 2 (.int p3)).set 3 (.int p4)).set 4 (.int p5)).set 5 (.int (p1 ^^^ (-1 : Int32)))))]) rfl
        show Go p_ e_ bl_ _ (T134.setTop (mkF m_ 144 #[.val (.int p0), .val (.int p1), .val (.int p2), .val (.int p3), .val (.int p4), .val (.int p5), .val (.int (3 : Int32)), .val (.int z1), .val (.int (p1 ^^^ (-1 : Int32))), .val (.ref b4), .val (.int (1 : Int32))] []))
        refine g_aload (pc := 144) W136 at_144 rfl rfl ?_
        refine g_virtual (i := 0) (pc := 146) (Wt := 0) (argsL := []) (rest := []) (loc := [(b4, (.object "com/example/metanode/metanode/graph/IntPairs"), [.ref b108, .int (3 : Int32)])]) (rst := [(b108, (.array .int), [.int p1, .int p2, .int p3, .int p4, .int p5, .int (p1 ^^^ (-1 : Int32))]), (b8, (.array .int), (((((((List.replicate 64 (.int (0 : Int32))).set 0 (.int p1)).set 1 (.int p2)).set 2 (.int p3)).set 3 (.int p4)).set 4 (.int p5)).set 5 (.int (p1 ^^^ (-1 : Int32)))))]) W136 (hw _ (List.mem_of_getElem? (i := 31) rfl)) (hw _ (List.mem_of_getElem? (i := 33) rfl)) (hw _ (List.mem_of_getElem? (i := 2) rfl)) (hw _ (List.mem_of_getElem? (i := 35) rfl)) (hw _ (List.mem_of_getElem? (i := 32) rfl)) (hw _ (List.mem_of_getElem? (i := 34) rfl)) rfl (by decide) (c_count l Z a0 hw b4 b108 (3 : Int32)) ⟨[0, 1, 2], by decide, rfl⟩ rfl pd___I rfl rfl rfl (Nat.le_of_ble_eq_true rfl) (by decide) (by decide) (by decide) (by decide) at_146 ?_
        rintro T137 _ _ ⟨rfl, rfl⟩ W138
        have W139 := W138.re (os' := [(b4, (.object "com/example/metanode/metanode/graph/IntPairs"), [.ref b108, .int (3 : Int32)]), (b108, (.array .int), [.int p1, .int p2, .int p3, .int p4, .int p5, .int (p1 ^^^ (-1 : Int32))]), (b8, (.array .int), (((((((List.replicate 64 (.int (0 : Int32))).set 0 (.int p1)).set 1 (.int p2)).set 2 (.int p3)).set 3 (.int p4)).set 4 (.int p5)).set 5 (.int (p1 ^^^ (-1 : Int32)))))]) rfl
        show Go p_ e_ bl_ _ (T137.setTop (mkF m_ 149 #[.val (.int p0), .val (.int p1), .val (.int p2), .val (.int p3), .val (.int p4), .val (.int p5), .val (.int (3 : Int32)), .val (.int z1), .val (.int (p1 ^^^ (-1 : Int32))), .val (.ref b4), .val (.int (1 : Int32))] [.int (3 : Int32)]))
        refine g_iload (pc := 149) W139 at_149 rfl ?_
        refine g_icmpY 156 (pc := 151) W139 at_151 (by decide) (by decide) (by decide) ?_
        refine g_iload (pc := 156) W139 at_156 rfl ?_
        refine g_iconst (pc := 158) (1 : Int32) (by decide) W139 at_158 ?_
        refine g_icmpN (pc := 159) W139 at_159 (by decide) ?_
        refine g_aload (pc := 162) W139 at_162 rfl rfl ?_
        refine g_iconst (pc := 164) (0 : Int32) (by decide) W139 at_164 ?_
        refine g_virtual (i := 0) (pc := 165) (Wt := 0) (argsL := [.int (0 : Int32)]) (rest := []) (loc := [(b4, (.object "com/example/metanode/metanode/graph/IntPairs"), [.ref b108, .int (3 : Int32)]), (b108, (.array .int), [.int p1, .int p2, .int p3, .int p4, .int p5, .int (p1 ^^^ (-1 : Int32))])]) (rst := [(b8, (.array .int), (((((((List.replicate 64 (.int (0 : Int32))).set 0 (.int p1)).set 1 (.int p2)).set 2 (.int p3)).set 3 (.int p4)).set 4 (.int p5)).set 5 (.int (p1 ^^^ (-1 : Int32)))))]) W139 (hw _ (List.mem_of_getElem? (i := 41) rfl)) (hw _ (List.mem_of_getElem? (i := 43) rfl)) (hw _ (List.mem_of_getElem? (i := 2) rfl)) (hw _ (List.mem_of_getElem? (i := 45) rfl)) (hw _ (List.mem_of_getElem? (i := 42) rfl)) (hw _ (List.mem_of_getElem? (i := 44) rfl)) rfl (by decide) (c_first l Z a0 hw b4 b108 (3 : Int32) (0 : Int32) p1 [.int p1, .int p2, .int p3, .int p4, .int p5, .int (p1 ^^^ (-1 : Int32))] (by decide) rfl) ⟨[0, 1, 2], by decide, rfl⟩ rfl pd_I__I rfl rfl rfl (Nat.le_of_ble_eq_true rfl) (by decide) (by decide) (by decide) (by decide) at_165 ?_
        rintro T140 _ _ ⟨rfl, rfl⟩ W141
        have W142 := W141.re (os' := [(b4, (.object "com/example/metanode/metanode/graph/IntPairs"), [.ref b108, .int (3 : Int32)]), (b108, (.array .int), [.int p1, .int p2, .int p3, .int p4, .int p5, .int (p1 ^^^ (-1 : Int32))]), (b8, (.array .int), (((((((List.replicate 64 (.int (0 : Int32))).set 0 (.int p1)).set 1 (.int p2)).set 2 (.int p3)).set 3 (.int p4)).set 4 (.int p5)).set 5 (.int (p1 ^^^ (-1 : Int32)))))]) rfl
        show Go p_ e_ bl_ _ (T140.setTop (mkF m_ 168 #[.val (.int p0), .val (.int p1), .val (.int p2), .val (.int p3), .val (.int p4), .val (.int p5), .val (.int (3 : Int32)), .val (.int z1), .val (.int (p1 ^^^ (-1 : Int32))), .val (.ref b4), .val (.int (1 : Int32))] [.int p1]))
        refine g_iload_n (pc := 168) W142 at_168 rfl ?_
        refine g_icmpN (pc := 169) W142 at_169 (by first | exact (teq rfl).1 | exact (teq rfl).2 | exact (flt (by simp)).1 | exact (flt (by simp)).2.1 | exact (flt (by simp)).2.2.1 | exact (flt (by simp)).2.2.2) ?_
        refine g_aload (pc := 172) W142 at_172 rfl rfl ?_
        refine g_iconst (pc := 174) (0 : Int32) (by decide) W142 at_174 ?_
        refine g_virtual (i := 0) (pc := 175) (Wt := 0) (argsL := [.int (0 : Int32)]) (rest := []) (loc := [(b4, (.object "com/example/metanode/metanode/graph/IntPairs"), [.ref b108, .int (3 : Int32)]), (b108, (.array .int), [.int p1, .int p2, .int p3, .int p4, .int p5, .int (p1 ^^^ (-1 : Int32))])]) (rst := [(b8, (.array .int), (((((((List.replicate 64 (.int (0 : Int32))).set 0 (.int p1)).set 1 (.int p2)).set 2 (.int p3)).set 3 (.int p4)).set 4 (.int p5)).set 5 (.int (p1 ^^^ (-1 : Int32)))))]) W142 (hw _ (List.mem_of_getElem? (i := 46) rfl)) (hw _ (List.mem_of_getElem? (i := 48) rfl)) (hw _ (List.mem_of_getElem? (i := 2) rfl)) (hw _ (List.mem_of_getElem? (i := 50) rfl)) (hw _ (List.mem_of_getElem? (i := 47) rfl)) (hw _ (List.mem_of_getElem? (i := 49) rfl)) rfl (by decide) (c_second l Z a0 hw b4 b108 (3 : Int32) (0 : Int32) p2 [.int p1, .int p2, .int p3, .int p4, .int p5, .int (p1 ^^^ (-1 : Int32))] (by decide) rfl) ⟨[0, 1, 2], by decide, rfl⟩ rfl pd_I__I rfl rfl rfl (Nat.le_of_ble_eq_true rfl) (by decide) (by decide) (by decide) (by decide) at_175 ?_
        rintro T143 _ _ ⟨rfl, rfl⟩ W144
        have W145 := W144.re (os' := [(b4, (.object "com/example/metanode/metanode/graph/IntPairs"), [.ref b108, .int (3 : Int32)]), (b108, (.array .int), [.int p1, .int p2, .int p3, .int p4, .int p5, .int (p1 ^^^ (-1 : Int32))]), (b8, (.array .int), (((((((List.replicate 64 (.int (0 : Int32))).set 0 (.int p1)).set 1 (.int p2)).set 2 (.int p3)).set 3 (.int p4)).set 4 (.int p5)).set 5 (.int (p1 ^^^ (-1 : Int32)))))]) rfl
        show Go p_ e_ bl_ _ (T143.setTop (mkF m_ 178 #[.val (.int p0), .val (.int p1), .val (.int p2), .val (.int p3), .val (.int p4), .val (.int p5), .val (.int (3 : Int32)), .val (.int z1), .val (.int (p1 ^^^ (-1 : Int32))), .val (.ref b4), .val (.int (1 : Int32))] [.int p2]))
        refine g_iload_n (pc := 178) W145 at_178 rfl ?_
        refine g_icmpY 184 (pc := 179) W145 at_179 (by decide) (by decide) (by first | exact (teq rfl).1 | exact (teq rfl).2 | exact (flt (by simp)).1 | exact (flt (by simp)).2.1 | exact (flt (by simp)).2.2.1 | exact (flt (by simp)).2.2.2) ?_
        refine g_iload (pc := 184) W145 at_184 rfl ?_
        refine g_iconst (pc := 186) (2 : Int32) (by decide) W145 at_186 ?_
        refine g_icmpN (pc := 187) W145 at_187 (by decide) ?_
        refine g_aload (pc := 190) W145 at_190 rfl rfl ?_
        refine g_iconst (pc := 192) (1 : Int32) (by decide) W145 at_192 ?_
        refine g_virtual (i := 0) (pc := 193) (Wt := 0) (argsL := [.int (1 : Int32)]) (rest := []) (loc := [(b4, (.object "com/example/metanode/metanode/graph/IntPairs"), [.ref b108, .int (3 : Int32)]), (b108, (.array .int), [.int p1, .int p2, .int p3, .int p4, .int p5, .int (p1 ^^^ (-1 : Int32))])]) (rst := [(b8, (.array .int), (((((((List.replicate 64 (.int (0 : Int32))).set 0 (.int p1)).set 1 (.int p2)).set 2 (.int p3)).set 3 (.int p4)).set 4 (.int p5)).set 5 (.int (p1 ^^^ (-1 : Int32)))))]) W145 (hw _ (List.mem_of_getElem? (i := 41) rfl)) (hw _ (List.mem_of_getElem? (i := 43) rfl)) (hw _ (List.mem_of_getElem? (i := 2) rfl)) (hw _ (List.mem_of_getElem? (i := 45) rfl)) (hw _ (List.mem_of_getElem? (i := 42) rfl)) (hw _ (List.mem_of_getElem? (i := 44) rfl)) rfl (by decide) (c_first l Z a0 hw b4 b108 (3 : Int32) (1 : Int32) p3 [.int p1, .int p2, .int p3, .int p4, .int p5, .int (p1 ^^^ (-1 : Int32))] (by decide) rfl) ⟨[0, 1, 2], by decide, rfl⟩ rfl pd_I__I rfl rfl rfl (Nat.le_of_ble_eq_true rfl) (by decide) (by decide) (by decide) (by decide) at_193 ?_
        rintro T146 _ _ ⟨rfl, rfl⟩ W147
        have W148 := W147.re (os' := [(b4, (.object "com/example/metanode/metanode/graph/IntPairs"), [.ref b108, .int (3 : Int32)]), (b108, (.array .int), [.int p1, .int p2, .int p3, .int p4, .int p5, .int (p1 ^^^ (-1 : Int32))]), (b8, (.array .int), (((((((List.replicate 64 (.int (0 : Int32))).set 0 (.int p1)).set 1 (.int p2)).set 2 (.int p3)).set 3 (.int p4)).set 4 (.int p5)).set 5 (.int (p1 ^^^ (-1 : Int32)))))]) rfl
        show Go p_ e_ bl_ _ (T146.setTop (mkF m_ 196 #[.val (.int p0), .val (.int p1), .val (.int p2), .val (.int p3), .val (.int p4), .val (.int p5), .val (.int (3 : Int32)), .val (.int z1), .val (.int (p1 ^^^ (-1 : Int32))), .val (.ref b4), .val (.int (1 : Int32))] [.int p3]))
        refine g_iload_n (pc := 196) W148 at_196 rfl ?_
        refine g_icmpN (pc := 197) W148 at_197 (by first | exact (teq rfl).1 | exact (teq rfl).2 | exact (flt (by simp)).1 | exact (flt (by simp)).2.1 | exact (flt (by simp)).2.2.1 | exact (flt (by simp)).2.2.2) ?_
        refine g_aload (pc := 200) W148 at_200 rfl rfl ?_
        refine g_iconst (pc := 202) (1 : Int32) (by decide) W148 at_202 ?_
        refine g_virtual (i := 0) (pc := 203) (Wt := 0) (argsL := [.int (1 : Int32)]) (rest := []) (loc := [(b4, (.object "com/example/metanode/metanode/graph/IntPairs"), [.ref b108, .int (3 : Int32)]), (b108, (.array .int), [.int p1, .int p2, .int p3, .int p4, .int p5, .int (p1 ^^^ (-1 : Int32))])]) (rst := [(b8, (.array .int), (((((((List.replicate 64 (.int (0 : Int32))).set 0 (.int p1)).set 1 (.int p2)).set 2 (.int p3)).set 3 (.int p4)).set 4 (.int p5)).set 5 (.int (p1 ^^^ (-1 : Int32)))))]) W148 (hw _ (List.mem_of_getElem? (i := 46) rfl)) (hw _ (List.mem_of_getElem? (i := 48) rfl)) (hw _ (List.mem_of_getElem? (i := 2) rfl)) (hw _ (List.mem_of_getElem? (i := 50) rfl)) (hw _ (List.mem_of_getElem? (i := 47) rfl)) (hw _ (List.mem_of_getElem? (i := 49) rfl)) rfl (by decide) (c_second l Z a0 hw b4 b108 (3 : Int32) (1 : Int32) p4 [.int p1, .int p2, .int p3, .int p4, .int p5, .int (p1 ^^^ (-1 : Int32))] (by decide) rfl) ⟨[0, 1, 2], by decide, rfl⟩ rfl pd_I__I rfl rfl rfl (Nat.le_of_ble_eq_true rfl) (by decide) (by decide) (by decide) (by decide) at_203 ?_
        rintro T149 _ _ ⟨rfl, rfl⟩ W150
        have W151 := W150.re (os' := [(b4, (.object "com/example/metanode/metanode/graph/IntPairs"), [.ref b108, .int (3 : Int32)]), (b108, (.array .int), [.int p1, .int p2, .int p3, .int p4, .int p5, .int (p1 ^^^ (-1 : Int32))]), (b8, (.array .int), (((((((List.replicate 64 (.int (0 : Int32))).set 0 (.int p1)).set 1 (.int p2)).set 2 (.int p3)).set 3 (.int p4)).set 4 (.int p5)).set 5 (.int (p1 ^^^ (-1 : Int32)))))]) rfl
        show Go p_ e_ bl_ _ (T149.setTop (mkF m_ 206 #[.val (.int p0), .val (.int p1), .val (.int p2), .val (.int p3), .val (.int p4), .val (.int p5), .val (.int (3 : Int32)), .val (.int z1), .val (.int (p1 ^^^ (-1 : Int32))), .val (.ref b4), .val (.int (1 : Int32))] [.int p4]))
        refine g_iload (pc := 206) W151 at_206 rfl ?_
        refine g_icmpY 213 (pc := 208) W151 at_208 (by decide) (by decide) (by first | exact (teq rfl).1 | exact (teq rfl).2 | exact (flt (by simp)).1 | exact (flt (by simp)).2.1 | exact (flt (by simp)).2.2.1 | exact (flt (by simp)).2.2.2) ?_
        refine g_iload (pc := 213) W151 at_213 rfl ?_
        refine g_iconst (pc := 215) (3 : Int32) (by decide) W151 at_215 ?_
        refine g_icmpN (pc := 216) W151 at_216 (by decide) ?_
        refine g_aload (pc := 219) W151 at_219 rfl rfl ?_
        refine g_iconst (pc := 221) (2 : Int32) (by decide) W151 at_221 ?_
        refine g_virtual (i := 0) (pc := 222) (Wt := 0) (argsL := [.int (2 : Int32)]) (rest := []) (loc := [(b4, (.object "com/example/metanode/metanode/graph/IntPairs"), [.ref b108, .int (3 : Int32)]), (b108, (.array .int), [.int p1, .int p2, .int p3, .int p4, .int p5, .int (p1 ^^^ (-1 : Int32))])]) (rst := [(b8, (.array .int), (((((((List.replicate 64 (.int (0 : Int32))).set 0 (.int p1)).set 1 (.int p2)).set 2 (.int p3)).set 3 (.int p4)).set 4 (.int p5)).set 5 (.int (p1 ^^^ (-1 : Int32)))))]) W151 (hw _ (List.mem_of_getElem? (i := 41) rfl)) (hw _ (List.mem_of_getElem? (i := 43) rfl)) (hw _ (List.mem_of_getElem? (i := 2) rfl)) (hw _ (List.mem_of_getElem? (i := 45) rfl)) (hw _ (List.mem_of_getElem? (i := 42) rfl)) (hw _ (List.mem_of_getElem? (i := 44) rfl)) rfl (by decide) (c_first l Z a0 hw b4 b108 (3 : Int32) (2 : Int32) p5 [.int p1, .int p2, .int p3, .int p4, .int p5, .int (p1 ^^^ (-1 : Int32))] (by decide) rfl) ⟨[0, 1, 2], by decide, rfl⟩ rfl pd_I__I rfl rfl rfl (Nat.le_of_ble_eq_true rfl) (by decide) (by decide) (by decide) (by decide) at_222 ?_
        rintro T152 _ _ ⟨rfl, rfl⟩ W153
        have W154 := W153.re (os' := [(b4, (.object "com/example/metanode/metanode/graph/IntPairs"), [.ref b108, .int (3 : Int32)]), (b108, (.array .int), [.int p1, .int p2, .int p3, .int p4, .int p5, .int (p1 ^^^ (-1 : Int32))]), (b8, (.array .int), (((((((List.replicate 64 (.int (0 : Int32))).set 0 (.int p1)).set 1 (.int p2)).set 2 (.int p3)).set 3 (.int p4)).set 4 (.int p5)).set 5 (.int (p1 ^^^ (-1 : Int32)))))]) rfl
        show Go p_ e_ bl_ _ (T152.setTop (mkF m_ 225 #[.val (.int p0), .val (.int p1), .val (.int p2), .val (.int p3), .val (.int p4), .val (.int p5), .val (.int (3 : Int32)), .val (.int z1), .val (.int (p1 ^^^ (-1 : Int32))), .val (.ref b4), .val (.int (1 : Int32))] [.int p5]))
        refine g_iload (pc := 225) W154 at_225 rfl ?_
        refine g_icmpN (pc := 227) W154 at_227 (by first | exact (teq rfl).1 | exact (teq rfl).2 | exact (flt (by simp)).1 | exact (flt (by simp)).2.1 | exact (flt (by simp)).2.2.1 | exact (flt (by simp)).2.2.2) ?_
        refine g_aload (pc := 230) W154 at_230 rfl rfl ?_
        refine g_iconst (pc := 232) (2 : Int32) (by decide) W154 at_232 ?_
        refine g_virtual (i := 0) (pc := 233) (Wt := 0) (argsL := [.int (2 : Int32)]) (rest := []) (loc := [(b4, (.object "com/example/metanode/metanode/graph/IntPairs"), [.ref b108, .int (3 : Int32)]), (b108, (.array .int), [.int p1, .int p2, .int p3, .int p4, .int p5, .int (p1 ^^^ (-1 : Int32))])]) (rst := [(b8, (.array .int), (((((((List.replicate 64 (.int (0 : Int32))).set 0 (.int p1)).set 1 (.int p2)).set 2 (.int p3)).set 3 (.int p4)).set 4 (.int p5)).set 5 (.int (p1 ^^^ (-1 : Int32)))))]) W154 (hw _ (List.mem_of_getElem? (i := 46) rfl)) (hw _ (List.mem_of_getElem? (i := 48) rfl)) (hw _ (List.mem_of_getElem? (i := 2) rfl)) (hw _ (List.mem_of_getElem? (i := 50) rfl)) (hw _ (List.mem_of_getElem? (i := 47) rfl)) (hw _ (List.mem_of_getElem? (i := 49) rfl)) rfl (by decide) (c_second l Z a0 hw b4 b108 (3 : Int32) (2 : Int32) (p1 ^^^ (-1 : Int32)) [.int p1, .int p2, .int p3, .int p4, .int p5, .int (p1 ^^^ (-1 : Int32))] (by decide) rfl) ⟨[0, 1, 2], by decide, rfl⟩ rfl pd_I__I rfl rfl rfl (Nat.le_of_ble_eq_true rfl) (by decide) (by decide) (by decide) (by decide) at_233 ?_
        rintro T155 _ _ ⟨rfl, rfl⟩ W156
        have W157 := W156.re (os' := [(b4, (.object "com/example/metanode/metanode/graph/IntPairs"), [.ref b108, .int (3 : Int32)]), (b108, (.array .int), [.int p1, .int p2, .int p3, .int p4, .int p5, .int (p1 ^^^ (-1 : Int32))]), (b8, (.array .int), (((((((List.replicate 64 (.int (0 : Int32))).set 0 (.int p1)).set 1 (.int p2)).set 2 (.int p3)).set 3 (.int p4)).set 4 (.int p5)).set 5 (.int (p1 ^^^ (-1 : Int32)))))]) rfl
        show Go p_ e_ bl_ _ (T155.setTop (mkF m_ 236 #[.val (.int p0), .val (.int p1), .val (.int p2), .val (.int p3), .val (.int p4), .val (.int p5), .val (.int (3 : Int32)), .val (.int z1), .val (.int (p1 ^^^ (-1 : Int32))), .val (.ref b4), .val (.int (1 : Int32))] [.int (p1 ^^^ (-1 : Int32))]))
        refine g_iload (pc := 236) W157 at_236 rfl ?_
        refine g_icmpY 243 (pc := 238) W157 at_238 (by decide) (by decide) (by first | exact (teq rfl).1 | exact (teq rfl).2 | exact (flt (by simp)).1 | exact (flt (by simp)).2.1 | exact (flt (by simp)).2.2.1 | exact (flt (by simp)).2.2.2) ?_
        refine g_iconst (pc := 243) (1 : Int32) (by decide) W157 at_243 ?_
        exact g_zreturn (pc := 244) rfl (by decide) W157 at_244 (by decide) (by decide) rfl
  · refine g_if_eq 15 (pc := 8) W0 at_8 (by decide) (by decide) (fun c158 => ?_) (fun c158 => ?_)
    · refine g_iconst (pc := 15) (0 : Int32) (by decide) W0 at_15 ?_
      exact j3 _ (by simp only [if_pos c158])
    · refine g_iconst (pc := 11) (1 : Int32) (by decide) W0 at_11 ?_
      refine g_goto 16 (pc := 12) W0 at_12 (by decide) (by decide) ?_
      exact j3 _ (by simp only [if_neg c158])
set_option maxRecDepth 65536 in
set_option maxHeartbeats 40000000 in
theorem comes_1 {Post : Tables → Env → Array Value → State → Outcome → State → Prop} (hpost : ∀ tb e args s v u, (limb_1_1.after args s (.returned v) u = true ∧ limb_1_2.after args s (.returned v) u = true ∧ True) → FrameEnd s (.returned v) u (Jvm.fieldLocs frame_1_writes args s ++ Jvm.arrayLocs frame_1_arrays args s ++ Jvm.staticLocs frame_1_statics s) 16 256 → Post tb e args s (.returned v) u) :
    ArmFor flags0 classFile x code maxLocals ret World_1 tables_1 room_1 Calls_1 rest_1 Pre_1 Post := by
  intro l hfl _ _ p e ha hc hk s m args below hf hA hF happ hP
  obtain ⟨hcalls, hrest, hpre⟩ := hP
  obtain ⟨-, -, -, hnamed, -, -, -, hat⟩ := (Spec.applies_iff hf).mp happ
  obtain ⟨hg, hn⟩ := and_e (Cond.before_iff.mp (show (Jvm.Cond.and given_1 narrow_1).before args s = true from hpre))
  obtain ⟨h1, hr0⟩ := and_e hg
  obtain ⟨w0, w1, w2, w3, w4, w5, rfl⟩ : ∃ w0 w1 w2 w3 w4 w5 : Value, args = #[w0, w1, w2, w3, w4, w5] := by
    have hs : args.size = 6 := by simpa [Cond.value, given_1] using h1
    obtain ⟨L⟩ := args
    match L, hs with
    | [w0, w1, w2, w3, w4, w5], _ => exact ⟨w0, w1, w2, w3, w4, w5, rfl⟩
  have hw := fun d (hd : d ∈ tables_1) => atoms_spec (ws := Jvm.Cond.code x code maxLocals ret :: tables_1) hat d (List.mem_cons_of_mem _ hd)
  obtain ⟨ha0, hr1⟩ := and_e hr0
  obtain ⟨i0, e0⟩ := is_v ha0
  obtain rfl : w0 = (.int i0) := Option.some.inj e0
  obtain ⟨ha1, hr2⟩ := and_e hr1
  obtain ⟨i1, e1⟩ := is_v ha1
  obtain rfl : w1 = (.int i1) := Option.some.inj e1
  obtain ⟨ha2, hr3⟩ := and_e hr2
  obtain ⟨i2, e2⟩ := is_v ha2
  obtain rfl : w2 = (.int i2) := Option.some.inj e2
  obtain ⟨ha3, hr4⟩ := and_e hr3
  obtain ⟨i3, e3⟩ := is_v ha3
  obtain rfl : w3 = (.int i3) := Option.some.inj e3
  obtain ⟨ha4, hr5⟩ := and_e hr4
  obtain ⟨i4, e4⟩ := is_v ha4
  obtain rfl : w4 = (.int i4) := Option.some.inj e4
  obtain ⟨i5, e5⟩ := is_v hr5
  obtain rfl : w5 = (.int i5) := Option.some.inj e5
  obtain ⟨n, o, h1, h2, h3, _, L, rfl, hQ, hq⟩ := c_law l s _ hw (B := s.heap.size) i0 i1 i2 i3 i4 i5 s.heap Hp.nil (fun _ q => nomatch q) (Nat.le_refl _) p e ha hc hk s m _ below hf ((Spec.applies_iff_loose hf).mp happ).1 ⟨rfl, State.Warmed39.refl s, rfl⟩ trivial
  have N := Con.frame (y := x) (as := #[]) (rm := room_1) hQ
  obtain ⟨-, os', -, rfl⟩ := hQ
  refine ⟨n, _, h1, h2, h3, hpost _ _ _ _ _ _ ⟨Cond.after_iff.mpr rfl, Cond.after_iff.mpr (eq_i res_at (Term.int_eval (1)) rfl), trivial⟩ ⟨hq.1, hq.2.1, (hq.2.2.sift fun y hy => Or.inr (N y hy)).mono (by decide) (by decide)⟩⟩
theorem main_1_1 : Claimed_1_1 := comes_1 fun _ _ _ _ _ _ h hF => ⟨h.1, hF⟩
theorem main_1_2 : Claimed_1_2 := comes_1 fun _ _ _ _ _ _ h hF => ⟨h.2.1, hF⟩
end Jvm.Pilot.@@N@@
namespace Jvm.Pilot.@@N@@
open Jvm Jvm.ClassFile Sem Op Lib Jvm.Free Jvm.Stand Jvm.Pilot.@@N@@.Jvm.D
/-! MADE BY PROGRAM (witnessworld.py) out of the Statement's table words and the real class files: 12 classes; the members and pool entries that the words name. The judged class is class 1, her method 1. -/
namespace start1
open Jvm.ClassFile
def u (s : String) : CpInfo := .utf8 (stringToUtf16 s)
/-- a pool by its gaps: so many unusable entries, then the entry; so many at the end -/
def gap : Nat → List CpInfo → List CpInfo
  | 0, r => r
  | n + 1, r => .unusable :: gap n r
def poolList (es : List (Nat × CpInfo)) (last : Nat) : List CpInfo := es.foldr (fun e r => gap e.1 (e.2 :: r)) (gap last [])
def pool (es : List (Nat × CpInfo)) (last : Nat) : Array CpInfo := ⟨poolList es last⟩
def fileOf (pool : Array CpInfo) (this : Nat) (attrs : Array Attribute := #[]) (ms : Array MethodInfo := #[]) (fl : Nat := 33) (sup : Nat := 0) (ifs : Array Nat := #[]) (fds : Array FieldInfo := #[]) : ClassFile where
  minorVersion := 0
  majorVersion := 65
  constantPool := pool
  accessFlags := fl
  thisClass := this
  superClass := sup
  interfaces := ifs
  fields := fds
  methods := ms
  attributes := attrs
def plain (name : String) (sup : Option ClassId) : Class where
  name := name
  kind := .ordinary
  loader := none
  accessFlags := 33
  super := sup
  interfaces := #[]
  cf := none
  fields := #[]
  methods := #[]
  instanceTypes := #[]
  staticTypes := #[]
  resolved := #[]
  callSites := []
  init := .initialized
  statics := none
  mirror := none

def pool0 : Array CpInfo := pool [(5, u "<init>"), (0, u "()V"), (1, .class_ 10), (1, u "java/lang/Object")] 113

def k0c0 : Code := { maxStack := 0, maxLocals := 1, code := object_method_1_code, exceptionTable := #[], attributes := #[] }
def k0m0 : Method := { name := "<init>", desc := "()V", sig := { parameters := [], returnType := none }, accessFlags := 1, code := some k0c0 }
/-- java/lang/Object -/
def k0 : Class := { plain "java/lang/Object" none with
  accessFlags := 33
  interfaces := #[]
  cf := some (fileOf pool0 8 #[] #[{ accessFlags := 1, nameIndex := 5, descriptorIndex := 6, attributes := #[] }] 33 0 #[] #[])
  fields := #[]
  methods := #[k0m0]
  instanceTypes := #[]
  staticTypes := #[]
  resolved := Array.replicate 124 none
  statics := none }

def pool1 : Array CpInfo := pool [(2, .class_ 4), (0, .nameAndType 5 6), (0, u "java/lang/Object"), (0, u "<init>"), (0, u "()V"), (0, .class_ 8), (0, u "com/example/metanode/metanode/graph/IntPairs"), (0, .methodref 7 3), (0, .methodref 7 11), (0, .nameAndType 12 13), (0, u "add"), (0, u "(II)Z"), (0, .methodref 7 15), (0, .nameAndType 16 6), (0, u "trim"), (0, .methodref 7 18), (0, .nameAndType 19 20), (0, u "count"), (0, u "()I"), (0, .methodref 7 22), (0, .nameAndType 23 24), (0, u "first"), (0, u "(I)I"), (0, .methodref 7 26), (0, .nameAndType 27 24), (0, u "second"), (0, .class_ 29), (0, u "com/example/metanode/metanode/graph/IntPairsTrimPinLaw"), (2, u "law"), (0, u "(IIIIII)Z")] 3

def k1m0 : Method := { name := "<init>", desc := "()V", sig := { parameters := [], returnType := none }, accessFlags := 1, code := none }
def k1c1 : Code := { maxStack := 3, maxLocals := 11, code := code, exceptionTable := #[], attributes := #[] }
def k1m1 : Method := { name := "law", desc := "(IIIIII)Z", sig := { parameters := [.int, .int, .int, .int, .int, .int], returnType := some .boolean }, accessFlags := 9, code := some k1c1 }
/-- com/example/metanode/metanode/graph/IntPairsTrimPinLaw -/
def k1 : Class := { plain "com/example/metanode/metanode/graph/IntPairsTrimPinLaw" (some 0) with
  accessFlags := 49
  interfaces := #[]
  cf := some (fileOf pool1 28 #[] #[{ accessFlags := 1, nameIndex := 5, descriptorIndex := 6, attributes := #[] }, { accessFlags := 9, nameIndex := 32, descriptorIndex := 33, attributes := #[] }] 49 2 #[] #[])
  fields := #[]
  methods := #[k1m0, k1m1]
  instanceTypes := #[]
  staticTypes := #[]
  resolved := Array.replicate 37 none
  statics := none }

def pool2 : Array CpInfo := pool [(3, .methodref 4 5), (0, .class_ 6), (0, .nameAndType 7 8), (0, u "java/lang/Object"), (0, u "<init>"), (0, u "()V"), (0, .fieldref 10 11), (0, .class_ 12), (0, .nameAndType 13 14), (0, u "com/example/metanode/metanode/graph/IntPairs"), (0, u "ends"), (0, u "[I"), (0, .fieldref 10 16), (0, .nameAndType 17 18), (0, u "count"), (0, u "I"), (0, .integer 1073741819), (0, .long 2147483638), (1, .long 2), (7, .methodref 31 32), (0, .class_ 33), (0, .nameAndType 34 35), (0, u "java/util/Arrays"), (0, u "copyOf"), (0, u "([II)[I"), (2, u "first"), (0, u "(I)I"), (2, u "second"), (17, u "MAX_COUNT"), (4, u "add"), (0, u "(II)Z"), (5, u "trim"), (0, u "()I")] 2

def k2c0 : Code := { maxStack := 2, maxLocals := 1, code := prog_22_method_1_code, exceptionTable := #[], attributes := #[] }
def k2m0 : Method := { name := "<init>", desc := "()V", sig := { parameters := [], returnType := none }, accessFlags := 0, code := some k2c0 }
def k2c1 : Code := { maxStack := 8, maxLocals := 3, code := prog_22_method_3_code, exceptionTable := #[], attributes := #[] }
def k2m1 : Method := { name := "add", desc := "(II)Z", sig := { parameters := [.int, .int], returnType := some .boolean }, accessFlags := 0, code := some k2c1 }
def k2c2 : Code := { maxStack := 4, maxLocals := 1, code := prog_22_method_7_code, exceptionTable := #[], attributes := #[] }
def k2m2 : Method := { name := "trim", desc := "()V", sig := { parameters := [], returnType := none }, accessFlags := 0, code := some k2c2 }
def k2c3 : Code := { maxStack := 1, maxLocals := 1, code := prog_22_method_8_code, exceptionTable := #[], attributes := #[] }
def k2m3 : Method := { name := "count", desc := "()I", sig := { parameters := [], returnType := some .int }, accessFlags := 0, code := some k2c3 }
def k2c4 : Code := { maxStack := 3, maxLocals := 2, code := prog_22_method_9_code, exceptionTable := #[], attributes := #[] }
def k2m4 : Method := { name := "first", desc := "(I)I", sig := { parameters := [.int], returnType := some .int }, accessFlags := 0, code := some k2c4 }
def k2c5 : Code := { maxStack := 3, maxLocals := 2, code := prog_22_method_10_code, exceptionTable := #[], attributes := #[] }
def k2m5 : Method := { name := "second", desc := "(I)I", sig := { parameters := [.int], returnType := some .int }, accessFlags := 0, code := some k2c5 }
/-- com/example/metanode/metanode/graph/IntPairs -/
def k2 : Class := { plain "com/example/metanode/metanode/graph/IntPairs" (some 0) with
  accessFlags := 48
  interfaces := #[]
  cf := some (fileOf pool2 10 #[] #[{ accessFlags := 0, nameIndex := 7, descriptorIndex := 8, attributes := #[] }, { accessFlags := 0, nameIndex := 65, descriptorIndex := 66, attributes := #[] }, { accessFlags := 0, nameIndex := 72, descriptorIndex := 8, attributes := #[] }, { accessFlags := 0, nameIndex := 17, descriptorIndex := 73, attributes := #[] }, { accessFlags := 0, nameIndex := 38, descriptorIndex := 39, attributes := #[] }, { accessFlags := 0, nameIndex := 42, descriptorIndex := 39, attributes := #[] }] 48 4 #[] #[{ accessFlags := 26, nameIndex := 60, descriptorIndex := 18, attributes := #[] }, { accessFlags := 2, nameIndex := 13, descriptorIndex := 14, attributes := #[] }, { accessFlags := 2, nameIndex := 17, descriptorIndex := 18, attributes := #[] }])
  fields := #[{ name := "MAX_COUNT", type := .int, accessFlags := 26, slot := 0, constantValue := 0 }, { name := "ends", type := (.array .int), accessFlags := 2, slot := 0, constantValue := 0 }, { name := "count", type := .int, accessFlags := 2, slot := 1, constantValue := 0 }]
  methods := #[k2m0, k2m1, k2m2, k2m3, k2m4, k2m5]
  instanceTypes := #[(.array .int), .int]
  staticTypes := #[.int]
  resolved := Array.replicate 76 none
  statics := none }

def pool3 : Array CpInfo := pool [(2, .class_ 4), (1, u "java/lang/Object"), (0, u "<init>"), (0, u "()V"), (7, .class_ 16), (1, u "java/util/Arrays"), (57, .class_ 76), (1, u "java/util/Arrays$NaturalOrder"), (36, .class_ 115), (1, u "java/util/Arrays$LegacyMergeSort"), (1, u "Z"), (32, .methodref 151 152), (0, .class_ 153), (0, .nameAndType 154 155), (0, u "java/lang/System"), (0, u "arraycopy"), (0, u "(Ljava/lang/Object;ILjava/lang/Object;II)V"), (146, u "copyOf"), (1, .methodref 305 306), (0, .class_ 307), (0, .nameAndType 308 309), (0, u "java/lang/Math"), (0, u "min"), (0, u "(II)I"), (65, .class_ 376), (0, u "java/util/Arrays$ArrayList"), (68, u "$assertionsDisabled"), (269, u "MIN_ARRAY_SORT_GRAN"), (0, u "I"), (2, u "INSERTIONSORT_THRESHOLD"), (151, u "([II)[I"), (103, .class_ 976), (0, u "java/util/Arrays$ArrayItr")] 52

def k3m0 : Method := { name := "<init>", desc := "()V", sig := { parameters := [], returnType := none }, accessFlags := 2, code := none }
def k3c1 : Code := { maxStack := 6, maxLocals := 3, code := jdk_65_method_123_code, exceptionTable := #[], attributes := #[] }
def k3m1 : Method := { name := "copyOf", desc := "([II)[I", sig := { parameters := [(.array .int), .int], returnType := some (.array .int) }, accessFlags := 9, code := some k3c1 }
/-- java/util/Arrays -/
def k3 : Class := { plain "java/util/Arrays" (some 0) with
  accessFlags := 49
  interfaces := #[]
  cf := some (fileOf pool3 14 #[.nestMembers #[975, 375, 113, 74]] #[{ accessFlags := 2, nameIndex := 5, descriptorIndex := 6, attributes := #[] }, { accessFlags := 9, nameIndex := 302, descriptorIndex := 871, attributes := #[] }] 49 2 #[] #[{ accessFlags := 26, nameIndex := 715, descriptorIndex := 716, attributes := #[] }, { accessFlags := 26, nameIndex := 719, descriptorIndex := 716, attributes := #[] }, { accessFlags := 4120, nameIndex := 445, descriptorIndex := 117, attributes := #[] }])
  fields := #[{ name := "MIN_ARRAY_SORT_GRAN", type := .int, accessFlags := 26, slot := 0, constantValue := 0 }, { name := "INSERTIONSORT_THRESHOLD", type := .int, accessFlags := 26, slot := 1, constantValue := 0 }, { name := "$assertionsDisabled", type := .boolean, accessFlags := 4120, slot := 2, constantValue := 0 }]
  methods := #[k3m0, k3m1]
  instanceTypes := #[]
  staticTypes := #[.int, .int, .boolean]
  resolved := Array.replicate 1029 none
  statics := none }

def pool4 : Array CpInfo := pool [(1, .class_ 2), (0, u "java/lang/Math"), (1, .class_ 6), (1, u "java/lang/Object"), (0, u "<init>"), (0, u "()V"), (89, .class_ 100), (1, u "java/lang/Math$RandomNumberGeneratorHolder"), (71, u "negativeZeroFloatBits"), (0, u "J"), (2, u "negativeZeroDoubleBits"), (24, u "min"), (43, u "$assertionsDisabled"), (0, u "Z"), (88, u "(II)I"), (2, u "twoToTheDoubleScaleDown"), (0, u "D"), (4, u "twoToTheDoubleScaleUp"), (9, u "E"), (3, u "PI"), (2, u "TAU"), (2, u "DEGREES_TO_RADIANS"), (0, u "RADIANS_TO_DEGREES")] 94

def k4m0 : Method := { name := "<init>", desc := "()V", sig := { parameters := [], returnType := none }, accessFlags := 2, code := none }
def k4c1 : Code := { maxStack := 2, maxLocals := 2, code := jdk_29_method_69_code, exceptionTable := #[], attributes := #[] }
def k4m1 : Method := { name := "min", desc := "(II)I", sig := { parameters := [.int, .int], returnType := some .int }, accessFlags := 9, code := some k4c1 }
/-- java/lang/Math -/
def k4 : Class := { plain "java/lang/Math" (some 0) with
  accessFlags := 49
  interfaces := #[]
  cf := some (fileOf pool4 1 #[.nestMembers #[98]] #[{ accessFlags := 2, nameIndex := 7, descriptorIndex := 8, attributes := #[] }, { accessFlags := 9, nameIndex := 201, descriptorIndex := 335, attributes := #[] }] 49 4 #[] #[{ accessFlags := 25, nameIndex := 354, descriptorIndex := 339, attributes := #[] }, { accessFlags := 25, nameIndex := 358, descriptorIndex := 339, attributes := #[] }, { accessFlags := 25, nameIndex := 361, descriptorIndex := 339, attributes := #[] }, { accessFlags := 26, nameIndex := 364, descriptorIndex := 339, attributes := #[] }, { accessFlags := 26, nameIndex := 365, descriptorIndex := 339, attributes := #[] }, { accessFlags := 26, nameIndex := 172, descriptorIndex := 173, attributes := #[] }, { accessFlags := 26, nameIndex := 176, descriptorIndex := 173, attributes := #[] }, { accessFlags := 8, nameIndex := 344, descriptorIndex := 339, attributes := #[] }, { accessFlags := 8, nameIndex := 338, descriptorIndex := 339, attributes := #[] }, { accessFlags := 4120, nameIndex := 245, descriptorIndex := 246, attributes := #[] }])
  fields := #[{ name := "E", type := .double, accessFlags := 25, slot := 0, constantValue := 0 }, { name := "PI", type := .double, accessFlags := 25, slot := 1, constantValue := 0 }, { name := "TAU", type := .double, accessFlags := 25, slot := 2, constantValue := 0 }, { name := "DEGREES_TO_RADIANS", type := .double, accessFlags := 26, slot := 3, constantValue := 0 }, { name := "RADIANS_TO_DEGREES", type := .double, accessFlags := 26, slot := 4, constantValue := 0 }, { name := "negativeZeroFloatBits", type := .long, accessFlags := 26, slot := 5, constantValue := 0 }, { name := "negativeZeroDoubleBits", type := .long, accessFlags := 26, slot := 6, constantValue := 0 }, { name := "twoToTheDoubleScaleUp", type := .double, accessFlags := 8, slot := 7, constantValue := 0 }, { name := "twoToTheDoubleScaleDown", type := .double, accessFlags := 8, slot := 8, constantValue := 0 }, { name := "$assertionsDisabled", type := .boolean, accessFlags := 4120, slot := 9, constantValue := 0 }]
  methods := #[k4m0, k4m1]
  instanceTypes := #[]
  staticTypes := #[.double, .double, .double, .double, .double, .long, .long, .double, .double, .boolean]
  resolved := Array.replicate 460 none
  statics := none }

def pool5 : Array CpInfo := pool [(2, .class_ 4), (1, u "java/lang/Object"), (0, u "<init>"), (0, u "()V"), (1, .class_ 10), (1, u "java/lang/System"), (0, u "allowSecurityManager"), (0, u "I"), (16, u "cons"), (0, u "Ljava/io/Console;"), (77, .class_ 110), (1, u "java/lang/System$CallersHolder"), (43, u "initialErrStream"), (0, u "Ljava/io/PrintStream;"), (19, u "security"), (0, u "Ljava/lang/SecurityManager;"), (31, .class_ 209), (0, u "java/lang/System$1"), (7, u "props"), (0, u "Ljava/util/Properties;"), (2, u "lineSeparator"), (0, u "Ljava/lang/String;"), (96, .class_ 321), (1, u "java/lang/System$LoggerFinder"), (5, .class_ 328), (0, u "java/lang/System$Logger"), (67, u "err"), (2, u "out"), (91, u "notSupportedJnuEncoding"), (15, u "in"), (17, u "initialIn"), (0, u "Ljava/io/InputStream;"), (35, u "bootLayer"), (0, u "Ljava/lang/ModuleLayer;"), (99, .class_ 664), (0, u "java/lang/System$2"), (9, u "NEVER"), (2, u "MAYBE"), (49, u "arraycopy"), (0, u "(Ljava/lang/Object;ILjava/lang/Object;II)V"), (72, .class_ 802), (0, u "java/lang/System$Logger$Level")] 31

def k5m0 : Method := { name := "<init>", desc := "()V", sig := { parameters := [], returnType := none }, accessFlags := 2, code := none }
def k5m1 : Method := { name := "arraycopy", desc := "(Ljava/lang/Object;ILjava/lang/Object;II)V", sig := { parameters := [(.object "java/lang/Object"), .int, (.object "java/lang/Object"), .int, .int], returnType := none }, accessFlags := 265, code := none }
/-- java/lang/System -/
def k5 : Class := { plain "java/lang/System" (some 0) with
  accessFlags := 49
  interfaces := #[]
  cf := some (fileOf pool5 8 #[.nestMembers #[319, 327, 801, 108, 663, 208]] #[{ accessFlags := 2, nameIndex := 5, descriptorIndex := 6, attributes := #[] }, { accessFlags := 265, nameIndex := 727, descriptorIndex := 728, attributes := #[] }] 49 2 #[] #[{ accessFlags := 25, nameIndex := 507, descriptorIndex := 526, attributes := #[] }, { accessFlags := 25, nameIndex := 399, descriptorIndex := 155, attributes := #[] }, { accessFlags := 25, nameIndex := 396, descriptorIndex := 155, attributes := #[] }, { accessFlags := 10, nameIndex := 525, descriptorIndex := 526, attributes := #[] }, { accessFlags := 26, nameIndex := 674, descriptorIndex := 12, attributes := #[] }, { accessFlags := 26, nameIndex := 677, descriptorIndex := 12, attributes := #[] }, { accessFlags := 10, nameIndex := 11, descriptorIndex := 12, attributes := #[] }, { accessFlags := 74, nameIndex := 175, descriptorIndex := 176, attributes := #[] }, { accessFlags := 10, nameIndex := 491, descriptorIndex := 222, attributes := #[] }, { accessFlags := 74, nameIndex := 29, descriptorIndex := 30, attributes := #[] }, { accessFlags := 74, nameIndex := 154, descriptorIndex := 155, attributes := #[] }, { accessFlags := 10, nameIndex := 217, descriptorIndex := 218, attributes := #[] }, { accessFlags := 10, nameIndex := 221, descriptorIndex := 222, attributes := #[] }, { accessFlags := 8, nameIndex := 562, descriptorIndex := 563, attributes := #[] }])
  fields := #[{ name := "in", type := (.object "java/io/InputStream"), accessFlags := 25, slot := 0, constantValue := 0 }, { name := "out", type := (.object "java/io/PrintStream"), accessFlags := 25, slot := 1, constantValue := 0 }, { name := "err", type := (.object "java/io/PrintStream"), accessFlags := 25, slot := 2, constantValue := 0 }, { name := "initialIn", type := (.object "java/io/InputStream"), accessFlags := 10, slot := 3, constantValue := 0 }, { name := "NEVER", type := .int, accessFlags := 26, slot := 4, constantValue := 0 }, { name := "MAYBE", type := .int, accessFlags := 26, slot := 5, constantValue := 0 }, { name := "allowSecurityManager", type := .int, accessFlags := 10, slot := 6, constantValue := 0 }, { name := "security", type := (.object "java/lang/SecurityManager"), accessFlags := 74, slot := 7, constantValue := 0 }, { name := "notSupportedJnuEncoding", type := (.object "java/lang/String"), accessFlags := 10, slot := 8, constantValue := 0 }, { name := "cons", type := (.object "java/io/Console"), accessFlags := 74, slot := 9, constantValue := 0 }, { name := "initialErrStream", type := (.object "java/io/PrintStream"), accessFlags := 74, slot := 10, constantValue := 0 }, { name := "props", type := (.object "java/util/Properties"), accessFlags := 10, slot := 11, constantValue := 0 }, { name := "lineSeparator", type := (.object "java/lang/String"), accessFlags := 10, slot := 12, constantValue := 0 }, { name := "bootLayer", type := (.object "java/lang/ModuleLayer"), accessFlags := 8, slot := 13, constantValue := 0 }]
  methods := #[k5m0, k5m1]
  instanceTypes := #[]
  staticTypes := #[(.object "java/io/InputStream"), (.object "java/io/PrintStream"), (.object "java/io/PrintStream"), (.object "java/io/InputStream"), .int, .int, .int, (.object "java/lang/SecurityManager"), (.object "java/lang/String"), (.object "java/io/Console"), (.object "java/io/PrintStream"), (.object "java/util/Properties"), (.object "java/lang/String"), (.object "java/lang/ModuleLayer")]
  resolved := Array.replicate 834 none
  statics := none }

def pool6 : Array CpInfo := pool [(1, u "java/lang/Cloneable"), (0, .class_ 1), (0, u "java/lang/Object"), (0, .class_ 3)] 3

/-- java/lang/Cloneable -/
def k6 : Class := { plain "java/lang/Cloneable" (some 0) with
  accessFlags := 1537
  interfaces := #[]
  cf := some (fileOf pool6 2 #[] #[] 1537 4 #[] #[])
  fields := #[]
  methods := #[]
  instanceTypes := #[]
  staticTypes := #[]
  resolved := Array.replicate 8 none
  statics := none }

def pool7 : Array CpInfo := pool [(1, u "java/io/Serializable"), (0, .class_ 1), (0, u "java/lang/Object"), (0, .class_ 3)] 3

/-- java/io/Serializable -/
def k7 : Class := { plain "java/io/Serializable" (some 0) with
  accessFlags := 1537
  interfaces := #[]
  cf := some (fileOf pool7 2 #[] #[] 1537 4 #[] #[])
  fields := #[]
  methods := #[]
  instanceTypes := #[]
  staticTypes := #[]
  resolved := Array.replicate 8 none
  statics := none }

/-- the primitive byte -/
def k8 : Class := { plain "byte" none with kind := .primitive 'B', accessFlags := 0x411 }
/-- [B -/
def k9 : Class := { plain "[B" (some 0) with kind := .array 8 .byte, interfaces := #[6, 7], accessFlags := 1041 }

/-- the primitive int -/
def k10 : Class := { plain "int" none with kind := .primitive 'I', accessFlags := 0x411 }
/-- [I -/
def k11 : Class := { plain "[I" (some 0) with kind := .array 10 .int, interfaces := #[6, 7], accessFlags := 1041 }

def heap : Heap := #[]
def classes : Array Class := #[k0, k1, k2, k3, k4, k5, k6, k7, k8, k9, k10, k11]
def interned : List (Array UInt16 × Addr) := []
def slotsUsed : Nat := 0
def theMethod : MethodId := ⟨1, 1⟩
def args0 : Array Value := #[.int 5, .int 7, .int 1, .int 2, .int 3, .int 4]
def aboutOver (below : List Frame) : State where
  vm := { classes := classes, interned := interned.toArray }
  heap := heap
  slotsUsed := slotsUsed
  threads := #[{ frames := .invoking theMethod args0 :: below }]
def below0 : List Frame := [.native { method := ⟨0, 0⟩, args := #[] }]
def about1 : State := aboutOver below0
def p0 : Program := .bare "" "" ""
def e0 : Env := launch0.env 0 0 0
theorem w_frames : about1.frames = Frame.invoking theMethod args0 :: below0 := rfl
set_option maxRecDepth 65536 in
theorem w_args : argsFit about1.vm theMethod args0 = true := by decide +kernel
set_option maxRecDepth 65536 in
theorem w_heap : heapFits about1 = true := by decide +kernel
set_option maxRecDepth 65536 in
theorem w_runnable : about1.curStatus? = some .runnable := by decide +kernel
set_option maxRecDepth 65536 in
theorem w_alone : about1.alone = true := by decide +kernel
set_option maxRecDepth 65536 in
theorem w_named : about1.methodNamed? x = some theMethod := by decide +kernel
set_option maxRecDepth 65536 in
theorem w_hears : about1.hears theMethod below0 = true := by decide +kernel
set_option maxRecDepth 65536 in
theorem w_ripe : about1.ripe theMethod args0 below0 = true := by decide +kernel
theorem w_running : about1.status = .running := rfl
set_option maxRecDepth 65536 in
theorem w_room : about1.hasRoom e0.platform room_1 = true :=
  launch0.hasRoom_least _ room_1 (by decide +kernel) (by decide +kernel) (by decide +kernel) (by decide +kernel) (by decide +kernel) (by decide +kernel)
theorem allAtoms_all (ts : List Jvm.Cond) (a : Array Jvm.Value) (st : Jvm.State) : (allAtoms ts).before a st = ts.all (fun c => c.before a st) := by
  induction ts with
  | nil => rfl
  | cons c t ih =>
    show (Jvm.Cond.and c (allAtoms t)).before a st = _
    rw [Jvm.Cond.before_and, ih, List.all_cons]
def words1 : List Jvm.Cond := Jvm.Cond.code x code maxLocals ret :: tables_1
/-- a 'code' word, met by the world's own term for the bytes: nothing is compared byte by byte -/
theorem code_word {y : MethodName} {bytes : ByteArray} {mx : Nat} {rt : Option FieldType} {a : Array Value} {s : State} {m : MethodId} {meth : Method} {c : Code} (h1 : s.methodNamed? y = some m) (h2 : s.vm.method? m = some meth) (h3 : meth.code = some c) (h4 : c.code = bytes)
    (h5 : (c.maxLocals == mx && c.exceptionTable.isEmpty && decide (c.maxStack ≤ mostOperands) && decide (meth.sig.returnType = rt) && !meth.locks && decide (parseMethodDescriptor y.desc = some meth.sig)) = true) : (Jvm.Cond.code y bytes mx rt).before a s = true := by
  simp only [Bool.and_eq_true, beq_iff_eq, Bool.not_eq_true', decide_eq_true_eq] at h5
  obtain ⟨⟨⟨⟨⟨g1, g2⟩, g3⟩, g4⟩, g5⟩, g6⟩ := h5
  simp [Cond.before, Cond.holds, Cond.value, h1, h2, h3, h4, g1, g2, g3, g4, g5, g6]
def isCode : Jvm.Cond → Bool
  | .code _ _ _ _ => true
  | _ => false
theorem all_split {L : List Jvm.Cond} {P : Jvm.Cond → Bool} (h1 : L.all (fun c => isCode c || P c) = true) (h2 : ∀ c ∈ L.filter isCode, P c = true) : L.all P = true := by
  refine List.all_eq_true.mpr fun c hc => ?_
  have h := List.all_eq_true.mp h1 c hc
  rcases Bool.eq_false_or_eq_true (isCode c) with hi | hi
  · exact h2 c (List.mem_filter.mpr ⟨hc, hi⟩)
  · simpa [hi] using h
set_option maxRecDepth 65536 in
theorem w_c0 : (Jvm.Cond.code x code maxLocals ret).before args0 about1 = true := code_word (m := ⟨1, 1⟩) (meth := k1m1) (c := k1c1) (by decide +kernel) rfl rfl rfl (by decide +kernel)
set_option maxRecDepth 65536 in
theorem w_c1 : (Jvm.Cond.code ({ cls := "com/example/metanode/metanode/graph/IntPairs", name := "<init>", desc := "()V" } : Jvm.MethodName) prog_22_method_1_code (1 : Nat) (Option.none : Option Jvm.ClassFile.FieldType)).before args0 about1 = true := code_word (m := ⟨2, 0⟩) (meth := k2m0) (c := k2c0) (by decide +kernel) rfl rfl rfl (by decide +kernel)
set_option maxRecDepth 65536 in
theorem w_c2 : (Jvm.Cond.code ({ cls := "java/lang/Object", name := "<init>", desc := "()V" } : Jvm.MethodName) object_method_1_code (1 : Nat) (Option.none : Option Jvm.ClassFile.FieldType)).before args0 about1 = true := code_word (m := ⟨0, 0⟩) (meth := k0m0) (c := k0c0) (by decide +kernel) rfl rfl rfl (by decide +kernel)
set_option maxRecDepth 65536 in
theorem w_c3 : (Jvm.Cond.code ({ cls := "com/example/metanode/metanode/graph/IntPairs", name := "trim", desc := "()V" } : Jvm.MethodName) prog_22_method_7_code (1 : Nat) (Option.none : Option Jvm.ClassFile.FieldType)).before args0 about1 = true := code_word (m := ⟨2, 2⟩) (meth := k2m2) (c := k2c2) (by decide +kernel) rfl rfl rfl (by decide +kernel)
set_option maxRecDepth 65536 in
theorem w_c4 : (Jvm.Cond.code ({ cls := "java/util/Arrays", name := "copyOf", desc := "([II)[I" } : Jvm.MethodName) jdk_65_method_123_code (3 : Nat) (Option.some (Jvm.ClassFile.FieldType.array Jvm.ClassFile.FieldType.int))).before args0 about1 = true := code_word (m := ⟨3, 1⟩) (meth := k3m1) (c := k3c1) (by decide +kernel) rfl rfl rfl (by decide +kernel)
set_option maxRecDepth 65536 in
theorem w_c5 : (Jvm.Cond.code ({ cls := "java/lang/Math", name := "min", desc := "(II)I" } : Jvm.MethodName) jdk_29_method_69_code (2 : Nat) (Option.some Jvm.ClassFile.FieldType.int)).before args0 about1 = true := code_word (m := ⟨4, 1⟩) (meth := k4m1) (c := k4c1) (by decide +kernel) rfl rfl rfl (by decide +kernel)
set_option maxRecDepth 65536 in
theorem w_c6 : (Jvm.Cond.code ({ cls := "com/example/metanode/metanode/graph/IntPairs", name := "count", desc := "()I" } : Jvm.MethodName) prog_22_method_8_code (1 : Nat) (Option.some Jvm.ClassFile.FieldType.int)).before args0 about1 = true := code_word (m := ⟨2, 3⟩) (meth := k2m3) (c := k2c3) (by decide +kernel) rfl rfl rfl (by decide +kernel)
set_option maxRecDepth 65536 in
theorem w_c7 : (Jvm.Cond.code ({ cls := "com/example/metanode/metanode/graph/IntPairs", name := "add", desc := "(II)Z" } : Jvm.MethodName) prog_22_method_3_code (3 : Nat) (Option.some Jvm.ClassFile.FieldType.boolean)).before args0 about1 = true := code_word (m := ⟨2, 1⟩) (meth := k2m1) (c := k2c1) (by decide +kernel) rfl rfl rfl (by decide +kernel)
set_option maxRecDepth 65536 in
theorem w_c8 : (Jvm.Cond.code ({ cls := "com/example/metanode/metanode/graph/IntPairs", name := "first", desc := "(I)I" } : Jvm.MethodName) prog_22_method_9_code (2 : Nat) (Option.some Jvm.ClassFile.FieldType.int)).before args0 about1 = true := code_word (m := ⟨2, 4⟩) (meth := k2m4) (c := k2c4) (by decide +kernel) rfl rfl rfl (by decide +kernel)
set_option maxRecDepth 65536 in
theorem w_c9 : (Jvm.Cond.code ({ cls := "com/example/metanode/metanode/graph/IntPairs", name := "second", desc := "(I)I" } : Jvm.MethodName) prog_22_method_10_code (2 : Nat) (Option.some Jvm.ClassFile.FieldType.int)).before args0 about1 = true := code_word (m := ⟨2, 5⟩) (meth := k2m5) (c := k2c5) (by decide +kernel) rfl rfl rfl (by decide +kernel)
def codes1 : List Jvm.Cond := [Jvm.Cond.code x code maxLocals ret, Jvm.Cond.code ({ cls := "com/example/metanode/metanode/graph/IntPairs", name := "<init>", desc := "()V" } : Jvm.MethodName) prog_22_method_1_code (1 : Nat) (Option.none : Option Jvm.ClassFile.FieldType), Jvm.Cond.code ({ cls := "java/lang/Object", name := "<init>", desc := "()V" } : Jvm.MethodName) object_method_1_code (1 : Nat) (Option.none : Option Jvm.ClassFile.FieldType), Jvm.Cond.code ({ cls := "com/example/metanode/metanode/graph/IntPairs", name := "trim", desc := "()V" } : Jvm.MethodName) prog_22_method_7_code (1 : Nat) (Option.none : Option Jvm.ClassFile.FieldType), Jvm.Cond.code ({ cls := "java/util/Arrays", name := "copyOf", desc := "([II)[I" } : Jvm.MethodName) jdk_65_method_123_code (3 : Nat) (Option.some (Jvm.ClassFile.FieldType.array Jvm.ClassFile.FieldType.int)), Jvm.Cond.code ({ cls := "java/lang/Math", name := "min", desc := "(II)I" } : Jvm.MethodName) jdk_29_method_69_code (2 : Nat) (Option.some Jvm.ClassFile.FieldType.int), Jvm.Cond.code ({ cls := "com/example/metanode/metanode/graph/IntPairs", name := "count", desc := "()I" } : Jvm.MethodName) prog_22_method_8_code (1 : Nat) (Option.some Jvm.ClassFile.FieldType.int), Jvm.Cond.code ({ cls := "com/example/metanode/metanode/graph/IntPairs", name := "add", desc := "(II)Z" } : Jvm.MethodName) prog_22_method_3_code (3 : Nat) (Option.some Jvm.ClassFile.FieldType.boolean), Jvm.Cond.code ({ cls := "com/example/metanode/metanode/graph/IntPairs", name := "first", desc := "(I)I" } : Jvm.MethodName) prog_22_method_9_code (2 : Nat) (Option.some Jvm.ClassFile.FieldType.int), Jvm.Cond.code ({ cls := "com/example/metanode/metanode/graph/IntPairs", name := "second", desc := "(I)I" } : Jvm.MethodName) prog_22_method_10_code (2 : Nat) (Option.some Jvm.ClassFile.FieldType.int)]
set_option maxRecDepth 65536 in
theorem codes_eq : words1.filter isCode = codes1 := rfl
theorem w_codes : ∀ c ∈ words1.filter isCode, c.before args0 about1 = true := by
  rw [codes_eq]
  intro c hc
  simp only [codes1, List.mem_cons, List.not_mem_nil, or_false] at hc
  rcases hc with rfl | rfl | rfl | rfl | rfl | rfl | rfl | rfl | rfl | rfl
  · exact w_c0
  · exact w_c1
  · exact w_c2
  · exact w_c3
  · exact w_c4
  · exact w_c5
  · exact w_c6
  · exact w_c7
  · exact w_c8
  · exact w_c9
set_option maxRecDepth 65536 in
theorem w_t1 : (words1.take 24).all (fun c => isCode c || c.before args0 about1) = true := by decide +kernel
set_option maxRecDepth 65536 in
theorem w_t2 : ((words1.drop 24).take 24).all (fun c => isCode c || c.before args0 about1) = true := by decide +kernel
set_option maxRecDepth 65536 in
theorem w_t3 : ((words1.drop 24).drop 24).all (fun c => isCode c || c.before args0 about1) = true := by decide +kernel
theorem w_tables : (allAtoms (Jvm.Cond.code x code maxLocals ret :: tables_1)).before args0 about1 = true := by
  rw [allAtoms_all]
  show words1.all (fun c => c.before args0 about1) = true
  refine all_split ?_ w_codes
  rw [← List.take_append_drop 24 words1, List.all_append, w_t1, ← List.take_append_drop 24 (words1.drop 24), List.all_append, w_t2, w_t3]
  rfl
set_option maxRecDepth 65536 in
theorem w_case : (Jvm.Cond.and given_1 narrow_1).before args0 about1 = true := by decide +kernel
theorem w_applies : (headSpec (Jvm.Cond.code x code maxLocals ret :: tables_1) room_1).applies x e0.platform about1 = true :=
  (Spec.applies_iff w_frames).mpr ⟨w_running, w_runnable, w_alone, w_named, w_hears, w_ripe, w_room, w_tables⟩
theorem atStart : AtStart classFile x code maxLocals ret World_1 tables_1 room_1 Calls_1 rest_1 Pre_1 launch0 p0 e0 about1 theMethod args0 below0 :=
  ⟨lists_1, trivial, launch0.admits_env _ _ _, launch0.least_env, fairChoices_fair.cas, fairChoices_fair.clock, w_frames, w_args, w_heap, w_applies, trivial, trivial, w_case⟩
end start1
theorem witness_1 : WitnessClaimed_1 := ⟨start1.p0, start1.e0, start1.about1, start1.theMethod, start1.args0, start1.below0, start1.atStart⟩
end Jvm.Pilot.@@N@@
