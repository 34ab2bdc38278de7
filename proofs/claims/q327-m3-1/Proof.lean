import JvmDerived
import JvmDerived.Pilot.@@N@@Statement
import JvmDerived.Pilot.@@N@@Code
set_option linter.unusedVariables false
set_option linter.unusedSimpArgs false
set_option maxRecDepth 65536
set_option maxHeartbeats 40000000
@@BLOCK:NumsL.lean.txt@@
namespace Jvm.Pilot.@@N@@
open Jvm Jvm.ClassFile Sem Op Lib Jvm.Free Jvm.Stand Jvm.LawKit Jvm.RoadKit Bundle Jvm.Pilot.@@N@@.Jvm.D
/-! ## own base: a heap as a list of objects; a body by its contract; one lemma an instruction -/
section Own
abbrev Ob : Type := Addr × FieldType × List Value
abbrev Fm : Type := (String → List (String × String)) × List (Addr × Cell)
/-- the frozen cells stand in h -/
def Fz (z : List (Addr × Cell)) (h : Heap) : Prop := ∀ x ∈ z, h[x.1]? = some x.2
theorem Fz.keep {z : List (Addr × Cell)} {h h' : Heap} {ws : List Addr} (H : Fz z h) (K : Keep h h' ws) (q : ∀ x ∈ z, x.1 ∉ ws) : Fz z h' := fun x hx => K.2.1 x.1 x.2 (H x hx) (q x hx)
/-- what the cell at a holds -/
def Oat (F : Fm) (Z : State) (h : Heap) (a : Addr) (t : FieldType) (vs : List Value) : Prop :=
  match t with
  | .array ty => Exa Z h a ("[" ++ ty.toString) ∧ (∀ v ∈ vs, fits ty v = true) ∧ ∃ c : Cell, Arr Z h a c ty ∧ c.slots = vs.toArray
  | .object C => Exa Z h a C ∧ vs.length = (F.1 C).length ∧ ∀ (i : Nat) (n d : String) (v : Value), (F.1 C)[i]? = some (n, d) → vs[i]? = some v → Fld Z h a C n d v
  | _ => False
def Hp (F : Fm) (Z : State) (h : Heap) (os : List Ob) : Prop := (os.map (·.1)).Nodup ∧ (∀ o ∈ os, Oat F Z h o.1 o.2.1 o.2.2) ∧ Fz F.2 h ∧ ∀ o ∈ os, ∀ x ∈ F.2, o.1 ≠ x.1
/-- an address that the body may write: one of A, or a new one -/
def Okk (A : List Addr) (N : Nat) (a : Addr) : Prop := a ∈ A ∨ N ≤ a
def Hin (F : Fm) (Z : State) (h0 : Heap) (A : List Addr) (h : Heap) (os : List Ob) : Prop := Keep h0 h A ∧ Hp F Z h os ∧ ∀ o ∈ os, Okk A h0.size o.1
def Qc (F : Fm) (Z : State) (B : Nat) (loc : List Ob) (h0 : Heap) (P : Option Value → List Ob → Prop) (v : Option Value) (h : Heap) (L : List Loc) : Prop :=
  (∀ y ∈ L, B ≤ y.base) ∧ ∃ os', Hin F Z h0 (loc.map (·.1)) h os' ∧ P v os'
/-- a body's contract: over the objects loc, with the arguments as, it returns v and leaves os', and P v os' -/
def Con (l : Launch) (Z : State) (F : Fm) (B : Nat) (y : MethodName) (bytes : ByteArray) (mL : Nat) (ret : Option FieldType) (rm : Room) (ws : List Jvm.Cond) (as : Array Value) (loc : List Ob) (P : Option Value → List Ob → Prop) : Prop :=
  ∀ h0, Hp F Z h0 loc → (∀ a ∈ loc.map (·.1), B ≤ a) → B ≤ h0.size → MetFree l y (head1 (Jvm.Cond.code y bytes mL ret :: ws) rm) (fun a U => a = as ∧ Z.Warmed39 U.vm ∧ U.heap = h0) (fun _ _ _ _ _ => True) (fun _ U o U' => ∃ v L, o = .returned v ∧ Qc F Z B loc h0 P v U'.heap L ∧ FrameEnd U o U' L rm.cells rm.slots)
/-- the run stands in the body of y; the objects are os -/
def Here (p : Program) (l : Launch) (e : Env) (R : Room) (s : State) (m : MethodId) (args : Array Value) (below : List Frame) (meth : Method) (c : Code) (Z : State) (F : Fm) (B : Nat) (h0 : Heap) (A : List Addr) (y : MethodName) (bytes : ByteArray) (mL : Nat) (ret : Option FieldType) (T : State) (k n : Nat) (os : List Ob) : Prop :=
  (p.tables.exec = Jvm.exec ∧ Z.Warmed39 s.vm ∧ c.code = bytes ∧ c.maxLocals = mL ∧ s.vm.findClass y.cls = some m.cls ∧ meth.sig.returnType = ret ∧ meth.locks = false ∧ meth.name = y.name) ∧
  ∃ locs, Stand p l e R s m args below meth c T locs k n ∧ ((∀ y ∈ locs, B ≤ y.base) ∧ (∀ a ∈ A, B ≤ a) ∧ B ≤ h0.size) ∧ Hin F Z h0 A T.heap os
def Fin1 (below : List Frame) (s : State) (Z : State) (F : Fm) (B : Nat) (h0 : Heap) (A : List Addr) (kc ks : Nat) (P : Option Value → List Ob → Prop) (t : State) : Prop :=
  t.status = .running ∧ ∃ v L, Ended t below (.returned v) ∧ ((∀ y ∈ L, B ≤ y.base) ∧ ∃ os', Hin F Z h0 A t.heap os' ∧ P v os') ∧ FrameEnd s (.returned v) t L kc ks
def Go (p : Program) (e : Env) (below : List Frame) (G : State → Prop) (S : State) : Prop := ∃ t, Steps p.tables e below S t ∧ G t

variable {p : Program} {l : Launch} {e : Env} {R : Room} {s : State} {m : MethodId} {args : Array Value} {below : List Frame} {meth : Method} {c : Code} {Z : State} {F : Fm} {B : Nat} {h0 : Heap} {A : List Addr} {y : MethodName} {bytes : ByteArray} {mL : Nat} {ret : Option FieldType} {T : State} {k n : Nat} {os : List Ob} {G : State → Prop} {pc : Nat} {ls : Array Slot} {st : List Value} {a0 : Array Value}
theorem Go.by {S S' : State} (k : ∀ t, Steps p.tables e below S' t → Steps p.tables e below S t) (g : Go p e below G S') : Go p e below G S := by
  obtain ⟨t, h, g⟩ := g; exact ⟨t, k t h, g⟩
theorem Go.join {α : Type} {T : State} {fr : α → JFrame} (tree : α) {S : State} (K : ∀ z, z = tree → Go p e below G (T.setTop (fr z))) (M : (∀ z, z = tree → Go p e below G (T.setTop (fr z))) → Go p e below G S) : Go p e below G S := M K
theorem Go.cut {α : Type} {T : State} {fr : α → JFrame} (Q : α → Prop) {S : State} (K : ∀ z, Q z → Go p e below G (T.setTop (fr z))) (M : (∀ z, Q z → Go p e below G (T.setTop (fr z))) → Go p e below G S) : Go p e below G S := M K
theorem Go.cast {S S' : State} (q : S' = S) (g : Go p e below G S') : Go p e below G S := q ▸ g
theorem Oat.keep {h h' : Heap} {ws : List Addr} {a : Addr} {t : FieldType} {vs : List Value} (O : Oat F Z h a t vs) (K : Keep h h' ws) (q : a ∉ ws) : Oat F Z h' a t vs := by
  unfold Oat at O ⊢
  split at O
  · obtain ⟨E, f, cl, Ar, S⟩ := O; exact ⟨E.keep K, f, cl, ⟨K.2.1 a cl Ar.1 q, Ar.2⟩, S⟩
  · obtain ⟨E, hl, f⟩ := O; exact ⟨E.keep K, hl, fun i n d v h1 h2 => (f i n d v h1 h2).keep K q⟩
  · exact O
theorem Oat.lt {h : Heap} {a : Addr} {t : FieldType} {vs : List Value} (O : Oat F Z h a t vs) : a < h.size := by
  unfold Oat at O
  split at O
  · exact O.1.lt
  · exact O.1.lt
  · exact O.elim
theorem Okk.ge {A : List Addr} {N B : Nat} {a : Addr} (h : Okk A N a) (h1 : ∀ a ∈ A, B ≤ a) (h2 : B ≤ N) : B ≤ a := h.elim (h1 a) fun q => Nat.le_trans h2 q
theorem Keep.self (h : Heap) : Keep h h [] := Keep.refl h []
theorem Hp.nil {h : Heap} (hz : Fz F.2 h) : Hp F Z h [] := ⟨List.nodup_nil, fun o q => (nomatch q), hz, fun o q => (nomatch q)⟩
theorem Hp.get {h : Heap} {i : Nat} {o : Ob} (H : Hp F Z h os) (hi : os[i]? = some o) : Oat F Z h o.1 o.2.1 o.2.2 := H.2.1 o (List.mem_of_getElem? hi)
theorem nodup_at {L : List Addr} (hn : L.Nodup) {i j : Nat} {a : Addr} (hi : L[i]? = some a) (hj : L[j]? = some a) : i = j := by
  obtain ⟨h1, e1⟩ := List.getElem?_eq_some_iff.mp hi
  obtain ⟨h2, e2⟩ := List.getElem?_eq_some_iff.mp hj
  exact (List.getElem_inj hn).mp (e1.trans e2.symm)
theorem Hp.ext {h h' : Heap} (H : Hp F Z h os) (E : Ext h h') : Hp F Z h' os :=
  ⟨H.1, fun o ho => (H.2.1 o ho).keep ((Keep.refl h []).ext E) (fun q => nomatch q), H.2.2.1.keep ((Keep.refl h []).ext E) (fun _ _ q => nomatch q), H.2.2.2⟩
theorem Hp.push {h h' : Heap} {t : FieldType} {vs : List Value} (H : Hp F Z h os) (E : Ext h h') (O : Oat F Z h' h.size t vs) : Hp F Z h' (os ++ [(h.size, t, vs)]) := by
  refine ⟨?_, fun o ho => ?_, (H.ext E).2.2.1, fun o ho x hx => ?_⟩
  · rw [List.map_append, List.nodup_append]
    refine ⟨H.1, by simp, fun a ha b hb => ?_⟩
    obtain ⟨o, ho, rfl⟩ := List.mem_map.mp ha
    have := (H.2.1 o ho).lt
    simp only [List.map_cons, List.map_nil, List.mem_singleton] at hb
    subst hb
    exact Nat.ne_of_lt this
  · rcases List.mem_append.mp ho with q | q
    · exact (H.ext E).2.1 o q
    · cases List.mem_singleton.mp q; exact O
  · rcases List.mem_append.mp ho with q | q
    · exact H.2.2.2 o q x hx
    · cases List.mem_singleton.mp q
      exact (Nat.ne_of_lt (Array.getElem?_eq_some_iff.mp (H.2.2.1 x hx)).1).symm
/-- one object is written -/
theorem Hp.set {h h' : Heap} {i : Nat} {a : Addr} {t : FieldType} {vs vs' : List Value} (H : Hp F Z h os) (hi : os[i]? = some (a, t, vs)) (K : Keep h h' [a]) (O : Oat F Z h' a t vs') : Hp F Z h' (os.set i (a, t, vs')) := by
  obtain ⟨hlt, he⟩ := List.getElem?_eq_some_iff.mp hi
  have em : (os.set i (a, t, vs')).map (·.1) = os.map (·.1) := by
    rw [List.map_set]
    refine List.ext_getElem? fun j => ?_
    rw [List.getElem?_set]
    split
    · rename_i e; subst e; simp [he, hlt]
    · rfl
  refine ⟨em ▸ H.1, fun o ho => ?_, H.2.2.1.keep K (fun x hx q => H.2.2.2 _ (List.mem_of_getElem? hi) x hx (List.mem_singleton.mp q).symm), fun o ho x hx => ?_⟩
  rotate_left
  · rcases List.mem_or_eq_of_mem_set ho with q | q
    · exact H.2.2.2 o q x hx
    · subst q; exact H.2.2.2 _ (List.mem_of_getElem? hi) x hx
  obtain ⟨j, hj⟩ := List.mem_iff_getElem?.mp ho
  rw [List.getElem?_set] at hj
  split at hj
  · simp [hlt] at hj; subst hj; exact O
  · rename_i ne
    refine (H.get hj).keep K (fun q => ne ?_)
    have q' : o.1 = a := List.mem_singleton.mp q
    exact (nodup_at H.1 (i := j) (j := i) (a := a) (by rw [List.getElem?_map, hj, ← q']; rfl) (by rw [List.getElem?_map, hi]; rfl)).symm
theorem Hin.mem {h : Heap} {i : Nat} {o : Ob} (H : Hin F Z h0 A h os) (hi : os[i]? = some o) : Okk A h0.size o.1 := H.2.2 o (List.mem_of_getElem? hi)
theorem Hin.push {h h' : Heap} {t : FieldType} {vs : List Value} (H : Hin F Z h0 A h os) (E : Ext h h') (O : Oat F Z h' h.size t vs) : Hin F Z h0 A h' (os ++ [(h.size, t, vs)]) :=
  ⟨H.1.ext E, H.2.1.push E O, fun o ho => (List.mem_append.mp ho).elim (H.2.2 o) fun q => by cases List.mem_singleton.mp q; exact Or.inr H.1.1⟩
theorem Hin.set {h h' : Heap} {i : Nat} {a : Addr} {t : FieldType} {vs vs' : List Value} (H : Hin F Z h0 A h os) (hi : os[i]? = some (a, t, vs)) (K : Keep h h' [a]) (O : Oat F Z h' a t vs') : Hin F Z h0 A h' (os.set i (a, t, vs')) := by
  refine ⟨H.1.trans K fun x hx => by cases List.mem_singleton.mp hx; exact H.mem hi, H.2.1.set hi K O, fun o ho => ?_⟩
  rcases List.mem_or_eq_of_mem_set ho with q | q
  · exact H.2.2 o q
  · subst q; have z := H.mem hi; exact z

/-- the body, entered -/
theorem Con.of {as : Array Value} {loc : List Ob} {P : Option Value → List Ob → Prop} {rm : Room} {ws : List Jvm.Cond} {ls : Array Slot} (hpl : plainFor y = true) (hef : ∀ m, entryFrame m as mL = mkF m 0 ls [])
    (body : ∀ p e h0 s m below meth c T, Here p l e rm s m as below meth c Z F B h0 (loc.map (·.1)) y bytes mL ret T 0 0 loc → Go p e below (Fin1 below s Z F B h0 (loc.map (·.1)) rm.cells rm.slots P) (T.setTop (mkF m 0 ls []))) :
    Con l Z F B y bytes mL ret rm ws as loc P := by
  intro h0 H hA hB
  refine MetFree.of_bodySF hpl hisR ?_
  intro p e s m args below meth c s₁ Bd hml0 hP hK
  obtain ⟨rfl, hZ, hh⟩ := hP
  have X0 : Stand p l e rm s m args below meth c s₁ [] 0 0 := Stand.of_body Bd
  have e0 : s₁.heap = h0 := by rw [← hh, Bd.state]; rfl
  obtain ⟨t, st, hr, v, L, hE, ⟨hL, os', hI, hp⟩, hF⟩ := body p e h0 s m below meth c s₁ ⟨⟨Bd.exec, hZ, Bd.bytes, hml0, findClass_of_methodNamed Bd.named, Bd.returns, Bd.notSynchronized, (name_of_methodNamed Bd.named Bd.method).1⟩, [], X0, ⟨fun y q => (nomatch q), hA, hB⟩, by rw [e0]; exact ⟨Keep.refl _ _, H, fun o ho => Or.inl (List.mem_map.mpr ⟨o, ho, rfl⟩)⟩⟩
  exact ⟨t, _, castTop (hef m) st, hr, hE, v, L, rfl, ⟨hL, os', hI, hp⟩, hF⟩

theorem g_iload_n {j : Fin 4} {v : Int32} (W : Here p l e R s m args below meth c Z F B h0 A y bytes mL ret T k n os) (hd : decode bytes pc = .ok (.iload_n j, 1)) (hl : ls[j.val]? = some (.val (.int v))) (K : Go p e below G (T.setTop (mkF m (pc + 1) ls (.int v :: st)))) : Go p e below G (T.setTop (mkF m pc ls (st))) := by
  obtain ⟨⟨hx, hZ, hby, -⟩, locs, X, -⟩ := W
  exact K.by fun t q => XS.iloadN X.here hx rfl (hb hby hd) hl q
theorem g_iload {j : Nat} {v : Int32} (W : Here p l e R s m args below meth c Z F B h0 A y bytes mL ret T k n os) (hd : decode bytes pc = .ok (.iload j, 2)) (hl : ls[j]? = some (.val (.int v))) (K : Go p e below G (T.setTop (mkF m (pc + 2) ls (.int v :: st)))) : Go p e below G (T.setTop (mkF m pc ls (st))) := by
  obtain ⟨⟨hx, hZ, hby, -⟩, locs, X, -⟩ := W
  exact K.by fun t q => XS.iload X.here hx rfl (hb hby hd) hl q
theorem g_lload_n {j : Fin 4} {v : Int64} (W : Here p l e R s m args below meth c Z F B h0 A y bytes mL ret T k n os) (hd : decode bytes pc = .ok (.lload_n j, 1)) (hl : ls[j.val]? = some (.val (.long v))) (K : Go p e below G (T.setTop (mkF m (pc + 1) ls (.long v :: st)))) : Go p e below G (T.setTop (mkF m pc ls (st))) := by
  obtain ⟨⟨hx, hZ, hby, -⟩, locs, X, -⟩ := W
  exact K.by fun t q => XT.lloadN X.here hx rfl (hb hby hd) hl q
theorem g_lload {j : Nat} {v : Int64} (W : Here p l e R s m args below meth c Z F B h0 A y bytes mL ret T k n os) (hd : decode bytes pc = .ok (.lload j, 2)) (hl : ls[j]? = some (.val (.long v))) (K : Go p e below G (T.setTop (mkF m (pc + 2) ls (.long v :: st)))) : Go p e below G (T.setTop (mkF m pc ls (st))) := by
  obtain ⟨⟨hx, hZ, hby, -⟩, locs, X, -⟩ := W
  exact K.by fun t q => XT.lload X.here hx rfl (hb hby hd) hl q
theorem g_aload_n {j : Fin 4} {v : Value} (W : Here p l e R s m args below meth c Z F B h0 A y bytes mL ret T k n os) (hd : decode bytes pc = .ok (.aload_n j, 1)) (hl : ls[j.val]? = some (.val v)) (hv : v.isRef = true) (K : Go p e below G (T.setTop (mkF m (pc + 1) ls (v :: st)))) : Go p e below G (T.setTop (mkF m pc ls (st))) := by
  obtain ⟨⟨hx, hZ, hby, -⟩, locs, X, -⟩ := W
  exact K.by fun t q => XS.aloadN X.here hx rfl (hb hby hd) hl hv q
theorem g_aload {j : Nat} {v : Value} (W : Here p l e R s m args below meth c Z F B h0 A y bytes mL ret T k n os) (hd : decode bytes pc = .ok (.aload j, 2)) (hl : ls[j]? = some (.val v)) (hv : v.isRef = true) (K : Go p e below G (T.setTop (mkF m (pc + 2) ls (v :: st)))) : Go p e below G (T.setTop (mkF m pc ls (st))) := by
  obtain ⟨⟨hx, hZ, hby, -⟩, locs, X, -⟩ := W
  exact K.by fun t q => XS.aload X.here hx rfl (hb hby hd) hl hv q
theorem g_istore_n {j : Fin 4} {v : Int32} {ls' : Array Slot} (W : Here p l e R s m args below meth c Z F B h0 A y bytes mL ret T k n os) (hd : decode bytes pc = .ok (.istore_n j, 1)) (hl : storeLocals ls j.val (.int v) = some ls') (K : Go p e below G (T.setTop (mkF m (pc + 1) ls' (st)))) : Go p e below G (T.setTop (mkF m pc ls (.int v :: st))) := by
  obtain ⟨⟨hx, hZ, hby, -⟩, locs, X, -⟩ := W
  exact K.by fun t q => XS.istoreN X.here hx rfl (hb hby hd) rfl hl q
theorem g_istore {j : Nat} {v : Int32} {ls' : Array Slot} (W : Here p l e R s m args below meth c Z F B h0 A y bytes mL ret T k n os) (hd : decode bytes pc = .ok (.istore j, 2)) (hl : storeLocals ls j (.int v) = some ls') (K : Go p e below G (T.setTop (mkF m (pc + 2) ls' (st)))) : Go p e below G (T.setTop (mkF m pc ls (.int v :: st))) := by
  obtain ⟨⟨hx, hZ, hby, -⟩, locs, X, -⟩ := W
  exact K.by fun t q => XS.istore X.here hx rfl (hb hby hd) rfl hl q
theorem g_lstore_n {j : Fin 4} {v : Int64} {ls' : Array Slot} (W : Here p l e R s m args below meth c Z F B h0 A y bytes mL ret T k n os) (hd : decode bytes pc = .ok (.lstore_n j, 1)) (hl : storeLocals ls j.val (.long v) = some ls') (K : Go p e below G (T.setTop (mkF m (pc + 1) ls' (st)))) : Go p e below G (T.setTop (mkF m pc ls (.long v :: st))) := by
  obtain ⟨⟨hx, hZ, hby, -⟩, locs, X, -⟩ := W
  exact K.by fun t q => XT.lstoreN X.here hx rfl (hb hby hd) rfl hl q
theorem g_lstore {j : Nat} {v : Int64} {ls' : Array Slot} (W : Here p l e R s m args below meth c Z F B h0 A y bytes mL ret T k n os) (hd : decode bytes pc = .ok (.lstore j, 2)) (hl : storeLocals ls j (.long v) = some ls') (K : Go p e below G (T.setTop (mkF m (pc + 2) ls' (st)))) : Go p e below G (T.setTop (mkF m pc ls (.long v :: st))) := by
  obtain ⟨⟨hx, hZ, hby, -⟩, locs, X, -⟩ := W
  exact K.by fun t q => XT.lstore X.here hx rfl (hb hby hd) rfl hl q
theorem g_astore_n {j : Fin 4} {v : Value} {ls' : Array Slot} (W : Here p l e R s m args below meth c Z F B h0 A y bytes mL ret T k n os) (hd : decode bytes pc = .ok (.astore_n j, 1)) (hv : v.isRef = true) (hl : storeLocals ls j.val v = some ls') (K : Go p e below G (T.setTop (mkF m (pc + 1) ls' (st)))) : Go p e below G (T.setTop (mkF m pc ls (v :: st))) := by
  obtain ⟨⟨hx, hZ, hby, -⟩, locs, X, -⟩ := W
  exact K.by fun t q => XS.astoreN X.here hx rfl (hb hby hd) rfl hv hl q
theorem g_astore {j : Nat} {v : Value} {ls' : Array Slot} (W : Here p l e R s m args below meth c Z F B h0 A y bytes mL ret T k n os) (hd : decode bytes pc = .ok (.astore j, 2)) (hv : v.isRef = true) (hl : storeLocals ls j v = some ls') (K : Go p e below G (T.setTop (mkF m (pc + 2) ls' (st)))) : Go p e below G (T.setTop (mkF m pc ls (v :: st))) := by
  obtain ⟨⟨hx, hZ, hby, -⟩, locs, X, -⟩ := W
  exact K.by fun t q => XS.astore X.here hx rfl (hb hby hd) rfl hv hl q
theorem g_iconst {i : Int} (v : Int32) (hv : Int32.ofInt i = v) (W : Here p l e R s m args below meth c Z F B h0 A y bytes mL ret T k n os) (hd : decode bytes pc = .ok (.iconst i, 1)) (K : Go p e below G (T.setTop (mkF m (pc + 1) ls (.int v :: st)))) : Go p e below G (T.setTop (mkF m pc ls st)) := by
  obtain ⟨⟨hx, hZ, hby, -⟩, locs, X, -⟩ := W
  subst hv
  exact K.by fun t q => XS.iconst X.here hx rfl (hb hby hd) q
theorem g_bipush {i : Int} (v : Int32) (hv : (Int8.ofInt i).toInt32 = v) (W : Here p l e R s m args below meth c Z F B h0 A y bytes mL ret T k n os) (hd : decode bytes pc = .ok (.bipush i, 2)) (K : Go p e below G (T.setTop (mkF m (pc + 2) ls (.int v :: st)))) : Go p e below G (T.setTop (mkF m pc ls st)) := by
  obtain ⟨⟨hx, hZ, hby, -⟩, locs, X, -⟩ := W
  subst hv
  exact K.by fun t q => XS.bipush X.here hx rfl (hb hby hd) q
theorem g_sipush {i : Int} (v : Int32) (hv : (Int16.ofInt i).toInt32 = v) (W : Here p l e R s m args below meth c Z F B h0 A y bytes mL ret T k n os) (hd : decode bytes pc = .ok (.sipush i, 3)) (K : Go p e below G (T.setTop (mkF m (pc + 3) ls (.int v :: st)))) : Go p e below G (T.setTop (mkF m pc ls st)) := by
  obtain ⟨⟨hx, hZ, hby, -⟩, locs, X, -⟩ := W
  subst hv
  exact K.by fun t q => XS.sipush X.here hx rfl (hb hby hd) q
theorem g_lconst {i : Fin 2} (v : Int64) (hv : Int64.ofNat i = v) (W : Here p l e R s m args below meth c Z F B h0 A y bytes mL ret T k n os) (hd : decode bytes pc = .ok (.lconst i, 1)) (K : Go p e below G (T.setTop (mkF m (pc + 1) ls (.long v :: st)))) : Go p e below G (T.setTop (mkF m pc ls st)) := by
  obtain ⟨⟨hx, hZ, hby, -⟩, locs, X, -⟩ := W
  subst hv
  exact K.by fun t q => XT.lconst X.here hx rfl (hb hby hd) q
theorem g_aconst_null  (W : Here p l e R s m args below meth c Z F B h0 A y bytes mL ret T k n os) (hd : decode bytes pc = .ok (.aconst_null, 1)) (K : Go p e below G (T.setTop (mkF m (pc + 1) ls (.null :: st)))) : Go p e below G (T.setTop (mkF m pc ls (st))) := by
  obtain ⟨⟨hx, hZ, hby, -⟩, locs, X, -⟩ := W
  exact K.by fun t q => XS.aconstNull X.here hx rfl (hb hby hd)  q
theorem g_iadd {x z : Int32} (W : Here p l e R s m args below meth c Z F B h0 A y bytes mL ret T k n os) (hd : decode bytes pc = .ok (.iadd, 1)) (K : Go p e below G (T.setTop (mkF m (pc + 1) ls (.int (x + z) :: st)))) : Go p e below G (T.setTop (mkF m pc ls (.int z :: .int x :: st))) := by
  obtain ⟨⟨hx, hZ, hby, -⟩, locs, X, -⟩ := W
  exact K.by fun t q => XS.iadd X.here hx rfl (hb hby hd) rfl q
theorem g_isub {x z : Int32} (W : Here p l e R s m args below meth c Z F B h0 A y bytes mL ret T k n os) (hd : decode bytes pc = .ok (.isub, 1)) (K : Go p e below G (T.setTop (mkF m (pc + 1) ls (.int (x - z) :: st)))) : Go p e below G (T.setTop (mkF m pc ls (.int z :: .int x :: st))) := by
  obtain ⟨⟨hx, hZ, hby, -⟩, locs, X, -⟩ := W
  exact K.by fun t q => XS.isub X.here hx rfl (hb hby hd) rfl q
theorem g_iand {x z : Int32} (W : Here p l e R s m args below meth c Z F B h0 A y bytes mL ret T k n os) (hd : decode bytes pc = .ok (.iand, 1)) (K : Go p e below G (T.setTop (mkF m (pc + 1) ls (.int (x &&& z) :: st)))) : Go p e below G (T.setTop (mkF m pc ls (.int z :: .int x :: st))) := by
  obtain ⟨⟨hx, hZ, hby, -⟩, locs, X, -⟩ := W
  exact K.by fun t q => XS.iand X.here hx rfl (hb hby hd) rfl q
theorem g_imul {x z : Int32} (W : Here p l e R s m args below meth c Z F B h0 A y bytes mL ret T k n os) (hd : decode bytes pc = .ok (.imul, 1)) (K : Go p e below G (T.setTop (mkF m (pc + 1) ls (.int (x * z) :: st)))) : Go p e below G (T.setTop (mkF m pc ls (.int z :: .int x :: st))) := by
  obtain ⟨⟨hx, hZ, hby, -⟩, locs, X, -⟩ := W
  exact K.by fun t q => XS.imul X.here hx rfl (hb hby hd) rfl q
theorem g_ior {x z : Int32} (W : Here p l e R s m args below meth c Z F B h0 A y bytes mL ret T k n os) (hd : decode bytes pc = .ok (.ior, 1)) (K : Go p e below G (T.setTop (mkF m (pc + 1) ls (.int (x ||| z) :: st)))) : Go p e below G (T.setTop (mkF m pc ls (.int z :: .int x :: st))) := by
  obtain ⟨⟨hx, hZ, hby, -⟩, locs, X, -⟩ := W
  exact K.by fun t q => XT.ior X.here hx rfl (hb hby hd) rfl q
theorem g_ixor {x z : Int32} (W : Here p l e R s m args below meth c Z F B h0 A y bytes mL ret T k n os) (hd : decode bytes pc = .ok (.ixor, 1)) (K : Go p e below G (T.setTop (mkF m (pc + 1) ls (.int (x ^^^ z) :: st)))) : Go p e below G (T.setTop (mkF m pc ls (.int z :: .int x :: st))) := by
  obtain ⟨⟨hx, hZ, hby, -⟩, locs, X, -⟩ := W
  exact K.by fun t q => XT.ixor X.here hx rfl (hb hby hd) rfl q
theorem g_ishl {x z : Int32} (W : Here p l e R s m args below meth c Z F B h0 A y bytes mL ret T k n os) (hd : decode bytes pc = .ok (.ishl, 1)) (K : Go p e below G (T.setTop (mkF m (pc + 1) ls (.int (x <<< (z &&& 31)) :: st)))) : Go p e below G (T.setTop (mkF m pc ls (.int z :: .int x :: st))) := by
  obtain ⟨⟨hx, hZ, hby, -⟩, locs, X, -⟩ := W
  exact K.by fun t q => XT.ishl X.here hx rfl (hb hby hd) rfl q
theorem g_ishr {x z : Int32} (W : Here p l e R s m args below meth c Z F B h0 A y bytes mL ret T k n os) (hd : decode bytes pc = .ok (.ishr, 1)) (K : Go p e below G (T.setTop (mkF m (pc + 1) ls (.int (x >>> (z &&& 31)) :: st)))) : Go p e below G (T.setTop (mkF m pc ls (.int z :: .int x :: st))) := by
  obtain ⟨⟨hx, hZ, hby, -⟩, locs, X, -⟩ := W
  exact K.by fun t q => XT.ishr X.here hx rfl (hb hby hd) rfl q
theorem g_iushr {x z : Int32} (W : Here p l e R s m args below meth c Z F B h0 A y bytes mL ret T k n os) (hd : decode bytes pc = .ok (.iushr, 1)) (K : Go p e below G (T.setTop (mkF m (pc + 1) ls (.int (XT.ushr x z) :: st)))) : Go p e below G (T.setTop (mkF m pc ls (.int z :: .int x :: st))) := by
  obtain ⟨⟨hx, hZ, hby, -⟩, locs, X, -⟩ := W
  exact K.by fun t q => XT.iushr X.here hx rfl (hb hby hd) rfl q
theorem g_ladd {x z : Int64} (W : Here p l e R s m args below meth c Z F B h0 A y bytes mL ret T k n os) (hd : decode bytes pc = .ok (.ladd, 1)) (K : Go p e below G (T.setTop (mkF m (pc + 1) ls (.long (x + z) :: st)))) : Go p e below G (T.setTop (mkF m pc ls (.long z :: .long x :: st))) := by
  obtain ⟨⟨hx, hZ, hby, -⟩, locs, X, -⟩ := W
  exact K.by fun t q => XT.ladd X.here hx rfl (hb hby hd) rfl q
theorem g_lsub {x z : Int64} (W : Here p l e R s m args below meth c Z F B h0 A y bytes mL ret T k n os) (hd : decode bytes pc = .ok (.lsub, 1)) (K : Go p e below G (T.setTop (mkF m (pc + 1) ls (.long (x - z) :: st)))) : Go p e below G (T.setTop (mkF m pc ls (.long z :: .long x :: st))) := by
  obtain ⟨⟨hx, hZ, hby, -⟩, locs, X, -⟩ := W
  exact K.by fun t q => XT.lsub X.here hx rfl (hb hby hd) rfl q
theorem g_lmul {x z : Int64} (W : Here p l e R s m args below meth c Z F B h0 A y bytes mL ret T k n os) (hd : decode bytes pc = .ok (.lmul, 1)) (K : Go p e below G (T.setTop (mkF m (pc + 1) ls (.long (x * z) :: st)))) : Go p e below G (T.setTop (mkF m pc ls (.long z :: .long x :: st))) := by
  obtain ⟨⟨hx, hZ, hby, -⟩, locs, X, -⟩ := W
  exact K.by fun t q => XT.lmul X.here hx rfl (hb hby hd) rfl q
theorem g_land {x z : Int64} (W : Here p l e R s m args below meth c Z F B h0 A y bytes mL ret T k n os) (hd : decode bytes pc = .ok (.land, 1)) (K : Go p e below G (T.setTop (mkF m (pc + 1) ls (.long (x &&& z) :: st)))) : Go p e below G (T.setTop (mkF m pc ls (.long z :: .long x :: st))) := by
  obtain ⟨⟨hx, hZ, hby, -⟩, locs, X, -⟩ := W
  exact K.by fun t q => XT.land X.here hx rfl (hb hby hd) rfl q
theorem g_lor {x z : Int64} (W : Here p l e R s m args below meth c Z F B h0 A y bytes mL ret T k n os) (hd : decode bytes pc = .ok (.lor, 1)) (K : Go p e below G (T.setTop (mkF m (pc + 1) ls (.long (x ||| z) :: st)))) : Go p e below G (T.setTop (mkF m pc ls (.long z :: .long x :: st))) := by
  obtain ⟨⟨hx, hZ, hby, -⟩, locs, X, -⟩ := W
  exact K.by fun t q => XT.lor X.here hx rfl (hb hby hd) rfl q
theorem g_lxor {x z : Int64} (W : Here p l e R s m args below meth c Z F B h0 A y bytes mL ret T k n os) (hd : decode bytes pc = .ok (.lxor, 1)) (K : Go p e below G (T.setTop (mkF m (pc + 1) ls (.long (x ^^^ z) :: st)))) : Go p e below G (T.setTop (mkF m pc ls (.long z :: .long x :: st))) := by
  obtain ⟨⟨hx, hZ, hby, -⟩, locs, X, -⟩ := W
  exact K.by fun t q => XT.lxor X.here hx rfl (hb hby hd) rfl q
theorem g_idiv {x z : Int32} (W : Here p l e R s m args below meth c Z F B h0 A y bytes mL ret T k n os) (hd : decode bytes pc = .ok (.idiv, 1)) (hz : z ≠ 0) (K : Go p e below G (T.setTop (mkF m (pc + 1) ls (.int (x / z) :: st)))) : Go p e below G (T.setTop (mkF m pc ls (.int z :: .int x :: st))) := by
  obtain ⟨⟨hx, hZ, hby, -⟩, locs, X, -⟩ := W
  exact K.by fun t q => XS.idiv X.here hx rfl (hb hby hd) rfl hz q
theorem g_irem {x z : Int32} (W : Here p l e R s m args below meth c Z F B h0 A y bytes mL ret T k n os) (hd : decode bytes pc = .ok (.irem, 1)) (hz : z ≠ 0) (K : Go p e below G (T.setTop (mkF m (pc + 1) ls (.int (x % z) :: st)))) : Go p e below G (T.setTop (mkF m pc ls (.int z :: .int x :: st))) := by
  obtain ⟨⟨hx, hZ, hby, -⟩, locs, X, -⟩ := W
  exact K.by fun t q => iremM X hx rfl (hb hby hd) rfl hz q
theorem g_ineg {x : Int32} (W : Here p l e R s m args below meth c Z F B h0 A y bytes mL ret T k n os) (hd : decode bytes pc = .ok (.ineg, 1)) (K : Go p e below G (T.setTop (mkF m (pc + 1) ls (.int (-x) :: st)))) : Go p e below G (T.setTop (mkF m pc ls (.int x :: st))) := by
  obtain ⟨⟨hx, hZ, hby, -⟩, locs, X, -⟩ := W
  exact K.by fun t q => XS.ineg X.here hx rfl (hb hby hd) rfl q
theorem g_lneg {x : Int64} (W : Here p l e R s m args below meth c Z F B h0 A y bytes mL ret T k n os) (hd : decode bytes pc = .ok (.lneg, 1)) (K : Go p e below G (T.setTop (mkF m (pc + 1) ls (.long (-x) :: st)))) : Go p e below G (T.setTop (mkF m pc ls (.long x :: st))) := by
  obtain ⟨⟨hx, hZ, hby, -⟩, locs, X, -⟩ := W
  exact K.by fun t q => XT.lneg X.here hx rfl (hb hby hd) rfl q
theorem g_i2l {x : Int32} (W : Here p l e R s m args below meth c Z F B h0 A y bytes mL ret T k n os) (hd : decode bytes pc = .ok (.i2l, 1)) (K : Go p e below G (T.setTop (mkF m (pc + 1) ls (.long x.toInt64 :: st)))) : Go p e below G (T.setTop (mkF m pc ls (.int x :: st))) := by
  obtain ⟨⟨hx, hZ, hby, -⟩, locs, X, -⟩ := W
  exact K.by fun t q => XT.i2l X.here hx rfl (hb hby hd) rfl q
theorem g_l2i {x : Int64} (W : Here p l e R s m args below meth c Z F B h0 A y bytes mL ret T k n os) (hd : decode bytes pc = .ok (.l2i, 1)) (K : Go p e below G (T.setTop (mkF m (pc + 1) ls (.int x.toInt32 :: st)))) : Go p e below G (T.setTop (mkF m pc ls (.long x :: st))) := by
  obtain ⟨⟨hx, hZ, hby, -⟩, locs, X, -⟩ := W
  exact K.by fun t q => XT.l2i X.here hx rfl (hb hby hd) rfl q
theorem g_i2b {x : Int32} (W : Here p l e R s m args below meth c Z F B h0 A y bytes mL ret T k n os) (hd : decode bytes pc = .ok (.i2b, 1)) (K : Go p e below G (T.setTop (mkF m (pc + 1) ls (.int x.toInt8.toInt32 :: st)))) : Go p e below G (T.setTop (mkF m pc ls (.int x :: st))) := by
  obtain ⟨⟨hx, hZ, hby, -⟩, locs, X, -⟩ := W
  exact K.by fun t q => XT.i2b X.here hx rfl (hb hby hd) rfl q
theorem g_i2c {x : Int32} (W : Here p l e R s m args below meth c Z F B h0 A y bytes mL ret T k n os) (hd : decode bytes pc = .ok (.i2c, 1)) (K : Go p e below G (T.setTop (mkF m (pc + 1) ls (.int x.toUInt32.toUInt16.toUInt32.toInt32 :: st)))) : Go p e below G (T.setTop (mkF m pc ls (.int x :: st))) := by
  obtain ⟨⟨hx, hZ, hby, -⟩, locs, X, -⟩ := W
  exact K.by fun t q => XT.i2c X.here hx rfl (hb hby hd) rfl q
theorem g_i2s {x : Int32} (W : Here p l e R s m args below meth c Z F B h0 A y bytes mL ret T k n os) (hd : decode bytes pc = .ok (.i2s, 1)) (K : Go p e below G (T.setTop (mkF m (pc + 1) ls (.int x.toInt16.toInt32 :: st)))) : Go p e below G (T.setTop (mkF m pc ls (.int x :: st))) := by
  obtain ⟨⟨hx, hZ, hby, -⟩, locs, X, -⟩ := W
  exact K.by fun t q => XT.i2s X.here hx rfl (hb hby hd) rfl q
theorem g_lcmp {x z : Int64} (W : Here p l e R s m args below meth c Z F B h0 A y bytes mL ret T k n os) (hd : decode bytes pc = .ok (.lcmp, 1)) (K : Go p e below G (T.setTop (mkF m (pc + 1) ls (.int (XT.cmpL x z) :: st)))) : Go p e below G (T.setTop (mkF m pc ls (.long z :: .long x :: st))) := by
  obtain ⟨⟨hx, hZ, hby, -⟩, locs, X, -⟩ := W
  exact K.by fun t q => XT.lcmp X.here hx rfl (hb hby hd) rfl q
theorem g_dup {v : Value} (W : Here p l e R s m args below meth c Z F B h0 A y bytes mL ret T k n os) (hd : decode bytes pc = .ok (.dup, 1)) (hv : v.category = 1) (K : Go p e below G (T.setTop (mkF m (pc + 1) ls (v :: v :: st)))) : Go p e below G (T.setTop (mkF m pc ls (v :: st))) := by
  obtain ⟨⟨hx, hZ, hby, -⟩, locs, X, -⟩ := W
  exact K.by fun t q => XS.dup X.here hx rfl (hb hby hd) rfl hv q
theorem g_pop {v : Value} (W : Here p l e R s m args below meth c Z F B h0 A y bytes mL ret T k n os) (hd : decode bytes pc = .ok (.pop, 1)) (hv : v.category = 1) (K : Go p e below G (T.setTop (mkF m (pc + 1) ls (st)))) : Go p e below G (T.setTop (mkF m pc ls (v :: st))) := by
  obtain ⟨⟨hx, hZ, hby, -⟩, locs, X, -⟩ := W
  exact K.by fun t q => XT.pop X.here hx rfl (hb hby hd) rfl hv q
theorem g_dup_x1 {v w : Value} (W : Here p l e R s m args below meth c Z F B h0 A y bytes mL ret T k n os) (hd : decode bytes pc = .ok (.dup_x1, 1)) (hv : v.category = 1) (hw : w.category = 1) (K : Go p e below G (T.setTop (mkF m (pc + 1) ls (v :: w :: v :: st)))) : Go p e below G (T.setTop (mkF m pc ls (v :: w :: st))) := by
  obtain ⟨⟨hx, hZ, hby, -⟩, locs, X, -⟩ := W
  exact K.by fun t q => XT.dupX1 X.here hx rfl (hb hby hd) rfl hv hw q
theorem g_dup2 {v w : Value} (W : Here p l e R s m args below meth c Z F B h0 A y bytes mL ret T k n os) (hd : decode bytes pc = .ok (.dup2, 1)) (hv : v.category = 1) (hw : w.category = 1) (K : Go p e below G (T.setTop (mkF m (pc + 1) ls (v :: w :: v :: w :: st)))) : Go p e below G (T.setTop (mkF m pc ls (v :: w :: st))) := by
  obtain ⟨⟨hx, hZ, hby, -⟩, locs, X, -⟩ := W
  exact K.by fun t q => XT.dup2 X.here hx rfl (hb hby hd) rfl hv hw q
theorem g_dup_x2 {v w u : Value} (W : Here p l e R s m args below meth c Z F B h0 A y bytes mL ret T k n os) (hd : decode bytes pc = .ok (.dup_x2, 1)) (hv : v.category = 1) (hw : w.category = 1) (hu : u.category = 1) (K : Go p e below G (T.setTop (mkF m (pc + 1) ls (v :: w :: u :: v :: st)))) : Go p e below G (T.setTop (mkF m pc ls (v :: w :: u :: st))) := by
  obtain ⟨⟨hx, hZ, hby, -⟩, locs, X, -⟩ := W
  refine K.by fun t q => ?_
  have hd' := hb hby hd
  jvm_step X.here [X.here.top, hx, hd', hv, hw, hu]
  exact q
theorem g_iinc {j : Nat} {i : Int} {x : Int32} (v : Int32) (hv : Int32.ofInt i = v) {ls' : Array Slot} (W : Here p l e R s m args below meth c Z F B h0 A y bytes mL ret T k n os) (hd : decode bytes pc = .ok (.iinc j i, 3)) (hl : ls[j]? = some (.val (.int x))) (hl' : storeLocals ls j (.int (x + v)) = some ls') (K : Go p e below G (T.setTop (mkF m (pc + 3) ls' st))) : Go p e below G (T.setTop (mkF m pc ls st)) := by
  obtain ⟨⟨hx, hZ, hby, -⟩, locs, X, -⟩ := W
  subst hv
  exact K.by fun t q => XS.iinc X.here hx rfl (hb hby hd) hl hl' q
theorem g_goto {o : Int} (pc' : Nat) (W : Here p l e R s m args below meth c Z F B h0 A y bytes mL ret T k n os) (hd : decode bytes pc = .ok (.goto o, 3)) (ho : 0 ≤ (pc : Int) + o) (hp : ((pc : Int) + o).toNat = pc') (K : Go p e below G (T.setTop (mkF m pc' ls st))) : Go p e below G (T.setTop (mkF m pc ls st)) := by
  obtain ⟨⟨hx, hZ, hby, -⟩, locs, X, -⟩ := W
  exact K.by fun t q => XS.goto X.here hx rfl rfl (hb hby hd) ho hp q
theorem g_icmpY {cd : ClassFile.Cond} {o : Int} {x z : Int32} (pc' : Nat) (W : Here p l e R s m args below meth c Z F B h0 A y bytes mL ret T k n os) (hd : decode bytes pc = .ok (.if_icmp cd o, 3)) (ho : 0 ≤ (pc : Int) + o) (hp : ((pc : Int) + o).toNat = pc') (hc : if_icmp.holds cd x z = true) (K : Go p e below G (T.setTop (mkF m pc' ls st))) : Go p e below G (T.setTop (mkF m pc ls (.int z :: .int x :: st))) := by
  obtain ⟨⟨hx, hZ, hby, -⟩, locs, X, -⟩ := W
  exact K.by fun t q => XS.icmpYes X.here hx rfl rfl (hb hby hd) rfl hc ho hp q
theorem g_icmpN {cd : ClassFile.Cond} {o : Int} {x z : Int32} (W : Here p l e R s m args below meth c Z F B h0 A y bytes mL ret T k n os) (hd : decode bytes pc = .ok (.if_icmp cd o, 3)) (hc : if_icmp.holds cd x z = false) (K : Go p e below G (T.setTop (mkF m (pc + 3) ls st))) : Go p e below G (T.setTop (mkF m pc ls (.int z :: .int x :: st))) := by
  obtain ⟨⟨hx, hZ, hby, -⟩, locs, X, -⟩ := W
  exact K.by fun t q => XS.icmpNo X.here hx rfl (hb hby hd) rfl hc q
theorem g_ifY {cd : ClassFile.Cond} {o : Int} {x : Int32} (pc' : Nat) (W : Here p l e R s m args below meth c Z F B h0 A y bytes mL ret T k n os) (hd : decode bytes pc = .ok (.ifCond cd o, 3)) (ho : 0 ≤ (pc : Int) + o) (hp : ((pc : Int) + o).toNat = pc') (hc : if_icmp.holds cd x 0 = true) (K : Go p e below G (T.setTop (mkF m pc' ls st))) : Go p e below G (T.setTop (mkF m pc ls (.int x :: st))) := by
  obtain ⟨⟨hx, hZ, hby, -⟩, locs, X, -⟩ := W
  exact K.by fun t q => XS.ifYes X.here hx rfl rfl (hb hby hd) rfl ((if0 _ _).trans hc) ho hp q
theorem g_ifN {cd : ClassFile.Cond} {o : Int} {x : Int32} (W : Here p l e R s m args below meth c Z F B h0 A y bytes mL ret T k n os) (hd : decode bytes pc = .ok (.ifCond cd o, 3)) (hc : if_icmp.holds cd x 0 = false) (K : Go p e below G (T.setTop (mkF m (pc + 3) ls st))) : Go p e below G (T.setTop (mkF m pc ls (.int x :: st))) := by
  obtain ⟨⟨hx, hZ, hby, -⟩, locs, X, -⟩ := W
  exact K.by fun t q => XS.ifNo X.here hx rfl (hb hby hd) rfl ((if0 _ _).trans hc) q
theorem g_icmp_lt {o : Int} {x z : Int32} (pc' : Nat) (W : Here p l e R s m args below meth c Z F B h0 A y bytes mL ret T k n os) (hd : decode bytes pc = .ok (.if_icmp .lt o, 3)) (ho : 0 ≤ (pc : Int) + o) (hp : ((pc : Int) + o).toNat = pc') (Y : x < z → Go p e below G (T.setTop (mkF m pc' ls st))) (N : ¬ (x < z) → Go p e below G (T.setTop (mkF m (pc + 3) ls st))) : Go p e below G (T.setTop (mkF m pc ls (.int z :: .int x :: st))) := by
  by_cases q : x < z
  · exact g_icmpY pc' W hd ho hp (tlt q).1 (Y q)
  · exact g_icmpN W hd (flt q).1 (N q)
theorem g_if_lt {o : Int} {x : Int32} (pc' : Nat) (W : Here p l e R s m args below meth c Z F B h0 A y bytes mL ret T k n os) (hd : decode bytes pc = .ok (.ifCond .lt o, 3)) (ho : 0 ≤ (pc : Int) + o) (hp : ((pc : Int) + o).toNat = pc') (Y : x < 0 → Go p e below G (T.setTop (mkF m pc' ls st))) (N : ¬ (x < 0) → Go p e below G (T.setTop (mkF m (pc + 3) ls st))) : Go p e below G (T.setTop (mkF m pc ls (.int x :: st))) := by
  by_cases q : x < 0
  · exact g_ifY pc' W hd ho hp (tlt q).1 (Y q)
  · exact g_ifN W hd (flt q).1 (N q)
theorem g_icmp_ge {o : Int} {x z : Int32} (pc' : Nat) (W : Here p l e R s m args below meth c Z F B h0 A y bytes mL ret T k n os) (hd : decode bytes pc = .ok (.if_icmp .ge o, 3)) (ho : 0 ≤ (pc : Int) + o) (hp : ((pc : Int) + o).toNat = pc') (Y : ¬ (x < z) → Go p e below G (T.setTop (mkF m pc' ls st))) (N : x < z → Go p e below G (T.setTop (mkF m (pc + 3) ls st))) : Go p e below G (T.setTop (mkF m pc ls (.int z :: .int x :: st))) := by
  by_cases q : x < z
  · exact g_icmpN W hd (tlt q).2.1 (N q)
  · exact g_icmpY pc' W hd ho hp (flt q).2.1 (Y q)
theorem g_if_ge {o : Int} {x : Int32} (pc' : Nat) (W : Here p l e R s m args below meth c Z F B h0 A y bytes mL ret T k n os) (hd : decode bytes pc = .ok (.ifCond .ge o, 3)) (ho : 0 ≤ (pc : Int) + o) (hp : ((pc : Int) + o).toNat = pc') (Y : ¬ (x < 0) → Go p e below G (T.setTop (mkF m pc' ls st))) (N : x < 0 → Go p e below G (T.setTop (mkF m (pc + 3) ls st))) : Go p e below G (T.setTop (mkF m pc ls (.int x :: st))) := by
  by_cases q : x < 0
  · exact g_ifN W hd (tlt q).2.1 (N q)
  · exact g_ifY pc' W hd ho hp (flt q).2.1 (Y q)
theorem g_icmp_gt {o : Int} {x z : Int32} (pc' : Nat) (W : Here p l e R s m args below meth c Z F B h0 A y bytes mL ret T k n os) (hd : decode bytes pc = .ok (.if_icmp .gt o, 3)) (ho : 0 ≤ (pc : Int) + o) (hp : ((pc : Int) + o).toNat = pc') (Y : z < x → Go p e below G (T.setTop (mkF m pc' ls st))) (N : ¬ (z < x) → Go p e below G (T.setTop (mkF m (pc + 3) ls st))) : Go p e below G (T.setTop (mkF m pc ls (.int z :: .int x :: st))) := by
  by_cases q : z < x
  · exact g_icmpY pc' W hd ho hp (tlt q).2.2.1 (Y q)
  · exact g_icmpN W hd (flt q).2.2.1 (N q)
theorem g_if_gt {o : Int} {x : Int32} (pc' : Nat) (W : Here p l e R s m args below meth c Z F B h0 A y bytes mL ret T k n os) (hd : decode bytes pc = .ok (.ifCond .gt o, 3)) (ho : 0 ≤ (pc : Int) + o) (hp : ((pc : Int) + o).toNat = pc') (Y : 0 < x → Go p e below G (T.setTop (mkF m pc' ls st))) (N : ¬ (0 < x) → Go p e below G (T.setTop (mkF m (pc + 3) ls st))) : Go p e below G (T.setTop (mkF m pc ls (.int x :: st))) := by
  by_cases q : 0 < x
  · exact g_ifY pc' W hd ho hp (tlt q).2.2.1 (Y q)
  · exact g_ifN W hd (flt q).2.2.1 (N q)
theorem g_icmp_le {o : Int} {x z : Int32} (pc' : Nat) (W : Here p l e R s m args below meth c Z F B h0 A y bytes mL ret T k n os) (hd : decode bytes pc = .ok (.if_icmp .le o, 3)) (ho : 0 ≤ (pc : Int) + o) (hp : ((pc : Int) + o).toNat = pc') (Y : ¬ (z < x) → Go p e below G (T.setTop (mkF m pc' ls st))) (N : z < x → Go p e below G (T.setTop (mkF m (pc + 3) ls st))) : Go p e below G (T.setTop (mkF m pc ls (.int z :: .int x :: st))) := by
  by_cases q : z < x
  · exact g_icmpN W hd (tlt q).2.2.2 (N q)
  · exact g_icmpY pc' W hd ho hp (flt q).2.2.2 (Y q)
theorem g_if_le {o : Int} {x : Int32} (pc' : Nat) (W : Here p l e R s m args below meth c Z F B h0 A y bytes mL ret T k n os) (hd : decode bytes pc = .ok (.ifCond .le o, 3)) (ho : 0 ≤ (pc : Int) + o) (hp : ((pc : Int) + o).toNat = pc') (Y : ¬ (0 < x) → Go p e below G (T.setTop (mkF m pc' ls st))) (N : 0 < x → Go p e below G (T.setTop (mkF m (pc + 3) ls st))) : Go p e below G (T.setTop (mkF m pc ls (.int x :: st))) := by
  by_cases q : 0 < x
  · exact g_ifN W hd (tlt q).2.2.2 (N q)
  · exact g_ifY pc' W hd ho hp (flt q).2.2.2 (Y q)
theorem g_icmp_eq {o : Int} {x z : Int32} (pc' : Nat) (W : Here p l e R s m args below meth c Z F B h0 A y bytes mL ret T k n os) (hd : decode bytes pc = .ok (.if_icmp .eq o, 3)) (ho : 0 ≤ (pc : Int) + o) (hp : ((pc : Int) + o).toNat = pc') (Y : x = z → Go p e below G (T.setTop (mkF m pc' ls st))) (N : ¬ (x = z) → Go p e below G (T.setTop (mkF m (pc + 3) ls st))) : Go p e below G (T.setTop (mkF m pc ls (.int z :: .int x :: st))) := by
  by_cases q : x = z
  · exact g_icmpY pc' W hd ho hp (teq q).1 (Y q)
  · exact g_icmpN W hd (feq q).1 (N q)
theorem g_if_eq {o : Int} {x : Int32} (pc' : Nat) (W : Here p l e R s m args below meth c Z F B h0 A y bytes mL ret T k n os) (hd : decode bytes pc = .ok (.ifCond .eq o, 3)) (ho : 0 ≤ (pc : Int) + o) (hp : ((pc : Int) + o).toNat = pc') (Y : x = 0 → Go p e below G (T.setTop (mkF m pc' ls st))) (N : ¬ (x = 0) → Go p e below G (T.setTop (mkF m (pc + 3) ls st))) : Go p e below G (T.setTop (mkF m pc ls (.int x :: st))) := by
  by_cases q : x = 0
  · exact g_ifY pc' W hd ho hp (teq q).1 (Y q)
  · exact g_ifN W hd (feq q).1 (N q)
theorem g_icmp_ne {o : Int} {x z : Int32} (pc' : Nat) (W : Here p l e R s m args below meth c Z F B h0 A y bytes mL ret T k n os) (hd : decode bytes pc = .ok (.if_icmp .ne o, 3)) (ho : 0 ≤ (pc : Int) + o) (hp : ((pc : Int) + o).toNat = pc') (Y : ¬ (x = z) → Go p e below G (T.setTop (mkF m pc' ls st))) (N : x = z → Go p e below G (T.setTop (mkF m (pc + 3) ls st))) : Go p e below G (T.setTop (mkF m pc ls (.int z :: .int x :: st))) := by
  by_cases q : x = z
  · exact g_icmpN W hd (teq q).2 (N q)
  · exact g_icmpY pc' W hd ho hp (feq q).2 (Y q)
theorem g_if_ne {o : Int} {x : Int32} (pc' : Nat) (W : Here p l e R s m args below meth c Z F B h0 A y bytes mL ret T k n os) (hd : decode bytes pc = .ok (.ifCond .ne o, 3)) (ho : 0 ≤ (pc : Int) + o) (hp : ((pc : Int) + o).toNat = pc') (Y : ¬ (x = 0) → Go p e below G (T.setTop (mkF m pc' ls st))) (N : x = 0 → Go p e below G (T.setTop (mkF m (pc + 3) ls st))) : Go p e below G (T.setTop (mkF m pc ls (.int x :: st))) := by
  by_cases q : x = 0
  · exact g_ifN W hd (teq q).2 (N q)
  · exact g_ifY pc' W hd ho hp (feq q).2 (Y q)
theorem g_lookup {dfl : Int} {pairs : Array (Int × Int)} {len : Nat} {x : Int32} (W : Here p l e R s m args below meth c Z F B h0 A y bytes mL ret T k n os) (hd : decode bytes pc = .ok (.lookupswitch dfl pairs, len)) (hs : (pairs.toList.zip (pairs.toList.drop 1)).all (fun (a, next) => a.1 < next.1) = true) (ho : ∀ q ∈ pairs.toList, 0 ≤ (pc : Int) + q.2) (ho' : 0 ≤ (pc : Int) + dfl)
    (Y : ∀ a off, (a, off) ∈ pairs.toList → x.toInt = a → Go p e below G (T.setTop (mkF m ((pc : Int) + off).toNat ls st))) (N : (∀ q ∈ pairs.toList, q.1 ≠ x.toInt) → Go p e below G (T.setTop (mkF m ((pc : Int) + dfl).toNat ls st))) : Go p e below G (T.setTop (mkF m pc ls (.int x :: st))) := by
  obtain ⟨⟨hx, hZ, hby, -⟩, locs, X, -⟩ := W
  cases hf : pairs.find? (·.1 == x.toInt) with
  | none =>
    have K := N fun q hq e => by
      rw [Array.find?_eq_none] at hf
      exact hf q (Array.mem_toList_iff.mp hq) (by simp [e])
    exact K.by fun t q => X.lookupswitchMiss hx (g := mkF m pc ls (.int x :: st)) rfl rfl (hb hby hd) hs hf ho' t q
  | some q =>
    obtain ⟨a, off⟩ := q
    have h1 := Array.find?_some hf
    have h2 := Array.mem_toList_iff.mpr (Array.mem_of_find?_eq_some hf)
    have K := Y a off h2 (by simpa using (beq_iff_eq.mp h1).symm)
    exact K.by fun t q => X.lookupswitchHit hx (g := mkF m pc ls (.int x :: st)) rfl rfl (hb hby hd) hs hf (ho _ h2) t q
theorem g_ldc_int {i : Nat} {v : Int32} (W : Here p l e R s m args below meth c Z F B h0 A y bytes mL ret T k n os) (w : (Jvm.Cond.constant y.cls i v).before a0 Z = true) (hd : decode bytes pc = .ok (.ldc i, 2)) (K : Go p e below G (T.setTop (mkF m (pc + 2) ls (.int v :: st)))) : Go p e below G (T.setTop (mkF m pc ls st)) := by
  obtain ⟨⟨hx, hZ, hby, -, hown, -⟩, locs, X, -⟩ := W
  exact K.by fun t q => X.ldcInt hx hown (mvT hZ w) (g := mkF m pc ls st) rfl (hb hby hd) t q
theorem g_ldc2_long {i : Nat} {v : Int64} (W : Here p l e R s m args below meth c Z F B h0 A y bytes mL ret T k n os) (w : (Jvm.Cond.constantLong y.cls i v).before a0 Z = true) (hd : decode bytes pc = .ok (.ldc2_w i, 3)) (K : Go p e below G (T.setTop (mkF m (pc + 3) ls (.long v :: st)))) : Go p e below G (T.setTop (mkF m pc ls st)) := by
  obtain ⟨⟨hx, hZ, hby, -, hown, -⟩, locs, X, -⟩ := W
  exact K.by fun t q => X.ldc2Long hx hown (mvT hZ w) (g := mkF m pc ls st) rfl (hb hby hd) t q
theorem g_ireturn {z : Int32} (hT : ret = some .int) {kc ks : Nat} {P : Option Value → List Ob → Prop} (W : Here p l e R s m args below meth c Z F B h0 A y bytes mL ret T k n os) (hd : decode bytes pc = .ok (.ireturn, 1)) (hk : k ≤ kc) (hn : n ≤ ks) (hp : P (some (.int z)) os) : Go p e below (Fin1 below s Z F B h0 A kc ks P) (T.setTop (mkF m pc ls (.int z :: st))) := by
  obtain ⟨⟨hx, hZ, hby, -, hown, hret, hlk, -⟩, locs, X, hL, hI⟩ := W
  obtain ⟨fs, hr, hrun, hended, hW, hsame⟩ := X.leave (v := some (.int z)) (fun h => by rw [hret, hT] at h; cases h) hlk
  exact ⟨_, retOut X hx (hret.trans hT) rfl (Or.inl ⟨rfl, Or.inl rfl, z, rfl⟩) (hb hby hd) hr, hrun, _, locs, hended, ⟨hL.1, os, hI, hp⟩, ⟨_, rfl⟩, hW, hsame.mono hk hn⟩
theorem g_zreturn {z : Int32} (hT : ret = some .boolean) (hz : z &&& 1 = z) {kc ks : Nat} {P : Option Value → List Ob → Prop} (W : Here p l e R s m args below meth c Z F B h0 A y bytes mL ret T k n os) (hd : decode bytes pc = .ok (.ireturn, 1)) (hk : k ≤ kc) (hn : n ≤ ks) (hp : P (some (.int z)) os) : Go p e below (Fin1 below s Z F B h0 A kc ks P) (T.setTop (mkF m pc ls (.int z :: st))) := by
  obtain ⟨⟨hx, hZ, hby, -, hown, hret, hlk, -⟩, locs, X, hL, hI⟩ := W
  obtain ⟨fs, hr, hrun, hended, hW, hsame⟩ := X.leave (v := some (.int z)) (fun h => by rw [hret, hT] at h; cases h) hlk
  exact ⟨_, retOut (t := .boolean) (w := .int z) X hx (hret.trans hT) (show Value.int (z &&& 1) = .int z by rw [hz]) (Or.inl ⟨rfl, Or.inr (Or.inl rfl), z, rfl⟩) (hb hby hd) hr, hrun, _, locs, hended, ⟨hL.1, os, hI, hp⟩, ⟨_, rfl⟩, hW, hsame.mono hk hn⟩
theorem g_lreturn {z : Int64} (hT : ret = some .long) {kc ks : Nat} {P : Option Value → List Ob → Prop} (W : Here p l e R s m args below meth c Z F B h0 A y bytes mL ret T k n os) (hd : decode bytes pc = .ok (.lreturn, 1)) (hk : k ≤ kc) (hn : n ≤ ks) (hp : P (some (.long z)) os) : Go p e below (Fin1 below s Z F B h0 A kc ks P) (T.setTop (mkF m pc ls (.long z :: st))) := by
  obtain ⟨⟨hx, hZ, hby, -, hown, hret, hlk, -⟩, locs, X, hL, hI⟩ := W
  obtain ⟨fs, hr, hrun, hended, hW, hsame⟩ := X.leave (v := some (.long z)) (fun h => by rw [hret, hT] at h; cases h) hlk
  exact ⟨_, retOut X hx (hret.trans hT) rfl (Or.inr (Or.inl ⟨rfl, rfl, z, rfl⟩)) (hb hby hd) hr, hrun, _, locs, hended, ⟨hL.1, os, hI, hp⟩, ⟨_, rfl⟩, hW, hsame.mono hk hn⟩
theorem g_areturn {z : Addr} {t : FieldType} (hT : ret = some t) (ht : t.isReference = true) {kc ks : Nat} {P : Option Value → List Ob → Prop} (W : Here p l e R s m args below meth c Z F B h0 A y bytes mL ret T k n os) (hd : decode bytes pc = .ok (.areturn, 1)) (hk : k ≤ kc) (hn : n ≤ ks) (hp : P (some (.ref z)) os) : Go p e below (Fin1 below s Z F B h0 A kc ks P) (T.setTop (mkF m pc ls (.ref z :: st))) := by
  obtain ⟨⟨hx, hZ, hby, -, hown, hret, hlk, -⟩, locs, X, hL, hI⟩ := W
  obtain ⟨fs, hr, hrun, hended, hW, hsame⟩ := X.leave (v := some (.ref z)) (fun h => by rw [hret, hT] at h; cases h) hlk
  exact ⟨_, retOut X hx (hret.trans hT) (by cases t <;> first | rfl | simp [FieldType.isReference] at ht) (Or.inr (Or.inr (Or.inr (Or.inr ⟨rfl, ht, rfl⟩)))) (hb hby hd) hr, hrun, _, locs, hended, ⟨hL.1, os, hI, hp⟩, ⟨_, rfl⟩, hW, hsame.mono hk hn⟩
theorem g_return (hT : ret = none) {kc ks : Nat} {P : Option Value → List Ob → Prop} (W : Here p l e R s m args below meth c Z F B h0 A y bytes mL ret T k n os) (hd : decode bytes pc = .ok (.return_, 1)) (hk : k ≤ kc) (hn : n ≤ ks) (hp : P (none) os) : Go p e below (Fin1 below s Z F B h0 A kc ks P) (T.setTop (mkF m pc ls ([]))) := by
  obtain ⟨⟨hx, hZ, hby, -, hown, hret, hlk, -⟩, locs, X, hL, hI⟩ := W
  obtain ⟨fs, hr, hrun, hended, hW, hsame⟩ := X.leave (v := none) (fun _ => rfl) hlk
  exact ⟨_, X.returnOut hx (hret.trans hT) (hb hby hd) hr, hrun, _, locs, hended, ⟨hL.1, os, hI, hp⟩, ⟨_, rfl⟩, hW, hsame.mono hk hn⟩
theorem own_bb (v : Int32) : v.toInt8.toInt32.toInt8.toInt32 = v.toInt8.toInt32 := by rw [Int8.toInt8_toInt32]
theorem g_acmp {cd : ACond} {o : Int} {v w : Value} (pc' : Nat) (same : Bool) (W : Here p l e R s m args below meth c Z F B h0 A y bytes mL ret T k n os) (hd : decode bytes pc = .ok (.if_acmp cd o, 3)) (h1 : v.isRef = true) (h2 : w.isRef = true) (hq : decide (v = w) = same) (ho : 0 ≤ (pc : Int) + o) (hp : pc' = if acV cd same = true then ((pc : Int) + o).toNat else pc + 3) (K : Go p e below G (T.setTop (mkF m pc' ls st))) : Go p e below G (T.setTop (mkF m pc ls (w :: v :: st))) := by
  obtain ⟨⟨hx, hZ, hby, -⟩, locs, X, -⟩ := W
  exact K.by fun t q => Jvm.RoadKit.acmp (g := mkF m pc ls (w :: v :: st)) X hx rfl h1 h2 rfl (hb hby hd) rfl hq ho hp q
theorem Here.re {os' : List Ob} (W : Here p l e R s m args below meth c Z F B h0 A y bytes mL ret T k n os) (h : os = os') : Here p l e R s m args below meth c Z F B h0 A y bytes mL ret T k n os' := h ▸ W
theorem Here.kn {k' n' : Nat} (W : Here p l e R s m args below meth c Z F B h0 A y bytes mL ret T k n os) (h : k = k') (h' : n = n') : Here p l e R s m args below meth c Z F B h0 A y bytes mL ret T k' n' os := by subst h h'; exact W
theorem Here.more {k' n' : Nat} (W : Here p l e R s m args below meth c Z F B h0 A y bytes mL ret T k n os) (h : k ≤ k') (h' : n ≤ n') : Here p l e R s m args below meth c Z F B h0 A y bytes mL ret T k' n' os := by
  obtain ⟨H0, locs, X, r⟩ := W
  exact ⟨H0, locs, X.more h h', r⟩
theorem Here.sub {os' : List Ob} (W : Here p l e R s m args below meth c Z F B h0 A y bytes mL ret T k n os) (h : List.Sublist os' os) : Here p l e R s m args below meth c Z F B h0 A y bytes mL ret T k n os' := by
  obtain ⟨H0, locs, X, hL, K, H, O⟩ := W
  exact ⟨H0, locs, X, hL, K, ⟨H.1.sublist (h.map _), fun o ho => H.2.1 o (h.subset ho), H.2.2.1, fun o ho => H.2.2.2 o (h.subset ho)⟩, fun o ho => O o (h.subset ho)⟩
theorem Go.cutW {Hr : State → Prop} {fr : JFrame} {S : State} (K : ∀ T, Hr T → Go p e below G (T.setTop fr)) (M : (∀ T, Hr T → Go p e below G (T.setTop fr)) → Go p e below G S) : Go p e below G S := M K
/-- what the sheet says of a class: its fields are laid, under names of their own -/
def Cls (Z : State) (a0 : Array Value) (F : Fm) (C : String) : Prop := (∀ x ∈ F.1 C, Laid Z a0 C C x.1 x.2 ∧ ∃ t, parseFieldDescriptor x.2 = some t) ∧ ((F.1 C).map (·.1)).Nodup
theorem Cls.ne {C : String} (H : Cls Z a0 F C) {i j : Nat} {x x' : String × String} (hi : (F.1 C)[i]? = some x) (hj : (F.1 C)[j]? = some x') (ne : i ≠ j) : Jvm.RoadKit.slotOf Z C x.1 x.2 ≠ Jvm.RoadKit.slotOf Z C x'.1 x'.2 := by
  obtain ⟨L, t, ht⟩ := H.1 x (List.mem_of_getElem? hi)
  obtain ⟨L', t', ht'⟩ := H.1 x' (List.mem_of_getElem? hj)
  refine slot_ne L L' (fun e => ne ?_) ht ht'
  obtain ⟨h1, e1⟩ := List.getElem?_eq_some_iff.mp hi
  obtain ⟨h2, e2⟩ := List.getElem?_eq_some_iff.mp hj
  refine (List.getElem_inj (xs := (F.1 C).map (·.1)) (h₀ := by simpa using h1) (h₁ := by simpa using h2) H.2).mp ?_
  simp [e1, e2, e]
def dflt (d : String) : Value := ((parseFieldDescriptor d).map defaultValue).getD .null
theorem g_getfield {i index j : Nat} {a : Addr} {C nm d host : String} {vs : List Value} {v : Value} (W : Here p l e R s m args below meth c Z F B h0 A y bytes mL ret T k n os) (w : (Jvm.Cond.fieldLink y.cls index C nm d).before a0 Z = true ∨ (Jvm.Cond.fieldLinkNest y.cls index C nm d host).before a0 Z = true)
    (hi : os[i]? = some (a, .object C, vs)) (hf : (F.1 C)[j]? = some (nm, d)) (hv : vs[j]? = some v) (hd : decode bytes pc = .ok (.getfield index, 3)) (K : ∀ T', Here p l e R s m args below meth c Z F B h0 A y bytes mL ret T' k n os → Go p e below G (T'.setTop (mkF m (pc + 3) ls (v :: st)))) : Go p e below G (T.setTop (mkF m pc ls (.ref a :: st))) := by
  obtain ⟨H0, locs, X, hL, hI⟩ := W
  have O : Oat F Z T.heap a (.object C) vs := hI.2.1.get hi
  obtain ⟨T', X', e', stp⟩ := getF X H0.1 H0.2.1 H0.2.2.2.2.1 w Via.refl rfl (O.2.2 j nm d v hf hv) (g := mkF m pc ls (.ref a :: st)) rfl rfl (hb H0.2.2.1 hd)
  exact (K T' ⟨H0, locs, X', hL, by rw [e']; exact hI⟩).by stp
theorem g_putfield {i index j kk : Nat} {a : Addr} {C nm d host : String} {vs : List Value} {v old : Value} {ty : FieldType} {os' : List Ob} (W : Here p l e R s m args below meth c Z F B h0 A y bytes mL ret T k n os) (w : (Jvm.Cond.fieldLink y.cls index C nm d).before a0 Z = true ∨ (Jvm.Cond.fieldLinkNest y.cls index C nm d host).before a0 Z = true)
    (hC : Cls Z a0 F C) (L : (Jvm.Cond.lays C C nm d).before a0 Z = true ∨ ((Jvm.Cond.laysFinal C C nm d).before a0 Z = true ∧ y.cls = C ∧ y.name = "<init>")) (wi : (Jvm.Cond.instantiable C kk).before a0 Z = true)
    (hi : os[i]? = some (a, .object C, vs)) (hf : (F.1 C)[j]? = some (nm, d)) (hv : vs[j]? = some old) (hty : parseFieldDescriptor d = some ty) (hn : narrow ty v = v) (hfit : fits ty v = true) (ho : os.set i (a, .object C, vs.set j v) = os')
    (hd : decode bytes pc = .ok (.putfield index, 3)) (K : ∀ T', Here p l e R s m args below meth c Z F B h0 A y bytes mL ret T' k n os' → Go p e below G (T'.setTop (mkF m (pc + 3) ls (st)))) : Go p e below G (T.setTop (mkF m pc ls (v :: .ref a :: st))) := by
  obtain ⟨H0, locs, X, hL, hI⟩ := W
  have O : Oat F Z T.heap a (.object C) vs := hI.2.1.get hi
  obtain ⟨E, hlen, hF⟩ := O
  obtain ⟨T', h', X', e', Wr', stp⟩ := putF X H0.1 H0.2.1 H0.2.2.2.2.1 w Via.refl rfl (hF j nm d old hf hv) E (L.imp id fun q => ⟨q.1, q.2.1, H0.2.2.2.2.2.2.2.trans q.2.2⟩) wi hty hn hfit (g := mkF m pc ls (v :: .ref a :: st)) rfl rfl (hb H0.2.2.1 hd)
  refine (K T' ⟨H0, _, X', ⟨fun z hz => ?_, hL.2⟩, ?_⟩).by stp
  · rcases List.mem_append.mp hz with q | q
    · exact hL.1 z q
    · cases List.mem_singleton.mp q; exact (hI.mem hi).ge hL.2.1 hL.2.2
  · rw [e', ← ho]
    refine hI.set hi (Keep.of_wr Wr') ⟨E.wr Wr', by simpa using hlen, fun i' n' d' v' h1 h2 => ?_⟩
    rw [List.getElem?_set] at h2
    split at h2
    · rename_i e1; subst e1
      have : v' = v := by split at h2 <;> simp_all
      cases hf.symm.trans h1
      subst this
      exact (hF j nm d old hf hv).same Wr'
    · rename_i ne
      have q : Jvm.RoadKit.slotOf Z C n' d' ≠ Jvm.RoadKit.slotOf Z C nm d := hC.ne (x := (n', d')) (x' := (nm, d)) h1 hf (Ne.symm ne)
      exact (hF i' n' d' v' h1 h2).other Wr' (Or.inr q)
theorem g_new {index nsl : Nat} {C : String} {vs : List Value} (W : Here p l e R s m args below meth c Z F B h0 A y bytes mL ret T k n os) (w : (Jvm.Cond.classLink y.cls index C).before a0 Z = true) (wi : (Jvm.Cond.instantiable C nsl).before a0 Z = true) (wz : (Jvm.Cond.initialized C).before a0 Z = true) (hC : Cls Z a0 F C) (hvs : (F.1 C).map (fun x => dflt x.2) = vs)
    (hd : decode bytes pc = .ok (.new index, 3)) (hc : k + 1 ≤ R.cells) (hs : n + nsl ≤ R.slots)
    (K : ∀ T' a, Here p l e R s m args below meth c Z F B h0 A y bytes mL ret T' (k + 1) (n + nsl) (os ++ [(a, .object C, vs)]) → Go p e below G (T'.setTop (mkF m (pc + 3) ls (.ref a :: st)))) : Go p e below G (T.setTop (mkF m pc ls st)) := by
  obtain ⟨H0, locs, X, hL, hI⟩ := W
  obtain ⟨T', h', X', e', E', A', D', -, stp⟩ := newO X H0.1 H0.2.1 H0.2.2.2.2.1 w wi wz rfl (g := mkF m pc ls st) rfl (hb H0.2.2.1 hd) hc hs
  refine (K T' T.heap.size ⟨H0, locs, X', hL, ?_⟩).by stp
  rw [e']
  refine hI.push E' ⟨A', by rw [← hvs]; simp, fun i nm d v h1 h2 => ?_⟩
  obtain ⟨La, t, ht⟩ := hC.1 _ (List.mem_of_getElem? h1)
  have q := D' La ht
  rw [← hvs, List.getElem?_map, h1] at h2
  simp only [Option.map_some, dflt, ht, Option.getD_some, Option.some.injEq] at h2
  rw [← h2]; exact q
theorem fits_dflt (aty : ArrayType) : fits (newarray.typeOf aty) (defaultValue (newarray.typeOf aty)) = true := by cases aty <;> rfl
theorem g_newarray {aty : ArrayType} {z : Int32} {ty : FieldType} {vs : List Value} (cap : Nat) (W : Here p l e R s m args below meth c Z F B h0 A y bytes mL ret T k n os) (w : (Jvm.Cond.arrayClass ty).before a0 Z = true) (hty : newarray.typeOf aty = ty) (hz : ¬ z < 0) (hcap : z.toNatClampNeg ≤ cap) (hb8 : cap * 8 ≤ 536870912) (hvs : List.replicate z.toNatClampNeg (defaultValue ty) = vs)
    (hd : decode bytes pc = .ok (.newarray aty, 2)) (hc : k + 1 ≤ R.cells) (hs : n + cap ≤ R.slots)
    (K : ∀ T' a, Here p l e R s m args below meth c Z F B h0 A y bytes mL ret T' (k + 1) (n + cap) (os ++ [(a, .array ty, vs)]) → Go p e below G (T'.setTop (mkF m (pc + 2) ls (.ref a :: st)))) : Go p e below G (T.setTop (mkF m pc ls (.int z :: st))) := by
  obtain ⟨H0, locs, X, hL, hI⟩ := W
  subst hty hvs
  obtain ⟨T', h', cA, X', e', E', A', Ex, stp⟩ := newPE X H0.1 H0.2.1 w rfl (g := mkF m pc ls (.int z :: st)) rfl (hb H0.2.2.1 hd) rfl hz hcap hb8 hc hs rfl
  refine (K T' T.heap.size ⟨H0, locs, X', hL, ?_⟩).by stp
  rw [e']
  refine hI.push E' ⟨Ex, fun v hv => ?_, _, A', by simp [newA]⟩
  rw [(List.mem_replicate.mp hv).2]; exact fits_dflt aty
theorem g_anewarray {index : Nat} {z : Int32} {C : String} {vs : List Value} (cap : Nat) (W : Here p l e R s m args below meth c Z F B h0 A y bytes mL ret T k n os) (w : (Jvm.Cond.classLink y.cls index C).before a0 Z = true) (w2 : (Jvm.Cond.arrayOver (.object C)).before a0 Z = true) (hz : ¬ z < 0) (hcap : z.toNatClampNeg ≤ cap) (hb8 : cap * 8 ≤ 536870912) (hvs : List.replicate z.toNatClampNeg .null = vs)
    (hd : decode bytes pc = .ok (.anewarray index, 3)) (hc : k + 1 ≤ R.cells) (hs : n + cap ≤ R.slots)
    (K : ∀ T' a, Here p l e R s m args below meth c Z F B h0 A y bytes mL ret T' (k + 1) (n + cap) (os ++ [(a, .array (.object C), vs)]) → Go p e below G (T'.setTop (mkF m (pc + 3) ls (.ref a :: st)))) : Go p e below G (T.setTop (mkF m pc ls (.int z :: st))) := by
  obtain ⟨H0, locs, X, hL, hI⟩ := W
  subst hvs
  obtain ⟨T', h', cA, X', e', E', A', Ex, -, stp⟩ := newRE X H0.1 H0.2.1 H0.2.2.2.2.1 w w2 rfl (g := mkF m pc ls (.int z :: st)) rfl (hb H0.2.2.1 hd) rfl hz hcap hb8 hc hs rfl
  refine (K T' T.heap.size ⟨H0, locs, X', hL, ?_⟩).by stp
  rw [e']
  refine hI.push E' ⟨Ex, fun v hv => ?_, _, A', by simp [newA, defaultValue]⟩
  rw [(List.mem_replicate.mp hv).2]; rfl
theorem inb_list {cl : Cell} {vs : List Value} {z : Int32} {v : Value} (S : cl.slots = vs.toArray) (hz : ¬ z < 0) (hv : vs[z.toNatClampNeg]? = some v) : ¬ (z < 0 ∨ cl.slots.size ≤ z.toNatClampNeg) ∧ cl.slots[z.toNatClampNeg]? = some v := by
  have h1 := (List.getElem?_eq_some_iff.mp hv).1
  refine ⟨fun q => q.elim hz fun q => ?_, by rw [S]; simpa using hv⟩
  rw [S] at q; simp at q; omega
theorem g_iaload {i : Nat} {a : Addr} {z : Int32} {vs : List Value} {v : Value} (W : Here p l e R s m args below meth c Z F B h0 A y bytes mL ret T k n os) (hi : os[i]? = some (a, .array .int, vs)) (hz : ¬ z < 0) (hv : vs[z.toNatClampNeg]? = some v) (hd : decode bytes pc = .ok (.iaload, 1)) (K : Go p e below G (T.setTop (mkF m (pc + 1) ls (v :: st)))) : Go p e below G (T.setTop (mkF m pc ls (.int z :: .ref a :: st))) := by
  obtain ⟨H0, locs, X, hL, hI⟩ := W
  have O : Oat F Z T.heap a (.array .int) vs := hI.2.1.get hi
  obtain ⟨E, -, cl, Ar, S⟩ := O
  obtain ⟨h1, h2⟩ := inb_list S hz hv
  exact K.by fun t q => X.iaload H0.1 (j := z) (v := v) Ar.1 (State.isArrayOf_alike H0.2.1.alike Ar.2.1) Ar.2.2 h1 h2 (g := mkF m pc ls (.int z :: .ref a :: st)) rfl rfl (hb H0.2.2.1 hd) t q
theorem g_laload {i : Nat} {a : Addr} {z : Int32} {vs : List Value} {v : Value} (W : Here p l e R s m args below meth c Z F B h0 A y bytes mL ret T k n os) (hi : os[i]? = some (a, .array .long, vs)) (hz : ¬ z < 0) (hv : vs[z.toNatClampNeg]? = some v) (hd : decode bytes pc = .ok (.laload, 1)) (K : Go p e below G (T.setTop (mkF m (pc + 1) ls (v :: st)))) : Go p e below G (T.setTop (mkF m pc ls (.int z :: .ref a :: st))) := by
  obtain ⟨H0, locs, X, hL, hI⟩ := W
  have O : Oat F Z T.heap a (.array .long) vs := hI.2.1.get hi
  obtain ⟨E, -, cl, Ar, S⟩ := O
  obtain ⟨h1, h2⟩ := inb_list S hz hv
  exact K.by fun t q => X.laload H0.1 (j := z) (v := v) Ar.1 (State.isArrayOf_alike H0.2.1.alike Ar.2.1) Ar.2.2 h1 h2 (g := mkF m pc ls (.int z :: .ref a :: st)) rfl rfl (hb H0.2.2.1 hd) t q
theorem g_baload {i : Nat} {a : Addr} {z : Int32} {vs : List Value} {v : Value} (W : Here p l e R s m args below meth c Z F B h0 A y bytes mL ret T k n os) (hi : os[i]? = some (a, .array .byte, vs)) (hz : ¬ z < 0) (hv : vs[z.toNatClampNeg]? = some v) (hd : decode bytes pc = .ok (.baload, 1)) (K : Go p e below G (T.setTop (mkF m (pc + 1) ls (v :: st)))) : Go p e below G (T.setTop (mkF m pc ls (.int z :: .ref a :: st))) := by
  obtain ⟨H0, locs, X, hL, hI⟩ := W
  have O : Oat F Z T.heap a (.array .byte) vs := hI.2.1.get hi
  obtain ⟨E, -, cl, Ar, S⟩ := O
  obtain ⟨h1, h2⟩ := inb_list S hz hv
  exact K.by fun t q => X.baloadBytes H0.1 (j := z) (v := v) Ar.1 (State.isArrayOf_alike H0.2.1.alike Ar.2.1) Ar.2.2 h1 h2 (g := mkF m pc ls (.int z :: .ref a :: st)) rfl rfl (hb H0.2.2.1 hd) t q
theorem g_arraylength {i : Nat} {a : Addr} {ty : FieldType} {vs : List Value} (N : Int32) (W : Here p l e R s m args below meth c Z F B h0 A y bytes mL ret T k n os) (hi : os[i]? = some (a, .array ty, vs)) (hN : vs.length.toInt32 = N) (hd : decode bytes pc = .ok (.arraylength, 1)) (K : Go p e below G (T.setTop (mkF m (pc + 1) ls (.int N :: st)))) : Go p e below G (T.setTop (mkF m pc ls (.ref a :: st))) := by
  obtain ⟨H0, locs, X, hL, hI⟩ := W
  have O : Oat F Z T.heap a (.array ty) vs := hI.2.1.get hi
  obtain ⟨E, -, cl, Ar, S⟩ := O
  have q2 : cl.slots.size.toInt32 = N := by rw [S, ← hN]; simp
  subst q2
  exact K.by fun t q => X.arraylength H0.1 Ar.1 (State.isArrayOf_alike H0.2.1.alike Ar.2.1) (g := mkF m pc ls (.ref a :: st)) rfl rfl (hb H0.2.2.1 hd) t q
theorem Oat.put {h h' : Heap} {a : Addr} {ty : FieldType} {vs : List Value} {cl : Cell} {v : Value} {j : Nat} (O : Oat F Z h a (.array ty) vs) (Ar : Arr Z h a cl ty) (S : cl.slots = vs.toArray) (hf : fits ty v = true) (Wr' : Wr h h' a j v) : Oat F Z h' a (.array ty) (vs.set j v) := by
  obtain ⟨E, f, -⟩ := O
  refine ⟨E.wr Wr', fun u hu => ?_, cl.setSlot j v, Ar.same Wr', by simp [Cell.setSlot, S]⟩
  rcases List.mem_or_eq_of_mem_set hu with q | q
  · exact f u q
  · rw [q]; exact hf
theorem g_iastore {i : Nat} {a : Addr} {z : Int32} {x : Int32} {vs : List Value} {os' : List Ob} (j : Nat) (W : Here p l e R s m args below meth c Z F B h0 A y bytes mL ret T k n os) (hi : os[i]? = some (a, .array .int, vs)) (hz : ¬ z < 0) (hj : z.toNatClampNeg = j) (hlt : j < vs.length) (ho : os.set i (a, .array .int, vs.set j (.int x)) = os')
    (hd : decode bytes pc = .ok (.iastore, 1)) (K : ∀ T', Here p l e R s m args below meth c Z F B h0 A y bytes mL ret T' k n os' → Go p e below G (T'.setTop (mkF m (pc + 1) ls (st)))) : Go p e below G (T.setTop (mkF m pc ls (.int x :: .int z :: .ref a :: st))) := by
  obtain ⟨H0, locs, X, hL, hI⟩ := W
  have O : Oat F Z T.heap a (.array .int) vs := hI.2.1.get hi
  obtain ⟨E, -, cl, Ar, S⟩ := id O
  have hin : ¬ (z < 0 ∨ cl.slots.size ≤ z.toNatClampNeg) := fun q => q.elim hz fun q => by rw [S] at q; simp at q; omega
  obtain ⟨T', h', X', e', Wr', stp⟩ := stI X H0.1 H0.2.1 rfl Ar (j := z) hin (g := mkF m pc ls (.int x :: .int z :: .ref a :: st)) rfl rfl (hb H0.2.2.1 hd)
  subst hj
  refine (K T' ⟨H0, _, X', ⟨fun z hz => ?_, hL.2⟩, ?_⟩).by stp
  · rcases List.mem_append.mp hz with q | q
    · exact hL.1 z q
    · cases List.mem_singleton.mp q; exact (hI.mem hi).ge hL.2.1 hL.2.2
  · rw [e', ← ho]
    exact hI.set hi (Keep.of_wr Wr') (O.put Ar S rfl Wr')
theorem g_lastore {i : Nat} {a : Addr} {z : Int32} {x : Int64} {vs : List Value} {os' : List Ob} (j : Nat) (W : Here p l e R s m args below meth c Z F B h0 A y bytes mL ret T k n os) (hi : os[i]? = some (a, .array .long, vs)) (hz : ¬ z < 0) (hj : z.toNatClampNeg = j) (hlt : j < vs.length) (ho : os.set i (a, .array .long, vs.set j (.long x)) = os')
    (hd : decode bytes pc = .ok (.lastore, 1)) (K : ∀ T', Here p l e R s m args below meth c Z F B h0 A y bytes mL ret T' k n os' → Go p e below G (T'.setTop (mkF m (pc + 1) ls (st)))) : Go p e below G (T.setTop (mkF m pc ls (.long x :: .int z :: .ref a :: st))) := by
  obtain ⟨H0, locs, X, hL, hI⟩ := W
  have O : Oat F Z T.heap a (.array .long) vs := hI.2.1.get hi
  obtain ⟨E, -, cl, Ar, S⟩ := id O
  have hin : ¬ (z < 0 ∨ cl.slots.size ≤ z.toNatClampNeg) := fun q => q.elim hz fun q => by rw [S] at q; simp at q; omega
  obtain ⟨T', h', X', e', Wr', stp⟩ := stJ X H0.1 H0.2.1 rfl Ar (j := z) hin (g := mkF m pc ls (.long x :: .int z :: .ref a :: st)) rfl rfl (hb H0.2.2.1 hd)
  subst hj
  refine (K T' ⟨H0, _, X', ⟨fun z hz => ?_, hL.2⟩, ?_⟩).by stp
  · rcases List.mem_append.mp hz with q | q
    · exact hL.1 z q
    · cases List.mem_singleton.mp q; exact (hI.mem hi).ge hL.2.1 hL.2.2
  · rw [e', ← ho]
    exact hI.set hi (Keep.of_wr Wr') (O.put Ar S rfl Wr')
theorem g_bastore {i : Nat} {a : Addr} {z : Int32} {x : Int32} {x' : Int32} (hx' : x.toInt8.toInt32 = x') {vs : List Value} {os' : List Ob} (j : Nat) (W : Here p l e R s m args below meth c Z F B h0 A y bytes mL ret T k n os) (hi : os[i]? = some (a, .array .byte, vs)) (hz : ¬ z < 0) (hj : z.toNatClampNeg = j) (hlt : j < vs.length) (ho : os.set i (a, .array .byte, vs.set j (.int x')) = os')
    (hd : decode bytes pc = .ok (.bastore, 1)) (K : ∀ T', Here p l e R s m args below meth c Z F B h0 A y bytes mL ret T' k n os' → Go p e below G (T'.setTop (mkF m (pc + 1) ls (st)))) : Go p e below G (T.setTop (mkF m pc ls (.int x :: .int z :: .ref a :: st))) := by
  obtain ⟨H0, locs, X, hL, hI⟩ := W
  have O : Oat F Z T.heap a (.array .byte) vs := hI.2.1.get hi
  obtain ⟨E, -, cl, Ar, S⟩ := id O
  have hin : ¬ (z < 0 ∨ cl.slots.size ≤ z.toNatClampNeg) := fun q => q.elim hz fun q => by rw [S] at q; simp at q; omega
  obtain ⟨T', h', X', e', Wr', stp⟩ := stB X H0.1 H0.2.1 rfl Ar (j := z) hin (g := mkF m pc ls (.int x :: .int z :: .ref a :: st)) rfl rfl (hb H0.2.2.1 hd)
  subst hj
  subst hx'
  refine (K T' ⟨H0, _, X', ⟨fun z hz => ?_, hL.2⟩, ?_⟩).by stp
  · rcases List.mem_append.mp hz with q | q
    · exact hL.1 z q
    · cases List.mem_singleton.mp q; exact (hI.mem hi).ge hL.2.1 hL.2.2
  · rw [e', ← ho]
    exact hI.set hi (Keep.of_wr Wr') (O.put Ar S (fits_nar_byte x) Wr')
theorem g_zastore {i : Nat} {a : Addr} {z : Int32} {x : Int32} {x' : Int32} (hx' : x &&& 1 = x') {vs : List Value} {os' : List Ob} (j : Nat) (W : Here p l e R s m args below meth c Z F B h0 A y bytes mL ret T k n os) (hi : os[i]? = some (a, .array .boolean, vs)) (hz : ¬ z < 0) (hj : z.toNatClampNeg = j) (hlt : j < vs.length) (ho : os.set i (a, .array .boolean, vs.set j (.int x')) = os')
    (hd : decode bytes pc = .ok (.bastore, 1)) (K : ∀ T', Here p l e R s m args below meth c Z F B h0 A y bytes mL ret T' k n os' → Go p e below G (T'.setTop (mkF m (pc + 1) ls (st)))) : Go p e below G (T.setTop (mkF m pc ls (.int x :: .int z :: .ref a :: st))) := by
  obtain ⟨H0, locs, X, hL, hI⟩ := W
  have O : Oat F Z T.heap a (.array .boolean) vs := hI.2.1.get hi
  obtain ⟨E, -, cl, Ar, S⟩ := id O
  have hin : ¬ (z < 0 ∨ cl.slots.size ≤ z.toNatClampNeg) := fun q => q.elim hz fun q => by rw [S] at q; simp at q; omega
  obtain ⟨T', h', X', e', Wr', stp⟩ := stZ X H0.1 H0.2.1 rfl Ar (j := z) hin (g := mkF m pc ls (.int x :: .int z :: .ref a :: st)) rfl rfl (hb H0.2.2.1 hd)
  subst hj
  subst hx'
  refine (K T' ⟨H0, _, X', ⟨fun z hz => ?_, hL.2⟩, ?_⟩).by stp
  · rcases List.mem_append.mp hz with q | q
    · exact hL.1 z q
    · cases List.mem_singleton.mp q; exact (hI.mem hi).ge hL.2.1 hL.2.2
  · rw [e', ← ho]
    exact hI.set hi (Keep.of_wr Wr') (O.put Ar S (fits_nar_bool x) Wr')
/-- os is loc and rst, in another order -/
def Spl (os loc rst : List Ob) : Prop := ∃ pm : List Nat, pm.Nodup ∧ (loc ++ rst).map some = pm.map (fun i => os[i]?)
theorem Spl.none : Spl os [] os := ⟨List.range os.length, List.nodup_range, by
  refine List.ext_getElem? fun i => ?_
  simp only [List.nil_append, List.getElem?_map]
  by_cases h : i < os.length
  · simp [h]
  · simp [h]⟩
theorem Spl.all : Spl os os [] := by obtain ⟨pm, h1, h2⟩ := Spl.none (os := os); exact ⟨pm, h1, by simpa using h2⟩
theorem Spl.mem {loc rst : List Ob} (S : Spl os loc rst) {o : Ob} (ho : o ∈ loc ++ rst) : o ∈ os := by
  obtain ⟨pm, -, h2⟩ := S
  have q : some o ∈ pm.map (fun i => os[i]?) := h2 ▸ List.mem_map.mpr ⟨o, ho, rfl⟩
  obtain ⟨i, -, hi⟩ := List.mem_map.mp q
  exact List.mem_of_getElem? hi
theorem Spl.nodup {loc rst : List Ob} (S : Spl os loc rst) (hn : (os.map (·.1)).Nodup) : ((loc ++ rst).map (·.1)).Nodup := by
  obtain ⟨pm, h1, h2⟩ := S
  generalize loc ++ rst = L at h2
  have key : ∀ i, (L[i]?).map some = (pm[i]?).map (fun j => os[j]?) := fun i => by rw [← List.getElem?_map, h2, List.getElem?_map]
  have key2 : ∀ i o, L[i]? = some o → ∃ j, pm[i]? = some j ∧ os[j]? = some o := fun i o ho => by
    have q := key i
    rw [ho] at q
    cases hp : pm[i]? with
    | none => simp [hp] at q
    | some j => simp [hp] at q; exact ⟨j, hp, q.symm⟩
  rw [List.nodup_iff_pairwise_ne, List.pairwise_iff_getElem]
  intro i j hi hj hij e
  simp only [List.length_map] at hi hj
  obtain ⟨oj, hoj⟩ : ∃ o, L[j]? = some o := ⟨L[j], List.getElem?_eq_getElem hj⟩
  obtain ⟨oi, hoi⟩ : ∃ o, L[i]? = some o := ⟨L[i], List.getElem?_eq_getElem hi⟩
  have e : oi.1 = oj.1 := by
    simp only [List.getElem_map] at e
    rw [List.getElem?_eq_getElem hi] at hoi
    rw [List.getElem?_eq_getElem hj] at hoj
    rw [← Option.some.inj hoi, ← Option.some.inj hoj]; exact e
  obtain ⟨i', p1, q1⟩ := key2 i oi hoi
  obtain ⟨j', p2, q2⟩ := key2 j oj hoj
  have e2 := nodup_at hn (i := i') (j := j') (a := oi.1) (by rw [List.getElem?_map, q1]; rfl) (by rw [List.getElem?_map, q2, e]; rfl)
  subst e2
  obtain ⟨u1, u2⟩ := List.getElem?_eq_some_iff.mp p1
  obtain ⟨u3, u4⟩ := List.getElem?_eq_some_iff.mp p2
  exact absurd ((List.getElem_inj h1).mp (u2.trans u4.symm)) (Nat.ne_of_lt hij)
theorem Spl.loc {loc rst : List Ob} {h : Heap} (S : Spl os loc rst) (H : Hp F Z h os) : Hp F Z h loc :=
  ⟨by have q := S.nodup H.1; rw [List.map_append] at q; exact (List.nodup_append.mp q).1, fun o ho => H.2.1 o (S.mem (List.mem_append_left _ ho)), H.2.2.1, fun o ho => H.2.2.2 o (S.mem (List.mem_append_left _ ho))⟩
theorem Spl.after {loc rst os' : List Ob} {h h' : Heap} (S : Spl os loc rst) (I : Hin F Z h0 A h os) (I' : Hin F Z h (loc.map (·.1)) h' os') : Hin F Z h0 A h' (os' ++ rst) := by
  have nd := S.nodup I.2.1.1
  rw [List.map_append] at nd
  obtain ⟨n1, n2, n3⟩ := List.nodup_append.mp nd
  have hloc : ∀ x ∈ loc.map (·.1), Okk A h0.size x := fun x hx => by
    obtain ⟨o, ho, rfl⟩ := List.mem_map.mp hx
    exact I.2.2 o (S.mem (List.mem_append_left _ ho))
  refine ⟨I.1.trans I'.1 hloc, ⟨?_, fun o ho => ?_, I'.2.1.2.2.1, fun o ho x hx => (List.mem_append.mp ho).elim (fun q => I'.2.1.2.2.2 o q x hx) fun q => I.2.1.2.2.2 o (S.mem (List.mem_append_right _ q)) x hx⟩, fun o ho => ?_⟩
  · rw [List.map_append, List.nodup_append]
    refine ⟨I'.2.1.1, n2, fun a ha b hb e => ?_⟩
    subst e
    obtain ⟨o, ho, rfl⟩ := List.mem_map.mp ha
    rcases I'.2.2 o ho with q | q
    · exact n3 _ q _ hb rfl
    · obtain ⟨o2, ho2, e2⟩ := List.mem_map.mp hb
      have := (I.2.1.2.1 o2 (S.mem (List.mem_append_right _ ho2))).lt
      rw [e2] at this
      exact absurd this (Nat.not_lt.mpr q)
  · rcases List.mem_append.mp ho with q | q
    · exact I'.2.1.2.1 o q
    · exact (I.2.1.2.1 o (S.mem (List.mem_append_right _ q))).keep I'.1 (fun z => n3 _ z _ (List.mem_map.mpr ⟨o, q, rfl⟩) rfl)
  · rcases List.mem_append.mp ho with q | q
    · rcases I'.2.2 o q with z | z
      · exact hloc _ z
      · exact Or.inr (Nat.le_trans I.1.1 z)
    · exact I.2.2 o (S.mem (List.mem_append_right _ q))
theorem Spl.locs {locs L : List Loc} (hL : (∀ y ∈ locs, B ≤ y.base) ∧ (∀ a ∈ A, B ≤ a) ∧ B ≤ h0.size) (hL' : ∀ y ∈ L, B ≤ y.base) : (∀ y ∈ locs ++ L, B ≤ y.base) ∧ (∀ a ∈ A, B ≤ a) ∧ B ≤ h0.size :=
  ⟨fun y hy => (List.mem_append.mp hy).elim (hL.1 y) (hL' y), hL.2⟩
theorem Spl.ge {loc rst : List Ob} {h : Heap} {locs : List Loc} (S : Spl os loc rst) (I : Hin F Z h0 A h os) (hL : (∀ y ∈ locs, B ≤ y.base) ∧ (∀ a ∈ A, B ≤ a) ∧ B ≤ h0.size) : ∀ a ∈ loc.map (·.1), B ≤ a := fun a ha => by
  obtain ⟨o, ho, e⟩ := List.mem_map.mp ha
  rw [← e]; exact (I.2.2 o (S.mem (List.mem_append_left _ ho))).ge hL.2.1 hL.2.2
theorem g_static {index Wt : Nat} {y' : MethodName} {bytes' : ByteArray} {mL' : Nat} {ret' : Option FieldType} {rm : Room} {as : Array Value} {loc rst : List Ob} {P : Option Value → List Ob → Prop} {argsL rest : List Value} {ps : List FieldType} {r : Option FieldType} (W : Here p l e R s m args below meth c Z F B h0 A y bytes mL ret T k n os) (w1 : (Jvm.Cond.methodLink y.cls index y').before a0 Z = true) (w2 : (Jvm.Cond.static y').before a0 Z = true) (w3 : (Jvm.Cond.initialized y'.cls).before a0 Z = true) (w4 : (Jvm.Cond.code y' bytes' mL' ret').before a0 Z = true)
    (hy : y'.cls ≠ "java/lang/invoke/MethodHandle" ∧ y'.cls ≠ "java/lang/invoke/VarHandle") (C : Con l Z F B y' bytes' mL' ret' rm [] as loc P) (S : Spl os loc rst) (has : as = argsL.toArray) (hpd : parseMethodDescriptor y'.desc = some ⟨ps, r⟩) (hpl : argsL.length = ps.length)
    (hst : st = argsL.reverse ++ rest) (hsz : ls.size = mL) (hW : (rest.map fun v => v.category).sum ≤ Wt) (hfr : rm.frames + 1 ≤ R.frames) (hlo : Wt + (mL' + 11) + rm.locals ≤ R.locals) (hc : k + rm.cells ≤ R.cells) (hs : n + rm.slots ≤ R.slots) (hd : decode bytes pc = .ok (.invokestatic index, 3)) (K : ∀ T' v os', P v os' → Here p l e R s m args below meth c Z F B h0 A y bytes mL ret T' (k + rm.cells) (n + rm.slots) (os' ++ rst) → Go p e below G (T'.setTop (mkF m (pc + 3) ls (v.toList ++ rest)))) : Go p e below G (T.setTop (mkF m pc ls st)) := by
  obtain ⟨H0, locs, X, hL, hI⟩ := W
  subst has hst
  obtain ⟨v, _, ⟨T', L', k', n'⟩, -, X', ⟨Lc, hQ, l1, y1, z1⟩, stp⟩ := Jvm.LawKit.callS X H0.1 (y := y') H0.2.2.2.2.1 (mvT H0.2.1 w1) (mvT H0.2.1 w2) (mvT H0.2.1 w3) (mvT H0.2.1 w4) hy (backOf (W := Wt) (C T.heap (S.loc hI.2.1) (S.ge hI hL) (Nat.le_trans hL.2.2 hI.1.1)) H0.2.1 w4 w3 hfr hlo) (g := mkF m pc ls (argsL.reverse ++ rest)) rfl (hsz.trans H0.2.2.2.1.symm) (argsL := argsL) (rest := rest) (lenOf hpd hpl) rfl (by show 2 * 0 + _ ≤ _; omega) (hb H0.2.2.1 hd) (fun _ _ => ⟨rfl, rfl, hc, hs⟩)
  dsimp only [Pt.U, Pt.locs, Pt.cells, Pt.slots] at X' l1 y1 z1 stp hQ
  subst l1 y1 z1
  obtain ⟨hLc, os', hI', hp⟩ := hQ
  exact (K T' v os' hp ⟨H0, _, X', Spl.locs hL hLc, S.after hI hI'⟩).by stp
theorem Go.to {S S' : State} (h : Steps p.tables e below S S') (g : Go p e below G S') : Go p e below G S := by
  obtain ⟨t, h', g⟩ := g; exact ⟨t, h.trans h', g⟩
theorem g_init {index Wt : Nat} {y' : MethodName} {bytes' : ByteArray} {mL' : Nat} {rm : Room} {as : Array Value} {loc rst : List Ob} {P : Option Value → List Ob → Prop} {argsL rest : List Value} {ps : List FieldType} {r : Option FieldType} {a : Addr} (W : Here p l e R s m args below meth c Z F B h0 A y bytes mL ret T k n os) (hy1 : y'.name = "<init>") (w1 : (Jvm.Cond.methodLink y.cls index y').before a0 Z = true) (w2 : (Jvm.Cond.instanceMethod y').before a0 Z = true) (w3 : (Jvm.Cond.initialized y'.cls).before a0 Z = true) (w4 : (Jvm.Cond.code y' bytes' mL' none).before a0 Z = true)
    (hy : y'.cls ≠ "java/lang/invoke/MethodHandle" ∧ y'.cls ≠ "java/lang/invoke/VarHandle") (C : Con l Z F B y' bytes' mL' none rm [] as loc P) (S : Spl os loc rst) (has : as = (.ref a :: argsL).toArray) (hpd : parseMethodDescriptor y'.desc = some ⟨ps, r⟩) (hpl : argsL.length = ps.length)
    (hst : st = argsL.reverse ++ .ref a :: rest) (hsz : ls.size = mL) (hW : (rest.map fun v => v.category).sum ≤ Wt) (hfr : rm.frames + 1 ≤ R.frames) (hlo : Wt + (mL' + 11) + rm.locals ≤ R.locals) (hc : k + rm.cells ≤ R.cells) (hs : n + rm.slots ≤ R.slots) (hd : decode bytes pc = .ok (.invokespecial index, 3)) (K : ∀ T' v os', P v os' → Here p l e R s m args below meth c Z F B h0 A y bytes mL ret T' (k + rm.cells) (n + rm.slots) (os' ++ rst) → Go p e below G (T'.setTop (mkF m (pc + 3) ls (v.toList ++ rest)))) : Go p e below G (T.setTop (mkF m pc ls st)) := by
  obtain ⟨H0, locs, X, hL, hI⟩ := W
  subst has hst
  obtain ⟨v, _, ⟨T', L', k', n'⟩, -, X', ⟨Lc, hQ, l1, y1, z1⟩, stp⟩ := X.specialBack H0.1 (y := y') hy1 H0.2.2.2.2.1 (mvT H0.2.1 w1) (mvT H0.2.1 w2) (mvT H0.2.1 w4) hy (backOf (W := Wt) (C T.heap (S.loc hI.2.1) (S.ge hI hL) (Nat.le_trans hL.2.2 hI.1.1)) H0.2.1 w4 w3 hfr hlo) (g := mkF m pc ls (argsL.reverse ++ .ref a :: rest)) rfl (hsz.trans H0.2.2.2.1.symm) (Steps.refl _) (a := a) (argsL := argsL) (rest := rest) (lenOf hpd hpl) rfl (by show 2 * 0 + _ ≤ _; omega) (hb H0.2.2.1 hd) (fun _ _ => ⟨rfl, rfl, hc, hs⟩)
  dsimp only [Pt.U, Pt.locs, Pt.cells, Pt.slots] at X' l1 y1 z1 stp hQ
  subst l1 y1 z1
  obtain ⟨hLc, os', hI', hp⟩ := hQ
  exact (K T' v os' hp ⟨H0, _, X', Spl.locs hL hLc, S.after hI hI'⟩).to stp
theorem g_virtual {index Wt : Nat} {y' : MethodName} {bytes' : ByteArray} {mL' : Nat} {ret' : Option FieldType} {rm : Room} {as : Array Value} {loc rst : List Ob} {P : Option Value → List Ob → Prop} {argsL rest : List Value} {ps : List FieldType} {r : Option FieldType} {a : Addr} {i : Nat} {vs : List Value} (W : Here p l e R s m args below meth c Z F B h0 A y bytes mL ret T k n os) (w1 : (Jvm.Cond.methodLink y.cls index y').before a0 Z = true) (w2 : (Jvm.Cond.instanceMethod y').before a0 Z = true) (w3 : (Jvm.Cond.initialized y'.cls).before a0 Z = true) (w4 : (Jvm.Cond.code y' bytes' mL' ret').before a0 Z = true)
    (w5 : (Jvm.Cond.declares y').before a0 Z = true) (w6 : (Jvm.Cond.selects y'.cls y' y').before a0 Z = true) (hi : os[i]? = some (a, .object y'.cls, vs))
    (hy : y'.cls ≠ "java/lang/invoke/MethodHandle" ∧ y'.cls ≠ "java/lang/invoke/VarHandle") (C : Con l Z F B y' bytes' mL' ret' rm [] as loc P) (S : Spl os loc rst) (has : as = (.ref a :: argsL).toArray) (hpd : parseMethodDescriptor y'.desc = some ⟨ps, r⟩) (hpl : argsL.length = ps.length)
    (hst : st = argsL.reverse ++ .ref a :: rest) (hsz : ls.size = mL) (hW : (rest.map fun v => v.category).sum ≤ Wt) (hfr : rm.frames + 1 ≤ R.frames) (hlo : Wt + (mL' + 11) + rm.locals ≤ R.locals) (hc : k + rm.cells ≤ R.cells) (hs : n + rm.slots ≤ R.slots) (hd : decode bytes pc = .ok (.invokevirtual index, 3)) (K : ∀ T' v os', P v os' → Here p l e R s m args below meth c Z F B h0 A y bytes mL ret T' (k + rm.cells) (n + rm.slots) (os' ++ rst) → Go p e below G (T'.setTop (mkF m (pc + 3) ls (v.toList ++ rest)))) : Go p e below G (T.setTop (mkF m pc ls st)) := by
  obtain ⟨H0, locs, X, hL, hI⟩ := W
  subst has hst
  have O : Oat F Z T.heap a (.object y'.cls) vs := hI.2.1.get hi
  obtain ⟨cq, kq, qa, qb, qc⟩ := isOf H0.2.1 rfl O.1
  obtain ⟨v, _, ⟨T', L', k', n'⟩, -, X', ⟨Lc, hQ, l1, y1, z1⟩, stp⟩ := X.virtualBack H0.1 (y := y') (z := y') H0.2.2.2.2.1 (mvT H0.2.1 w1) (mvT H0.2.1 w5) (notFace_of_selects (args := #[]) (mvT H0.2.1 w6)) (mvT H0.2.1 w6) (mvT H0.2.1 w2) hy (backOf (W := Wt) (C T.heap (S.loc hI.2.1) (S.ge hI hL) (Nat.le_trans hL.2.2 hI.1.1)) H0.2.1 w4 w3 hfr hlo) qa qc (g := mkF m pc ls (argsL.reverse ++ .ref a :: rest)) rfl (hsz.trans H0.2.2.2.1.symm) (Steps.refl _) (argsL := argsL) (rest := rest) (lenOf hpd hpl) rfl (by show 2 * 0 + _ ≤ _; omega) (hb H0.2.2.1 hd) (fun _ _ => ⟨rfl, rfl, hc, hs⟩)
  dsimp only [Pt.U, Pt.locs, Pt.cells, Pt.slots] at X' l1 y1 z1 stp hQ
  subst l1 y1 z1
  obtain ⟨hLc, os', hI', hp⟩ := hQ
  exact (K T' v os' hp ⟨H0, _, X', Spl.locs hL hLc, S.after hI hI'⟩).to stp
theorem g_virtualR {index Wt : Nat} {y' : MethodName} {bytes' : ByteArray} {mL' : Nat} {ret' : Option FieldType} {rm : Room} {as : Array Value} {loc rst : List Ob} {P : Option Value → List Ob → Prop} {argsL rest : List Value} {ps : List FieldType} {r : Option FieldType} {a : Addr} (W : Here p l e R s m args below meth c Z F B h0 A y bytes mL ret T k n os) (w1 : (Jvm.Cond.methodLink y.cls index y').before a0 Z = true) (w2 : (Jvm.Cond.instanceMethod y').before a0 Z = true) (w3 : (Jvm.Cond.initialized y'.cls).before a0 Z = true) (w4 : (Jvm.Cond.code y' bytes' mL' ret').before a0 Z = true)
    (w5 : (Jvm.Cond.declares y').before a0 Z = true) (w6 : (Jvm.Cond.selects y'.cls y' y').before a0 Z = true) (hE : ∀ h, Hp F Z h os → Exa Z h a y'.cls)
    (hy : y'.cls ≠ "java/lang/invoke/MethodHandle" ∧ y'.cls ≠ "java/lang/invoke/VarHandle") (C : Con l Z F B y' bytes' mL' ret' rm [] as loc P) (S : Spl os loc rst) (has : as = (.ref a :: argsL).toArray) (hpd : parseMethodDescriptor y'.desc = some ⟨ps, r⟩) (hpl : argsL.length = ps.length)
    (hst : st = argsL.reverse ++ .ref a :: rest) (hsz : ls.size = mL) (hW : (rest.map fun v => v.category).sum ≤ Wt) (hfr : rm.frames + 1 ≤ R.frames) (hlo : Wt + (mL' + 11) + rm.locals ≤ R.locals) (hc : k + rm.cells ≤ R.cells) (hs : n + rm.slots ≤ R.slots) (hd : decode bytes pc = .ok (.invokevirtual index, 3)) (K : ∀ T' v os', P v os' → Here p l e R s m args below meth c Z F B h0 A y bytes mL ret T' (k + rm.cells) (n + rm.slots) (os' ++ rst) → Go p e below G (T'.setTop (mkF m (pc + 3) ls (v.toList ++ rest)))) : Go p e below G (T.setTop (mkF m pc ls st)) := by
  obtain ⟨H0, locs, X, hL, hI⟩ := W
  subst has hst
  obtain ⟨cq, kq, qa, qb, qc⟩ := isOf H0.2.1 rfl (hE _ hI.2.1)
  obtain ⟨v, _, ⟨T', L', k', n'⟩, -, X', ⟨Lc, hQ, l1, y1, z1⟩, stp⟩ := X.virtualBack H0.1 (y := y') (z := y') H0.2.2.2.2.1 (mvT H0.2.1 w1) (mvT H0.2.1 w5) (notFace_of_selects (args := #[]) (mvT H0.2.1 w6)) (mvT H0.2.1 w6) (mvT H0.2.1 w2) hy (backOf (W := Wt) (C T.heap (S.loc hI.2.1) (S.ge hI hL) (Nat.le_trans hL.2.2 hI.1.1)) H0.2.1 w4 w3 hfr hlo) qa qc (g := mkF m pc ls (argsL.reverse ++ .ref a :: rest)) rfl (hsz.trans H0.2.2.2.1.symm) (Steps.refl _) (argsL := argsL) (rest := rest) (lenOf hpd hpl) rfl (by show 2 * 0 + _ ≤ _; omega) (hb H0.2.2.1 hd) (fun _ _ => ⟨rfl, rfl, hc, hs⟩)
  dsimp only [Pt.U, Pt.locs, Pt.cells, Pt.slots] at X' l1 y1 z1 stp hQ
  subst l1 y1 z1
  obtain ⟨hLc, os', hI', hp⟩ := hQ
  exact (K T' v os' hp ⟨H0, _, X', Spl.locs hL hLc, S.after hI hI'⟩).to stp
theorem g_interface {index Wt : Nat} {count : Nat} {C' : String} {xi y' : MethodName} {bytes' : ByteArray} {mL' : Nat} {ret' : Option FieldType} {rm : Room} {as : Array Value} {loc rst : List Ob} {P : Option Value → List Ob → Prop} {argsL rest : List Value} {ps : List FieldType} {r : Option FieldType} {a : Addr} (W : Here p l e R s m args below meth c Z F B h0 A y bytes mL ret T k n os) (w1 : (Jvm.Cond.methodLink y.cls index xi).before a0 Z = true) (w2 : (Jvm.Cond.instanceMethod y').before a0 Z = true) (w3 : (Jvm.Cond.initialized y'.cls).before a0 Z = true) (w4 : (Jvm.Cond.code y' bytes' mL' ret').before a0 Z = true)
    (w5 : (Jvm.Cond.declares xi).before a0 Z = true) (w6 : (Jvm.Cond.interfaceMethod xi.cls xi.cls xi.name xi.desc).before a0 Z = true) (h6 : ((Jvm.Cond.interfaceMethod xi.cls xi.cls xi.name xi.desc).onTables && (Jvm.Cond.interfaceMethod xi.cls xi.cls xi.name xi.desc).keepsFace) = true) (w7 : (Jvm.Cond.selects C' xi y').before a0 Z = true) (w8 : (Jvm.Cond.publicMethod y').before a0 Z = true) (w9 : (Jvm.Cond.unhidden C' xi.name xi.desc).before a0 Z = true) (w10 : (Jvm.Cond.castable C' xi.cls).before a0 Z = true) (hE : ∀ h, Hp F Z h os → Exa Z h a C')
    (hy : xi.cls ≠ "java/lang/invoke/MethodHandle" ∧ xi.cls ≠ "java/lang/invoke/VarHandle") (C : Con l Z F B y' bytes' mL' ret' rm [] as loc P) (S : Spl os loc rst) (has : as = (.ref a :: argsL).toArray) (hpd : parseMethodDescriptor xi.desc = some ⟨ps, r⟩) (hpl : argsL.length = ps.length)
    (hst : st = argsL.reverse ++ .ref a :: rest) (hsz : ls.size = mL) (hW : (rest.map fun v => v.category).sum ≤ Wt) (hfr : rm.frames + 1 ≤ R.frames) (hlo : Wt + (mL' + 11) + rm.locals ≤ R.locals) (hc : k + rm.cells ≤ R.cells) (hs : n + rm.slots ≤ R.slots) (hd : decode bytes pc = .ok (.invokeinterface index count, 5)) (K : ∀ T' v os', P v os' → Here p l e R s m args below meth c Z F B h0 A y bytes mL ret T' (k + rm.cells) (n + rm.slots) (os' ++ rst) → Go p e below G (T'.setTop (mkF m (pc + 5) ls (v.toList ++ rest)))) : Go p e below G (T.setTop (mkF m pc ls st)) := by
  obtain ⟨H0, locs, X, hL, hI⟩ := W
  subst has hst
  obtain ⟨cq, kq, qa, qb, qc⟩ := isOf H0.2.1 rfl (hE _ hI.2.1)
  obtain ⟨v, _, ⟨T', L', k', n'⟩, -, X', ⟨Lc, hQ, l1, y1, z1⟩, stp⟩ := X.interfaceBack H0.1 (xi := xi) (y := y') H0.2.2.2.2.1 (mvT H0.2.1 w1) (mvT H0.2.1 w5) (mvT H0.2.1 w6 h6) (mvT H0.2.1 w7) (mvT H0.2.1 w2) (mvT H0.2.1 w8) (mvT H0.2.1 w9) (mvT H0.2.1 w10) hy (backOf (W := Wt) (C T.heap (S.loc hI.2.1) (S.ge hI hL) (Nat.le_trans hL.2.2 hI.1.1)) H0.2.1 w4 w3 hfr hlo) qa qb qc (g := mkF m pc ls (argsL.reverse ++ .ref a :: rest)) rfl (hsz.trans H0.2.2.2.1.symm) (Steps.refl _) (argsL := argsL) (rest := rest) (lenOf hpd hpl) rfl (by show 2 * 0 + _ ≤ _; omega) (hb H0.2.2.1 hd) (fun _ _ => ⟨rfl, rfl, hc, hs⟩)
  dsimp only [Pt.U, Pt.locs, Pt.cells, Pt.slots] at X' l1 y1 z1 stp hQ
  subst l1 y1 z1
  obtain ⟨hLc, os', hI', hp⟩ := hQ
  exact (K T' v os' hp ⟨H0, _, X', Spl.locs hL hLc, S.after hI hI'⟩).to stp
theorem g_staticN {index Wt : Nat} {host : String} {y' : MethodName} {bytes' : ByteArray} {mL' : Nat} {ret' : Option FieldType} {rm : Room} {as : Array Value} {loc rst : List Ob} {P : Option Value → List Ob → Prop} {argsL rest : List Value} {ps : List FieldType} {r : Option FieldType} (W : Here p l e R s m args below meth c Z F B h0 A y bytes mL ret T k n os) (w1 : (Jvm.Cond.methodLinkNest y.cls index y' host).before a0 Z = true) (w2 : (Jvm.Cond.static y').before a0 Z = true) (w3 : (Jvm.Cond.initialized y'.cls).before a0 Z = true) (w4 : (Jvm.Cond.code y' bytes' mL' ret').before a0 Z = true)
    (hy : y'.cls ≠ "java/lang/invoke/MethodHandle" ∧ y'.cls ≠ "java/lang/invoke/VarHandle") (C : Con l Z F B y' bytes' mL' ret' rm [] as loc P) (S : Spl os loc rst) (has : as = argsL.toArray) (hpd : parseMethodDescriptor y'.desc = some ⟨ps, r⟩) (hpl : argsL.length = ps.length)
    (hst : st = argsL.reverse ++ rest) (hsz : ls.size = mL) (hW : (rest.map fun v => v.category).sum ≤ Wt) (hfr : rm.frames + 1 ≤ R.frames) (hlo : Wt + (mL' + 11) + rm.locals ≤ R.locals) (hc : k + rm.cells ≤ R.cells) (hs : n + rm.slots ≤ R.slots) (hd : decode bytes pc = .ok (.invokestatic index, 3)) (K : ∀ T' v os', P v os' → Here p l e R s m args below meth c Z F B h0 A y bytes mL ret T' (k + rm.cells) (n + rm.slots) (os' ++ rst) → Go p e below G (T'.setTop (mkF m (pc + 3) ls (v.toList ++ rest)))) : Go p e below G (T.setTop (mkF m pc ls st)) := by
  obtain ⟨H0, locs, X, hL, hI⟩ := W
  subst has hst
  obtain ⟨v, _, ⟨T', L', k', n'⟩, -, X', ⟨Lc, hQ, l1, y1, z1⟩, stp⟩ := callSN X H0.1 (y := y') H0.2.2.2.2.1 (Cond.methodLinkNest_wide H0.2.1 w1 :) (mvT H0.2.1 w2) (mvT H0.2.1 w3) (mvT H0.2.1 w4) hy (backOf (W := Wt) (C T.heap (S.loc hI.2.1) (S.ge hI hL) (Nat.le_trans hL.2.2 hI.1.1)) H0.2.1 w4 w3 hfr hlo) (g := mkF m pc ls (argsL.reverse ++ rest)) rfl (hsz.trans H0.2.2.2.1.symm) (argsL := argsL) (rest := rest) (lenOf hpd hpl) rfl (by show 2 * 0 + _ ≤ _; omega) (hb H0.2.2.1 hd) (fun _ _ => ⟨rfl, rfl, hc, hs⟩)
  dsimp only [Pt.U, Pt.locs, Pt.cells, Pt.slots] at X' l1 y1 z1 stp hQ
  subst l1 y1 z1
  obtain ⟨hLc, os', hI', hp⟩ := hQ
  exact (K T' v os' hp ⟨H0, _, X', Spl.locs hL hLc, S.after hI hI'⟩).to stp
theorem g_object {index : Nat} {a : Addr} (Wt : Nat) (W : Here p l e R s m args below meth c Z F B h0 A y bytes mL ret T k n os) (w1 : (Jvm.Cond.methodLink y.cls index Lib.objectInit).before a0 Z = true) (w2 : (Jvm.Cond.instanceMethod Lib.objectInit).before a0 Z = true) (w3 : (Jvm.Cond.code Lib.objectInit ⟨#[0xb1]⟩ 1 none).before a0 Z = true)
    (hsz : ls.size = mL) (hW : (st.map fun v => v.category).sum ≤ Wt) (hfr : 1 ≤ R.frames) (hlo : Wt + 12 ≤ R.locals) (hd : decode bytes pc = .ok (.invokespecial index, 3)) (K : ∀ T', Here p l e R s m args below meth c Z F B h0 A y bytes mL ret T' k n os → Go p e below G (T'.setTop (mkF m (pc + 3) ls (st)))) : Go p e below G (T.setTop (mkF m pc ls (.ref a :: st))) := by
  obtain ⟨H0, locs, X, hL, hI⟩ := W
  obtain ⟨T', X', e', stp⟩ := initO X H0.1 H0.2.1 H0.2.2.2.2.1 w1 w2 w3 rfl (g := mkF m pc ls (.ref a :: st)) rfl (hsz.trans H0.2.2.2.1.symm) rfl (hb H0.2.2.1 hd) hfr (W := Wt) (by show 2 * 0 + _ ≤ _; omega) hlo
  exact (K T' ⟨H0, locs, X', hL, by rw [e']; exact hI⟩).by stp
theorem g_clone {index i Wt : Nat} {a : Addr} {ty : FieldType} {vs : List Value} {ad : String} (cap : Nat) (W : Here p l e R s m args below meth c Z F B h0 A y bytes mL ret T k n os) (w1 : (Jvm.Cond.methodLink y.cls index ⟨ad, "clone", "()Ljava/lang/Object;"⟩).before a0 Z = true) (w2 : (Jvm.Cond.sameMethod ad "java/lang/Object" "clone" "()Ljava/lang/Object;").before a0 Z = true) (w3 : (Jvm.Cond.native ⟨"java/lang/Object", "clone", "()Ljava/lang/Object;"⟩).before a0 Z = true)
    (w4 : (Jvm.Cond.instanceMethod ⟨"java/lang/Object", "clone", "()Ljava/lang/Object;"⟩).before a0 Z = true) (w5 : (Jvm.Cond.selects ad ⟨ad, "clone", "()Ljava/lang/Object;"⟩ ⟨"java/lang/Object", "clone", "()Ljava/lang/Object;"⟩).before a0 Z = true) (w6 : (Jvm.Cond.castable ad "java/lang/Cloneable").before a0 Z = true)
    (had : "[" ++ ty.toString = ad) (hi : os[i]? = some (a, .array ty, vs)) (hsz : ls.size = mL) (hW : (st.map fun v => v.category).sum ≤ Wt) (hfr : 1 ≤ R.frames) (hlo : Wt + 14 ≤ R.locals) (hcap : vs.length ≤ cap) (hc : k + 1 ≤ R.cells) (hs : n + cap ≤ R.slots) (hd : decode bytes pc = .ok (.invokevirtual index, 3))
    (K : ∀ T' b, Here p l e R s m args below meth c Z F B h0 A y bytes mL ret T' (k + 1) (n + cap) (os ++ [(b, .array ty, vs)]) → Go p e below G (T'.setTop (mkF m (pc + 3) ls (.ref b :: st)))) : Go p e below G (T.setTop (mkF m pc ls (.ref a :: st))) := by
  obtain ⟨H0, locs, X, hL, hI⟩ := W
  subst had
  have O : Oat F Z T.heap a (.array ty) vs := hI.2.1.get hi
  obtain ⟨E, f, cl, Ar, S⟩ := O
  have FC : FitC Z cl := fitC_of Ar fun i hi v hv => f v (by rw [S] at hv; exact List.mem_of_getElem? (by simpa using hv))
  obtain ⟨T', h', X', e', E', A', Ex, stp⟩ := cloneA X H0.1 H0.2.1 H0.2.2.2.2.1 w1 w2 w3 w4 w5 w6 rfl Ar E FC (g := mkF m pc ls (.ref a :: st)) rfl (hsz.trans H0.2.2.2.1.symm) rfl (hb H0.2.2.1 hd) hfr (W := Wt) (cap := cap) (by show 2 * 0 + _ ≤ _; omega) hlo (by rw [S]; simpa using hcap) hc hs
  refine (K T' T.heap.size ⟨H0, locs, X', hL, ?_⟩).by stp
  rw [e']
  exact hI.push E' ⟨Ex, f, _, A', S⟩
theorem g_castarr {index i : Nat} {a : Addr} {ty : FieldType} {vs : List Value} {ad : String} (W : Here p l e R s m args below meth c Z F B h0 A y bytes mL ret T k n os) (w : (Jvm.Cond.classLink y.cls index ad).before a0 Z = true) (had : "[" ++ ty.toString = ad) (hi : os[i]? = some (a, .array ty, vs)) (hd : decode bytes pc = .ok (.checkcast index, 3)) (K : ∀ T', Here p l e R s m args below meth c Z F B h0 A y bytes mL ret T' k n os → Go p e below G (T'.setTop (mkF m (pc + 3) ls (.ref a :: st)))) : Go p e below G (T.setTop (mkF m pc ls (.ref a :: st))) := by
  obtain ⟨H0, locs, X, hL, hI⟩ := W
  subst had
  have O : Oat F Z T.heap a (.array ty) vs := hI.2.1.get hi
  obtain ⟨T', X', e', stp⟩ := castY X H0.1 H0.2.1 H0.2.2.2.2.1 w rfl (Ins.self O.1) (g := mkF m pc ls (.ref a :: st)) rfl rfl (hb H0.2.2.1 hd)
  exact (K T' ⟨H0, locs, X', hL, by rw [e']; exact hI⟩).by stp
theorem Oat.arv {h : Heap} {a : Addr} {ty : FieldType} {vs : List Value} (O : Oat F Z h a (.array ty) vs) (hl : vs.length < 2 ^ 31) (d : Value) : ∃ kk, Arv Z h a kk ty vs.length.toInt32 vs d := by
  obtain ⟨E, f, cl, Ar, S⟩ := O
  have e1 : vs.length.toInt32.toInt = vs.length := len_toInt hl
  have e2 : vs.length.toInt32.toNatClampNeg = vs.length := by simp only [Int32.toNatClampNeg, e1]; omega
  have sz : cl.slots.size = vs.length := by rw [S]; simp
  have gd : ∀ i, i < vs.length → vs.getD i d = vs.getD i d ∧ vs[i]? = some (vs.getD i d) := fun i hi => ⟨rfl, by simp [List.getD_eq_getElem?_getD, List.getElem?_eq_getElem hi]⟩
  refine ⟨cl.cls, cl, Ar, rfl, by rw [e2, sz], by rw [Int32.lt_iff_toInt_lt, e1]; simp only [Int32.reduceToInt]; omega, fun i hi => ?_, fun i hi => ?_⟩
  · rw [S]; simpa using (gd i (sz ▸ hi)).2
  · exact f _ (List.mem_of_getElem? (gd i (sz ▸ hi)).2)
theorem Oat.of_arv {h h' : Heap} {a : Addr} {ty : FieldType} {vs vs' : List Value} {kk : ClassId} {z : Int32} {d : Value} (O : Oat F Z h a (.array ty) vs) {ws : List Addr} (K : Keep h h' ws) (V : Arv Z h' a kk ty z vs' d) (hz : z.toNatClampNeg = vs'.length) : Oat F Z h' a (.array ty) vs' := by
  obtain ⟨E, f, -⟩ := O
  obtain ⟨cl, Ar, -, S, -, H, G⟩ := V
  have key : ∀ i, i < vs'.length → vs'[i]? = some (vs'.getD i d) := fun i hi => by simp [List.getD_eq_getElem?_getD, List.getElem?_eq_getElem hi]
  refine ⟨E.keep K, fun v hv => ?_, cl, Ar, ?_⟩
  · obtain ⟨i, hi⟩ := List.mem_iff_getElem?.mp hv
    have hlt := (List.getElem?_eq_some_iff.mp hi).1
    have q := G i (by rw [S, hz]; exact hlt)
    rw [key i hlt] at hi
    rw [← Option.some.inj hi]; exact q
  · refine Array.ext_getElem? fun i => ?_
    by_cases hi : i < vs'.length
    · rw [H i (by rw [S, hz]; exact hi)]; simpa using (key i hi).symm
    · rw [Array.getElem?_eq_none (by rw [S, hz]; omega), Array.getElem?_eq_none (by simpa using hi)]
theorem g_arraycopy {index i j Wt : Nat} {a b : Addr} {ty : FieldType} {vs vd vd' : List Value} {sp dp nn : Int32} {os' : List Ob} (W : Here p l e R s m args below meth c Z F B h0 A y bytes mL ret T k n os) (w1 : (Jvm.Cond.methodLink y.cls index Jvm.Stand.acN).before a0 Z = true) (w2 : (Jvm.Cond.native Jvm.Stand.acN).before a0 Z = true) (w3 : (Jvm.Cond.static Jvm.Stand.acN).before a0 Z = true) (w4 : (Jvm.Cond.initialized "java/lang/System").before a0 Z = true)
    (hi : os[i]? = some (a, .array ty, vs)) (hj : os[j]? = some (b, .array ty, vd)) (hr : refKind ty = false) (h1 : ¬ sp < 0) (h2 : ¬ dp < 0) (h3 : ¬ nn < 0) (l1 : vs.length < 2 ^ 31) (l2 : vd.length < 2 ^ 31) (h4 : sp.toNatClampNeg + nn.toNatClampNeg ≤ vs.length) (h5 : dp.toNatClampNeg + nn.toNatClampNeg ≤ vd.length)
    (hv : vd.take dp.toNatClampNeg ++ ((List.range nn.toNatClampNeg).map fun i => vs.getD (sp.toNatClampNeg + i) .null) ++ vd.drop (dp.toNatClampNeg + nn.toNatClampNeg) = vd') (ho : os.set j (b, .array ty, vd') = os')
    (hsz : ls.size = mL) (hW : (st.map fun v => v.category).sum ≤ Wt) (hfr : 1 ≤ R.frames) (hlo : Wt + (nativeFrameWords "java/lang/System" "arraycopy" 5 + 11) ≤ R.locals) (hd : decode bytes pc = .ok (.invokestatic index, 3)) (K : ∀ T', Here p l e R s m args below meth c Z F B h0 A y bytes mL ret T' k n os' → Go p e below G (T'.setTop (mkF m (pc + 3) ls (st)))) : Go p e below G (T.setTop (mkF m pc ls (.int nn :: .int dp :: .ref b :: .int sp :: .ref a :: st))) := by
  obtain ⟨H0, locs, X, hL, hI⟩ := W
  have Oa : Oat F Z T.heap a (.array ty) vs := hI.2.1.get hi
  have Ob' : Oat F Z T.heap b (.array ty) vd := hI.2.1.get hj
  obtain ⟨ka, Va⟩ := Oa.arv l1 .null
  obtain ⟨kb, Vb⟩ := Ob'.arv l2 .null
  have ez : ∀ (L : List Value), L.length < 2 ^ 31 → L.length.toInt32.toNatClampNeg = L.length := fun L hl => by
    have e1 : L.length.toInt32.toInt = L.length := len_toInt hl
    simp only [Int32.toNatClampNeg, e1]; omega
  obtain ⟨T', h', L', X', e', N', Kp, V', stp⟩ := cpA X H0.1 H0.2.1 H0.2.2.2.2.1 w1 w2 w3 w4 rfl Va Vb (Or.inl ⟨rfl, hr⟩) h1 h2 h3 (by rw [ez _ l1]; exact h4) (by rw [ez _ l2]; exact h5) rfl h5 (n0 := B) hL.1 ((hI.mem hj).ge hL.2.1 hL.2.2) (g := mkF m pc ls (.int nn :: .int dp :: .ref b :: .int sp :: .ref a :: st)) rfl (hsz.trans H0.2.2.2.1.symm) rfl (hb H0.2.2.1 hd) hfr (W := Wt) (by show 2 * 0 + _ ≤ _; omega) hlo
  refine (K T' ⟨H0, L', X', ⟨N', hL.2⟩, ?_⟩).by stp
  rw [e', ← ho]
  rw [hv] at V'
  refine hI.set hj Kp (Ob'.of_arv Kp V' ?_)
  rw [ez _ l2, ← hv]
  simp only [List.length_append, List.length_take, List.length_map, List.length_range, List.length_drop]
  omega
theorem Here.perm {os' : List Ob} (W : Here p l e R s m args below meth c Z F B h0 A y bytes mL ret T k n os) (S : Spl os os' []) : Here p l e R s m args below meth c Z F B h0 A y bytes mL ret T k n os' := by
  obtain ⟨H0, locs, X, hL, K, H, O⟩ := W
  exact ⟨H0, locs, X, hL, K, S.loc H, fun o ho => O o (S.mem (by simpa using ho))⟩
theorem Con.imp {as : Array Value} {loc : List Ob} {P P' : Option Value → List Ob → Prop} {rm : Room} {ws : List Jvm.Cond} (C : Con l Z F B y bytes mL ret rm ws as loc P) (h : ∀ v os, P v os → P' v os) : Con l Z F B y bytes mL ret rm ws as loc P' :=
  fun h0 H hA hB => (C h0 H hA hB).imp fun _ _ _ _ ⟨v, L, h1, ⟨h2, os', h3, h4⟩, h5⟩ => ⟨v, L, h1, ⟨h2, os', h3, h _ _ h4⟩, h5⟩
theorem g_getstatic {index : Nat} {C nm d : String} {v : Value} (W : Here p l e R s m args below meth c Z F B h0 A y bytes mL ret T k n os) (w : (Jvm.Cond.fieldLink y.cls index C nm d).before a0 Z = true) (hF : ∀ h, Fz F.2 h → Sta Z h C nm d v) (hd : decode bytes pc = .ok (.getstatic index, 3))
    (K : ∀ T', Here p l e R s m args below meth c Z F B h0 A y bytes mL ret T' k n os → Go p e below G (T'.setTop (mkF m (pc + 3) ls (v :: st)))) : Go p e below G (T.setTop (mkF m pc ls st)) := by
  obtain ⟨H0, locs, X, hL, hI⟩ := W
  obtain ⟨T', X', e', stp⟩ := getS2 (host := "") X H0.1 H0.2.1 H0.2.2.2.2.1 (Or.inl w) (fun _ q => q) rfl (hF _ hI.2.1.2.2.1) (g := mkF m pc ls st) rfl (hb H0.2.2.1 hd)
  exact (K T' ⟨H0, locs, X', hL, by rw [e']; exact hI⟩).by stp
theorem g_getfieldR {index : Nat} {a : Addr} {C nm d : String} {v : Value} (W : Here p l e R s m args below meth c Z F B h0 A y bytes mL ret T k n os) (w : (Jvm.Cond.fieldLink y.cls index C nm d).before a0 Z = true) (hF : ∀ h, Fz F.2 h → Fld Z h a C nm d v) (hd : decode bytes pc = .ok (.getfield index, 3))
    (K : ∀ T', Here p l e R s m args below meth c Z F B h0 A y bytes mL ret T' k n os → Go p e below G (T'.setTop (mkF m (pc + 3) ls (v :: st)))) : Go p e below G (T.setTop (mkF m pc ls (.ref a :: st))) := by
  obtain ⟨H0, locs, X, hL, hI⟩ := W
  obtain ⟨T', X', e', stp⟩ := getF (host := "") X H0.1 H0.2.1 H0.2.2.2.2.1 (Or.inl w) Via.refl rfl (hF _ hI.2.1.2.2.1) (g := mkF m pc ls (.ref a :: st)) rfl rfl (hb H0.2.2.1 hd)
  exact (K T' ⟨H0, locs, X', hL, by rw [e']; exact hI⟩).by stp
theorem g_arraylengthR {a : Addr} {ty : FieldType} (N : Int32) (W : Here p l e R s m args below meth c Z F B h0 A y bytes mL ret T k n os) (hF : ∀ h, Fz F.2 h → ∃ cl, Arr Z h a cl ty ∧ cl.slots.size.toInt32 = N) (hd : decode bytes pc = .ok (.arraylength, 1)) (K : Go p e below G (T.setTop (mkF m (pc + 1) ls (.int N :: st)))) : Go p e below G (T.setTop (mkF m pc ls (.ref a :: st))) := by
  obtain ⟨H0, locs, X, hL, hI⟩ := W
  obtain ⟨cl, Ar, rfl⟩ := hF _ hI.2.1.2.2.1
  exact K.by fun t q => X.arraylength H0.1 Ar.1 (State.isArrayOf_alike H0.2.1.alike Ar.2.1) (g := mkF m pc ls (.ref a :: st)) rfl rfl (hb H0.2.2.1 hd) t q
/-- a String whose cells are frozen: its class, its fields, the length of its bytes -/
def StrF (Z : State) (z : List (Addr × Cell)) (a b : Addr) (N : Int32) : Prop := ∀ h, Fz z h → Exa Z h a "java/lang/String" ∧ Fld Z h a "java/lang/String" "value" "[B" (.ref b) ∧ Fld Z h a "java/lang/String" "coder" "B" (.int 0) ∧ ∃ cl, Arr Z h b cl .byte ∧ cl.slots.size.toInt32 = N
theorem exa_cell {h h' : Heap} {a : Addr} {C : String} {cl : Cell} (E : Exa Z h a C) (q : h[a]? = some cl) (q' : h'[a]? = some cl) : Exa Z h' a C := by
  obtain ⟨c2, kk, h1, r⟩ := E; cases q.symm.trans h1; exact ⟨cl, kk, q', r⟩
theorem fld_cell {h h' : Heap} {a : Addr} {C nm d : String} {v : Value} {cl : Cell} (E : Fld Z h a C nm d v) (q : h[a]? = some cl) (q' : h'[a]? = some cl) : Fld Z h' a C nm d v := by
  obtain ⟨c2, x1, x2, x3, x4, h1, r⟩ := E; cases q.symm.trans h1; exact ⟨cl, x1, x2, x3, x4, q', r⟩
theorem Oat.fm {F' : Fm} {h : Heap} {a : Addr} {t : FieldType} {vs : List Value} (hf : F'.1 = F.1) (o : Oat F Z h a t vs) : Oat F' Z h a t vs := by
  unfold Oat at o ⊢
  rw [hf]; exact o
theorem strF_of {h : Heap} {a b : Addr} {N : Int32} {z : List (Addr × Cell)} {cs cb : Cell} (E : Exa Z h a "java/lang/String") (V : Fld Z h a "java/lang/String" "value" "[B" (.ref b)) (C : Fld Z h a "java/lang/String" "coder" "B" (.int 0)) (Ar : Arr Z h b cb .byte) (hN : cb.slots.size.toInt32 = N) (qa : h[a]? = some cs) :
    StrF Z (z ++ [(a, cs), (b, cb)]) a b N := fun h2 H => by
  have e1 : h2[a]? = some cs := H (a, cs) (by simp)
  have e2 : h2[b]? = some cb := H (b, cb) (by simp)
  exact ⟨exa_cell E qa e1, fld_cell V qa e1, fld_cell C qa e1, cb, ⟨e2, Ar.2⟩, hN⟩
/-- a String of our own becomes frozen -/
theorem g_freeze {a b : Addr} {vs : List Value} {os' : List Ob} {N : Int32} {S0 : State} (W : Here p l e R s m args below meth c Z F B h0 A y bytes mL ret T k n os) (S : Spl os os' [(a, .object "java/lang/String", [.ref b, .int 0]), (b, .array .byte, vs)]) (hf : F.1 "java/lang/String" = [("value", "[B"), ("coder", "B")]) (hN : vs.length.toInt32 = N)
    (K : ∀ z', StrF Z z' a b N → (∀ h, Fz z' h → Fz F.2 h) → Here p l e R s m args below meth c Z (F.1, z') B h0 A y bytes mL ret T k n os' → Go p e below G S0) : Go p e below G S0 := by
  obtain ⟨H0, locs, X, hL, Kp, H, O⟩ := W
  have Oa : Oat F Z T.heap a (.object "java/lang/String") [.ref b, .int 0] := H.2.1 _ (S.mem (List.mem_append_right _ (List.mem_cons_self ..)))
  have Ob' : Oat F Z T.heap b (.array .byte) vs := H.2.1 (b, .array .byte, vs) (S.mem (List.mem_append_right _ (by simp)))
  obtain ⟨Ea, -, fa⟩ := Oa
  obtain ⟨Eb, -, cb, Ab, Sb⟩ := Ob'
  obtain ⟨cs, kk, qa, rr⟩ := id Ea
  have V := fa 0 "value" "[B" (.ref b) (by rw [hf]; rfl) rfl
  have C := fa 1 "coder" "B" (.int 0) (by rw [hf]; rfl) rfl
  have nd := S.nodup H.1
  rw [List.map_append] at nd
  obtain ⟨n1, n2, n3⟩ := List.nodup_append.mp nd
  refine K (F.2 ++ [(a, cs), (b, cb)]) (strF_of Ea V C Ab (by rw [Sb, ← hN]; simp) qa) (fun h q x hx => q x (List.mem_append_left _ hx)) ⟨H0, locs, X, hL, Kp, ⟨n1, fun o ho => (H.2.1 o (S.mem (List.mem_append_left _ ho))).fm rfl, fun x hx => ?_, fun o ho x hx => ?_⟩, fun o ho => O o (S.mem (List.mem_append_left _ ho))⟩
  · rcases List.mem_append.mp hx with u | u
    · exact H.2.2.1 x u
    · simp only [List.mem_cons, List.not_mem_nil, or_false] at u
      rcases u with rfl | rfl
      · exact qa
      · exact Ab.1
  · rcases List.mem_append.mp hx with u | u
    · exact H.2.2.2 o (S.mem (List.mem_append_left _ ho)) x u
    · simp only [List.mem_cons, List.not_mem_nil, or_false] at u
      rcases u with rfl | rfl
      · exact n3 _ (List.mem_map.mpr ⟨o, ho, rfl⟩) _ (by simp)
      · exact n3 _ (List.mem_map.mpr ⟨o, ho, rfl⟩) _ (by simp)
/-- ldc "" : a String constant, cold; the law's own start is Z -/
theorem g_ldcE {index : Nat} (W : Here p l e R Z m args below meth c Z F Z.heap.size Z.heap [] y bytes mL ret T k n os) (w : (Jvm.Cond.stringLink y.cls index "").before a0 Z = true) (wS : ∀ d ∈ Bundle.stringAtoms, d.before a0 Z = true) (hh : Jvm.Lit.constHeld Z y.cls index) (hcw : Jvm.Lit.compactW.before a0 Z = true)
    (hd : decode bytes pc = .ok (.ldc index, 2)) (hc : k + 2 ≤ R.cells) (hs : n + 4 ≤ R.slots)
    (K : ∀ T' a b z' k1, Z.Since T'.vm k1 → k1 ≤ T'.heap.size → StrF Z z' a b 0 → (∀ h, Fz z' h → Fz F.2 h) → Here p l e R (Z.setVm T'.vm) m args below meth c Z (F.1, z') Z.heap.size T'.heap (os.map (·.1)) y bytes mL ret T' (k + 2) (n + 4) os → Go p e below G (T'.setTop (mkF m (pc + 2) ls (.ref a :: st)))) : Go p e below G (T.setTop (mkF m pc ls st)) := by
  obtain ⟨H0, locs, X, hL, Kp, H, O⟩ := W
  obtain ⟨a, T', h', k1, b, kk, X', e', E, hS, hk, hW, hown, Ea, C, V, Av, la, lb, -, -, hwh, stp⟩ := ldcSVd (s := Z) (vm0 := Z.vm) (Z := Z) X H0.1 (State.Warmed39.refl _) H0.2.2.2.2.1 w wS rfl (k0 := 0) ((State.WarmedH.refl Z).since 0) (Nat.zero_le _) (fun y hy => hL.1 y hy) (fun _ _ q => q) IB.start (by simp) hh hcw (vs := []) (z := 0) ⟨by simp, rfl⟩ (by decide) rfl (g := mkF m pc ls st) rfl (hb H0.2.2.1 hd) (n := 0) (by simp) (by omega) hc (by simpa using hs)
  subst e'
  obtain ⟨cs, k2, qa, rr⟩ := id Ea
  obtain ⟨cb, Ab, q1, q2, -⟩ := Av
  have H2 := H.ext E
  refine (K T' a b (F.2 ++ [(a, cs), (b, cb)]) k1 hS hk (strF_of Ea V C Ab (by rw [q2]; rfl) qa) (fun h q x hx => q x (List.mem_append_left _ hx)) ⟨⟨H0.1, hW, H0.2.2.1, H0.2.2.2.1, hown, H0.2.2.2.2.2⟩, locs, X'.more (Nat.le_refl _) (by omega), ⟨hL.1, fun a ha => ?_, (Kp.ext E).1⟩, Keep.refl _ _, ⟨H2.1, fun o ho => (H2.2.1 o ho).fm rfl, fun x hx => ?_, fun o ho x hx => ?_⟩, fun o ho => Or.inl (List.mem_map.mpr ⟨o, ho, rfl⟩)⟩).by stp
  · obtain ⟨o, ho, rfl⟩ := List.mem_map.mp ha
    exact (O o ho).ge (fun a q => nomatch q) (Nat.le_refl _)
  · rcases List.mem_append.mp hx with u | u
    · exact H2.2.2.1 x u
    · simp only [List.mem_cons, List.not_mem_nil, or_false] at u
      rcases u with rfl | rfl
      · exact qa
      · exact Ab.1
  · rcases List.mem_append.mp hx with u | u
    · exact H2.2.2.2 o ho x u
    · have g1 : Z.heap.size ≤ o.1 := (O o ho).ge (fun a q => nomatch q) (Nat.le_refl _)
      have g2 : o.1 < T.heap.size := (H.2.1 o ho).lt
      simp only [List.mem_cons, List.not_mem_nil, or_false] at u
      rcases u with rfl | rfl
      · rcases hwh with ⟨u1, u2⟩ | ⟨u1, u2⟩
        · exact Nat.ne_of_gt (Nat.lt_of_lt_of_le u1 g1)
        · exact Nat.ne_of_lt (Nat.lt_of_lt_of_le g2 u1)
      · rcases hwh with ⟨u1, u2⟩ | ⟨u1, u2⟩
        · exact Nat.ne_of_gt (Nat.lt_of_lt_of_le u2 g1)
        · exact Nat.ne_of_lt (Nat.lt_of_lt_of_le g2 u2)
/-- what the wide end says -/
def FinW (below : List Frame) (s : State) (B : Nat) (kc ks : Nat) (P : Option Value → Prop) (t : State) : Prop :=
  t.status = .running ∧ ∃ v L, Ended t below (.returned v) ∧ ((∀ y ∈ L, B ≤ y.base) ∧ P v) ∧ ReturnedEndW s (.returned v) t L kc ks
theorem g_zreturnW {z : Int32} {s0 : State} {vm1 : Vm} {k1 : Nat} (hT : ret = some .boolean) (hz : z &&& 1 = z) {kc ks : Nat} {P : Option Value → Prop} (W : Here p l e R (s0.setVm vm1) m args below meth c Z F B h0 A y bytes mL ret T k n os) (hS : s0.Since vm1 k1) (hk1 : k1 ≤ h0.size) (hd : decode bytes pc = .ok (.ireturn, 1)) (hk : k ≤ kc) (hn : n ≤ ks) (hp : P (some (.int z))) :
    Go p e below (FinW below s0 B kc ks P) (T.setTop (mkF m pc ls (.int z :: st))) := by
  obtain ⟨⟨hx, hZ, hby, -, hown, hret, hlk, -⟩, locs, X, hL, hI⟩ := W
  obtain ⟨fs, hr, hrun, hended, hE⟩ := (X.more hk hn).leaveW hS (Nat.le_trans hk1 hI.1.1) (v := some (.int z)) (fun h => by rw [hret, hT] at h; cases h) hlk
  exact ⟨_, retOut (t := .boolean) (w := .int z) X hx (hret.trans hT) (show Value.int (z &&& 1) = .int z by rw [hz]) (Or.inl ⟨rfl, Or.inr (Or.inl rfl), z, rfl⟩) (hb hby hd) hr, hrun, _, locs, hended, ⟨hL.1, hp⟩, hE⟩
theorem g_breturn {z : Int32} (hT : ret = some .byte) (hz : narrow .byte (.int z) = .int z) {kc ks : Nat} {P : Option Value → List Ob → Prop} (W : Here p l e R s m args below meth c Z F B h0 A y bytes mL ret T k n os) (hd : decode bytes pc = .ok (.ireturn, 1)) (hk : k ≤ kc) (hn : n ≤ ks) (hp : P (some (.int z)) os) : Go p e below (Fin1 below s Z F B h0 A kc ks P) (T.setTop (mkF m pc ls (.int z :: st))) := by
  obtain ⟨⟨hx, hZ, hby, -, hown, hret, hlk, -⟩, locs, X, hL, hI⟩ := W
  obtain ⟨fs, hr, hrun, hended, hW, hsame⟩ := X.leave (v := some (.int z)) (fun h => by rw [hret, hT] at h; cases h) hlk
  exact ⟨_, retOut (t := .byte) (w := .int z) X hx (hret.trans hT) hz (Or.inl ⟨rfl, Or.inr (Or.inr (Or.inl rfl)), z, rfl⟩) (hb hby hd) hr, hrun, _, locs, hended, ⟨hL.1, os, hI, hp⟩, ⟨_, rfl⟩, hW, hsame.mono hk hn⟩
/-- a law's own contract with the wide end; the start is Z -/
def ConW (l : Launch) (Z : State) (y : MethodName) (bytes : ByteArray) (mL : Nat) (ret : Option FieldType) (rm : Room) (ws : List Jvm.Cond) (as : Array Value) (P : Option Value → Prop) : Prop :=
  MetFree l y (head1 (Jvm.Cond.code y bytes mL ret :: ws) rm) (fun a U => a = as ∧ U = Z) (fun _ _ _ _ _ => True) (fun _ U o U' => ∃ v L, o = .returned v ∧ (∀ y ∈ L, Z.heap.size ≤ y.base) ∧ P v ∧ ReturnedEndW U o U' L rm.cells rm.slots)
theorem ConW.of {as : Array Value} {P : Option Value → Prop} {rm : Room} {ws : List Jvm.Cond} {ls : Array Slot} (hz : Fz F.2 Z.heap) (hpl : plainFor y = true) (hef : ∀ m, entryFrame m as mL = mkF m 0 ls [])
    (body : ∀ p e m below meth c T, Here p l e rm Z m as below meth c Z F Z.heap.size Z.heap [] y bytes mL ret T 0 0 [] → Go p e below (FinW below Z Z.heap.size rm.cells rm.slots P) (T.setTop (mkF m 0 ls []))) :
    ConW l Z y bytes mL ret rm ws as P := by
  refine MetFree.of_bodySF hpl hisR ?_
  intro p e s m args below meth c s₁ Bd hml0 hP hK
  obtain ⟨rfl, rfl⟩ := hP
  have X0 : Stand p l e rm s m args below meth c s₁ [] 0 0 := Stand.of_body Bd
  have e0 : s₁.heap = s.heap := by rw [Bd.state]; rfl
  obtain ⟨t, st, hr, v, L, hE, ⟨hL, hp⟩, hF⟩ := body p e m below meth c s₁ ⟨⟨Bd.exec, State.Warmed39.refl s, Bd.bytes, hml0, findClass_of_methodNamed Bd.named, Bd.returns, Bd.notSynchronized, (name_of_methodNamed Bd.named Bd.method).1⟩, [], X0, ⟨fun y q => (nomatch q), fun a q => (nomatch q), Nat.le_refl _⟩, by rw [e0]; exact ⟨Keep.refl _ _, Hp.nil hz, fun o ho => nomatch ho⟩⟩
  exact ⟨t, _, castTop (hef m) st, hr, hE, v, L, rfl, hL, hp, hF⟩
/-- the end: what a law's own contract gives -/
theorem Con.frame {y : MethodName} {as : Array Value} {P : Option Value → List Ob → Prop} {rm : Room} {h : Heap} {v : Option Value} {hh : Heap} {L : List Loc} (Q : Qc F Z B [] h P v hh L) : ∀ y ∈ L, B ≤ y.base := Q.1
end Own

theorem wd {Z : State} {a0 : Array Value} (hw : ∀ d ∈ tables_1, d.before a0 Z = true) (k : Nat) {d : Jvm.Cond} (h : tables_1[k]? = some d) : d.before a0 Z = true := hw _ (List.mem_of_getElem? h)
abbrev O_Blocks_StepLength : FieldType := .object "com/example/sectile/sectile/blocks/Blocks$StepLength"
abbrev O_String : FieldType := .object "java/lang/String"
def fm0 : String → List (String × String) := fun c => if c = "com/example/sectile/sectile/blocks/Blocks$StepLength" then [("characters", "I")] else if c = "java/lang/String" then [("value", "[B"), ("coder", "B")] else []
abbrev FM (z : List (Addr × Cell)) : Fm := (fm0, z)
theorem cls_Blocks_StepLength {Z : State} {a0 : Array Value} (hw : ∀ d ∈ tables_1, d.before a0 Z = true) {z : List (Addr × Cell)} : Cls Z a0 (FM z) "com/example/sectile/sectile/blocks/Blocks$StepLength" := by
  have e : (FM z).1 "com/example/sectile/sectile/blocks/Blocks$StepLength" = [("characters", "I")] := (by decide : fm0 "com/example/sectile/sectile/blocks/Blocks$StepLength" = [("characters", "I")])
  refine ⟨fun x hx => ?_, by rw [e]; decide⟩
  rw [e] at hx
  simp only [List.mem_cons, List.not_mem_nil, or_false] at hx
  rcases hx with rfl
  · exact ⟨Or.inl (wd hw 23 rfl), .int, by decide⟩
theorem cls_String {Z : State} {a0 : Array Value} (hw : ∀ d ∈ tables_1, d.before a0 Z = true) {z : List (Addr × Cell)} : Cls Z a0 (FM z) "java/lang/String" := by
  have e : (FM z).1 "java/lang/String" = [("value", "[B"), ("coder", "B")] := (by decide : fm0 "java/lang/String" = [("value", "[B"), ("coder", "B")])
  refine ⟨fun x hx => ?_, by rw [e]; decide⟩
  rw [e] at hx
  simp only [List.mem_cons, List.not_mem_nil, or_false] at hx
  rcases hx with rfl | rfl
  · exact ⟨Or.inr (wd hw 13 rfl), (.array .byte), by decide⟩
  · exact ⟨Or.inr (wd hw 14 rfl), .byte, by decide⟩
theorem pd___B : parseMethodDescriptor "()B" = some ⟨[], some .byte⟩ := by decide +kernel
theorem pd___I : parseMethodDescriptor "()I" = some ⟨[], some .int⟩ := by decide +kernel
theorem pd___V : parseMethodDescriptor "()V" = some ⟨[], none⟩ := by decide +kernel
theorem pd_C__Ljava_lang_String_ : parseMethodDescriptor "(C)Ljava/lang/String;" = some ⟨[.char], some (.object "java/lang/String")⟩ := by decide +kernel
theorem pd_C__V : parseMethodDescriptor "(C)V" = some ⟨[.char], none⟩ := by decide +kernel
theorem pd_C__Z : parseMethodDescriptor "(C)Z" = some ⟨[.char], some .boolean⟩ := by decide +kernel
theorem pd_C__AB : parseMethodDescriptor "(C)[B" = some ⟨[.char], some (.array .byte)⟩ := by decide +kernel
theorem pd_I__I : parseMethodDescriptor "(I)I" = some ⟨[.int], some .int⟩ := by decide +kernel
theorem pd_I__V : parseMethodDescriptor "(I)V" = some ⟨[.int], none⟩ := by decide +kernel
theorem pd_III__Z : parseMethodDescriptor "(III)Z" = some ⟨[.int, .int, .int], some .boolean⟩ := by decide +kernel
theorem pd_Ljava_lang_CharSequence___V : parseMethodDescriptor "(Ljava/lang/CharSequence;)V" = some ⟨[(.object "java/lang/CharSequence")], none⟩ := by decide +kernel
theorem pd_Ljava_lang_String_I__I : parseMethodDescriptor "(Ljava/lang/String;I)I" = some ⟨[(.object "java/lang/String"), .int], some .int⟩ := by decide +kernel
theorem pd_Ljava_lang_String_ILcom_example_sectile_sectile_blocks_Blocks_PathWriter___V : parseMethodDescriptor "(Ljava/lang/String;ILcom/example/sectile/sectile/blocks/Blocks$PathWriter;)V" = some ⟨[(.object "java/lang/String"), .int, (.object "com/example/sectile/sectile/blocks/Blocks$PathWriter")], none⟩ := by decide +kernel
theorem pd_ABB__V : parseMethodDescriptor "([BB)V" = some ⟨[(.array .byte), .byte], none⟩ := by decide +kernel
/-! number's loop and decimalLength: plain -/
def digF : Nat → Int32 → Int32 → Option Int32
  | 0, _, _ => none
  | f + 1, acc, rest => if rest = 0 then some acc else digF f (acc + 1) (rest / 10)
theorem div10 (x : Int32) : (x / 10).toInt = x.toInt.tdiv 10 := by
  have e : (10 : Int32).toInt = 10 := by decide
  rw [Int32.toInt_div_of_ne_right x 10 (by decide), e]
theorem dig_ok : ∀ (k f : Nat) (acc x : Int32), k < f → x.toInt.natAbs < 10 ^ k → (k = 0 ∨ 10 ^ (k - 1) ≤ x.toInt.natAbs) → digF f acc x = some (acc + Int32.ofNat k) := by
  intro k
  induction k with
  | zero =>
    intro f acc x hf h _
    obtain ⟨f, rfl⟩ : ∃ g, f = g + 1 := ⟨f - 1, by omega⟩
    have e : x = 0 := Int32.toInt_inj.mp (by have : x.toInt = 0 := by simp at h; exact h
                                             rw [this]; decide)
    subst e
    simp [digF]
  | succ k ih =>
    intro f acc x hf h h2
    obtain ⟨f, rfl⟩ : ∃ g, f = g + 1 := ⟨f - 1, by omega⟩
    have h2 : 10 ^ k ≤ x.toInt.natAbs := by rcases h2 with h2 | h2; omega; exact h2
    have p : 0 < 10 ^ k := Nat.pow_pos (by decide)
    have ne : ¬ x = 0 := fun e => by subst e; simp at h2
    rw [digF, if_neg ne]
    have ea : (x / 10).toInt.natAbs = x.toInt.natAbs / 10 := by rw [div10, Int.natAbs_tdiv]; rfl
    rw [ih f (acc + 1) (x / 10) (by omega) (by rw [ea, Nat.pow_succ] at *; omega) ?_]
    · congr 1
      rw [Int32.add_assoc]
      congr 1
      rw [Int32.ofNat_add, Int32.add_comm]; rfl
    · rcases k with _ | k
      · exact Or.inl rfl
      · refine Or.inr ?_
        rw [ea]
        rw [Nat.pow_succ] at h2
        show 10 ^ k ≤ _
        omega
def absL (v : Int32) : Int64 := if v < 0 then (-v.toInt64) else v.toInt64
def decD (a : Int64) : Int32 := if XT.cmpL a 10 < 0 then 1 else if XT.cmpL a 100 < 0 then 2 else if XT.cmpL a 1000 < 0 then 3 else if XT.cmpL a 10000 < 0 then 4 else if XT.cmpL a 100000 < 0 then 5 else if XT.cmpL a 1000000 < 0 then 6 else if XT.cmpL a 10000000 < 0 then 7 else if XT.cmpL a 100000000 < 0 then 8 else if XT.cmpL a 1000000000 < 0 then 9 else 10
def decF (v : Int32) : Int32 := (if v < 0 then 1 else 0) + decD (absL v)
theorem abs_int (v : Int32) : (absL v).toInt = v.toInt.natAbs := by
  have b1 := v.le_toInt
  have b2 := v.toInt_lt
  have e0 : (0 : Int32).toInt = 0 := by decide
  unfold absL
  split
  · rename_i h
    rw [Int32.lt_iff_toInt_lt, e0] at h
    rw [Int64.toInt_neg, Int32.toInt_toInt64, Int.bmod_eq_of_le (by omega) (by omega)]; omega
  · rename_i h
    rw [Int32.lt_iff_toInt_lt, e0] at h
    rw [Int32.toInt_toInt64]; omega
theorem cl_lt (x y : Int64) : XT.cmpL x y < 0 ↔ x < y := lw_lt x y
theorem own_len (c v : Int32) : digF 11 (c + (if v < 0 then 2 else 1)) (v / 10) = some (c + decF v) := by
  have b1 := v.le_toInt
  have b2 := v.toInt_lt
  have ea : (v / 10).toInt.natAbs = v.toInt.natAbs / 10 := by rw [div10, Int.natAbs_tdiv]; rfl
  have ab := abs_int v
  have key : ∀ k : Nat, k ≤ 9 → (v / 10).toInt.natAbs < 10 ^ k → (k = 0 ∨ 10 ^ (k - 1) ≤ (v / 10).toInt.natAbs) → decD (absL v) = 1 + Int32.ofNat k → digF 11 (c + (if v < 0 then 2 else 1)) (v / 10) = some (c + decF v) := fun k hk h1 h2 h3 => by
    rw [dig_ok k 11 _ _ (by omega) h1 h2, decF, h3]
    congr 1
    rw [Int32.add_assoc]
    congr 1
    split
    · rw [← Int32.add_assoc]; rfl
    · rw [Int32.zero_add]
  rw [ea] at key
  have L : ∀ m : Int64, (XT.cmpL (absL v) m < 0) = ((v.toInt.natAbs : Int) < m.toInt) := fun m => by rw [cl_lt, Int64.lt_iff_toInt_lt, ab]
  unfold decD at key
  simp only [L] at key
  have z0 : (10 : Int64).toInt = 10 := by decide
  have z1 : (100 : Int64).toInt = 100 := by decide
  have z2 : (1000 : Int64).toInt = 1000 := by decide
  have z3 : (10000 : Int64).toInt = 10000 := by decide
  have z4 : (100000 : Int64).toInt = 100000 := by decide
  have z5 : (1000000 : Int64).toInt = 1000000 := by decide
  have z6 : (10000000 : Int64).toInt = 10000000 := by decide
  have z7 : (100000000 : Int64).toInt = 100000000 := by decide
  have z8 : (1000000000 : Int64).toInt = 1000000000 := by decide
  by_cases q0 : (v.toInt.natAbs : Int) < (10 : Int64).toInt
  · exact key 0 (by decide) (by rw [z0] at q0; omega) (Or.inl rfl) (by rw [if_pos q0]; rfl)
  by_cases q1 : (v.toInt.natAbs : Int) < (100 : Int64).toInt
  · exact key 1 (by decide) (by rw [z1] at q1; omega) (Or.inr (by rw [z0] at q0; omega)) (by rw [if_neg q0, if_pos q1]; rfl)
  by_cases q2 : (v.toInt.natAbs : Int) < (1000 : Int64).toInt
  · exact key 2 (by decide) (by rw [z2] at q2; omega) (Or.inr (by rw [z1] at q1; omega)) (by rw [if_neg q0, if_neg q1, if_pos q2]; rfl)
  by_cases q3 : (v.toInt.natAbs : Int) < (10000 : Int64).toInt
  · exact key 3 (by decide) (by rw [z3] at q3; omega) (Or.inr (by rw [z2] at q2; omega)) (by rw [if_neg q0, if_neg q1, if_neg q2, if_pos q3]; rfl)
  by_cases q4 : (v.toInt.natAbs : Int) < (100000 : Int64).toInt
  · exact key 4 (by decide) (by rw [z4] at q4; omega) (Or.inr (by rw [z3] at q3; omega)) (by rw [if_neg q0, if_neg q1, if_neg q2, if_neg q3, if_pos q4]; rfl)
  by_cases q5 : (v.toInt.natAbs : Int) < (1000000 : Int64).toInt
  · exact key 5 (by decide) (by rw [z5] at q5; omega) (Or.inr (by rw [z4] at q4; omega)) (by rw [if_neg q0, if_neg q1, if_neg q2, if_neg q3, if_neg q4, if_pos q5]; rfl)
  by_cases q6 : (v.toInt.natAbs : Int) < (10000000 : Int64).toInt
  · exact key 6 (by decide) (by rw [z6] at q6; omega) (Or.inr (by rw [z5] at q5; omega)) (by rw [if_neg q0, if_neg q1, if_neg q2, if_neg q3, if_neg q4, if_neg q5, if_pos q6]; rfl)
  by_cases q7 : (v.toInt.natAbs : Int) < (100000000 : Int64).toInt
  · exact key 7 (by decide) (by rw [z7] at q7; omega) (Or.inr (by rw [z6] at q6; omega)) (by rw [if_neg q0, if_neg q1, if_neg q2, if_neg q3, if_neg q4, if_neg q5, if_neg q6, if_pos q7]; rfl)
  by_cases q8 : (v.toInt.natAbs : Int) < (1000000000 : Int64).toInt
  · exact key 8 (by decide) (by rw [z8] at q8; omega) (Or.inr (by rw [z7] at q7; omega)) (by rw [if_neg q0, if_neg q1, if_neg q2, if_neg q3, if_neg q4, if_neg q5, if_neg q6, if_neg q7, if_pos q8]; rfl)
  exact key 9 (by decide) (by omega) (Or.inr (by rw [z8] at q8; omega)) (by rw [if_neg q0, if_neg q1, if_neg q2, if_neg q3, if_neg q4, if_neg q5, if_neg q6, if_neg q7, if_neg q8]; rfl)
def StaF (Z : State) (z : List (Addr × Cell)) (v : Int32) : Prop := ∀ h, Fz z h → Sta Z h "java/lang/String" "COMPACT_STRINGS" "Z" (.int v)
theorem own_shr (N : Int32) : N >>> ((0 : Int32) &&& 31) = N := by
  have e : (0 : Int32) &&& 31 = 0 := by decide
  rw [e]; simp
theorem d_j42m152_0 : decode jdk_42_method_152_code 0 = .ok (.getstatic 38, 3) := by decide +kernel
theorem d_j42m152_3 : decode jdk_42_method_152_code 3 = .ok (.ifCond .eq 10, 3) := by decide +kernel
theorem d_j42m152_6 : decode jdk_42_method_152_code 6 = .ok (.aload_n 0, 1) := by decide +kernel
theorem d_j42m152_7 : decode jdk_42_method_152_code 7 = .ok (.getfield 15, 3) := by decide +kernel
theorem d_j42m152_10 : decode jdk_42_method_152_code 10 = .ok (.goto 4, 3) := by decide +kernel
theorem d_j42m152_14 : decode jdk_42_method_152_code 14 = .ok (.ireturn, 1) := by decide +kernel
theorem c_coder (l : Launch) (Z : State) (a0 : Array Value) (hw : ∀ d ∈ tables_1, d.before a0 Z = true) {B : Nat} {z : List (Addr × Cell)} (sv : Int32) (a b : Addr) (N : Int32) (hst : StaF Z z sv) (hv : ¬ sv = 0) (hs : StrF Z z a b N) :
    Con l Z (FM z) B (⟨"java/lang/String", "coder", "()B"⟩ : MethodName) jdk_42_method_152_code 1 (some .byte) ({ frames := 0, cells := 0, slots := 0, locals := 0 } : Room) [] #[.ref a] [] (fun rv_ ro_ => rv_ = some (.int (0 : Int32)) ∧ ro_ = []) := by
  refine Con.of (plainFor_of_name (by first | (simp [plainName, overriddenIn]; done) | decide +kernel)) (ls := #[.val (.ref a)]) (fun m => by first | (simp [entryFrame, mkF, argsToLocals, Value.category]; done) | rfl) ?_
  intro p_ e_ h_ s_ m_ bl_ me_ c_ T0 W0
  refine g_getstatic (pc := 0) (v := .int sv) W0 (wd hw 60 rfl) hst d_j42m152_0 (fun T1 W2 => ?_)
  refine g_ifN (pc := 3) W2 d_j42m152_3 (feq hv).1 ?_
  refine g_aload_n (pc := 6) W2 d_j42m152_6 rfl rfl ?_
  refine g_getfieldR (pc := 7) (v := .int (0 : Int32)) W2 (wd hw 61 rfl) (fun h q => (hs h q).2.2.1) d_j42m152_7 (fun T3 W4 => ?_)
  refine g_goto 14 (pc := 10) W4 d_j42m152_10 (by decide) (by decide) ?_
  exact g_breturn (pc := 14) rfl rfl W4 d_j42m152_14 (by decide) (by decide) ⟨rfl, rfl⟩
theorem d_j42m54_0 : decode jdk_42_method_54_code 0 = .ok (.aload_n 0, 1) := by decide +kernel
theorem d_j42m54_1 : decode jdk_42_method_54_code 1 = .ok (.getfield 9, 3) := by decide +kernel
theorem d_j42m54_4 : decode jdk_42_method_54_code 4 = .ok (.arraylength, 1) := by decide +kernel
theorem d_j42m54_5 : decode jdk_42_method_54_code 5 = .ok (.aload_n 0, 1) := by decide +kernel
theorem d_j42m54_6 : decode jdk_42_method_54_code 6 = .ok (.invokevirtual 335, 3) := by decide +kernel
theorem d_j42m54_9 : decode jdk_42_method_54_code 9 = .ok (.ishr, 1) := by decide +kernel
theorem d_j42m54_10 : decode jdk_42_method_54_code 10 = .ok (.ireturn, 1) := by decide +kernel
theorem c_len (l : Launch) (Z : State) (a0 : Array Value) (hw : ∀ d ∈ tables_1, d.before a0 Z = true) {B : Nat} {z : List (Addr × Cell)} (sv : Int32) (a b : Addr) (N : Int32) (hst : StaF Z z sv) (hv : ¬ sv = 0) (hs : StrF Z z a b N) :
    Con l Z (FM z) B (⟨"java/lang/String", "length", "()I"⟩ : MethodName) jdk_42_method_54_code 1 (some .int) ({ frames := 1, cells := 0, slots := 0, locals := 13 } : Room) [] #[.ref a] [] (fun rv_ ro_ => rv_ = some (.int (N >>> ((0 : Int32) &&& 31))) ∧ ro_ = []) := by
  refine Con.of (plainFor_of_name (by first | (simp [plainName, overriddenIn]; done) | decide +kernel)) (ls := #[.val (.ref a)]) (fun m => by first | (simp [entryFrame, mkF, argsToLocals, Value.category]; done) | rfl) ?_
  intro p_ e_ h_ s_ m_ bl_ me_ c_ T0 W0
  refine g_aload_n (pc := 0) W0 d_j42m54_0 rfl rfl ?_
  refine g_getfieldR (pc := 1) (v := .ref b) W0 (wd hw 54 rfl) (fun h q => (hs h q).2.1) d_j42m54_1 (fun T1 W2 => ?_)
  refine g_arraylengthR (pc := 4) (ty := .byte) N W2 (fun h q => (hs h q).2.2.2) d_j42m54_4 ?_
  refine g_aload_n (pc := 5) W2 d_j42m54_5 rfl rfl ?_
  refine g_virtualR (pc := 6) (Wt := 1) (argsL := []) (rest := [.int N]) (loc := []) (rst := []) W2 (wd hw 55 rfl) (wd hw 57 rfl) (wd hw 10 rfl) (wd hw 59 rfl) (wd hw 56 rfl) (wd hw 58 rfl) (fun h H => (hs h H.2.2.1).1) (by decide) (c_coder l Z a0 hw sv a b N hst hv hs) Spl.none rfl pd___B rfl rfl rfl (Nat.le_of_ble_eq_true rfl) (by decide) (by decide) (by decide) (by decide) d_j42m54_6 ?_
  rintro T3 _ _ ⟨rfl, rfl⟩ W4
  have W5 := W4.re (os' := []) rfl
  show Go p_ e_ bl_ _ (T3.setTop (mkF m_ 9 _ [.int (0 : Int32), .int N]))
  refine g_ishr (pc := 9) W5 d_j42m54_9 ?_
  exact g_ireturn (pc := 10) rfl W5 d_j42m54_10 (by decide) (by decide) ⟨rfl, rfl⟩
theorem d_p10m3_0 : decode prog_10_method_3_code 0 = .ok (.aload_n 0, 1) := by decide +kernel
theorem d_p10m3_1 : decode prog_10_method_3_code 1 = .ok (.dup, 1) := by decide +kernel
theorem d_p10m3_2 : decode prog_10_method_3_code 2 = .ok (.getfield 7, 3) := by decide +kernel
theorem d_p10m3_5 : decode prog_10_method_3_code 5 = .ok (.iconst 1, 1) := by decide +kernel
theorem d_p10m3_6 : decode prog_10_method_3_code 6 = .ok (.iadd, 1) := by decide +kernel
theorem d_p10m3_7 : decode prog_10_method_3_code 7 = .ok (.putfield 7, 3) := by decide +kernel
theorem d_p10m3_10 : decode prog_10_method_3_code 10 = .ok (.return_, 1) := by decide +kernel
theorem c_asc (l : Launch) (Z : State) (a0 : Array Value) (hw : ∀ d ∈ tables_1, d.before a0 Z = true) {B : Nat} {z : List (Addr × Cell)} (o : Addr) (c ch : Int32) :
    Con l Z (FM z) B (⟨"com/example/sectile/sectile/blocks/Blocks$StepLength", "ascii", "(C)V"⟩ : MethodName) prog_10_method_3_code 2 none ({ frames := 0, cells := 0, slots := 0, locals := 0 } : Room) [] #[.ref o, .int ch] [(o, O_Blocks_StepLength, [.int c])] (fun rv_ ro_ => rv_ = none ∧ ro_ = [(o, O_Blocks_StepLength, [.int (c + (1 : Int32))])]) := by
  refine Con.of (plainFor_of_name (by first | (simp [plainName, overriddenIn]; done) | decide +kernel)) (ls := #[.val (.ref o), .val (.int ch)]) (fun m => by first | (simp [entryFrame, mkF, argsToLocals, Value.category]; done) | rfl) ?_
  intro p_ e_ h_ s_ m_ bl_ me_ c_ T0 W0
  refine g_aload_n (pc := 0) W0 d_p10m3_0 rfl rfl ?_
  refine g_dup (pc := 1) W0 d_p10m3_1 rfl ?_
  refine g_getfield (pc := 2) (i := 0) (j := 0) (host := "") W0 (Or.inl (wd hw 22 rfl)) rfl rfl rfl d_p10m3_2 (fun T1 W2 => ?_)
  refine g_iconst (pc := 5) (1 : Int32) (by decide) W2 d_p10m3_5 ?_
  refine g_iadd (pc := 6) W2 d_p10m3_6 ?_
  refine g_putfield (pc := 7) (i := 0) (j := 0) (ty := .int) (os' := [(o, O_Blocks_StepLength, [.int (c + (1 : Int32))])]) (host := "") W2 (Or.inl (wd hw 22 rfl)) (cls_Blocks_StepLength hw) (Or.inl (wd hw 23 rfl)) (wd hw 1 rfl) rfl rfl rfl (by decide) rfl rfl rfl d_p10m3_7 (fun T3 W4 => ?_)
  exact g_return (pc := 10) rfl W4 d_p10m3_10 (by decide) (by decide) ⟨rfl, rfl⟩
theorem d_p10m4_0 : decode prog_10_method_4_code 0 = .ok (.aload_n 0, 1) := by decide +kernel
theorem d_p10m4_1 : decode prog_10_method_4_code 1 = .ok (.dup, 1) := by decide +kernel
theorem d_p10m4_2 : decode prog_10_method_4_code 2 = .ok (.getfield 7, 3) := by decide +kernel
theorem d_p10m4_5 : decode prog_10_method_4_code 5 = .ok (.aload_n 1, 1) := by decide +kernel
theorem d_p10m4_6 : decode prog_10_method_4_code 6 = .ok (.invokeinterface 19 1, 5) := by decide +kernel
theorem d_p10m4_11 : decode prog_10_method_4_code 11 = .ok (.iadd, 1) := by decide +kernel
theorem d_p10m4_12 : decode prog_10_method_4_code 12 = .ok (.putfield 7, 3) := by decide +kernel
theorem d_p10m4_15 : decode prog_10_method_4_code 15 = .ok (.return_, 1) := by decide +kernel
theorem c_txt (l : Launch) (Z : State) (a0 : Array Value) (hw : ∀ d ∈ tables_1, d.before a0 Z = true) {B : Nat} {z : List (Addr × Cell)} (o : Addr) (c : Int32) (sv : Int32) (a b : Addr) (N : Int32) (hst : StaF Z z sv) (hv : ¬ sv = 0) (hs : StrF Z z a b N) :
    Con l Z (FM z) B (⟨"com/example/sectile/sectile/blocks/Blocks$StepLength", "text", "(Ljava/lang/CharSequence;)V"⟩ : MethodName) prog_10_method_4_code 2 none ({ frames := 2, cells := 0, slots := 0, locals := 27 } : Room) [] #[.ref o, .ref a] [(o, O_Blocks_StepLength, [.int c])] (fun rv_ ro_ => rv_ = none ∧ ro_ = [(o, O_Blocks_StepLength, [.int (c + N)])]) := by
  refine Con.of (plainFor_of_name (by first | (simp [plainName, overriddenIn]; done) | decide +kernel)) (ls := #[.val (.ref o), .val (.ref a)]) (fun m => by first | (simp [entryFrame, mkF, argsToLocals, Value.category]; done) | rfl) ?_
  intro p_ e_ h_ s_ m_ bl_ me_ c_ T0 W0
  refine g_aload_n (pc := 0) W0 d_p10m4_0 rfl rfl ?_
  refine g_dup (pc := 1) W0 d_p10m4_1 rfl ?_
  refine g_getfield (pc := 2) (i := 0) (j := 0) (host := "") W0 (Or.inl (wd hw 22 rfl)) rfl rfl rfl d_p10m4_2 (fun T1 W2 => ?_)
  refine g_aload_n (pc := 5) W2 d_p10m4_5 rfl rfl ?_
  refine g_interface (xi := (⟨"java/lang/CharSequence", "length", "()I"⟩ : MethodName)) (C' := "java/lang/String") (pc := 6) (Wt := 2) (argsL := []) (rest := [.int c, .ref o]) (loc := []) (rst := [(o, O_Blocks_StepLength, [.int c])]) W2 (wd hw 45 rfl) (wd hw 49 rfl) (wd hw 10 rfl) (wd hw 53 rfl) (wd hw 46 rfl) (wd hw 47 rfl) rfl (wd hw 48 rfl) (wd hw 50 rfl) (wd hw 51 rfl) (wd hw 52 rfl) (fun h H => (hs h H.2.2.1).1) (by decide) (c_len l Z a0 hw sv a b N hst hv hs) Spl.none rfl pd___I rfl rfl rfl (Nat.le_of_ble_eq_true rfl) (by decide) (by decide) (by decide) (by decide) d_p10m4_6 ?_
  rintro T3 _ _ ⟨rfl, rfl⟩ W4
  have W5 := W4.re (os' := [(o, O_Blocks_StepLength, [.int c])]) rfl
  show Go p_ e_ bl_ _ (T3.setTop (mkF m_ 11 _ [.int (N >>> ((0 : Int32) &&& 31)), .int c, .ref o]))
  rw [own_shr]
  refine g_iadd (pc := 11) W5 d_p10m4_11 ?_
  refine g_putfield (pc := 12) (i := 0) (j := 0) (ty := .int) (os' := [(o, O_Blocks_StepLength, [.int (c + N)])]) (host := "") W5 (Or.inl (wd hw 22 rfl)) (cls_Blocks_StepLength hw) (Or.inl (wd hw 23 rfl)) (wd hw 1 rfl) rfl rfl rfl (by decide) rfl rfl rfl d_p10m4_12 (fun T6 W7 => ?_)
  exact g_return (pc := 15) rfl W7 d_p10m4_15 (by decide) (by decide) ⟨rfl, rfl⟩
theorem d_p10m5_23 : decode prog_10_method_5_code 23 = .ok (.iload_n 2, 1) := by decide +kernel
theorem d_p10m5_24 : decode prog_10_method_5_code 24 = .ok (.ifCond .eq 21, 3) := by decide +kernel
theorem d_p10m5_27 : decode prog_10_method_5_code 27 = .ok (.aload_n 0, 1) := by decide +kernel
theorem d_p10m5_28 : decode prog_10_method_5_code 28 = .ok (.dup, 1) := by decide +kernel
theorem d_p10m5_29 : decode prog_10_method_5_code 29 = .ok (.getfield 7, 3) := by decide +kernel
theorem d_p10m5_32 : decode prog_10_method_5_code 32 = .ok (.iconst 1, 1) := by decide +kernel
theorem d_p10m5_33 : decode prog_10_method_5_code 33 = .ok (.iadd, 1) := by decide +kernel
theorem d_p10m5_34 : decode prog_10_method_5_code 34 = .ok (.putfield 7, 3) := by decide +kernel
theorem d_p10m5_37 : decode prog_10_method_5_code 37 = .ok (.iload_n 2, 1) := by decide +kernel
theorem d_p10m5_38 : decode prog_10_method_5_code 38 = .ok (.bipush 10, 2) := by decide +kernel
theorem d_p10m5_40 : decode prog_10_method_5_code 40 = .ok (.idiv, 1) := by decide +kernel
theorem d_p10m5_41 : decode prog_10_method_5_code 41 = .ok (.istore_n 2, 1) := by decide +kernel
theorem d_p10m5_42 : decode prog_10_method_5_code 42 = .ok (.goto (-19), 3) := by decide +kernel
theorem nm_loop {p_ : Program} {l : Launch} {e_ : Env} {R : Room} {s_ : State} {m_ : MethodId} {ar_ : Array Value} {bl_ : List Frame} {me_ : Method} {c_ : Code} {Z : State} {a0 : Array Value} {B : Nat} {z : List (Addr × Cell)} {h_ : Heap} {A : List Addr} {G : State → Prop} (hw : ∀ d ∈ tables_1, d.before a0 Z = true) {o : Addr} {v : Int32} :
    ∀ (fu : Nat) (acc rest res : Int32) {T0 : State} {k n : Nat}, digF fu acc rest = some res → Here p_ l e_ R s_ m_ ar_ bl_ me_ c_ Z (FM z) B h_ A (⟨"com/example/sectile/sectile/blocks/Blocks$StepLength", "number", "(I)V"⟩ : MethodName) prog_10_method_5_code 3 none T0 k n [(o, O_Blocks_StepLength, [.int acc])] → (∀ T1 rest', Here p_ l e_ R s_ m_ ar_ bl_ me_ c_ Z (FM z) B h_ A (⟨"com/example/sectile/sectile/blocks/Blocks$StepLength", "number", "(I)V"⟩ : MethodName) prog_10_method_5_code 3 none T1 k n [(o, O_Blocks_StepLength, [.int res])] → Go p_ e_ bl_ G (T1.setTop (mkF m_ 45 #[.val (.ref o), .val (.int v), .val (.int rest')] []))) → Go p_ e_ bl_ G (T0.setTop (mkF m_ 23 #[.val (.ref o), .val (.int v), .val (.int rest)] [])) := by
  intro fu
  induction fu with
  | zero => intro acc rest res T0 k n h; cases h
  | succ fu ih =>
    intro acc rest res T0 k n h W0 K
    by_cases hc : rest = 0
    · rw [digF, if_pos hc] at h
      cases h
      refine g_iload_n (pc := 23) W0 d_p10m5_23 rfl ?_
      refine g_ifY 45 (pc := 24) W0 d_p10m5_24 (by decide) (by decide) (teq hc).1 ?_
      exact K _ _ W0
    · rw [digF, if_neg hc] at h
      refine g_iload_n (pc := 23) W0 d_p10m5_23 rfl ?_
      refine g_ifN (pc := 24) W0 d_p10m5_24 (feq hc).1 ?_
      refine g_aload_n (pc := 27) W0 d_p10m5_27 rfl rfl ?_
      refine g_dup (pc := 28) W0 d_p10m5_28 rfl ?_
      refine g_getfield (pc := 29) (i := 0) (j := 0) (host := "") W0 (Or.inl (wd hw 22 rfl)) rfl rfl rfl d_p10m5_29 (fun T1 W2 => ?_)
      refine g_iconst (pc := 32) (1 : Int32) (by decide) W2 d_p10m5_32 ?_
      refine g_iadd (pc := 33) W2 d_p10m5_33 ?_
      refine g_putfield (pc := 34) (i := 0) (j := 0) (ty := .int) (os' := [(o, O_Blocks_StepLength, [.int (acc + (1 : Int32))])]) (host := "") W2 (Or.inl (wd hw 22 rfl)) (cls_Blocks_StepLength hw) (Or.inl (wd hw 23 rfl)) (wd hw 1 rfl) rfl rfl rfl (by decide) rfl rfl rfl d_p10m5_34 (fun T3 W4 => ?_)
      refine g_iload_n (pc := 37) W4 d_p10m5_37 rfl ?_
      refine g_bipush (pc := 38) (10 : Int32) (by decide) W4 d_p10m5_38 ?_
      refine g_idiv (pc := 40) W4 d_p10m5_40 (by decide) ?_
      refine g_istore_n (pc := 41) (ls' := #[.val (.ref o), .val (.int v), .val (.int (rest / (10 : Int32)))]) W4 d_p10m5_41 rfl ?_
      refine g_goto 23 (pc := 42) W4 d_p10m5_42 (by decide) (by decide) ?_
      exact ih _ _ _ h W4 K
theorem d_p10m5_0 : decode prog_10_method_5_code 0 = .ok (.aload_n 0, 1) := by decide +kernel
theorem d_p10m5_1 : decode prog_10_method_5_code 1 = .ok (.dup, 1) := by decide +kernel
theorem d_p10m5_2 : decode prog_10_method_5_code 2 = .ok (.getfield 7, 3) := by decide +kernel
theorem d_p10m5_5 : decode prog_10_method_5_code 5 = .ok (.iload_n 1, 1) := by decide +kernel
theorem d_p10m5_6 : decode prog_10_method_5_code 6 = .ok (.ifCond .ge 7, 3) := by decide +kernel
theorem d_p10m5_9 : decode prog_10_method_5_code 9 = .ok (.iconst 2, 1) := by decide +kernel
theorem d_p10m5_10 : decode prog_10_method_5_code 10 = .ok (.goto 4, 3) := by decide +kernel
theorem d_p10m5_13 : decode prog_10_method_5_code 13 = .ok (.iconst 1, 1) := by decide +kernel
theorem d_p10m5_14 : decode prog_10_method_5_code 14 = .ok (.iadd, 1) := by decide +kernel
theorem d_p10m5_15 : decode prog_10_method_5_code 15 = .ok (.putfield 7, 3) := by decide +kernel
theorem d_p10m5_18 : decode prog_10_method_5_code 18 = .ok (.iload_n 1, 1) := by decide +kernel
theorem d_p10m5_19 : decode prog_10_method_5_code 19 = .ok (.bipush 10, 2) := by decide +kernel
theorem d_p10m5_21 : decode prog_10_method_5_code 21 = .ok (.idiv, 1) := by decide +kernel
theorem d_p10m5_22 : decode prog_10_method_5_code 22 = .ok (.istore_n 2, 1) := by decide +kernel
theorem d_p10m5_45 : decode prog_10_method_5_code 45 = .ok (.return_, 1) := by decide +kernel
theorem c_num (l : Launch) (Z : State) (a0 : Array Value) (hw : ∀ d ∈ tables_1, d.before a0 Z = true) {B : Nat} {z : List (Addr × Cell)} (o : Addr) (c v : Int32) :
    Con l Z (FM z) B (⟨"com/example/sectile/sectile/blocks/Blocks$StepLength", "number", "(I)V"⟩ : MethodName) prog_10_method_5_code 3 none ({ frames := 0, cells := 0, slots := 0, locals := 0 } : Room) [] #[.ref o, .int v] [(o, O_Blocks_StepLength, [.int c])] (fun rv_ ro_ => rv_ = none ∧ ro_ = [(o, O_Blocks_StepLength, [.int (c + decF v)])]) := by
  refine Con.of (plainFor_of_name (by first | (simp [plainName, overriddenIn]; done) | decide +kernel)) (ls := #[.val (.ref o), .val (.int v), .unset]) (fun m => by first | (simp [entryFrame, mkF, argsToLocals, Value.category]; done) | rfl) ?_
  intro p_ e_ h_ s_ m_ bl_ me_ c_ T0 W0
  refine g_aload_n (pc := 0) W0 d_p10m5_0 rfl rfl ?_
  refine g_dup (pc := 1) W0 d_p10m5_1 rfl ?_
  refine g_getfield (pc := 2) (i := 0) (j := 0) (host := "") W0 (Or.inl (wd hw 22 rfl)) rfl rfl rfl d_p10m5_2 (fun T1 W2 => ?_)
  refine g_iload_n (pc := 5) W2 d_p10m5_5 rfl ?_
  refine Go.join (T := T1) (fr := fun z3 : Int32 => (mkF m_ 14 #[.val (.ref o), .val (.int v), .unset] [.int z3, .int c, .ref o])) (if v < (0 : Int32) then (2 : Int32) else (1 : Int32)) (fun z3 hz4 => ?_) (fun j5 => ?_)
  · refine g_iadd (pc := 14) W2 d_p10m5_14 ?_
    refine g_putfield (pc := 15) (i := 0) (j := 0) (ty := .int) (os' := [(o, O_Blocks_StepLength, [.int (c + z3)])]) (host := "") W2 (Or.inl (wd hw 22 rfl)) (cls_Blocks_StepLength hw) (Or.inl (wd hw 23 rfl)) (wd hw 1 rfl) rfl rfl rfl (by decide) rfl rfl rfl d_p10m5_15 (fun T6 W7 => ?_)
    refine g_iload_n (pc := 18) W7 d_p10m5_18 rfl ?_
    refine g_bipush (pc := 19) (10 : Int32) (by decide) W7 d_p10m5_19 ?_
    refine g_idiv (pc := 21) W7 d_p10m5_21 (by decide) ?_
    refine g_istore_n (pc := 22) (ls' := #[.val (.ref o), .val (.int v), .val (.int (v / (10 : Int32)))]) W7 d_p10m5_22 rfl ?_
    refine nm_loop hw 11 _ _ (c + decF v) (by rw [hz4]; exact own_len c v) W7 (fun T8 rest1 W9 => ?_)
    exact g_return (pc := 45) rfl W9 d_p10m5_45 (by decide) (by decide) ⟨rfl, rfl⟩
  · refine g_if_ge 13 (pc := 6) W2 d_p10m5_6 (by decide) (by decide) (fun c10 => ?_) (fun c10 => ?_)
    · refine g_iconst (pc := 13) (1 : Int32) (by decide) W2 d_p10m5_13 ?_
      exact j5 _ (by simp only [if_neg c10])
    · refine g_iconst (pc := 9) (2 : Int32) (by decide) W2 d_p10m5_9 ?_
      refine g_goto 14 (pc := 10) W2 d_p10m5_10 (by decide) (by decide) ?_
      exact j5 _ (by simp only [if_pos c10])
theorem d_p7m22_0 : decode prog_7_method_22_code 0 = .ok (.aload_n 2, 1) := by decide +kernel
theorem d_p7m22_1 : decode prog_7_method_22_code 1 = .ok (.bipush 47, 2) := by decide +kernel
theorem d_p7m22_3 : decode prog_7_method_22_code 3 = .ok (.invokeinterface 215 2, 5) := by decide +kernel
theorem d_p7m22_8 : decode prog_7_method_22_code 8 = .ok (.aload_n 2, 1) := by decide +kernel
theorem d_p7m22_9 : decode prog_7_method_22_code 9 = .ok (.aload_n 0, 1) := by decide +kernel
theorem d_p7m22_10 : decode prog_7_method_22_code 10 = .ok (.invokeinterface 221 2, 5) := by decide +kernel
theorem d_p7m22_15 : decode prog_7_method_22_code 15 = .ok (.aload_n 2, 1) := by decide +kernel
theorem d_p7m22_16 : decode prog_7_method_22_code 16 = .ok (.bipush 91, 2) := by decide +kernel
theorem d_p7m22_18 : decode prog_7_method_22_code 18 = .ok (.invokeinterface 215 2, 5) := by decide +kernel
theorem d_p7m22_23 : decode prog_7_method_22_code 23 = .ok (.aload_n 2, 1) := by decide +kernel
theorem d_p7m22_24 : decode prog_7_method_22_code 24 = .ok (.iload_n 1, 1) := by decide +kernel
theorem d_p7m22_25 : decode prog_7_method_22_code 25 = .ok (.invokeinterface 224 2, 5) := by decide +kernel
theorem d_p7m22_30 : decode prog_7_method_22_code 30 = .ok (.aload_n 2, 1) := by decide +kernel
theorem d_p7m22_31 : decode prog_7_method_22_code 31 = .ok (.bipush 93, 2) := by decide +kernel
theorem d_p7m22_33 : decode prog_7_method_22_code 33 = .ok (.invokeinterface 215 2, 5) := by decide +kernel
theorem d_p7m22_38 : decode prog_7_method_22_code 38 = .ok (.return_, 1) := by decide +kernel
theorem c_wst (l : Launch) (Z : State) (a0 : Array Value) (hw : ∀ d ∈ tables_1, d.before a0 Z = true) {B : Nat} {z : List (Addr × Cell)} (o : Addr) (c v : Int32) (sv : Int32) (a b : Addr) (N : Int32) (hst : StaF Z z sv) (hv : ¬ sv = 0) (hs : StrF Z z a b N) :
    Con l Z (FM z) B (⟨"com/example/sectile/sectile/blocks/Blocks", "writeStep", "(Ljava/lang/String;ILcom/example/sectile/sectile/blocks/Blocks$PathWriter;)V"⟩ : MethodName) prog_7_method_22_code 3 none ({ frames := 3, cells := 0, slots := 0, locals := 40 } : Room) [] #[.ref a, .int v, .ref o] [(o, O_Blocks_StepLength, [.int c])] (fun rv_ ro_ => rv_ = none ∧ ro_ = [(o, O_Blocks_StepLength, [.int (((((c + (1 : Int32)) + N) + (1 : Int32)) + decF v) + (1 : Int32))])]) := by
  refine Con.of (plainFor_of_name (by first | (simp [plainName, overriddenIn]; done) | decide +kernel)) (ls := #[.val (.ref a), .val (.int v), .val (.ref o)]) (fun m => by first | (simp [entryFrame, mkF, argsToLocals, Value.category]; done) | rfl) ?_
  intro p_ e_ h_ s_ m_ bl_ me_ c_ T0 W0
  refine g_aload_n (pc := 0) W0 d_p7m22_0 rfl rfl ?_
  refine g_bipush (pc := 1) (47 : Int32) (by decide) W0 d_p7m22_1 ?_
  refine g_interface (xi := (⟨"com/example/sectile/sectile/blocks/Blocks$PathWriter", "ascii", "(C)V"⟩ : MethodName)) (C' := "com/example/sectile/sectile/blocks/Blocks$StepLength") (pc := 3) (Wt := 0) (argsL := [.int (47 : Int32)]) (rest := []) (loc := [(o, O_Blocks_StepLength, [.int c])]) (rst := []) W0 (wd hw 28 rfl) (wd hw 32 rfl) (wd hw 2 rfl) (wd hw 36 rfl) (wd hw 29 rfl) (wd hw 30 rfl) rfl (wd hw 31 rfl) (wd hw 33 rfl) (wd hw 34 rfl) (wd hw 35 rfl) (fun _ H => (H.get (i := 0) rfl).1) (by decide) (c_asc l Z a0 hw o c (47 : Int32)) ⟨[0], by decide, rfl⟩ rfl pd_C__V rfl rfl rfl (Nat.le_of_ble_eq_true rfl) (by decide) (by decide) (by decide) (by decide) d_p7m22_3 ?_
  rintro T1 _ _ ⟨rfl, rfl⟩ W2
  have W3 := W2.re (os' := [(o, O_Blocks_StepLength, [.int (c + (1 : Int32))])]) rfl
  show Go p_ e_ bl_ _ (T1.setTop (mkF m_ 8 _ []))
  refine g_aload_n (pc := 8) W3 d_p7m22_8 rfl rfl ?_
  refine g_aload_n (pc := 9) W3 d_p7m22_9 rfl rfl ?_
  refine g_interface (xi := (⟨"com/example/sectile/sectile/blocks/Blocks$PathWriter", "text", "(Ljava/lang/CharSequence;)V"⟩ : MethodName)) (C' := "com/example/sectile/sectile/blocks/Blocks$StepLength") (pc := 10) (Wt := 0) (argsL := [.ref a]) (rest := []) (loc := [(o, O_Blocks_StepLength, [.int (c + (1 : Int32))])]) (rst := []) W3 (wd hw 37 rfl) (wd hw 41 rfl) (wd hw 2 rfl) (wd hw 44 rfl) (wd hw 38 rfl) (wd hw 39 rfl) rfl (wd hw 40 rfl) (wd hw 42 rfl) (wd hw 43 rfl) (wd hw 35 rfl) (fun _ H => (H.get (i := 0) rfl).1) (by decide) (c_txt l Z a0 hw o (c + (1 : Int32)) sv a b N hst hv hs) ⟨[0], by decide, rfl⟩ rfl pd_Ljava_lang_CharSequence___V rfl rfl rfl (Nat.le_of_ble_eq_true rfl) (by decide) (by decide) (by decide) (by decide) d_p7m22_10 ?_
  rintro T4 _ _ ⟨rfl, rfl⟩ W5
  have W6 := W5.re (os' := [(o, O_Blocks_StepLength, [.int ((c + (1 : Int32)) + N)])]) rfl
  show Go p_ e_ bl_ _ (T4.setTop (mkF m_ 15 _ []))
  refine g_aload_n (pc := 15) W6 d_p7m22_15 rfl rfl ?_
  refine g_bipush (pc := 16) (91 : Int32) (by decide) W6 d_p7m22_16 ?_
  refine g_interface (xi := (⟨"com/example/sectile/sectile/blocks/Blocks$PathWriter", "ascii", "(C)V"⟩ : MethodName)) (C' := "com/example/sectile/sectile/blocks/Blocks$StepLength") (pc := 18) (Wt := 0) (argsL := [.int (91 : Int32)]) (rest := []) (loc := [(o, O_Blocks_StepLength, [.int ((c + (1 : Int32)) + N)])]) (rst := []) W6 (wd hw 28 rfl) (wd hw 32 rfl) (wd hw 2 rfl) (wd hw 36 rfl) (wd hw 29 rfl) (wd hw 30 rfl) rfl (wd hw 31 rfl) (wd hw 33 rfl) (wd hw 34 rfl) (wd hw 35 rfl) (fun _ H => (H.get (i := 0) rfl).1) (by decide) (c_asc l Z a0 hw o ((c + (1 : Int32)) + N) (91 : Int32)) ⟨[0], by decide, rfl⟩ rfl pd_C__V rfl rfl rfl (Nat.le_of_ble_eq_true rfl) (by decide) (by decide) (by decide) (by decide) d_p7m22_18 ?_
  rintro T7 _ _ ⟨rfl, rfl⟩ W8
  have W9 := W8.re (os' := [(o, O_Blocks_StepLength, [.int (((c + (1 : Int32)) + N) + (1 : Int32))])]) rfl
  show Go p_ e_ bl_ _ (T7.setTop (mkF m_ 23 _ []))
  refine g_aload_n (pc := 23) W9 d_p7m22_23 rfl rfl ?_
  refine g_iload_n (pc := 24) W9 d_p7m22_24 rfl ?_
  refine g_interface (xi := (⟨"com/example/sectile/sectile/blocks/Blocks$PathWriter", "number", "(I)V"⟩ : MethodName)) (C' := "com/example/sectile/sectile/blocks/Blocks$StepLength") (pc := 25) (Wt := 0) (argsL := [.int v]) (rest := []) (loc := [(o, O_Blocks_StepLength, [.int (((c + (1 : Int32)) + N) + (1 : Int32))])]) (rst := []) W9 (wd hw 62 rfl) (wd hw 66 rfl) (wd hw 2 rfl) (wd hw 69 rfl) (wd hw 63 rfl) (wd hw 64 rfl) rfl (wd hw 65 rfl) (wd hw 67 rfl) (wd hw 68 rfl) (wd hw 35 rfl) (fun _ H => (H.get (i := 0) rfl).1) (by decide) (c_num l Z a0 hw o (((c + (1 : Int32)) + N) + (1 : Int32)) v) ⟨[0], by decide, rfl⟩ rfl pd_I__V rfl rfl rfl (Nat.le_of_ble_eq_true rfl) (by decide) (by decide) (by decide) (by decide) d_p7m22_25 ?_
  rintro T10 _ _ ⟨rfl, rfl⟩ W11
  have W12 := W11.re (os' := [(o, O_Blocks_StepLength, [.int ((((c + (1 : Int32)) + N) + (1 : Int32)) + decF v)])]) rfl
  show Go p_ e_ bl_ _ (T10.setTop (mkF m_ 30 _ []))
  refine g_aload_n (pc := 30) W12 d_p7m22_30 rfl rfl ?_
  refine g_bipush (pc := 31) (93 : Int32) (by decide) W12 d_p7m22_31 ?_
  refine g_interface (xi := (⟨"com/example/sectile/sectile/blocks/Blocks$PathWriter", "ascii", "(C)V"⟩ : MethodName)) (C' := "com/example/sectile/sectile/blocks/Blocks$StepLength") (pc := 33) (Wt := 0) (argsL := [.int (93 : Int32)]) (rest := []) (loc := [(o, O_Blocks_StepLength, [.int ((((c + (1 : Int32)) + N) + (1 : Int32)) + decF v)])]) (rst := []) W12 (wd hw 28 rfl) (wd hw 32 rfl) (wd hw 2 rfl) (wd hw 36 rfl) (wd hw 29 rfl) (wd hw 30 rfl) rfl (wd hw 31 rfl) (wd hw 33 rfl) (wd hw 34 rfl) (wd hw 35 rfl) (fun _ H => (H.get (i := 0) rfl).1) (by decide) (c_asc l Z a0 hw o ((((c + (1 : Int32)) + N) + (1 : Int32)) + decF v) (93 : Int32)) ⟨[0], by decide, rfl⟩ rfl pd_C__V rfl rfl rfl (Nat.le_of_ble_eq_true rfl) (by decide) (by decide) (by decide) (by decide) d_p7m22_33 ?_
  rintro T13 _ _ ⟨rfl, rfl⟩ W14
  have W15 := W14.re (os' := [(o, O_Blocks_StepLength, [.int (((((c + (1 : Int32)) + N) + (1 : Int32)) + decF v) + (1 : Int32))])]) rfl
  show Go p_ e_ bl_ _ (T13.setTop (mkF m_ 38 _ []))
  exact g_return (pc := 38) rfl W15 d_p7m22_38 (by decide) (by decide) ⟨rfl, rfl⟩
theorem d_p10m2_0 : decode prog_10_method_2_code 0 = .ok (.aload_n 0, 1) := by decide +kernel
theorem d_p10m2_1 : decode prog_10_method_2_code 1 = .ok (.iconst 0, 1) := by decide +kernel
theorem d_p10m2_2 : decode prog_10_method_2_code 2 = .ok (.putfield 7, 3) := by decide +kernel
theorem d_p10m2_5 : decode prog_10_method_2_code 5 = .ok (.aload_n 1, 1) := by decide +kernel
theorem d_p10m2_6 : decode prog_10_method_2_code 6 = .ok (.iload_n 2, 1) := by decide +kernel
theorem d_p10m2_7 : decode prog_10_method_2_code 7 = .ok (.aload_n 0, 1) := by decide +kernel
theorem d_p10m2_8 : decode prog_10_method_2_code 8 = .ok (.invokestatic 13, 3) := by decide +kernel
theorem d_p10m2_11 : decode prog_10_method_2_code 11 = .ok (.aload_n 0, 1) := by decide +kernel
theorem d_p10m2_12 : decode prog_10_method_2_code 12 = .ok (.getfield 7, 3) := by decide +kernel
theorem d_p10m2_15 : decode prog_10_method_2_code 15 = .ok (.ireturn, 1) := by decide +kernel
theorem c_of (l : Launch) (Z : State) (a0 : Array Value) (hw : ∀ d ∈ tables_1, d.before a0 Z = true) {B : Nat} {z : List (Addr × Cell)} (o : Addr) (c v : Int32) (sv : Int32) (a b : Addr) (N : Int32) (hst : StaF Z z sv) (hv : ¬ sv = 0) (hs : StrF Z z a b N) :
    Con l Z (FM z) B (⟨"com/example/sectile/sectile/blocks/Blocks$StepLength", "of", "(Ljava/lang/String;I)I"⟩ : MethodName) prog_10_method_2_code 3 (some .int) ({ frames := 4, cells := 0, slots := 0, locals := 54 } : Room) [] #[.ref o, .ref a, .int v] [(o, O_Blocks_StepLength, [.int c])] (fun rv_ ro_ => rv_ = some (.int ((((((0 : Int32) + (1 : Int32)) + N) + (1 : Int32)) + decF v) + (1 : Int32))) ∧ ro_ = [(o, O_Blocks_StepLength, [.int ((((((0 : Int32) + (1 : Int32)) + N) + (1 : Int32)) + decF v) + (1 : Int32))])]) := by
  refine Con.of (plainFor_of_name (by first | (simp [plainName, overriddenIn]; done) | decide +kernel)) (ls := #[.val (.ref o), .val (.ref a), .val (.int v)]) (fun m => by first | (simp [entryFrame, mkF, argsToLocals, Value.category]; done) | rfl) ?_
  intro p_ e_ h_ s_ m_ bl_ me_ c_ T0 W0
  refine g_aload_n (pc := 0) W0 d_p10m2_0 rfl rfl ?_
  refine g_iconst (pc := 1) (0 : Int32) (by decide) W0 d_p10m2_1 ?_
  refine g_putfield (pc := 2) (i := 0) (j := 0) (ty := .int) (os' := [(o, O_Blocks_StepLength, [.int (0 : Int32)])]) (host := "") W0 (Or.inl (wd hw 22 rfl)) (cls_Blocks_StepLength hw) (Or.inl (wd hw 23 rfl)) (wd hw 1 rfl) rfl rfl rfl (by decide) rfl rfl rfl d_p10m2_2 (fun T1 W2 => ?_)
  refine g_aload_n (pc := 5) W2 d_p10m2_5 rfl rfl ?_
  refine g_iload_n (pc := 6) W2 d_p10m2_6 rfl ?_
  refine g_aload_n (pc := 7) W2 d_p10m2_7 rfl rfl ?_
  refine g_staticN (pc := 8) (Wt := 0) (argsL := [.ref a, .int v, .ref o]) (rest := []) (loc := [(o, O_Blocks_StepLength, [.int (0 : Int32)])]) (rst := []) W2 (wd hw 24 rfl) (wd hw 25 rfl) (wd hw 26 rfl) (wd hw 27 rfl) (by decide) (c_wst l Z a0 hw o (0 : Int32) v sv a b N hst hv hs) ⟨[0], by decide, rfl⟩ rfl pd_Ljava_lang_String_ILcom_example_sectile_sectile_blocks_Blocks_PathWriter___V rfl rfl rfl (Nat.le_of_ble_eq_true rfl) (by decide) (by decide) (by decide) (by decide) d_p10m2_8 ?_
  rintro T3 _ _ ⟨rfl, rfl⟩ W4
  have W5 := W4.re (os' := [(o, O_Blocks_StepLength, [.int ((((((0 : Int32) + (1 : Int32)) + N) + (1 : Int32)) + decF v) + (1 : Int32))])]) rfl
  show Go p_ e_ bl_ _ (T3.setTop (mkF m_ 11 _ []))
  refine g_aload_n (pc := 11) W5 d_p10m2_11 rfl rfl ?_
  refine g_getfield (pc := 12) (i := 0) (j := 0) (host := "") W5 (Or.inl (wd hw 22 rfl)) rfl rfl rfl d_p10m2_12 (fun T6 W7 => ?_)
  exact g_ireturn (pc := 15) rfl W7 d_p10m2_15 (by decide) (by decide) ⟨rfl, rfl⟩
theorem d_m3_0 : decode method_3_code 0 = .ok (.iload_n 0, 1) := by decide +kernel
theorem d_m3_1 : decode method_3_code 1 = .ok (.ifCond .ge 9, 3) := by decide +kernel
theorem d_m3_4 : decode method_3_code 4 = .ok (.iload_n 0, 1) := by decide +kernel
theorem d_m3_5 : decode method_3_code 5 = .ok (.i2l, 1) := by decide +kernel
theorem d_m3_6 : decode method_3_code 6 = .ok (.lneg, 1) := by decide +kernel
theorem d_m3_7 : decode method_3_code 7 = .ok (.goto 5, 3) := by decide +kernel
theorem d_m3_10 : decode method_3_code 10 = .ok (.iload_n 0, 1) := by decide +kernel
theorem d_m3_11 : decode method_3_code 11 = .ok (.i2l, 1) := by decide +kernel
theorem d_m3_12 : decode method_3_code 12 = .ok (.lstore_n 1, 1) := by decide +kernel
theorem d_m3_13 : decode method_3_code 13 = .ok (.iload_n 0, 1) := by decide +kernel
theorem d_m3_14 : decode method_3_code 14 = .ok (.ifCond .ge 7, 3) := by decide +kernel
theorem d_m3_17 : decode method_3_code 17 = .ok (.iconst 1, 1) := by decide +kernel
theorem d_m3_18 : decode method_3_code 18 = .ok (.goto 4, 3) := by decide +kernel
theorem d_m3_21 : decode method_3_code 21 = .ok (.iconst 0, 1) := by decide +kernel
theorem d_m3_22 : decode method_3_code 22 = .ok (.istore_n 3, 1) := by decide +kernel
theorem d_m3_23 : decode method_3_code 23 = .ok (.lload_n 1, 1) := by decide +kernel
theorem d_m3_24 : decode method_3_code 24 = .ok (.ldc2_w 32, 3) := by decide +kernel
theorem d_m3_27 : decode method_3_code 27 = .ok (.lcmp, 1) := by decide +kernel
theorem d_m3_28 : decode method_3_code 28 = .ok (.ifCond .ge 9, 3) := by decide +kernel
theorem d_m3_31 : decode method_3_code 31 = .ok (.iconst 1, 1) := by decide +kernel
theorem d_m3_32 : decode method_3_code 32 = .ok (.istore 4, 2) := by decide +kernel
theorem d_m3_34 : decode method_3_code 34 = .ok (.goto 123, 3) := by decide +kernel
theorem d_m3_37 : decode method_3_code 37 = .ok (.lload_n 1, 1) := by decide +kernel
theorem d_m3_38 : decode method_3_code 38 = .ok (.ldc2_w 34, 3) := by decide +kernel
theorem d_m3_41 : decode method_3_code 41 = .ok (.lcmp, 1) := by decide +kernel
theorem d_m3_42 : decode method_3_code 42 = .ok (.ifCond .ge 9, 3) := by decide +kernel
theorem d_m3_45 : decode method_3_code 45 = .ok (.iconst 2, 1) := by decide +kernel
theorem d_m3_46 : decode method_3_code 46 = .ok (.istore 4, 2) := by decide +kernel
theorem d_m3_48 : decode method_3_code 48 = .ok (.goto 109, 3) := by decide +kernel
theorem d_m3_51 : decode method_3_code 51 = .ok (.lload_n 1, 1) := by decide +kernel
theorem d_m3_52 : decode method_3_code 52 = .ok (.ldc2_w 36, 3) := by decide +kernel
theorem d_m3_55 : decode method_3_code 55 = .ok (.lcmp, 1) := by decide +kernel
theorem d_m3_56 : decode method_3_code 56 = .ok (.ifCond .ge 9, 3) := by decide +kernel
theorem d_m3_59 : decode method_3_code 59 = .ok (.iconst 3, 1) := by decide +kernel
theorem d_m3_60 : decode method_3_code 60 = .ok (.istore 4, 2) := by decide +kernel
theorem d_m3_62 : decode method_3_code 62 = .ok (.goto 95, 3) := by decide +kernel
theorem d_m3_65 : decode method_3_code 65 = .ok (.lload_n 1, 1) := by decide +kernel
theorem d_m3_66 : decode method_3_code 66 = .ok (.ldc2_w 38, 3) := by decide +kernel
theorem d_m3_69 : decode method_3_code 69 = .ok (.lcmp, 1) := by decide +kernel
theorem d_m3_70 : decode method_3_code 70 = .ok (.ifCond .ge 9, 3) := by decide +kernel
theorem d_m3_73 : decode method_3_code 73 = .ok (.iconst 4, 1) := by decide +kernel
theorem d_m3_74 : decode method_3_code 74 = .ok (.istore 4, 2) := by decide +kernel
theorem d_m3_76 : decode method_3_code 76 = .ok (.goto 81, 3) := by decide +kernel
theorem d_m3_79 : decode method_3_code 79 = .ok (.lload_n 1, 1) := by decide +kernel
theorem d_m3_80 : decode method_3_code 80 = .ok (.ldc2_w 40, 3) := by decide +kernel
theorem d_m3_83 : decode method_3_code 83 = .ok (.lcmp, 1) := by decide +kernel
theorem d_m3_84 : decode method_3_code 84 = .ok (.ifCond .ge 9, 3) := by decide +kernel
theorem d_m3_87 : decode method_3_code 87 = .ok (.iconst 5, 1) := by decide +kernel
theorem d_m3_88 : decode method_3_code 88 = .ok (.istore 4, 2) := by decide +kernel
theorem d_m3_90 : decode method_3_code 90 = .ok (.goto 67, 3) := by decide +kernel
theorem d_m3_93 : decode method_3_code 93 = .ok (.lload_n 1, 1) := by decide +kernel
theorem d_m3_94 : decode method_3_code 94 = .ok (.ldc2_w 42, 3) := by decide +kernel
theorem d_m3_97 : decode method_3_code 97 = .ok (.lcmp, 1) := by decide +kernel
theorem d_m3_98 : decode method_3_code 98 = .ok (.ifCond .ge 10, 3) := by decide +kernel
theorem d_m3_101 : decode method_3_code 101 = .ok (.bipush 6, 2) := by decide +kernel
theorem d_m3_103 : decode method_3_code 103 = .ok (.istore 4, 2) := by decide +kernel
theorem d_m3_105 : decode method_3_code 105 = .ok (.goto 52, 3) := by decide +kernel
theorem d_m3_108 : decode method_3_code 108 = .ok (.lload_n 1, 1) := by decide +kernel
theorem d_m3_109 : decode method_3_code 109 = .ok (.ldc2_w 44, 3) := by decide +kernel
theorem d_m3_112 : decode method_3_code 112 = .ok (.lcmp, 1) := by decide +kernel
theorem d_m3_113 : decode method_3_code 113 = .ok (.ifCond .ge 10, 3) := by decide +kernel
theorem d_m3_116 : decode method_3_code 116 = .ok (.bipush 7, 2) := by decide +kernel
theorem d_m3_118 : decode method_3_code 118 = .ok (.istore 4, 2) := by decide +kernel
theorem d_m3_120 : decode method_3_code 120 = .ok (.goto 37, 3) := by decide +kernel
theorem d_m3_123 : decode method_3_code 123 = .ok (.lload_n 1, 1) := by decide +kernel
theorem d_m3_124 : decode method_3_code 124 = .ok (.ldc2_w 46, 3) := by decide +kernel
theorem d_m3_127 : decode method_3_code 127 = .ok (.lcmp, 1) := by decide +kernel
theorem d_m3_128 : decode method_3_code 128 = .ok (.ifCond .ge 10, 3) := by decide +kernel
theorem d_m3_131 : decode method_3_code 131 = .ok (.bipush 8, 2) := by decide +kernel
theorem d_m3_133 : decode method_3_code 133 = .ok (.istore 4, 2) := by decide +kernel
theorem d_m3_135 : decode method_3_code 135 = .ok (.goto 22, 3) := by decide +kernel
theorem d_m3_138 : decode method_3_code 138 = .ok (.lload_n 1, 1) := by decide +kernel
theorem d_m3_139 : decode method_3_code 139 = .ok (.ldc2_w 48, 3) := by decide +kernel
theorem d_m3_142 : decode method_3_code 142 = .ok (.lcmp, 1) := by decide +kernel
theorem d_m3_143 : decode method_3_code 143 = .ok (.ifCond .ge 10, 3) := by decide +kernel
theorem d_m3_146 : decode method_3_code 146 = .ok (.bipush 9, 2) := by decide +kernel
theorem d_m3_148 : decode method_3_code 148 = .ok (.istore 4, 2) := by decide +kernel
theorem d_m3_150 : decode method_3_code 150 = .ok (.goto 7, 3) := by decide +kernel
theorem d_m3_153 : decode method_3_code 153 = .ok (.bipush 10, 2) := by decide +kernel
theorem d_m3_155 : decode method_3_code 155 = .ok (.istore 4, 2) := by decide +kernel
theorem d_m3_157 : decode method_3_code 157 = .ok (.iload_n 3, 1) := by decide +kernel
theorem d_m3_158 : decode method_3_code 158 = .ok (.iload 4, 2) := by decide +kernel
theorem d_m3_160 : decode method_3_code 160 = .ok (.iadd, 1) := by decide +kernel
theorem d_m3_161 : decode method_3_code 161 = .ok (.ireturn, 1) := by decide +kernel
theorem c_dec (l : Launch) (Z : State) (a0 : Array Value) (hw : ∀ d ∈ tables_1, d.before a0 Z = true) {B : Nat} {z : List (Addr × Cell)} (v : Int32) :
    Con l Z (FM z) B (⟨"com/example/sectile/sectile/blocks/StepLengthNumberPinLaw", "decimalLength", "(I)I"⟩ : MethodName) method_3_code 5 (some .int) ({ frames := 0, cells := 0, slots := 0, locals := 0 } : Room) [] #[.int v] [] (fun rv_ ro_ => rv_ = some (.int (decF v)) ∧ ro_ = []) := by
  refine Con.of (plainFor_of_name (by first | (simp [plainName, overriddenIn]; done) | decide +kernel)) (ls := #[.val (.int v), .unset, .unset, .unset, .unset]) (fun m => by first | (simp [entryFrame, mkF, argsToLocals, Value.category]; done) | rfl) ?_
  intro p_ e_ h_ s_ m_ bl_ me_ c_ T0 W0
  refine g_iload_n (pc := 0) W0 d_m3_0 rfl ?_
  refine Go.join (T := T0) (fr := fun z1 : Int64 => (mkF m_ 12 #[.val (.int v), .unset, .unset, .unset, .unset] [.long z1])) (if v < (0 : Int32) then (-v.toInt64) else v.toInt64) (fun z1 hz2 => ?_) (fun j3 => ?_)
  · refine g_lstore_n (pc := 12) (ls' := #[.val (.int v), .val (.long z1), .second, .unset, .unset]) W0 d_m3_12 rfl ?_
    refine g_iload_n (pc := 13) W0 d_m3_13 rfl ?_
    refine Go.join (T := T0) (fr := fun z4 : Int32 => (mkF m_ 22 #[.val (.int v), .val (.long z1), .second, .unset, .unset] [.int z4])) (if v < (0 : Int32) then (1 : Int32) else (0 : Int32)) (fun z4 hz5 => ?_) (fun j6 => ?_)
    · refine g_istore_n (pc := 22) (ls' := #[.val (.int v), .val (.long z1), .second, .val (.int z4), .unset]) W0 d_m3_22 rfl ?_
      refine g_lload_n (pc := 23) W0 d_m3_23 rfl ?_
      refine g_ldc2_long (pc := 24) (v := (10 : Int64)) W0 (wd hw 77 rfl) d_m3_24 ?_
      refine g_lcmp (pc := 27) W0 d_m3_27 ?_
      refine Go.join (T := T0) (fr := fun z7 : Int32 => (mkF m_ 157 #[.val (.int v), .val (.long z1), .second, .val (.int z4), .val (.int z7)] [])) (if (XT.cmpL z1 (10 : Int64)) < (0 : Int32) then (1 : Int32) else (if (XT.cmpL z1 (100 : Int64)) < (0 : Int32) then (2 : Int32) else (if (XT.cmpL z1 (1000 : Int64)) < (0 : Int32) then (3 : Int32) else (if (XT.cmpL z1 (10000 : Int64)) < (0 : Int32) then (4 : Int32) else (if (XT.cmpL z1 (100000 : Int64)) < (0 : Int32) then (5 : Int32) else (if (XT.cmpL z1 (1000000 : Int64)) < (0 : Int32) then (6 : Int32) else (if (XT.cmpL z1 (10000000 : Int64)) < (0 : Int32) then (7 : Int32) else (if (XT.cmpL z1 (100000000 : Int64)) < (0 : Int32) then (8 : Int32) else (if (XT.cmpL z1 (1000000000 : Int64)) < (0 : Int32) then (9 : Int32) else (10 : Int32)))))))))) (fun z7 hz8 => ?_) (fun j9 => ?_)
      · refine g_iload_n (pc := 157) W0 d_m3_157 rfl ?_
        refine g_iload (pc := 158) W0 d_m3_158 rfl ?_
        refine g_iadd (pc := 160) W0 d_m3_160 ?_
        exact g_ireturn (pc := 161) rfl W0 d_m3_161 (by decide) (by decide) ⟨by rw [hz8, hz5, hz2]; rfl, rfl⟩
      · refine g_if_ge 37 (pc := 28) W0 d_m3_28 (by decide) (by decide) (fun c10 => ?_) (fun c10 => ?_)
        · refine g_lload_n (pc := 37) W0 d_m3_37 rfl ?_
          refine g_ldc2_long (pc := 38) (v := (100 : Int64)) W0 (wd hw 94 rfl) d_m3_38 ?_
          refine g_lcmp (pc := 41) W0 d_m3_41 ?_
          refine g_if_ge 51 (pc := 42) W0 d_m3_42 (by decide) (by decide) (fun c11 => ?_) (fun c11 => ?_)
          · refine g_lload_n (pc := 51) W0 d_m3_51 rfl ?_
            refine g_ldc2_long (pc := 52) (v := (1000 : Int64)) W0 (wd hw 95 rfl) d_m3_52 ?_
            refine g_lcmp (pc := 55) W0 d_m3_55 ?_
            refine g_if_ge 65 (pc := 56) W0 d_m3_56 (by decide) (by decide) (fun c12 => ?_) (fun c12 => ?_)
            · refine g_lload_n (pc := 65) W0 d_m3_65 rfl ?_
              refine g_ldc2_long (pc := 66) (v := (10000 : Int64)) W0 (wd hw 96 rfl) d_m3_66 ?_
              refine g_lcmp (pc := 69) W0 d_m3_69 ?_
              refine g_if_ge 79 (pc := 70) W0 d_m3_70 (by decide) (by decide) (fun c13 => ?_) (fun c13 => ?_)
              · refine g_lload_n (pc := 79) W0 d_m3_79 rfl ?_
                refine g_ldc2_long (pc := 80) (v := (100000 : Int64)) W0 (wd hw 97 rfl) d_m3_80 ?_
                refine g_lcmp (pc := 83) W0 d_m3_83 ?_
                refine g_if_ge 93 (pc := 84) W0 d_m3_84 (by decide) (by decide) (fun c14 => ?_) (fun c14 => ?_)
                · refine g_lload_n (pc := 93) W0 d_m3_93 rfl ?_
                  refine g_ldc2_long (pc := 94) (v := (1000000 : Int64)) W0 (wd hw 98 rfl) d_m3_94 ?_
                  refine g_lcmp (pc := 97) W0 d_m3_97 ?_
                  refine g_if_ge 108 (pc := 98) W0 d_m3_98 (by decide) (by decide) (fun c15 => ?_) (fun c15 => ?_)
                  · refine g_lload_n (pc := 108) W0 d_m3_108 rfl ?_
                    refine g_ldc2_long (pc := 109) (v := (10000000 : Int64)) W0 (wd hw 99 rfl) d_m3_109 ?_
                    refine g_lcmp (pc := 112) W0 d_m3_112 ?_
                    refine g_if_ge 123 (pc := 113) W0 d_m3_113 (by decide) (by decide) (fun c16 => ?_) (fun c16 => ?_)
                    · refine g_lload_n (pc := 123) W0 d_m3_123 rfl ?_
                      refine g_ldc2_long (pc := 124) (v := (100000000 : Int64)) W0 (wd hw 100 rfl) d_m3_124 ?_
                      refine g_lcmp (pc := 127) W0 d_m3_127 ?_
                      refine g_if_ge 138 (pc := 128) W0 d_m3_128 (by decide) (by decide) (fun c17 => ?_) (fun c17 => ?_)
                      · refine g_lload_n (pc := 138) W0 d_m3_138 rfl ?_
                        refine g_ldc2_long (pc := 139) (v := (1000000000 : Int64)) W0 (wd hw 101 rfl) d_m3_139 ?_
                        refine g_lcmp (pc := 142) W0 d_m3_142 ?_
                        refine g_if_ge 153 (pc := 143) W0 d_m3_143 (by decide) (by decide) (fun c18 => ?_) (fun c18 => ?_)
                        · refine g_bipush (pc := 153) (10 : Int32) (by decide) W0 d_m3_153 ?_
                          refine g_istore (pc := 155) (ls' := #[.val (.int v), .val (.long z1), .second, .val (.int z4), .val (.int (10 : Int32))]) W0 d_m3_155 rfl ?_
                          exact j9 _ (by simp only [if_neg c10, if_neg c11, if_neg c12, if_neg c13, if_neg c14, if_neg c15, if_neg c16, if_neg c17, if_neg c18])
                        · refine g_bipush (pc := 146) (9 : Int32) (by decide) W0 d_m3_146 ?_
                          refine g_istore (pc := 148) (ls' := #[.val (.int v), .val (.long z1), .second, .val (.int z4), .val (.int (9 : Int32))]) W0 d_m3_148 rfl ?_
                          refine g_goto 157 (pc := 150) W0 d_m3_150 (by decide) (by decide) ?_
                          exact j9 _ (by simp only [if_neg c10, if_neg c11, if_neg c12, if_neg c13, if_neg c14, if_neg c15, if_neg c16, if_neg c17, if_pos c18])
                      · refine g_bipush (pc := 131) (8 : Int32) (by decide) W0 d_m3_131 ?_
                        refine g_istore (pc := 133) (ls' := #[.val (.int v), .val (.long z1), .second, .val (.int z4), .val (.int (8 : Int32))]) W0 d_m3_133 rfl ?_
                        refine g_goto 157 (pc := 135) W0 d_m3_135 (by decide) (by decide) ?_
                        exact j9 _ (by simp only [if_neg c10, if_neg c11, if_neg c12, if_neg c13, if_neg c14, if_neg c15, if_neg c16, if_pos c17])
                    · refine g_bipush (pc := 116) (7 : Int32) (by decide) W0 d_m3_116 ?_
                      refine g_istore (pc := 118) (ls' := #[.val (.int v), .val (.long z1), .second, .val (.int z4), .val (.int (7 : Int32))]) W0 d_m3_118 rfl ?_
                      refine g_goto 157 (pc := 120) W0 d_m3_120 (by decide) (by decide) ?_
                      exact j9 _ (by simp only [if_neg c10, if_neg c11, if_neg c12, if_neg c13, if_neg c14, if_neg c15, if_pos c16])
                  · refine g_bipush (pc := 101) (6 : Int32) (by decide) W0 d_m3_101 ?_
                    refine g_istore (pc := 103) (ls' := #[.val (.int v), .val (.long z1), .second, .val (.int z4), .val (.int (6 : Int32))]) W0 d_m3_103 rfl ?_
                    refine g_goto 157 (pc := 105) W0 d_m3_105 (by decide) (by decide) ?_
                    exact j9 _ (by simp only [if_neg c10, if_neg c11, if_neg c12, if_neg c13, if_neg c14, if_pos c15])
                · refine g_iconst (pc := 87) (5 : Int32) (by decide) W0 d_m3_87 ?_
                  refine g_istore (pc := 88) (ls' := #[.val (.int v), .val (.long z1), .second, .val (.int z4), .val (.int (5 : Int32))]) W0 d_m3_88 rfl ?_
                  refine g_goto 157 (pc := 90) W0 d_m3_90 (by decide) (by decide) ?_
                  exact j9 _ (by simp only [if_neg c10, if_neg c11, if_neg c12, if_neg c13, if_pos c14])
              · refine g_iconst (pc := 73) (4 : Int32) (by decide) W0 d_m3_73 ?_
                refine g_istore (pc := 74) (ls' := #[.val (.int v), .val (.long z1), .second, .val (.int z4), .val (.int (4 : Int32))]) W0 d_m3_74 rfl ?_
                refine g_goto 157 (pc := 76) W0 d_m3_76 (by decide) (by decide) ?_
                exact j9 _ (by simp only [if_neg c10, if_neg c11, if_neg c12, if_pos c13])
            · refine g_iconst (pc := 59) (3 : Int32) (by decide) W0 d_m3_59 ?_
              refine g_istore (pc := 60) (ls' := #[.val (.int v), .val (.long z1), .second, .val (.int z4), .val (.int (3 : Int32))]) W0 d_m3_60 rfl ?_
              refine g_goto 157 (pc := 62) W0 d_m3_62 (by decide) (by decide) ?_
              exact j9 _ (by simp only [if_neg c10, if_neg c11, if_pos c12])
          · refine g_iconst (pc := 45) (2 : Int32) (by decide) W0 d_m3_45 ?_
            refine g_istore (pc := 46) (ls' := #[.val (.int v), .val (.long z1), .second, .val (.int z4), .val (.int (2 : Int32))]) W0 d_m3_46 rfl ?_
            refine g_goto 157 (pc := 48) W0 d_m3_48 (by decide) (by decide) ?_
            exact j9 _ (by simp only [if_neg c10, if_pos c11])
        · refine g_iconst (pc := 31) (1 : Int32) (by decide) W0 d_m3_31 ?_
          refine g_istore (pc := 32) (ls' := #[.val (.int v), .val (.long z1), .second, .val (.int z4), .val (.int (1 : Int32))]) W0 d_m3_32 rfl ?_
          refine g_goto 157 (pc := 34) W0 d_m3_34 (by decide) (by decide) ?_
          exact j9 _ (by simp only [if_pos c10])
    · refine g_if_ge 21 (pc := 14) W0 d_m3_14 (by decide) (by decide) (fun c19 => ?_) (fun c19 => ?_)
      · refine g_iconst (pc := 21) (0 : Int32) (by decide) W0 d_m3_21 ?_
        exact j6 _ (by simp only [if_neg c19])
      · refine g_iconst (pc := 17) (1 : Int32) (by decide) W0 d_m3_17 ?_
        refine g_goto 22 (pc := 18) W0 d_m3_18 (by decide) (by decide) ?_
        exact j6 _ (by simp only [if_pos c19])
  · refine g_if_ge 10 (pc := 1) W0 d_m3_1 (by decide) (by decide) (fun c20 => ?_) (fun c20 => ?_)
    · refine g_iload_n (pc := 10) W0 d_m3_10 rfl ?_
      refine g_i2l (pc := 11) W0 d_m3_11 ?_
      exact j3 _ (by simp only [if_neg c20])
    · refine g_iload_n (pc := 4) W0 d_m3_4 rfl ?_
      refine g_i2l (pc := 5) W0 d_m3_5 ?_
      refine g_lneg (pc := 6) W0 d_m3_6 ?_
      refine g_goto 12 (pc := 7) W0 d_m3_7 (by decide) (by decide) ?_
      exact j3 _ (by simp only [if_pos c20])
theorem d_j43m3_0 : decode jdk_43_method_3_code 0 = .ok (.iload_n 0, 1) := by decide +kernel
theorem d_j43m3_1 : decode jdk_43_method_3_code 1 = .ok (.sipush 255, 3) := by decide +kernel
theorem d_j43m3_4 : decode jdk_43_method_3_code 4 = .ok (.if_icmp .gt 7, 3) := by decide +kernel
theorem d_j43m3_7 : decode jdk_43_method_3_code 7 = .ok (.iconst 1, 1) := by decide +kernel
theorem d_j43m3_8 : decode jdk_43_method_3_code 8 = .ok (.goto 4, 3) := by decide +kernel
theorem d_j43m3_12 : decode jdk_43_method_3_code 12 = .ok (.ireturn, 1) := by decide +kernel
theorem c_can (l : Launch) (Z : State) (a0 : Array Value) (hw : ∀ d ∈ tables_1, d.before a0 Z = true) {B : Nat} {z : List (Addr × Cell)} (v : Int32) (h5 : ¬ 255 < v) :
    Con l Z (FM z) B (⟨"java/lang/StringLatin1", "canEncode", "(C)Z"⟩ : MethodName) jdk_43_method_3_code 1 (some .boolean) ({ frames := 0, cells := 0, slots := 0, locals := 0 } : Room) [] #[.int v] [] (fun rv_ ro_ => rv_ = some (.int (1 : Int32)) ∧ ro_ = []) := by
  refine Con.of (plainFor_of_name (by first | (simp [plainName, overriddenIn]; done) | decide +kernel)) (ls := #[.val (.int v)]) (fun m => by first | (simp [entryFrame, mkF, argsToLocals, Value.category]; done) | rfl) ?_
  intro p_ e_ h_ s_ m_ bl_ me_ c_ T0 W0
  refine g_iload_n (pc := 0) W0 d_j43m3_0 rfl ?_
  refine g_sipush (pc := 1) (255 : Int32) (by decide) W0 d_j43m3_1 ?_
  refine g_icmpN (pc := 4) W0 d_j43m3_4 (flt h5).2.2.1 ?_
  refine g_iconst (pc := 7) (1 : Int32) (by decide) W0 d_j43m3_7 ?_
  refine g_goto 12 (pc := 8) W0 d_j43m3_8 (by decide) (by decide) ?_
  exact g_zreturn (pc := 12) rfl (by decide) W0 d_j43m3_12 (by decide) (by decide) ⟨rfl, rfl⟩
theorem d_j43m46_0 : decode jdk_43_method_46_code 0 = .ok (.iconst 1, 1) := by decide +kernel
theorem d_j43m46_1 : decode jdk_43_method_46_code 1 = .ok (.newarray .byte, 2) := by decide +kernel
theorem d_j43m46_3 : decode jdk_43_method_46_code 3 = .ok (.dup, 1) := by decide +kernel
theorem d_j43m46_4 : decode jdk_43_method_46_code 4 = .ok (.iconst 0, 1) := by decide +kernel
theorem d_j43m46_5 : decode jdk_43_method_46_code 5 = .ok (.iload_n 0, 1) := by decide +kernel
theorem d_j43m46_6 : decode jdk_43_method_46_code 6 = .ok (.i2b, 1) := by decide +kernel
theorem d_j43m46_7 : decode jdk_43_method_46_code 7 = .ok (.bastore, 1) := by decide +kernel
theorem d_j43m46_8 : decode jdk_43_method_46_code 8 = .ok (.areturn, 1) := by decide +kernel
theorem c_tob (l : Launch) (Z : State) (a0 : Array Value) (hw : ∀ d ∈ tables_1, d.before a0 Z = true) {B : Nat} {z : List (Addr × Cell)} (v : Int32) :
    Con l Z (FM z) B (⟨"java/lang/StringLatin1", "toBytes", "(C)[B"⟩ : MethodName) jdk_43_method_46_code 1 (some (.array .byte)) ({ frames := 0, cells := 1, slots := 1, locals := 0 } : Room) [] #[.int v] [] (fun rv_ ro_ => ∃ b1, rv_ = some (.ref b1) ∧ ro_ = [(b1, (.array .byte), [.int v.toInt8.toInt32])]) := by
  refine Con.of (plainFor_of_name (by first | (simp [plainName, overriddenIn]; done) | decide +kernel)) (ls := #[.val (.int v)]) (fun m => by first | (simp [entryFrame, mkF, argsToLocals, Value.category]; done) | rfl) ?_
  intro p_ e_ h_ s_ m_ bl_ me_ c_ T0 W0
  refine g_iconst (pc := 0) (1 : Int32) (by decide) W0 d_j43m46_0 ?_
  refine g_newarray (pc := 1) (ty := .byte) (vs := [.int (0 : Int32)]) 1 W0 (wd hw 12 rfl) rfl (by decide) (by decide) (by decide) rfl d_j43m46_1 (by decide) (by decide) (fun T2 b1 W3 => ?_)
  have W4 := W3.re (os' := [(b1, (.array .byte), [.int (0 : Int32)])]) rfl
  refine g_dup (pc := 3) W4 d_j43m46_3 rfl ?_
  refine g_iconst (pc := 4) (0 : Int32) (by decide) W4 d_j43m46_4 ?_
  refine g_iload_n (pc := 5) W4 d_j43m46_5 rfl ?_
  refine g_i2b (pc := 6) W4 d_j43m46_6 ?_
  refine g_bastore (pc := 7) (i := 0) (os' := [(b1, (.array .byte), [.int v.toInt8.toInt32])]) (x' := v.toInt8.toInt32) (own_bb _) 0 W4 rfl (by decide) (by decide) (Nat.le_of_ble_eq_true rfl) rfl d_j43m46_7 (fun T5 W6 => ?_)
  exact g_areturn (pc := 8) rfl rfl W6 d_j43m46_8 (by decide) (by decide) ⟨b1, rfl, rfl⟩
theorem d_j42m151_0 : decode jdk_42_method_151_code 0 = .ok (.aload_n 0, 1) := by decide +kernel
theorem d_j42m151_1 : decode jdk_42_method_151_code 1 = .ok (.invokespecial 1, 3) := by decide +kernel
theorem d_j42m151_4 : decode jdk_42_method_151_code 4 = .ok (.aload_n 0, 1) := by decide +kernel
theorem d_j42m151_5 : decode jdk_42_method_151_code 5 = .ok (.aload_n 1, 1) := by decide +kernel
theorem d_j42m151_6 : decode jdk_42_method_151_code 6 = .ok (.putfield 9, 3) := by decide +kernel
theorem d_j42m151_9 : decode jdk_42_method_151_code 9 = .ok (.aload_n 0, 1) := by decide +kernel
theorem d_j42m151_10 : decode jdk_42_method_151_code 10 = .ok (.iload_n 2, 1) := by decide +kernel
theorem d_j42m151_11 : decode jdk_42_method_151_code 11 = .ok (.putfield 15, 3) := by decide +kernel
theorem d_j42m151_14 : decode jdk_42_method_151_code 14 = .ok (.return_, 1) := by decide +kernel
theorem c_ini (l : Launch) (Z : State) (a0 : Array Value) (hw : ∀ d ∈ tables_1, d.before a0 Z = true) {B : Nat} {z : List (Addr × Cell)} (a b : Addr) :
    Con l Z (FM z) B (⟨"java/lang/String", "<init>", "([BB)V"⟩ : MethodName) jdk_42_method_151_code 3 none ({ frames := 1, cells := 0, slots := 0, locals := 12 } : Room) [] #[.ref a, .ref b, .int (0 : Int32)] [(a, O_String, [.null, .int (0 : Int32)])] (fun rv_ ro_ => rv_ = none ∧ ro_ = [(a, O_String, [.ref b, .int (0 : Int32)])]) := by
  refine Con.of (plainFor_of_name (by first | (simp [plainName, overriddenIn]; done) | decide +kernel)) (ls := #[.val (.ref a), .val (.ref b), .val (.int (0 : Int32))]) (fun m => by first | (simp [entryFrame, mkF, argsToLocals, Value.category]; done) | rfl) ?_
  intro p_ e_ h_ s_ m_ bl_ me_ c_ T0 W0
  refine g_aload_n (pc := 0) W0 d_j42m151_0 rfl rfl ?_
  refine g_object (pc := 1) 0 W0 (wd hw 93 rfl) (wd hw 7 rfl) (wd hw 8 rfl) rfl (Nat.le_of_ble_eq_true rfl) (by decide) (by decide) d_j42m151_1 (fun T1 W2 => ?_)
  refine g_aload_n (pc := 4) W2 d_j42m151_4 rfl rfl ?_
  refine g_aload_n (pc := 5) W2 d_j42m151_5 rfl rfl ?_
  refine g_putfield (pc := 6) (i := 0) (j := 0) (ty := (.array .byte)) (os' := [(a, O_String, [.ref b, .int (0 : Int32)])]) (host := "") W2 (Or.inl (wd hw 54 rfl)) (cls_String hw) (Or.inr ⟨(wd hw 13 rfl), rfl, rfl⟩) (wd hw 11 rfl) rfl rfl rfl (by decide) rfl rfl rfl d_j42m151_6 (fun T3 W4 => ?_)
  refine g_aload_n (pc := 9) W4 d_j42m151_9 rfl rfl ?_
  refine g_iload_n (pc := 10) W4 d_j42m151_10 rfl ?_
  refine g_putfield (pc := 11) (i := 0) (j := 1) (ty := .byte) (os' := [(a, O_String, [.ref b, .int (0 : Int32)])]) (host := "") W4 (Or.inl (wd hw 61 rfl)) (cls_String hw) (Or.inr ⟨(wd hw 14 rfl), rfl, rfl⟩) (wd hw 11 rfl) rfl rfl rfl (by decide) rfl rfl rfl d_j42m151_11 (fun T5 W6 => ?_)
  exact g_return (pc := 14) rfl W6 d_j42m151_14 (by decide) (by decide) ⟨rfl, rfl⟩
theorem d_j42m139_0 : decode jdk_42_method_139_code 0 = .ok (.getstatic 38, 3) := by decide +kernel
theorem d_j42m139_3 : decode jdk_42_method_139_code 3 = .ok (.ifCond .eq 23, 3) := by decide +kernel
theorem d_j42m139_6 : decode jdk_42_method_139_code 6 = .ok (.iload_n 0, 1) := by decide +kernel
theorem d_j42m139_7 : decode jdk_42_method_139_code 7 = .ok (.invokestatic 1015, 3) := by decide +kernel
theorem d_j42m139_10 : decode jdk_42_method_139_code 10 = .ok (.ifCond .eq 16, 3) := by decide +kernel
theorem d_j42m139_13 : decode jdk_42_method_139_code 13 = .ok (.new 10, 3) := by decide +kernel
theorem d_j42m139_16 : decode jdk_42_method_139_code 16 = .ok (.dup, 1) := by decide +kernel
theorem d_j42m139_17 : decode jdk_42_method_139_code 17 = .ok (.iload_n 0, 1) := by decide +kernel
theorem d_j42m139_18 : decode jdk_42_method_139_code 18 = .ok (.invokestatic 1018, 3) := by decide +kernel
theorem d_j42m139_21 : decode jdk_42_method_139_code 21 = .ok (.iconst 0, 1) := by decide +kernel
theorem d_j42m139_22 : decode jdk_42_method_139_code 22 = .ok (.invokespecial 209, 3) := by decide +kernel
theorem d_j42m139_25 : decode jdk_42_method_139_code 25 = .ok (.areturn, 1) := by decide +kernel
theorem c_val (l : Launch) (Z : State) (a0 : Array Value) (hw : ∀ d ∈ tables_1, d.before a0 Z = true) {B : Nat} {z : List (Addr × Cell)} (v sv : Int32) (hst : StaF Z z sv) (hv : ¬ sv = 0) (h5 : ¬ 255 < v) :
    Con l Z (FM z) B (⟨"java/lang/String", "valueOf", "(C)Ljava/lang/String;"⟩ : MethodName) jdk_42_method_139_code 1 (some (.object "java/lang/String")) ({ frames := 2, cells := 2, slots := 5, locals := 27 } : Room) [] #[.int v] [] (fun rv_ ro_ => ∃ b6, ∃ b10, rv_ = some (.ref b6) ∧ ro_ = [(b6, O_String, [.ref b10, .int (0 : Int32)]), (b10, (.array .byte), [.int v.toInt8.toInt32])]) := by
  refine Con.of (plainFor_of_name (by first | (simp [plainName, overriddenIn]; done) | decide +kernel)) (ls := #[.val (.int v)]) (fun m => by first | (simp [entryFrame, mkF, argsToLocals, Value.category]; done) | rfl) ?_
  intro p_ e_ h_ s_ m_ bl_ me_ c_ T0 W0
  refine g_getstatic (pc := 0) (v := .int sv) W0 (wd hw 60 rfl) hst d_j42m139_0 (fun T1 W2 => ?_)
  refine g_ifN (pc := 3) W2 d_j42m139_3 (feq hv).1 ?_
  refine g_iload_n (pc := 6) W2 d_j42m139_6 rfl ?_
  refine g_static (pc := 7) (Wt := 0) (argsL := [.int v]) (rest := []) (loc := []) (rst := []) W2 (wd hw 81 rfl) (wd hw 82 rfl) (wd hw 83 rfl) (wd hw 84 rfl) (by decide) (c_can l Z a0 hw v h5) Spl.none rfl pd_C__Z rfl rfl rfl (Nat.le_of_ble_eq_true rfl) (by decide) (by decide) (by decide) (by decide) d_j42m139_7 ?_
  rintro T3 _ _ ⟨rfl, rfl⟩ W4
  have W5 := W4.re (os' := []) rfl
  show Go p_ e_ bl_ _ (T3.setTop (mkF m_ 10 _ [.int (1 : Int32)]))
  refine g_ifN (pc := 10) W5 d_j42m139_10 (by decide) ?_
  refine g_new (pc := 13) (vs := [.null, .int (0 : Int32)]) W5 (wd hw 85 rfl) (wd hw 11 rfl) (wd hw 10 rfl) (cls_String hw) (by show List.map (fun x => dflt x.2) (fm0 "java/lang/String") = _; decide) d_j42m139_13 (by decide) (by decide) (fun T7 b6 W8 => ?_)
  have W9 := W8.re (os' := [(b6, O_String, [.null, .int (0 : Int32)])]) rfl
  refine g_dup (pc := 16) W9 d_j42m139_16 rfl ?_
  refine g_iload_n (pc := 17) W9 d_j42m139_17 rfl ?_
  refine g_static (pc := 18) (Wt := 2) (argsL := [.int v]) (rest := [.ref b6, .ref b6]) (loc := []) (rst := [(b6, O_String, [.null, .int (0 : Int32)])]) W9 (wd hw 86 rfl) (wd hw 87 rfl) (wd hw 83 rfl) (wd hw 88 rfl) (by decide) (c_tob l Z a0 hw v) Spl.none rfl pd_C__AB rfl rfl rfl (Nat.le_of_ble_eq_true rfl) (by decide) (by decide) (by decide) (by decide) d_j42m139_18 ?_
  rintro T11 _ _ ⟨b10, rfl, rfl⟩ W12
  have W13 := W12.re (os' := [(b10, (.array .byte), [.int v.toInt8.toInt32]), (b6, O_String, [.null, .int (0 : Int32)])]) rfl
  show Go p_ e_ bl_ _ (T11.setTop (mkF m_ 21 _ [.ref b10, .ref b6, .ref b6]))
  refine g_iconst (pc := 21) (0 : Int32) (by decide) W13 d_j42m139_21 ?_
  refine g_init (pc := 22) (Wt := 1) (argsL := [.ref b10, .int (0 : Int32)]) (rest := [.ref b6]) (loc := [(b6, O_String, [.null, .int (0 : Int32)])]) (rst := [(b10, (.array .byte), [.int v.toInt8.toInt32])]) W13 rfl (wd hw 89 rfl) (wd hw 90 rfl) (wd hw 10 rfl) (wd hw 92 rfl) (by decide) (c_ini l Z a0 hw b6 b10) ⟨[1, 0], by decide, rfl⟩ rfl pd_ABB__V rfl rfl rfl (Nat.le_of_ble_eq_true rfl) (by decide) (by decide) (by decide) (by decide) d_j42m139_22 ?_
  rintro T14 _ _ ⟨rfl, rfl⟩ W15
  have W16 := W15.re (os' := [(b6, O_String, [.ref b10, .int (0 : Int32)]), (b10, (.array .byte), [.int v.toInt8.toInt32])]) rfl
  show Go p_ e_ bl_ _ (T14.setTop (mkF m_ 25 _ [.ref b6]))
  exact g_areturn (pc := 25) rfl rfl W16 d_j42m139_25 (by decide) (by decide) ⟨b6, b10, rfl, rfl⟩
theorem own_c255 (x : Int32) : ¬ (255 : Int32) < (x &&& (255 : Int32)).toUInt32.toUInt16.toUInt32.toInt32 := by
  have e : ((x &&& (255 : Int32)).toUInt32.toUInt16.toUInt32.toInt32).toBitVec.toNat ≤ 255 := by
    simp only [UInt32.toBitVec_toInt32, UInt16.toBitVec_toUInt32, UInt32.toBitVec_toUInt16, Int32.toBitVec_toUInt32, Int32.toBitVec_and, BitVec.toNat_setWidth, BitVec.toNat_and]
    have h : x.toBitVec.toNat &&& (255 : Int32).toBitVec.toNat ≤ 255 := Nat.and_le_right
    exact Nat.le_trans (Nat.mod_le _ _) (Nat.le_trans (Nat.mod_le _ _) h)
  generalize ((x &&& (255 : Int32)).toUInt32.toUInt16.toUInt32.toInt32) = y at e ⊢
  intro h
  have e2 : (255 : Int32).toInt = 255 := by decide
  have e3 : y.toInt = y.toBitVec.toInt := rfl
  rw [Int32.lt_iff_toInt_lt, e2, e3, BitVec.toInt_eq_toNat_cond, if_pos (by omega)] at h
  omega
theorem own_fin (a b d : Int32) (h : a + 1 = b) : (a + d) + 1 = b + d := by rw [Int32.add_assoc, Int32.add_comm d 1, ← Int32.add_assoc, h]
theorem sta_of {Z : State} {v : Int32} (H : Sta Z Z.heap "java/lang/String" "COMPACT_STRINGS" "Z" (.int v)) : ∃ z, Fz z Z.heap ∧ StaF Z z v := by
  obtain ⟨cf, i, k, f, st, cell, h1, h2, h3, h4, h5, h6, h7⟩ := H
  exact ⟨[(st, cell)], fun x hx => by cases List.mem_singleton.mp hx; exact h5, fun h q => ⟨cf, i, k, f, st, cell, h1, h2, h3, h4, q (st, cell) (List.mem_singleton.mpr rfl), h6, h7⟩⟩
theorem d_p10m1_0 : decode prog_10_method_1_code 0 = .ok (.aload_n 0, 1) := by decide +kernel
theorem d_p10m1_1 : decode prog_10_method_1_code 1 = .ok (.invokespecial 1, 3) := by decide +kernel
theorem d_p10m1_4 : decode prog_10_method_1_code 4 = .ok (.return_, 1) := by decide +kernel
theorem c_sli (l : Launch) (Z : State) (a0 : Array Value) (hw : ∀ d ∈ tables_1, d.before a0 Z = true) {B : Nat} {z : List (Addr × Cell)} (o : Addr) (c : Int32) :
    Con l Z (FM z) B (⟨"com/example/sectile/sectile/blocks/Blocks$StepLength", "<init>", "()V"⟩ : MethodName) prog_10_method_1_code 1 none ({ frames := 1, cells := 0, slots := 0, locals := 12 } : Room) [] #[.ref o] [(o, O_Blocks_StepLength, [.int c])] (fun rv_ ro_ => rv_ = none ∧ ro_ = [(o, O_Blocks_StepLength, [.int c])]) := by
  refine Con.of (plainFor_of_name (by first | (simp [plainName, overriddenIn]; done) | decide +kernel)) (ls := #[.val (.ref o)]) (fun m => by first | (simp [entryFrame, mkF, argsToLocals, Value.category]; done) | rfl) ?_
  intro p_ e_ h_ s_ m_ bl_ me_ c_ T0 W0
  refine g_aload_n (pc := 0) W0 d_p10m1_0 rfl rfl ?_
  refine g_object (pc := 1) 0 W0 (wd hw 6 rfl) (wd hw 7 rfl) (wd hw 8 rfl) rfl (Nat.le_of_ble_eq_true rfl) (by decide) (by decide) d_p10m1_1 (fun T1 W2 => ?_)
  exact g_return (pc := 4) rfl W2 d_p10m1_4 (by decide) (by decide) ⟨rfl, rfl⟩
theorem c_law (l : Launch) (Z : State) (a0 : Array Value) (hw : ∀ d ∈ tables_1, d.before a0 Z = true) {z : List (Addr × Cell)} (i0 i1 i2 sv : Int32) (hz : Fz z Z.heap) (hst : StaF Z z sv) (hv : ¬ sv = 0) (hcw : Jvm.Lit.compactW.before a0 Z = true) (hh : Jvm.Lit.constHeld Z "com/example/sectile/sectile/blocks/StepLengthNumberPinLaw" 16) :
    ConW l Z x code maxLocals ret room_1 tables_1 #[.int i0, .int i1, .int i2] (fun rv_ => rv_ = some (.int 1)) := by
  have wS : ∀ d ∈ Bundle.stringAtoms, d.before a0 Z = true := by
    intro d hd
    simp only [Bundle.stringAtoms, Bundle.sN, List.mem_cons, List.not_mem_nil, or_false] at hd
    rcases hd with rfl | rfl | rfl | rfl | rfl | rfl | rfl
    · exact wd hw 10 rfl
    · exact wd hw 11 rfl
    · exact wd hw 12 rfl
    · exact wd hw 13 rfl
    · exact wd hw 14 rfl
    · exact wd hw 15 rfl
    · exact wd hw 16 rfl
  refine ConW.of (F := FM z) hz (plainFor_of_name (by first | (simp [plainName, overriddenIn]; done) | decide +kernel)) (ls := #[.val (.int i0), .val (.int i1), .val (.int i2), .unset, .unset, .unset]) (fun m => by first | (simp [entryFrame, mkF, argsToLocals, Value.category, maxLocals]; done) | rfl) ?_
  intro p_ e_ m_ bl_ me_ c_ T0 W0
  refine g_new (pc := 0) (vs := [.int (0 : Int32)]) W0 (wd hw 0 rfl) (wd hw 1 rfl) (wd hw 2 rfl) (cls_Blocks_StepLength hw) (by show List.map (fun x => dflt x.2) (fm0 "com/example/sectile/sectile/blocks/Blocks$StepLength") = _; decide) at_0 (by decide) (by decide) (fun T2 b1 W3 => ?_)
  have W4 := W3.re (os' := [(b1, O_Blocks_StepLength, [.int (0 : Int32)])]) rfl
  refine g_dup (pc := 3) W4 at_3 rfl ?_
  refine g_init (pc := 4) (Wt := 1) (argsL := []) (rest := [.ref b1]) (loc := [(b1, O_Blocks_StepLength, [.int (0 : Int32)])]) (rst := []) W4 rfl (wd hw 3 rfl) (wd hw 4 rfl) (wd hw 2 rfl) (wd hw 5 rfl) (by decide) (c_sli l Z a0 hw b1 (0 : Int32)) ⟨[0], by decide, rfl⟩ rfl pd___V rfl rfl rfl (Nat.le_of_ble_eq_true rfl) (by decide) (by decide) (by decide) (by decide) at_4 ?_
  rintro T5 _ _ ⟨rfl, rfl⟩ W6
  have W7 := W6.re (os' := [(b1, O_Blocks_StepLength, [.int (0 : Int32)])]) rfl
  show Go p_ e_ bl_ _ (T5.setTop (mkF m_ 7 _ [.ref b1]))
  refine g_astore_n (pc := 7) (ls' := #[.val (.int i0), .val (.int i1), .val (.int i2), .val (.ref b1), .unset, .unset]) W7 at_7 rfl rfl ?_
  refine g_iload_n (pc := 8) W7 at_8 rfl ?_
  refine g_iconst (pc := 9) (1 : Int32) (by decide) W7 at_9 ?_
  refine g_iand (pc := 10) W7 at_10 ?_
  refine g_if_eq 26 (pc := 11) W7 at_11 (by decide) (by decide) (fun c8 => ?_) (fun c8 => ?_)
  · refine g_ldcE (pc := 26) (index := 16) W7 (wd hw 9 rfl) wS hh hcw at_26 (by decide) (by decide) (fun T9 b10 b11 zz12 kk13 hS14 hk15 hs16 hz17 W18 => ?_)
    have hst19 : StaF Z zz12 sv := fun h q => hst h (hz17 h q)
    show Go p_ e_ bl_ _ (T9.setTop (mkF m_ 28 _ [.ref b10]))
    refine g_astore (pc := 28) (ls' := #[.val (.int i0), .val (.int i1), .val (.int i2), .val (.ref b1), .val (.ref b10), .unset]) W18 at_28 rfl rfl ?_
    refine g_aload_n (pc := 30) W18 at_30 rfl rfl ?_
    refine g_aload (pc := 31) W18 at_31 rfl rfl ?_
    refine g_iload_n (pc := 33) W18 at_33 rfl ?_
    refine g_virtual (i := 0) (pc := 34) (Wt := 0) (argsL := [.ref b10, .int i0]) (rest := []) (loc := [(b1, O_Blocks_StepLength, [.int (0 : Int32)])]) (rst := []) W18 (wd hw 17 rfl) (wd hw 19 rfl) (wd hw 2 rfl) (wd hw 21 rfl) (wd hw 18 rfl) (wd hw 20 rfl) rfl (by decide) (c_of l Z a0 hw b1 (0 : Int32) i0 sv b10 b11 (0 : Int32) hst19 hv hs16) ⟨[0], by decide, rfl⟩ rfl pd_Ljava_lang_String_I__I rfl rfl rfl (Nat.le_of_ble_eq_true rfl) (by decide) (by decide) (by decide) (by decide) at_34 ?_
    rintro T20 _ _ ⟨rfl, rfl⟩ W21
    have W22 := W21.re (os' := [(b1, O_Blocks_StepLength, [.int ((((((0 : Int32) + (1 : Int32)) + (0 : Int32)) + (1 : Int32)) + decF i0) + (1 : Int32))])]) rfl
    show Go p_ e_ bl_ _ (T20.setTop (mkF m_ 37 _ [.int ((((((0 : Int32) + (1 : Int32)) + (0 : Int32)) + (1 : Int32)) + decF i0) + (1 : Int32))]))
    refine g_istore (pc := 37) (ls' := #[.val (.int i0), .val (.int i1), .val (.int i2), .val (.ref b1), .val (.ref b10), .val (.int ((((((0 : Int32) + (1 : Int32)) + (0 : Int32)) + (1 : Int32)) + decF i0) + (1 : Int32)))]) W22 at_37 rfl ?_
    refine g_iload (pc := 39) W22 at_39 rfl ?_
    refine g_aload (pc := 41) W22 at_41 rfl rfl ?_
    refine g_virtualR (pc := 43) (Wt := 1) (argsL := []) (rest := [.int ((((((0 : Int32) + (1 : Int32)) + (0 : Int32)) + (1 : Int32)) + decF i0) + (1 : Int32))]) (loc := []) (rst := [(b1, O_Blocks_StepLength, [.int ((((((0 : Int32) + (1 : Int32)) + (0 : Int32)) + (1 : Int32)) + decF i0) + (1 : Int32))])]) W22 (wd hw 70 rfl) (wd hw 49 rfl) (wd hw 10 rfl) (wd hw 53 rfl) (wd hw 71 rfl) (wd hw 72 rfl) (fun h H => (hs16 h H.2.2.1).1) (by decide) (c_len l Z a0 hw sv b10 b11 (0 : Int32) hst19 hv hs16) Spl.none rfl pd___I rfl rfl rfl (Nat.le_of_ble_eq_true rfl) (by decide) (by decide) (by decide) (by decide) at_43 ?_
    rintro T23 _ _ ⟨rfl, rfl⟩ W24
    have W25 := W24.re (os' := [(b1, O_Blocks_StepLength, [.int ((((((0 : Int32) + (1 : Int32)) + (0 : Int32)) + (1 : Int32)) + decF i0) + (1 : Int32))])]) rfl
    show Go p_ e_ bl_ _ (T23.setTop (mkF m_ 46 _ [.int ((0 : Int32) >>> ((0 : Int32) &&& 31)), .int ((((((0 : Int32) + (1 : Int32)) + (0 : Int32)) + (1 : Int32)) + decF i0) + (1 : Int32))]))
    rw [own_shr]
    refine g_iconst (pc := 46) (3 : Int32) (by decide) W25 at_46 ?_
    refine g_iadd (pc := 47) W25 at_47 ?_
    show Go p_ e_ bl_ _ (T23.setTop (mkF m_ 48 _ [.int (3 : Int32), .int ((((((0 : Int32) + (1 : Int32)) + (0 : Int32)) + (1 : Int32)) + decF i0) + (1 : Int32))]))
    refine g_iload_n (pc := 48) W25 at_48 rfl ?_
    refine g_static (pc := 49) (Wt := 2) (argsL := [.int i0]) (rest := [.int (3 : Int32), .int ((((((0 : Int32) + (1 : Int32)) + (0 : Int32)) + (1 : Int32)) + decF i0) + (1 : Int32))]) (loc := []) (rst := [(b1, O_Blocks_StepLength, [.int ((((((0 : Int32) + (1 : Int32)) + (0 : Int32)) + (1 : Int32)) + decF i0) + (1 : Int32))])]) W25 (wd hw 73 rfl) (wd hw 74 rfl) (wd hw 75 rfl) (wd hw 76 rfl) (by decide) (c_dec l Z a0 hw i0) Spl.none rfl pd_I__I rfl rfl rfl (Nat.le_of_ble_eq_true rfl) (by decide) (by decide) (by decide) (by decide) at_49 ?_
    rintro T26 _ _ ⟨rfl, rfl⟩ W27
    have W28 := W27.re (os' := [(b1, O_Blocks_StepLength, [.int ((((((0 : Int32) + (1 : Int32)) + (0 : Int32)) + (1 : Int32)) + decF i0) + (1 : Int32))])]) rfl
    show Go p_ e_ bl_ _ (T26.setTop (mkF m_ 52 _ [.int (decF i0), .int (3 : Int32), .int ((((((0 : Int32) + (1 : Int32)) + (0 : Int32)) + (1 : Int32)) + decF i0) + (1 : Int32))]))
    refine g_iadd (pc := 52) W28 at_52 ?_
    refine g_icmpN (pc := 53) W28 at_53 (teq (show ((((((0 : Int32) + (1 : Int32)) + (0 : Int32)) + (1 : Int32)) + decF i0) + (1 : Int32)) = ((3 : Int32) + (decF i0)) from own_fin _ _ _ (by decide))).2 ?_
    refine g_iconst (pc := 56) (1 : Int32) (by decide) W28 at_56 ?_
    refine g_goto 61 (pc := 57) W28 at_57 (by decide) (by decide) ?_
    exact g_zreturnW (pc := 61) (s0 := Z) (vm1 := T9.vm) (k1 := kk13) rfl (by decide) W28 hS14 hk15 at_61 (by decide) (by decide) rfl
  · refine g_iload_n (pc := 14) W7 at_14 rfl ?_
    refine g_sipush (pc := 15) (255 : Int32) (by decide) W7 at_15 ?_
    refine g_iand (pc := 18) W7 at_18 ?_
    refine g_i2c (pc := 19) W7 at_19 ?_
    refine g_static (pc := 20) (Wt := 0) (argsL := [.int (i1 &&& (255 : Int32)).toUInt32.toUInt16.toUInt32.toInt32]) (rest := []) (loc := []) (rst := [(b1, O_Blocks_StepLength, [.int (0 : Int32)])]) W7 (wd hw 78 rfl) (wd hw 79 rfl) (wd hw 10 rfl) (wd hw 80 rfl) (by decide) (c_val l Z a0 hw (i1 &&& (255 : Int32)).toUInt32.toUInt16.toUInt32.toInt32 sv hst hv (own_c255 i1)) Spl.none rfl pd_C__Ljava_lang_String_ rfl rfl rfl (Nat.le_of_ble_eq_true rfl) (by decide) (by decide) (by decide) (by decide) at_20 ?_
    rintro T31 _ _ ⟨b29, b30, rfl, rfl⟩ W32
    have W33 := W32.re (os' := [(b29, O_String, [.ref b30, .int (0 : Int32)]), (b30, (.array .byte), [.int (i1 &&& (255 : Int32)).toUInt32.toUInt16.toUInt32.toInt32.toInt8.toInt32]), (b1, O_Blocks_StepLength, [.int (0 : Int32)])]) rfl
    show Go p_ e_ bl_ _ (T31.setTop (mkF m_ 23 _ [.ref b29]))
    refine g_freeze (a := b29) (b := b30) (vs := [.int (i1 &&& (255 : Int32)).toUInt32.toUInt16.toUInt32.toInt32.toInt8.toInt32]) (N := (1 : Int32)) (os' := [(b1, O_Blocks_StepLength, [.int (0 : Int32)])]) W33 ⟨[2, 0, 1], by decide, rfl⟩ (by decide : fm0 "java/lang/String" = [("value", "[B"), ("coder", "B")]) (show (1 : Nat).toInt32 = 1 by decide) (fun zz34 hs35 hz36 W37 => ?_)
    have hst38 : StaF Z zz34 sv := fun h q => hst h (hz36 h q)
    refine g_goto 28 (pc := 23) W37 at_23 (by decide) (by decide) ?_
    refine g_astore (pc := 28) (ls' := #[.val (.int i0), .val (.int i1), .val (.int i2), .val (.ref b1), .val (.ref b29), .unset]) W37 at_28 rfl rfl ?_
    refine g_aload_n (pc := 30) W37 at_30 rfl rfl ?_
    refine g_aload (pc := 31) W37 at_31 rfl rfl ?_
    refine g_iload_n (pc := 33) W37 at_33 rfl ?_
    refine g_virtual (i := 0) (pc := 34) (Wt := 0) (argsL := [.ref b29, .int i0]) (rest := []) (loc := [(b1, O_Blocks_StepLength, [.int (0 : Int32)])]) (rst := []) W37 (wd hw 17 rfl) (wd hw 19 rfl) (wd hw 2 rfl) (wd hw 21 rfl) (wd hw 18 rfl) (wd hw 20 rfl) rfl (by decide) (c_of l Z a0 hw b1 (0 : Int32) i0 sv b29 b30 (1 : Int32) hst38 hv hs35) ⟨[0], by decide, rfl⟩ rfl pd_Ljava_lang_String_I__I rfl rfl rfl (Nat.le_of_ble_eq_true rfl) (by decide) (by decide) (by decide) (by decide) at_34 ?_
    rintro T39 _ _ ⟨rfl, rfl⟩ W40
    have W41 := W40.re (os' := [(b1, O_Blocks_StepLength, [.int ((((((0 : Int32) + (1 : Int32)) + (1 : Int32)) + (1 : Int32)) + decF i0) + (1 : Int32))])]) rfl
    show Go p_ e_ bl_ _ (T39.setTop (mkF m_ 37 _ [.int ((((((0 : Int32) + (1 : Int32)) + (1 : Int32)) + (1 : Int32)) + decF i0) + (1 : Int32))]))
    refine g_istore (pc := 37) (ls' := #[.val (.int i0), .val (.int i1), .val (.int i2), .val (.ref b1), .val (.ref b29), .val (.int ((((((0 : Int32) + (1 : Int32)) + (1 : Int32)) + (1 : Int32)) + decF i0) + (1 : Int32)))]) W41 at_37 rfl ?_
    refine g_iload (pc := 39) W41 at_39 rfl ?_
    refine g_aload (pc := 41) W41 at_41 rfl rfl ?_
    refine g_virtualR (pc := 43) (Wt := 1) (argsL := []) (rest := [.int ((((((0 : Int32) + (1 : Int32)) + (1 : Int32)) + (1 : Int32)) + decF i0) + (1 : Int32))]) (loc := []) (rst := [(b1, O_Blocks_StepLength, [.int ((((((0 : Int32) + (1 : Int32)) + (1 : Int32)) + (1 : Int32)) + decF i0) + (1 : Int32))])]) W41 (wd hw 70 rfl) (wd hw 49 rfl) (wd hw 10 rfl) (wd hw 53 rfl) (wd hw 71 rfl) (wd hw 72 rfl) (fun h H => (hs35 h H.2.2.1).1) (by decide) (c_len l Z a0 hw sv b29 b30 (1 : Int32) hst38 hv hs35) Spl.none rfl pd___I rfl rfl rfl (Nat.le_of_ble_eq_true rfl) (by decide) (by decide) (by decide) (by decide) at_43 ?_
    rintro T42 _ _ ⟨rfl, rfl⟩ W43
    have W44 := W43.re (os' := [(b1, O_Blocks_StepLength, [.int ((((((0 : Int32) + (1 : Int32)) + (1 : Int32)) + (1 : Int32)) + decF i0) + (1 : Int32))])]) rfl
    show Go p_ e_ bl_ _ (T42.setTop (mkF m_ 46 _ [.int ((1 : Int32) >>> ((0 : Int32) &&& 31)), .int ((((((0 : Int32) + (1 : Int32)) + (1 : Int32)) + (1 : Int32)) + decF i0) + (1 : Int32))]))
    rw [own_shr]
    refine g_iconst (pc := 46) (3 : Int32) (by decide) W44 at_46 ?_
    refine g_iadd (pc := 47) W44 at_47 ?_
    show Go p_ e_ bl_ _ (T42.setTop (mkF m_ 48 _ [.int (4 : Int32), .int ((((((0 : Int32) + (1 : Int32)) + (1 : Int32)) + (1 : Int32)) + decF i0) + (1 : Int32))]))
    refine g_iload_n (pc := 48) W44 at_48 rfl ?_
    refine g_static (pc := 49) (Wt := 2) (argsL := [.int i0]) (rest := [.int (4 : Int32), .int ((((((0 : Int32) + (1 : Int32)) + (1 : Int32)) + (1 : Int32)) + decF i0) + (1 : Int32))]) (loc := []) (rst := [(b1, O_Blocks_StepLength, [.int ((((((0 : Int32) + (1 : Int32)) + (1 : Int32)) + (1 : Int32)) + decF i0) + (1 : Int32))])]) W44 (wd hw 73 rfl) (wd hw 74 rfl) (wd hw 75 rfl) (wd hw 76 rfl) (by decide) (c_dec l Z a0 hw i0) Spl.none rfl pd_I__I rfl rfl rfl (Nat.le_of_ble_eq_true rfl) (by decide) (by decide) (by decide) (by decide) at_49 ?_
    rintro T45 _ _ ⟨rfl, rfl⟩ W46
    have W47 := W46.re (os' := [(b1, O_Blocks_StepLength, [.int ((((((0 : Int32) + (1 : Int32)) + (1 : Int32)) + (1 : Int32)) + decF i0) + (1 : Int32))])]) rfl
    show Go p_ e_ bl_ _ (T45.setTop (mkF m_ 52 _ [.int (decF i0), .int (4 : Int32), .int ((((((0 : Int32) + (1 : Int32)) + (1 : Int32)) + (1 : Int32)) + decF i0) + (1 : Int32))]))
    refine g_iadd (pc := 52) W47 at_52 ?_
    refine g_icmpN (pc := 53) W47 at_53 (teq (show ((((((0 : Int32) + (1 : Int32)) + (1 : Int32)) + (1 : Int32)) + decF i0) + (1 : Int32)) = ((4 : Int32) + (decF i0)) from own_fin _ _ _ (by decide))).2 ?_
    refine g_iconst (pc := 56) (1 : Int32) (by decide) W47 at_56 ?_
    refine g_goto 61 (pc := 57) W47 at_57 (by decide) (by decide) ?_
    exact g_zreturnW (pc := 61) (s0 := Z) (vm1 := Z.vm) (k1 := 0) rfl (by decide) W47 ((State.WarmedH.refl Z).since 0) (Nat.zero_le _) at_61 (by decide) (by decide) rfl
set_option maxRecDepth 65536 in
set_option maxHeartbeats 40000000 in
theorem comes_1 {Post : Tables → Env → Array Value → State → Outcome → State → Prop} (hpost : ∀ tb e args s v u, (limb_1_1.after args s (.returned v) u = true ∧ limb_1_2.after args s (.returned v) u = true ∧ True) → FramedW s (.returned v) u (Jvm.fieldLocs frame_1_writes args s ++ Jvm.arrayLocs frame_1_arrays args s ++ Jvm.staticLocs frame_1_statics s) 16 1152 → Post tb e args s (.returned v) u) :
    ArmFor flags0 classFile x code maxLocals ret World_1 tables_1 room_1 Calls_1 rest_1 Pre_1 Post := by
  intro l hfl _ _ p e ha hc hk s m args below hf hA hF happ hP
  obtain ⟨hcalls, hrest, hpre⟩ := hP
  obtain ⟨-, -, -, hnamed, -, -, -, hat⟩ := (Spec.applies_iff hf).mp happ
  obtain ⟨hg, hn⟩ := and_e (Cond.before_iff.mp (show (Jvm.Cond.and given_1 narrow_1).before args s = true from hpre))
  obtain ⟨h1, hr0⟩ := and_e hg
  obtain ⟨w0, w1, w2, rfl⟩ : ∃ w0 w1 w2 : Value, args = #[w0, w1, w2] := by
    have hs : args.size = 3 := by simpa [Cond.value, given_1] using h1
    obtain ⟨L⟩ := args
    match L, hs with
    | [w0, w1, w2], _ => exact ⟨w0, w1, w2, rfl⟩
  have hw := fun d (hd : d ∈ tables_1) => atoms_spec (ws := Jvm.Cond.code x code maxLocals ret :: tables_1) hat d (List.mem_cons_of_mem _ hd)
  obtain ⟨ha0, hr1⟩ := and_e hr0
  obtain ⟨i0, e0⟩ := is_v ha0
  obtain rfl : w0 = (.int i0) := Option.some.inj e0
  obtain ⟨ha1, hr2⟩ := and_e hr1
  obtain ⟨i1, e1⟩ := is_v ha1
  obtain rfl : w1 = (.int i1) := Option.some.inj e1
  obtain ⟨i2, e2⟩ := is_v hr2
  obtain rfl : w2 = (.int i2) := Option.some.inj e2
  obtain ⟨r1, q1⟩ := and_e (Cond.before_iff.mp (show rest_1_c.before _ s = true from hrest))
  obtain ⟨r2, q2⟩ := and_e q1
  obtain ⟨r3, q3⟩ := and_e q2
  obtain ⟨sv, ev⟩ := is_v r2
  have hv : ¬ sv = 0 := by
    intro e9
    rw [e9] at ev
    simp [Cond.value, ev, Term.int_eval] at r3
  obtain ⟨z, hz, hst⟩ := sta_of (Sta.start ev (Or.inl (Cond.before_iff.mpr r1)))
  have hh : Jvm.Lit.constHeld s "com/example/sectile/sectile/blocks/StepLengthNumberPinLaw" 16 := hcalls.1 ("com/example/sectile/sectile/blocks/StepLengthNumberPinLaw", 16) (List.mem_singleton.mpr rfl)
  obtain ⟨n, o, h1, h2, h3, _, L, rfl, hL, rfl, hq⟩ := c_law l s _ hw i0 i1 i2 sv hz hst hv (Cond.before_iff.mpr r3) hh p e ha hc hk s m _ below hf ((Spec.applies_iff_loose hf).mp happ).1 ⟨rfl, rfl⟩ trivial
  refine ⟨n, _, h1, h2, h3, hpost _ _ _ _ _ _ ⟨Cond.after_iff.mpr rfl, Cond.after_iff.mpr (eq_i res_at (Term.int_eval (1)) rfl), trivial⟩ ⟨hq.1, hq.2.1, hq.2.2.1, (hq.2.2.2.sift fun y hy => Or.inr (hL y hy)).mono (by decide) (by decide)⟩⟩
theorem main_1_1 : Claimed_1_1 := comes_1 fun _ _ _ _ _ _ h hF => ⟨h.1, hF⟩
theorem main_1_2 : Claimed_1_2 := comes_1 fun _ _ _ _ _ _ h hF => ⟨h.2.1, hF⟩
end Jvm.Pilot.@@N@@
namespace Jvm.Pilot.@@N@@
open Jvm Jvm.ClassFile Sem Op Lib Jvm.Free Jvm.Stand Jvm.Pilot.@@N@@.Jvm.D
/-! MADE BY PROGRAM (witnessworld.py) out of the Statement's table words and the real class files: 26 classes; the members and pool entries that the words name. The judged class is class 1, her method 1. -/
namespace start1
open Jvm.ClassFile
def u (s : String) : CpInfo := .utf8 (stringToUtf16 s)
/-- a pool by its gaps: so many unusable entries, then the entry; so many at the end -/
def gap : Nat → List CpInfo → List CpInfo
  | 0, r => r
  | n + 1, r => .unusable :: gap n r
def poolList (es : List (Nat × CpInfo)) (last : Nat) : List CpInfo := es.foldr (fun e r => gap e.1 (e.2 :: r)) (gap last [])
def pool (es : List (Nat × CpInfo)) (last : Nat) : Array CpInfo := ⟨poolList es last⟩
def fileOf (pool : Array CpInfo) (this : Nat) (attrs : Array Attribute := #[]) (ms : Array MethodInfo := #[]) (fl : Nat := 33) (sup : Nat := 0) (ifs : Array Nat := #[]) (fds : Array FieldInfo := #[]) : ClassFile where
  minorVersion := 0
  majorVersion := 65
  constantPool := pool
  accessFlags := fl
  thisClass := this
  superClass := sup
  interfaces := ifs
  fields := fds
  methods := ms
  attributes := attrs
def plain (name : String) (sup : Option ClassId) : Class where
  name := name
  kind := .ordinary
  loader := none
  accessFlags := 33
  super := sup
  interfaces := #[]
  cf := none
  fields := #[]
  methods := #[]
  instanceTypes := #[]
  staticTypes := #[]
  resolved := #[]
  callSites := []
  init := .initialized
  statics := none
  mirror := none

def pool0 : Array CpInfo := pool [(5, u "<init>"), (0, u "()V"), (1, .class_ 10), (1, u "java/lang/Object")] 113

def k0c0 : Code := { maxStack := 0, maxLocals := 1, code := object_method_1_code, exceptionTable := #[], attributes := #[] }
def k0m0 : Method := { name := "<init>", desc := "()V", sig := { parameters := [], returnType := none }, accessFlags := 1, code := some k0c0 }
/-- java/lang/Object -/
def k0 : Class := { plain "java/lang/Object" none with
  accessFlags := 33
  interfaces := #[]
  cf := some (fileOf pool0 8 #[] #[{ accessFlags := 1, nameIndex := 5, descriptorIndex := 6, attributes := #[] }] 33 0 #[] #[])
  fields := #[]
  methods := #[k0m0]
  instanceTypes := #[]
  staticTypes := #[]
  resolved := Array.replicate 124 none
  statics := none }

def pool1 : Array CpInfo := pool [(2, .class_ 4), (0, .nameAndType 5 6), (0, u "java/lang/Object"), (0, u "<init>"), (0, u "()V"), (0, .class_ 8), (0, u "com/example/sectile/sectile/blocks/Blocks$StepLength"), (0, .methodref 7 3), (0, .methodref 11 12), (0, .class_ 13), (0, .nameAndType 14 15), (0, u "java/lang/String"), (0, u "valueOf"), (0, u "(C)Ljava/lang/String;"), (0, .string 17), (0, u ""), (0, .methodref 7 19), (0, .nameAndType 20 21), (0, u "of"), (0, u "(Ljava/lang/String;I)I"), (0, .methodref 11 23), (0, .nameAndType 24 25), (0, u "length"), (0, u "()I"), (0, .methodref 27 28), (0, .class_ 29), (0, .nameAndType 30 31), (0, u "com/example/sectile/sectile/blocks/StepLengthNumberPinLaw"), (0, u "decimalLength"), (0, u "(I)I"), (0, .long 10), (1, .long 100), (1, .long 1000), (1, .long 10000), (1, .long 100000), (1, .long 1000000), (1, .long 10000000), (1, .long 100000000), (1, .long 1000000000), (3, u "law"), (0, u "(III)Z")] 7

def k1m0 : Method := { name := "<init>", desc := "()V", sig := { parameters := [], returnType := none }, accessFlags := 1, code := none }
def k1c1 : Code := { maxStack := 3, maxLocals := 6, code := code, exceptionTable := #[], attributes := #[] }
def k1m1 : Method := { name := "law", desc := "(III)Z", sig := { parameters := [.int, .int, .int], returnType := some .boolean }, accessFlags := 9, code := some k1c1 }
def k1c2 : Code := { maxStack := 4, maxLocals := 5, code := method_3_code, exceptionTable := #[], attributes := #[] }
def k1m2 : Method := { name := "decimalLength", desc := "(I)I", sig := { parameters := [.int], returnType := some .int }, accessFlags := 10, code := some k1c2 }
/-- com/example/sectile/sectile/blocks/StepLengthNumberPinLaw -/
def k1 : Class := { plain "com/example/sectile/sectile/blocks/StepLengthNumberPinLaw" (some 0) with
  accessFlags := 49
  interfaces := #[]
  cf := some (fileOf pool1 27 #[] #[{ accessFlags := 1, nameIndex := 5, descriptorIndex := 6, attributes := #[] }, { accessFlags := 9, nameIndex := 52, descriptorIndex := 53, attributes := #[] }, { accessFlags := 10, nameIndex := 30, descriptorIndex := 31, attributes := #[] }] 49 2 #[] #[])
  fields := #[]
  methods := #[k1m0, k1m1, k1m2]
  instanceTypes := #[]
  staticTypes := #[]
  resolved := Array.replicate 61 none
  statics := none }

def pool2 : Array CpInfo := pool [(1, .class_ 2), (0, u "com/example/sectile/sectile/blocks/Blocks$PathWriter"), (0, .class_ 4), (0, u "java/lang/Object"), (0, u "ascii"), (0, u "(C)V"), (0, u "text"), (0, u "(Ljava/lang/CharSequence;)V"), (0, u "number"), (0, u "(I)V"), (3, .class_ 15), (0, u "com/example/sectile/sectile/blocks/Blocks")] 2

def k2m0 : Method := { name := "ascii", desc := "(C)V", sig := { parameters := [.char], returnType := none }, accessFlags := 1025, code := none }
def k2m1 : Method := { name := "text", desc := "(Ljava/lang/CharSequence;)V", sig := { parameters := [(.object "java/lang/CharSequence")], returnType := none }, accessFlags := 1025, code := none }
def k2m2 : Method := { name := "number", desc := "(I)V", sig := { parameters := [.int], returnType := none }, accessFlags := 1025, code := none }
/-- com/example/sectile/sectile/blocks/Blocks$PathWriter -/
def k2 : Class := { plain "com/example/sectile/sectile/blocks/Blocks$PathWriter" (some 0) with
  accessFlags := 1537
  interfaces := #[]
  cf := some (fileOf pool2 1 #[.nestHost 14] #[{ accessFlags := 1025, nameIndex := 5, descriptorIndex := 6, attributes := #[] }, { accessFlags := 1025, nameIndex := 7, descriptorIndex := 8, attributes := #[] }, { accessFlags := 1025, nameIndex := 9, descriptorIndex := 10, attributes := #[] }] 1537 3 #[] #[])
  fields := #[]
  methods := #[k2m0, k2m1, k2m2]
  instanceTypes := #[]
  staticTypes := #[]
  resolved := Array.replicate 18 none
  statics := none }

def pool3 : Array CpInfo := pool [(1, .methodref 2 3), (0, .class_ 4), (0, .nameAndType 5 6), (0, u "java/lang/Object"), (0, u "<init>"), (0, u "()V"), (0, .fieldref 8 9), (0, .class_ 10), (0, .nameAndType 11 12), (0, u "com/example/sectile/sectile/blocks/Blocks$StepLength"), (0, u "characters"), (0, u "I"), (0, .methodref 14 15), (0, .class_ 16), (0, .nameAndType 17 18), (0, u "com/example/sectile/sectile/blocks/Blocks"), (0, u "writeStep"), (0, u "(Ljava/lang/String;ILcom/example/sectile/sectile/blocks/Blocks$PathWriter;)V"), (0, .interfaceMethodref 20 21), (0, .class_ 22), (0, .nameAndType 23 24), (0, u "java/lang/CharSequence"), (0, u "length"), (0, u "()I"), (0, .class_ 26), (0, u "com/example/sectile/sectile/blocks/Blocks$PathWriter"), (2, u "of"), (0, u "(Ljava/lang/String;I)I"), (0, u "ascii"), (0, u "(C)V"), (0, u "text"), (0, u "(Ljava/lang/CharSequence;)V"), (0, u "number"), (0, u "(I)V")] 7

def k3c0 : Code := { maxStack := 1, maxLocals := 1, code := prog_10_method_1_code, exceptionTable := #[], attributes := #[] }
def k3m0 : Method := { name := "<init>", desc := "()V", sig := { parameters := [], returnType := none }, accessFlags := 0, code := some k3c0 }
def k3c1 : Code := { maxStack := 3, maxLocals := 3, code := prog_10_method_2_code, exceptionTable := #[], attributes := #[] }
def k3m1 : Method := { name := "of", desc := "(Ljava/lang/String;I)I", sig := { parameters := [(.object "java/lang/String"), .int], returnType := some .int }, accessFlags := 0, code := some k3c1 }
def k3c2 : Code := { maxStack := 3, maxLocals := 2, code := prog_10_method_3_code, exceptionTable := #[], attributes := #[] }
def k3m2 : Method := { name := "ascii", desc := "(C)V", sig := { parameters := [.char], returnType := none }, accessFlags := 1, code := some k3c2 }
def k3c3 : Code := { maxStack := 3, maxLocals := 2, code := prog_10_method_4_code, exceptionTable := #[], attributes := #[] }
def k3m3 : Method := { name := "text", desc := "(Ljava/lang/CharSequence;)V", sig := { parameters := [(.object "java/lang/CharSequence")], returnType := none }, accessFlags := 1, code := some k3c3 }
def k3c4 : Code := { maxStack := 3, maxLocals := 3, code := prog_10_method_5_code, exceptionTable := #[], attributes := #[] }
def k3m4 : Method := { name := "number", desc := "(I)V", sig := { parameters := [.int], returnType := none }, accessFlags := 1, code := some k3c4 }
/-- com/example/sectile/sectile/blocks/Blocks$StepLength -/
def k3 : Class := { plain "com/example/sectile/sectile/blocks/Blocks$StepLength" (some 0) with
  accessFlags := 48
  interfaces := #[2]
  cf := some (fileOf pool3 8 #[.nestHost 14] #[{ accessFlags := 0, nameIndex := 5, descriptorIndex := 6, attributes := #[] }, { accessFlags := 0, nameIndex := 29, descriptorIndex := 30, attributes := #[] }, { accessFlags := 1, nameIndex := 31, descriptorIndex := 32, attributes := #[] }, { accessFlags := 1, nameIndex := 33, descriptorIndex := 34, attributes := #[] }, { accessFlags := 1, nameIndex := 35, descriptorIndex := 36, attributes := #[] }] 48 2 #[25] #[{ accessFlags := 2, nameIndex := 11, descriptorIndex := 12, attributes := #[] }])
  fields := #[{ name := "characters", type := .int, accessFlags := 2, slot := 0, constantValue := 0 }]
  methods := #[k3m0, k3m1, k3m2, k3m3, k3m4]
  instanceTypes := #[.int]
  staticTypes := #[]
  resolved := Array.replicate 44 none
  statics := none }

def pool4 : Array CpInfo := pool [(1, .class_ 2), (0, u "java/io/Serializable"), (0, .class_ 4), (0, u "java/lang/Object")] 2

/-- java/io/Serializable -/
def k4 : Class := { plain "java/io/Serializable" (some 0) with
  accessFlags := 1537
  interfaces := #[]
  cf := some (fileOf pool4 1 #[] #[] 1537 3 #[] #[])
  fields := #[]
  methods := #[]
  instanceTypes := #[]
  staticTypes := #[]
  resolved := Array.replicate 7 none
  statics := none }

def pool5 : Array CpInfo := pool [(1, .class_ 2), (0, u "java/lang/Comparable"), (0, .class_ 4), (0, u "java/lang/Object")] 7

/-- java/lang/Comparable -/
def k5 : Class := { plain "java/lang/Comparable" (some 0) with
  accessFlags := 1537
  interfaces := #[]
  cf := some (fileOf pool5 1 #[] #[] 1537 3 #[] #[])
  fields := #[]
  methods := #[]
  instanceTypes := #[]
  staticTypes := #[]
  resolved := Array.replicate 12 none
  statics := none }

def pool6 : Array CpInfo := pool [(2, .class_ 4), (1, u "java/lang/CharSequence"), (0, u "length"), (0, u "()I"), (40, .class_ 48), (0, u "java/lang/CharSequence$1CodePointIterator"), (10, .class_ 60), (0, u "java/lang/CharSequence$1CharIterator"), (5, .class_ 67), (0, u "java/lang/Object")] 63

def k6m0 : Method := { name := "length", desc := "()I", sig := { parameters := [], returnType := some .int }, accessFlags := 1025, code := none }
/-- java/lang/CharSequence -/
def k6 : Class := { plain "java/lang/CharSequence" (some 0) with
  accessFlags := 1537
  interfaces := #[]
  cf := some (fileOf pool6 2 #[.nestMembers #[47, 59]] #[{ accessFlags := 1025, nameIndex := 5, descriptorIndex := 6, attributes := #[] }] 1537 66 #[] #[])
  fields := #[]
  methods := #[k6m0]
  instanceTypes := #[]
  staticTypes := #[]
  resolved := Array.replicate 131 none
  statics := none }

def pool7 : Array CpInfo := pool [(1, .class_ 2), (0, u "java/lang/constant/Constable"), (0, .class_ 4), (0, u "java/lang/Object")] 6

/-- java/lang/constant/Constable -/
def k7 : Class := { plain "java/lang/constant/Constable" (some 0) with
  accessFlags := 1537
  interfaces := #[]
  cf := some (fileOf pool7 1 #[] #[] 1537 3 #[] #[])
  fields := #[]
  methods := #[]
  instanceTypes := #[]
  staticTypes := #[]
  resolved := Array.replicate 11 none
  statics := none }

def pool8 : Array CpInfo := pool [(1, .class_ 2), (0, u "java/lang/constant/ConstantDesc"), (0, .class_ 4), (0, u "java/lang/Object")] 32

/-- java/lang/constant/ConstantDesc -/
def k8 : Class := { plain "java/lang/constant/ConstantDesc" (some 0) with
  accessFlags := 1537
  interfaces := #[]
  cf := some (fileOf pool8 1 #[] #[] 1537 3 #[] #[])
  fields := #[]
  methods := #[]
  instanceTypes := #[]
  staticTypes := #[]
  resolved := Array.replicate 37 none
  statics := none }

def pool9 : Array CpInfo := pool [(1, .methodref 2 3), (0, .class_ 4), (0, .nameAndType 5 6), (0, u "java/lang/Object"), (0, u "<init>"), (0, u "()V"), (2, .fieldref 10 11), (0, .class_ 12), (0, .nameAndType 13 14), (0, u "java/lang/String"), (0, u "value"), (0, u "[B"), (0, .fieldref 10 16), (0, .nameAndType 17 18), (0, u "coder"), (0, u "B"), (2, u "hash"), (0, u "I"), (2, u "hashIsZero"), (0, u "Z"), (11, .fieldref 10 39), (0, .nameAndType 40 26), (0, u "COMPACT_STRINGS"), (12, u "toBytes"), (53, .class_ 109), (1, u "java/lang/StringLatin1"), (99, .methodref 10 210), (0, .nameAndType 5 211), (0, u "([BB)V"), (122, u "()I"), (0, .methodref 10 336), (0, .nameAndType 17 337), (0, u "()B"), (31, u "(C)Z"), (137, u "length"), (67, .class_ 576), (0, u "java/lang/CharSequence"), (22, u "CASE_INSENSITIVE_ORDER"), (0, u "Ljava/util/Comparator;"), (181, u "valueOf"), (0, u "(C)Ljava/lang/String;"), (231, .methodref 107 1016), (0, .nameAndType 1017 369), (0, u "canEncode"), (0, .methodref 107 1019), (0, .nameAndType 53 1020), (0, u "(C)[B"), (80, u "serialPersistentFields"), (0, u "[Ljava/io/ObjectStreamField;"), (0, .class_ 1104), (0, u "java/lang/String$CaseInsensitiveComparator"), (1, .class_ 1107), (0, u "java/io/Serializable"), (0, .class_ 1109), (0, u "java/lang/Comparable"), (0, .class_ 1111), (0, u "java/lang/constant/Constable"), (0, .class_ 1113), (0, u "java/lang/constant/ConstantDesc"), (2, u "serialVersionUID"), (0, u "J"), (3, u "REPL"), (0, u "C"), (2, u "LATIN1"), (1, u "UTF16")] 323

def k9m0 : Method := { name := "<init>", desc := "()V", sig := { parameters := [], returnType := none }, accessFlags := 1, code := none }
def k9c1 : Code := { maxStack := 2, maxLocals := 1, code := jdk_42_method_54_code, exceptionTable := #[], attributes := #[] }
def k9m1 : Method := { name := "length", desc := "()I", sig := { parameters := [], returnType := some .int }, accessFlags := 1, code := some k9c1 }
def k9c2 : Code := { maxStack := 4, maxLocals := 1, code := jdk_42_method_139_code, exceptionTable := #[], attributes := #[] }
def k9m2 : Method := { name := "valueOf", desc := "(C)Ljava/lang/String;", sig := { parameters := [.char], returnType := some (.object "java/lang/String") }, accessFlags := 9, code := some k9c2 }
def k9c3 : Code := { maxStack := 2, maxLocals := 3, code := jdk_42_method_151_code, exceptionTable := #[], attributes := #[] }
def k9m3 : Method := { name := "<init>", desc := "([BB)V", sig := { parameters := [(.array .byte), .byte], returnType := none }, accessFlags := 0, code := some k9c3 }
def k9c4 : Code := { maxStack := 1, maxLocals := 1, code := jdk_42_method_152_code, exceptionTable := #[], attributes := #[] }
def k9m4 : Method := { name := "coder", desc := "()B", sig := { parameters := [], returnType := some .byte }, accessFlags := 0, code := some k9c4 }
/-- java/lang/String -/
def k9 : Class := { plain "java/lang/String" (some 0) with
  accessFlags := 49
  interfaces := #[4, 5, 6, 7, 8]
  cf := some (fileOf pool9 10 #[.nestMembers #[1103]] #[{ accessFlags := 1, nameIndex := 5, descriptorIndex := 6, attributes := #[] }, { accessFlags := 1, nameIndex := 507, descriptorIndex := 334, attributes := #[] }, { accessFlags := 9, nameIndex := 782, descriptorIndex := 783, attributes := #[] }, { accessFlags := 0, nameIndex := 5, descriptorIndex := 211, attributes := #[] }, { accessFlags := 0, nameIndex := 17, descriptorIndex := 337, attributes := #[] }] 49 2 #[1106, 1108, 575, 1110, 1112] #[{ accessFlags := 18, nameIndex := 13, descriptorIndex := 14, attributes := #[] }, { accessFlags := 18, nameIndex := 17, descriptorIndex := 18, attributes := #[] }, { accessFlags := 2, nameIndex := 21, descriptorIndex := 22, attributes := #[] }, { accessFlags := 2, nameIndex := 25, descriptorIndex := 26, attributes := #[] }, { accessFlags := 26, nameIndex := 1116, descriptorIndex := 1117, attributes := #[] }, { accessFlags := 24, nameIndex := 40, descriptorIndex := 26, attributes := #[] }, { accessFlags := 26, nameIndex := 1101, descriptorIndex := 1102, attributes := #[] }, { accessFlags := 26, nameIndex := 1121, descriptorIndex := 1122, attributes := #[] }, { accessFlags := 25, nameIndex := 599, descriptorIndex := 600, attributes := #[] }, { accessFlags := 24, nameIndex := 1125, descriptorIndex := 18, attributes := #[] }, { accessFlags := 24, nameIndex := 1127, descriptorIndex := 18, attributes := #[] }])
  fields := #[{ name := "value", type := (.array .byte), accessFlags := 18, slot := 0, constantValue := 0 }, { name := "coder", type := .byte, accessFlags := 18, slot := 1, constantValue := 0 }, { name := "hash", type := .int, accessFlags := 2, slot := 2, constantValue := 0 }, { name := "hashIsZero", type := .boolean, accessFlags := 2, slot := 3, constantValue := 0 }, { name := "serialVersionUID", type := .long, accessFlags := 26, slot := 0, constantValue := 0 }, { name := "COMPACT_STRINGS", type := .boolean, accessFlags := 24, slot := 1, constantValue := 0 }, { name := "serialPersistentFields", type := (.array (.object "java/io/ObjectStreamField")), accessFlags := 26, slot := 2, constantValue := 0 }, { name := "REPL", type := .char, accessFlags := 26, slot := 3, constantValue := 0 }, { name := "CASE_INSENSITIVE_ORDER", type := (.object "java/util/Comparator"), accessFlags := 25, slot := 4, constantValue := 0 }, { name := "LATIN1", type := .byte, accessFlags := 24, slot := 5, constantValue := 0 }, { name := "UTF16", type := .byte, accessFlags := 24, slot := 6, constantValue := 0 }]
  methods := #[k9m0, k9m1, k9m2, k9m3, k9m4]
  instanceTypes := #[(.array .byte), .byte, .int, .boolean]
  staticTypes := #[.long, .boolean, (.array (.object "java/io/ObjectStreamField")), .char, (.object "java/util/Comparator"), .byte, .byte]
  resolved := Array.replicate 1451 none
  statics := some 0 }

def pool10 : Array CpInfo := pool [(8, .class_ 10), (1, u "java/lang/Iterable"), (24, .class_ 36), (0, u "java/lang/Object")] 25

/-- java/lang/Iterable -/
def k10 : Class := { plain "java/lang/Iterable" (some 0) with
  accessFlags := 1537
  interfaces := #[]
  cf := some (fileOf pool10 8 #[] #[] 1537 35 #[] #[])
  fields := #[]
  methods := #[]
  instanceTypes := #[]
  staticTypes := #[]
  resolved := Array.replicate 62 none
  statics := none }

def pool11 : Array CpInfo := pool [(10, .class_ 12), (1, u "java/util/Collection"), (47, .class_ 61), (0, u "java/lang/Object"), (0, .class_ 63), (0, u "java/lang/Iterable")] 51

/-- java/util/Collection -/
def k11 : Class := { plain "java/util/Collection" (some 0) with
  accessFlags := 1537
  interfaces := #[10]
  cf := some (fileOf pool11 10 #[] #[] 1537 60 #[62] #[])
  fields := #[]
  methods := #[]
  instanceTypes := #[]
  staticTypes := #[]
  resolved := Array.replicate 115 none
  statics := none }

def pool12 : Array CpInfo := pool [(2, .class_ 4), (1, u "java/lang/Object"), (0, u "<init>"), (0, u "()V"), (1, .class_ 10), (1, u "java/util/AbstractCollection"), (66, .class_ 78), (0, u "java/util/Collection")] 81

def k12m0 : Method := { name := "<init>", desc := "()V", sig := { parameters := [], returnType := none }, accessFlags := 4, code := none }
/-- java/util/AbstractCollection -/
def k12 : Class := { plain "java/util/AbstractCollection" (some 0) with
  accessFlags := 1057
  interfaces := #[11]
  cf := some (fileOf pool12 8 #[] #[{ accessFlags := 4, nameIndex := 5, descriptorIndex := 6, attributes := #[] }] 1057 2 #[77] #[])
  fields := #[]
  methods := #[k12m0]
  instanceTypes := #[]
  staticTypes := #[]
  resolved := Array.replicate 160 none
  statics := none }

def pool13 : Array CpInfo := pool [(8, .class_ 10), (1, u "java/util/SequencedCollection"), (15, .class_ 27), (0, u "java/lang/Object"), (0, .class_ 29), (0, u "java/util/Collection")] 27

/-- java/util/SequencedCollection -/
def k13 : Class := { plain "java/util/SequencedCollection" (some 0) with
  accessFlags := 1537
  interfaces := #[11]
  cf := some (fileOf pool13 8 #[] #[] 1537 26 #[28] #[])
  fields := #[]
  methods := #[]
  instanceTypes := #[]
  staticTypes := #[]
  resolved := Array.replicate 57 none
  statics := none }

def pool14 : Array CpInfo := pool [(8, .class_ 10), (1, u "java/util/List"), (92, .class_ 104), (0, u "java/lang/Object"), (15, .class_ 121), (0, u "java/util/SequencedCollection")] 129

/-- java/util/List -/
def k14 : Class := { plain "java/util/List" (some 0) with
  accessFlags := 1537
  interfaces := #[13]
  cf := some (fileOf pool14 8 #[] #[] 1537 103 #[120] #[])
  fields := #[]
  methods := #[]
  instanceTypes := #[]
  staticTypes := #[]
  resolved := Array.replicate 251 none
  statics := none }

def pool15 : Array CpInfo := pool [(2, .class_ 4), (1, u "java/util/AbstractCollection"), (0, u "<init>"), (0, u "()V"), (1, .class_ 10), (1, u "java/util/AbstractList"), (0, u "modCount"), (0, u "I"), (64, .class_ 78), (0, u "java/util/AbstractList$Itr"), (3, .class_ 83), (0, u "java/util/AbstractList$ListItr"), (9, .class_ 94), (0, u "java/util/AbstractList$RandomAccessSubList"), (3, .class_ 99), (0, u "java/util/AbstractList$SubList"), (33, .class_ 134), (0, u "java/util/List"), (73, .class_ 209), (0, u "java/util/AbstractList$SubList$1"), (0, .class_ 211), (0, u "java/util/AbstractList$RandomAccessSpliterator")] 6

def k15m0 : Method := { name := "<init>", desc := "()V", sig := { parameters := [], returnType := none }, accessFlags := 4, code := none }
/-- java/util/AbstractList -/
def k15 : Class := { plain "java/util/AbstractList" (some 12) with
  accessFlags := 1057
  interfaces := #[14]
  cf := some (fileOf pool15 8 #[.nestMembers #[93, 98, 208, 210, 82, 77]] #[{ accessFlags := 4, nameIndex := 5, descriptorIndex := 6, attributes := #[] }] 1057 2 #[133] #[{ accessFlags := 132, nameIndex := 11, descriptorIndex := 12, attributes := #[] }])
  fields := #[{ name := "modCount", type := .int, accessFlags := 132, slot := 0, constantValue := 0 }]
  methods := #[k15m0]
  instanceTypes := #[.int]
  staticTypes := #[]
  resolved := Array.replicate 218 none
  statics := none }

def pool16 : Array CpInfo := pool [(1, .class_ 2), (0, u "java/util/RandomAccess"), (0, .class_ 4), (0, u "java/lang/Object")] 2

/-- java/util/RandomAccess -/
def k16 : Class := { plain "java/util/RandomAccess" (some 0) with
  accessFlags := 1537
  interfaces := #[]
  cf := some (fileOf pool16 1 #[] #[] 1537 3 #[] #[])
  fields := #[]
  methods := #[]
  instanceTypes := #[]
  staticTypes := #[]
  resolved := Array.replicate 7 none
  statics := none }

def pool17 : Array CpInfo := pool [(2, .class_ 4), (1, u "java/util/AbstractList"), (3, .class_ 10), (1, u "com/example/sectile/sectile/blocks/Blocks$Builder"), (1, u "I"), (2, u "texts"), (2, .class_ 20), (1, u "com/example/sectile/sectile/blocks/Blocks"), (0, u "Ljava/lang/CharSequence;"), (2, u "textEnds"), (0, u "[I"), (9, u "tokens"), (3, u "widths"), (3, u "words"), (3, u "linkedWords"), (12, u "(I)V"), (24, u "tree"), (0, u "Lcom/example/sectile/sectile/blocks/BlockTree;"), (2, u "stepNames"), (0, u "[Ljava/lang/String;"), (7, u "stepPositions"), (3, u "stepHeadingLevels"), (0, u "[B"), (34, u "text"), (49, .class_ 189), (0, u "com/example/sectile/sectile/blocks/Blocks$Text"), (17, u "writeStep"), (0, u "(Ljava/lang/String;ILcom/example/sectile/sectile/blocks/Blocks$PathWriter;)V"), (6, .interfaceMethodref 216 217), (0, .class_ 218), (0, .nameAndType 219 220), (0, u "com/example/sectile/sectile/blocks/Blocks$PathWriter"), (0, u "ascii"), (0, u "(C)V"), (0, .interfaceMethodref 216 222), (0, .nameAndType 138 223), (0, u "(Ljava/lang/CharSequence;)V"), (0, .interfaceMethodref 216 225), (0, .nameAndType 226 60), (0, u "number"), (4, .class_ 232), (0, u "java/util/RandomAccess"), (0, u "NO_PATH"), (22, .class_ 257), (0, u "com/example/sectile/sectile/blocks/Blocks$StepLength")] 5

def k17c0 : Code := { maxStack := 2, maxLocals := 3, code := prog_7_method_22_code, exceptionTable := #[], attributes := #[] }
def k17m0 : Method := { name := "writeStep", desc := "(Ljava/lang/String;ILcom/example/sectile/sectile/blocks/Blocks$PathWriter;)V", sig := { parameters := [(.object "java/lang/String"), .int, (.object "com/example/sectile/sectile/blocks/Blocks$PathWriter")], returnType := none }, accessFlags := 10, code := some k17c0 }
/-- com/example/sectile/sectile/blocks/Blocks -/
def k17 : Class := { plain "com/example/sectile/sectile/blocks/Blocks" (some 15) with
  accessFlags := 49
  interfaces := #[16]
  cf := some (fileOf pool17 18 #[.nestMembers #[8, 256, 188, 216]] #[{ accessFlags := 10, nameIndex := 207, descriptorIndex := 208, attributes := #[] }] 49 2 #[231] #[{ accessFlags := 25, nameIndex := 233, descriptorIndex := 12, attributes := #[] }, { accessFlags := 18, nameIndex := 15, descriptorIndex := 21, attributes := #[] }, { accessFlags := 18, nameIndex := 24, descriptorIndex := 25, attributes := #[] }, { accessFlags := 18, nameIndex := 35, descriptorIndex := 25, attributes := #[] }, { accessFlags := 18, nameIndex := 39, descriptorIndex := 25, attributes := #[] }, { accessFlags := 18, nameIndex := 43, descriptorIndex := 25, attributes := #[] }, { accessFlags := 18, nameIndex := 47, descriptorIndex := 25, attributes := #[] }, { accessFlags := 18, nameIndex := 85, descriptorIndex := 86, attributes := #[] }, { accessFlags := 18, nameIndex := 89, descriptorIndex := 90, attributes := #[] }, { accessFlags := 18, nameIndex := 98, descriptorIndex := 25, attributes := #[] }, { accessFlags := 18, nameIndex := 102, descriptorIndex := 103, attributes := #[] }])
  fields := #[{ name := "NO_PATH", type := .int, accessFlags := 25, slot := 0, constantValue := 0 }, { name := "texts", type := (.object "java/lang/CharSequence"), accessFlags := 18, slot := 1, constantValue := 0 }, { name := "textEnds", type := (.array .int), accessFlags := 18, slot := 2, constantValue := 0 }, { name := "tokens", type := (.array .int), accessFlags := 18, slot := 3, constantValue := 0 }, { name := "widths", type := (.array .int), accessFlags := 18, slot := 4, constantValue := 0 }, { name := "words", type := (.array .int), accessFlags := 18, slot := 5, constantValue := 0 }, { name := "linkedWords", type := (.array .int), accessFlags := 18, slot := 6, constantValue := 0 }, { name := "tree", type := (.object "com/example/sectile/sectile/blocks/BlockTree"), accessFlags := 18, slot := 7, constantValue := 0 }, { name := "stepNames", type := (.array (.object "java/lang/String")), accessFlags := 18, slot := 8, constantValue := 0 }, { name := "stepPositions", type := (.array .int), accessFlags := 18, slot := 9, constantValue := 0 }, { name := "stepHeadingLevels", type := (.array .byte), accessFlags := 18, slot := 10, constantValue := 0 }]
  methods := #[k17m0]
  instanceTypes := #[.int, (.object "java/lang/CharSequence"), (.array .int), (.array .int), (.array .int), (.array .int), (.array .int), (.object "com/example/sectile/sectile/blocks/BlockTree"), (.array (.object "java/lang/String")), (.array .int), (.array .byte)]
  staticTypes := #[.int]
  resolved := Array.replicate 263 none
  statics := none }

def pool18 : Array CpInfo := pool [(4, .class_ 6), (1, u "java/lang/Object"), (0, u "<init>"), (0, u "()V"), (5, .class_ 16), (1, u "java/lang/StringLatin1"), (73, u "canEncode"), (14, u "(C)Z"), (15, u "$assertionsDisabled"), (0, u "Z"), (98, .class_ 223), (1, u "java/lang/StringLatin1$LinesSpliterator"), (156, u "toBytes"), (1, u "(C)[B"), (7, .class_ 391), (0, u "java/lang/StringLatin1$CharsSpliterator")] 3

def k18m0 : Method := { name := "<init>", desc := "()V", sig := { parameters := [], returnType := none }, accessFlags := 0, code := none }
def k18c1 : Code := { maxStack := 2, maxLocals := 1, code := jdk_43_method_3_code, exceptionTable := #[], attributes := #[] }
def k18m1 : Method := { name := "canEncode", desc := "(C)Z", sig := { parameters := [.char], returnType := some .boolean }, accessFlags := 9, code := some k18c1 }
def k18c2 : Code := { maxStack := 4, maxLocals := 1, code := jdk_43_method_46_code, exceptionTable := #[], attributes := #[] }
def k18m2 : Method := { name := "toBytes", desc := "(C)[B", sig := { parameters := [.char], returnType := some (.array .byte) }, accessFlags := 9, code := some k18c2 }
/-- java/lang/StringLatin1 -/
def k18 : Class := { plain "java/lang/StringLatin1" (some 0) with
  accessFlags := 48
  interfaces := #[]
  cf := some (fileOf pool18 14 #[.nestMembers #[390, 221]] #[{ accessFlags := 0, nameIndex := 7, descriptorIndex := 8, attributes := #[] }, { accessFlags := 9, nameIndex := 90, descriptorIndex := 105, attributes := #[] }, { accessFlags := 9, nameIndex := 380, descriptorIndex := 382, attributes := #[] }] 48 4 #[] #[{ accessFlags := 4120, nameIndex := 121, descriptorIndex := 122, attributes := #[] }])
  fields := #[{ name := "$assertionsDisabled", type := .boolean, accessFlags := 4120, slot := 0, constantValue := 0 }]
  methods := #[k18m0, k18m1, k18m2]
  instanceTypes := #[]
  staticTypes := #[.boolean]
  resolved := Array.replicate 395 none
  statics := none }

def pool19 : Array CpInfo := pool [(2, .class_ 4), (1, u "java/lang/Object"), (0, u "<init>"), (0, u "()V"), (17, .class_ 26), (1, u "jdk/internal/util/Preconditions"), (28, .class_ 56), (0, u "jdk/internal/util/Preconditions$4"), (57, .class_ 115), (0, u "jdk/internal/util/Preconditions$1"), (7, u "SIOOBE_FORMATTER"), (0, u "Ljava/util/function/BiFunction;"), (0, .class_ 126), (0, u "jdk/internal/util/Preconditions$2"), (3, u "AIOOBE_FORMATTER"), (0, .class_ 132), (0, u "jdk/internal/util/Preconditions$3"), (3, u "IOOBE_FORMATTER")] 57

def k19m0 : Method := { name := "<init>", desc := "()V", sig := { parameters := [], returnType := none }, accessFlags := 1, code := none }
/-- jdk/internal/util/Preconditions -/
def k19 : Class := { plain "jdk/internal/util/Preconditions" (some 0) with
  accessFlags := 33
  interfaces := #[]
  cf := some (fileOf pool19 24 #[.nestMembers #[55, 131, 125, 114]] #[{ accessFlags := 1, nameIndex := 5, descriptorIndex := 6, attributes := #[] }] 33 2 #[] #[{ accessFlags := 25, nameIndex := 123, descriptorIndex := 124, attributes := #[] }, { accessFlags := 25, nameIndex := 130, descriptorIndex := 124, attributes := #[] }, { accessFlags := 25, nameIndex := 136, descriptorIndex := 124, attributes := #[] }])
  fields := #[{ name := "SIOOBE_FORMATTER", type := (.object "java/util/function/BiFunction"), accessFlags := 25, slot := 0, constantValue := 0 }, { name := "AIOOBE_FORMATTER", type := (.object "java/util/function/BiFunction"), accessFlags := 25, slot := 1, constantValue := 0 }, { name := "IOOBE_FORMATTER", type := (.object "java/util/function/BiFunction"), accessFlags := 25, slot := 2, constantValue := 0 }]
  methods := #[k19m0]
  instanceTypes := #[]
  staticTypes := #[(.object "java/util/function/BiFunction"), (.object "java/util/function/BiFunction"), (.object "java/util/function/BiFunction")]
  resolved := Array.replicate 194 none
  statics := some 1 }

def pool20 : Array CpInfo := pool [(9, u "<init>"), (6, .class_ 18), (1, u "java/lang/Object"), (0, u "()V"), (1, .class_ 23), (1, u "jdk/internal/util/ArraysSupport"), (0, u "LOG2_ARRAY_LONG_INDEX_SCALE"), (0, u "I"), (2, u "U"), (0, u "Ljdk/internal/misc/Unsafe;"), (8, u "BIG_ENDIAN"), (0, u "Z"), (8, u "LOG2_BYTE_BIT_SIZE"), (4, u "LOG2_ARRAY_INT_INDEX_SCALE"), (54, u "JLA"), (0, u "Ljdk/internal/access/JavaLangAccess;"), (11, u "LOG2_ARRAY_BOOLEAN_INDEX_SCALE"), (9, u "LOG2_ARRAY_BYTE_INDEX_SCALE"), (5, u "LOG2_ARRAY_CHAR_INDEX_SCALE"), (5, u "LOG2_ARRAY_SHORT_INDEX_SCALE"), (18, u "LOG2_ARRAY_FLOAT_INDEX_SCALE"), (24, u "LOG2_ARRAY_DOUBLE_INDEX_SCALE"), (89, u "T_BOOLEAN"), (2, u "T_CHAR"), (1, u "T_FLOAT"), (1, u "T_DOUBLE"), (1, u "T_BYTE"), (1, u "T_SHORT"), (1, u "T_INT"), (1, u "T_LONG"), (1, u "SOFT_MAX_ARRAY_LENGTH")] 83

def k20m0 : Method := { name := "<init>", desc := "()V", sig := { parameters := [], returnType := none }, accessFlags := 2, code := none }
/-- jdk/internal/util/ArraysSupport -/
def k20 : Class := { plain "jdk/internal/util/ArraysSupport" (some 0) with
  accessFlags := 33
  interfaces := #[]
  cf := some (fileOf pool20 21 #[] #[{ accessFlags := 2, nameIndex := 9, descriptorIndex := 19, attributes := #[] }] 33 16 #[] #[{ accessFlags := 24, nameIndex := 28, descriptorIndex := 29, attributes := #[] }, { accessFlags := 26, nameIndex := 38, descriptorIndex := 39, attributes := #[] }, { accessFlags := 25, nameIndex := 121, descriptorIndex := 25, attributes := #[] }, { accessFlags := 25, nameIndex := 131, descriptorIndex := 25, attributes := #[] }, { accessFlags := 25, nameIndex := 137, descriptorIndex := 25, attributes := #[] }, { accessFlags := 25, nameIndex := 143, descriptorIndex := 25, attributes := #[] }, { accessFlags := 25, nameIndex := 53, descriptorIndex := 25, attributes := #[] }, { accessFlags := 25, nameIndex := 24, descriptorIndex := 25, attributes := #[] }, { accessFlags := 25, nameIndex := 162, descriptorIndex := 25, attributes := #[] }, { accessFlags := 25, nameIndex := 187, descriptorIndex := 25, attributes := #[] }, { accessFlags := 26, nameIndex := 48, descriptorIndex := 25, attributes := #[] }, { accessFlags := 25, nameIndex := 277, descriptorIndex := 25, attributes := #[] }, { accessFlags := 25, nameIndex := 280, descriptorIndex := 25, attributes := #[] }, { accessFlags := 25, nameIndex := 282, descriptorIndex := 25, attributes := #[] }, { accessFlags := 25, nameIndex := 284, descriptorIndex := 25, attributes := #[] }, { accessFlags := 25, nameIndex := 286, descriptorIndex := 25, attributes := #[] }, { accessFlags := 25, nameIndex := 288, descriptorIndex := 25, attributes := #[] }, { accessFlags := 25, nameIndex := 290, descriptorIndex := 25, attributes := #[] }, { accessFlags := 25, nameIndex := 292, descriptorIndex := 25, attributes := #[] }, { accessFlags := 26, nameIndex := 108, descriptorIndex := 109, attributes := #[] }, { accessFlags := 25, nameIndex := 294, descriptorIndex := 25, attributes := #[] }])
  fields := #[{ name := "U", type := (.object "jdk/internal/misc/Unsafe"), accessFlags := 24, slot := 0, constantValue := 0 }, { name := "BIG_ENDIAN", type := .boolean, accessFlags := 26, slot := 1, constantValue := 0 }, { name := "LOG2_ARRAY_BOOLEAN_INDEX_SCALE", type := .int, accessFlags := 25, slot := 2, constantValue := 0 }, { name := "LOG2_ARRAY_BYTE_INDEX_SCALE", type := .int, accessFlags := 25, slot := 3, constantValue := 0 }, { name := "LOG2_ARRAY_CHAR_INDEX_SCALE", type := .int, accessFlags := 25, slot := 4, constantValue := 0 }, { name := "LOG2_ARRAY_SHORT_INDEX_SCALE", type := .int, accessFlags := 25, slot := 5, constantValue := 0 }, { name := "LOG2_ARRAY_INT_INDEX_SCALE", type := .int, accessFlags := 25, slot := 6, constantValue := 0 }, { name := "LOG2_ARRAY_LONG_INDEX_SCALE", type := .int, accessFlags := 25, slot := 7, constantValue := 0 }, { name := "LOG2_ARRAY_FLOAT_INDEX_SCALE", type := .int, accessFlags := 25, slot := 8, constantValue := 0 }, { name := "LOG2_ARRAY_DOUBLE_INDEX_SCALE", type := .int, accessFlags := 25, slot := 9, constantValue := 0 }, { name := "LOG2_BYTE_BIT_SIZE", type := .int, accessFlags := 26, slot := 10, constantValue := 0 }, { name := "T_BOOLEAN", type := .int, accessFlags := 25, slot := 11, constantValue := 0 }, { name := "T_CHAR", type := .int, accessFlags := 25, slot := 12, constantValue := 0 }, { name := "T_FLOAT", type := .int, accessFlags := 25, slot := 13, constantValue := 0 }, { name := "T_DOUBLE", type := .int, accessFlags := 25, slot := 14, constantValue := 0 }, { name := "T_BYTE", type := .int, accessFlags := 25, slot := 15, constantValue := 0 }, { name := "T_SHORT", type := .int, accessFlags := 25, slot := 16, constantValue := 0 }, { name := "T_INT", type := .int, accessFlags := 25, slot := 17, constantValue := 0 }, { name := "T_LONG", type := .int, accessFlags := 25, slot := 18, constantValue := 0 }, { name := "JLA", type := (.object "jdk/internal/access/JavaLangAccess"), accessFlags := 26, slot := 19, constantValue := 0 }, { name := "SOFT_MAX_ARRAY_LENGTH", type := .int, accessFlags := 25, slot := 20, constantValue := 0 }]
  methods := #[k20m0]
  instanceTypes := #[]
  staticTypes := #[(.object "jdk/internal/misc/Unsafe"), .boolean, .int, .int, .int, .int, .int, .int, .int, .int, .int, .int, .int, .int, .int, .int, .int, .int, .int, (.object "jdk/internal/access/JavaLangAccess"), .int]
  resolved := Array.replicate 378 none
  statics := none }

def pool21 : Array CpInfo := pool [(1, u "java/lang/Cloneable"), (0, .class_ 1), (0, u "java/lang/Object"), (0, .class_ 3)] 3

/-- java/lang/Cloneable -/
def k21 : Class := { plain "java/lang/Cloneable" (some 0) with
  accessFlags := 1537
  interfaces := #[]
  cf := some (fileOf pool21 2 #[] #[] 1537 4 #[] #[])
  fields := #[]
  methods := #[]
  instanceTypes := #[]
  staticTypes := #[]
  resolved := Array.replicate 8 none
  statics := none }

/-- the primitive byte -/
def k22 : Class := { plain "byte" none with kind := .primitive 'B', accessFlags := 0x411 }
/-- [B -/
def k23 : Class := { plain "[B" (some 0) with kind := .array 22 .byte, interfaces := #[21, 4], accessFlags := 1041 }

/-- the primitive int -/
def k24 : Class := { plain "int" none with kind := .primitive 'I', accessFlags := 0x411 }
/-- [I -/
def k25 : Class := { plain "[I" (some 0) with kind := .array 24 .int, interfaces := #[21, 4], accessFlags := 1041 }

def heap : Heap := #[{ cls := 9, slots := #[.long 0, .int 1, .null, .int 0, .null, .int 0, .int 0], vm := .statics 9 },
  { cls := 19, slots := #[.null, .null, .null], vm := .statics 19 }]
def classes : Array Class := #[k0, k1, k2, k3, k4, k5, k6, k7, k8, k9, k10, k11, k12, k13, k14, k15, k16, k17, k18, k19, k20, k21, k22, k23, k24, k25]
def interned : List (Array UInt16 × Addr) := []
def slotsUsed : Nat := 10
def theMethod : MethodId := ⟨1, 1⟩
def args0 : Array Value := #[.int 5, .int 7, .int 1]
def aboutOver (below : List Frame) : State where
  vm := { classes := classes, interned := interned.toArray }
  heap := heap
  slotsUsed := slotsUsed
  threads := #[{ frames := .invoking theMethod args0 :: below }]
def below0 : List Frame := [.native { method := ⟨0, 0⟩, args := #[] }]
def about1 : State := aboutOver below0
def p0 : Program := .bare "" "" ""
def e0 : Env := launch0.env 0 0 0
theorem w_frames : about1.frames = Frame.invoking theMethod args0 :: below0 := rfl
set_option maxRecDepth 65536 in
theorem w_args : argsFit about1.vm theMethod args0 = true := by decide +kernel
set_option maxRecDepth 65536 in
theorem w_heap : heapFits about1 = true := by decide +kernel
set_option maxRecDepth 65536 in
theorem w_runnable : about1.curStatus? = some .runnable := by decide +kernel
set_option maxRecDepth 65536 in
theorem w_alone : about1.alone = true := by decide +kernel
set_option maxRecDepth 65536 in
theorem w_named : about1.methodNamed? x = some theMethod := by decide +kernel
set_option maxRecDepth 65536 in
theorem w_hears : about1.hears theMethod below0 = true := by decide +kernel
set_option maxRecDepth 65536 in
theorem w_ripe : about1.ripe theMethod args0 below0 = true := by decide +kernel
theorem w_running : about1.status = .running := rfl
set_option maxRecDepth 65536 in
theorem w_room : about1.hasRoom e0.platform room_1 = true :=
  launch0.hasRoom_least _ room_1 (by decide +kernel) (by decide +kernel) (by decide +kernel) (by decide +kernel) (by decide +kernel) (by decide +kernel)
theorem allAtoms_all (ts : List Jvm.Cond) (a : Array Jvm.Value) (st : Jvm.State) : (allAtoms ts).before a st = ts.all (fun c => c.before a st) := by
  induction ts with
  | nil => rfl
  | cons c t ih =>
    show (Jvm.Cond.and c (allAtoms t)).before a st = _
    rw [Jvm.Cond.before_and, ih, List.all_cons]
def words1 : List Jvm.Cond := Jvm.Cond.code x code maxLocals ret :: tables_1
/-- a 'code' word, met by the world's own term for the bytes: nothing is compared byte by byte -/
theorem code_word {y : MethodName} {bytes : ByteArray} {mx : Nat} {rt : Option FieldType} {a : Array Value} {s : State} {m : MethodId} {meth : Method} {c : Code} (h1 : s.methodNamed? y = some m) (h2 : s.vm.method? m = some meth) (h3 : meth.code = some c) (h4 : c.code = bytes)
    (h5 : (c.maxLocals == mx && c.exceptionTable.isEmpty && decide (c.maxStack ≤ mostOperands) && decide (meth.sig.returnType = rt) && !meth.locks && decide (parseMethodDescriptor y.desc = some meth.sig)) = true) : (Jvm.Cond.code y bytes mx rt).before a s = true := by
  simp only [Bool.and_eq_true, beq_iff_eq, Bool.not_eq_true', decide_eq_true_eq] at h5
  obtain ⟨⟨⟨⟨⟨g1, g2⟩, g3⟩, g4⟩, g5⟩, g6⟩ := h5
  simp [Cond.before, Cond.holds, Cond.value, h1, h2, h3, h4, g1, g2, g3, g4, g5, g6]
def isCode : Jvm.Cond → Bool
  | .code _ _ _ _ => true
  | _ => false
theorem all_split {L : List Jvm.Cond} {P : Jvm.Cond → Bool} (h1 : L.all (fun c => isCode c || P c) = true) (h2 : ∀ c ∈ L.filter isCode, P c = true) : L.all P = true := by
  refine List.all_eq_true.mpr fun c hc => ?_
  have h := List.all_eq_true.mp h1 c hc
  rcases Bool.eq_false_or_eq_true (isCode c) with hi | hi
  · exact h2 c (List.mem_filter.mpr ⟨hc, hi⟩)
  · simpa [hi] using h
set_option maxRecDepth 65536 in
theorem w_c0 : (Jvm.Cond.code x code maxLocals ret).before args0 about1 = true := code_word (m := ⟨1, 1⟩) (meth := k1m1) (c := k1c1) (by decide +kernel) rfl rfl rfl (by decide +kernel)
set_option maxRecDepth 65536 in
theorem w_c1 : (Jvm.Cond.code ({ cls := "com/example/sectile/sectile/blocks/Blocks$StepLength", name := "<init>", desc := "()V" } : Jvm.MethodName) prog_10_method_1_code (1 : Nat) (Option.none : Option Jvm.ClassFile.FieldType)).before args0 about1 = true := code_word (m := ⟨3, 0⟩) (meth := k3m0) (c := k3c0) (by decide +kernel) rfl rfl rfl (by decide +kernel)
set_option maxRecDepth 65536 in
theorem w_c2 : (Jvm.Cond.code ({ cls := "java/lang/Object", name := "<init>", desc := "()V" } : Jvm.MethodName) object_method_1_code (1 : Nat) (Option.none : Option Jvm.ClassFile.FieldType)).before args0 about1 = true := code_word (m := ⟨0, 0⟩) (meth := k0m0) (c := k0c0) (by decide +kernel) rfl rfl rfl (by decide +kernel)
set_option maxRecDepth 65536 in
theorem w_c3 : (Jvm.Cond.code ({ cls := "com/example/sectile/sectile/blocks/Blocks$StepLength", name := "of", desc := "(Ljava/lang/String;I)I" } : Jvm.MethodName) prog_10_method_2_code (3 : Nat) (Option.some Jvm.ClassFile.FieldType.int)).before args0 about1 = true := code_word (m := ⟨3, 1⟩) (meth := k3m1) (c := k3c1) (by decide +kernel) rfl rfl rfl (by decide +kernel)
set_option maxRecDepth 65536 in
theorem w_c4 : (Jvm.Cond.code ({ cls := "com/example/sectile/sectile/blocks/Blocks", name := "writeStep", desc := "(Ljava/lang/String;ILcom/example/sectile/sectile/blocks/Blocks$PathWriter;)V" } : Jvm.MethodName) prog_7_method_22_code (3 : Nat) (Option.none : Option Jvm.ClassFile.FieldType)).before args0 about1 = true := code_word (m := ⟨17, 0⟩) (meth := k17m0) (c := k17c0) (by decide +kernel) rfl rfl rfl (by decide +kernel)
set_option maxRecDepth 65536 in
theorem w_c5 : (Jvm.Cond.code ({ cls := "com/example/sectile/sectile/blocks/Blocks$StepLength", name := "ascii", desc := "(C)V" } : Jvm.MethodName) prog_10_method_3_code (2 : Nat) (Option.none : Option Jvm.ClassFile.FieldType)).before args0 about1 = true := code_word (m := ⟨3, 2⟩) (meth := k3m2) (c := k3c2) (by decide +kernel) rfl rfl rfl (by decide +kernel)
set_option maxRecDepth 65536 in
theorem w_c6 : (Jvm.Cond.code ({ cls := "com/example/sectile/sectile/blocks/Blocks$StepLength", name := "text", desc := "(Ljava/lang/CharSequence;)V" } : Jvm.MethodName) prog_10_method_4_code (2 : Nat) (Option.none : Option Jvm.ClassFile.FieldType)).before args0 about1 = true := code_word (m := ⟨3, 3⟩) (meth := k3m3) (c := k3c3) (by decide +kernel) rfl rfl rfl (by decide +kernel)
set_option maxRecDepth 65536 in
theorem w_c7 : (Jvm.Cond.code ({ cls := "java/lang/String", name := "length", desc := "()I" } : Jvm.MethodName) jdk_42_method_54_code (1 : Nat) (Option.some Jvm.ClassFile.FieldType.int)).before args0 about1 = true := code_word (m := ⟨9, 1⟩) (meth := k9m1) (c := k9c1) (by decide +kernel) rfl rfl rfl (by decide +kernel)
set_option maxRecDepth 65536 in
theorem w_c8 : (Jvm.Cond.code ({ cls := "java/lang/String", name := "coder", desc := "()B" } : Jvm.MethodName) jdk_42_method_152_code (1 : Nat) (Option.some Jvm.ClassFile.FieldType.byte)).before args0 about1 = true := code_word (m := ⟨9, 4⟩) (meth := k9m4) (c := k9c4) (by decide +kernel) rfl rfl rfl (by decide +kernel)
set_option maxRecDepth 65536 in
theorem w_c9 : (Jvm.Cond.code ({ cls := "com/example/sectile/sectile/blocks/Blocks$StepLength", name := "number", desc := "(I)V" } : Jvm.MethodName) prog_10_method_5_code (3 : Nat) (Option.none : Option Jvm.ClassFile.FieldType)).before args0 about1 = true := code_word (m := ⟨3, 4⟩) (meth := k3m4) (c := k3c4) (by decide +kernel) rfl rfl rfl (by decide +kernel)
set_option maxRecDepth 65536 in
theorem w_c10 : (Jvm.Cond.code ({ cls := "com/example/sectile/sectile/blocks/StepLengthNumberPinLaw", name := "decimalLength", desc := "(I)I" } : Jvm.MethodName) method_3_code (5 : Nat) (Option.some Jvm.ClassFile.FieldType.int)).before args0 about1 = true := code_word (m := ⟨1, 2⟩) (meth := k1m2) (c := k1c2) (by decide +kernel) rfl rfl rfl (by decide +kernel)
set_option maxRecDepth 65536 in
theorem w_c11 : (Jvm.Cond.code ({ cls := "java/lang/String", name := "valueOf", desc := "(C)Ljava/lang/String;" } : Jvm.MethodName) jdk_42_method_139_code (1 : Nat) (Option.some (Jvm.ClassFile.FieldType.object "java/lang/String"))).before args0 about1 = true := code_word (m := ⟨9, 2⟩) (meth := k9m2) (c := k9c2) (by decide +kernel) rfl rfl rfl (by decide +kernel)
set_option maxRecDepth 65536 in
theorem w_c12 : (Jvm.Cond.code ({ cls := "java/lang/StringLatin1", name := "canEncode", desc := "(C)Z" } : Jvm.MethodName) jdk_43_method_3_code (1 : Nat) (Option.some Jvm.ClassFile.FieldType.boolean)).before args0 about1 = true := code_word (m := ⟨18, 1⟩) (meth := k18m1) (c := k18c1) (by decide +kernel) rfl rfl rfl (by decide +kernel)
set_option maxRecDepth 65536 in
theorem w_c13 : (Jvm.Cond.code ({ cls := "java/lang/StringLatin1", name := "toBytes", desc := "(C)[B" } : Jvm.MethodName) jdk_43_method_46_code (1 : Nat) (Option.some (Jvm.ClassFile.FieldType.array Jvm.ClassFile.FieldType.byte))).before args0 about1 = true := code_word (m := ⟨18, 2⟩) (meth := k18m2) (c := k18c2) (by decide +kernel) rfl rfl rfl (by decide +kernel)
set_option maxRecDepth 65536 in
theorem w_c14 : (Jvm.Cond.code ({ cls := "java/lang/String", name := "<init>", desc := "([BB)V" } : Jvm.MethodName) jdk_42_method_151_code (3 : Nat) (Option.none : Option Jvm.ClassFile.FieldType)).before args0 about1 = true := code_word (m := ⟨9, 3⟩) (meth := k9m3) (c := k9c3) (by decide +kernel) rfl rfl rfl (by decide +kernel)
def codes1 : List Jvm.Cond := [Jvm.Cond.code x code maxLocals ret, Jvm.Cond.code ({ cls := "com/example/sectile/sectile/blocks/Blocks$StepLength", name := "<init>", desc := "()V" } : Jvm.MethodName) prog_10_method_1_code (1 : Nat) (Option.none : Option Jvm.ClassFile.FieldType), Jvm.Cond.code ({ cls := "java/lang/Object", name := "<init>", desc := "()V" } : Jvm.MethodName) object_method_1_code (1 : Nat) (Option.none : Option Jvm.ClassFile.FieldType), Jvm.Cond.code ({ cls := "com/example/sectile/sectile/blocks/Blocks$StepLength", name := "of", desc := "(Ljava/lang/String;I)I" } : Jvm.MethodName) prog_10_method_2_code (3 : Nat) (Option.some Jvm.ClassFile.FieldType.int), Jvm.Cond.code ({ cls := "com/example/sectile/sectile/blocks/Blocks", name := "writeStep", desc := "(Ljava/lang/String;ILcom/example/sectile/sectile/blocks/Blocks$PathWriter;)V" } : Jvm.MethodName) prog_7_method_22_code (3 : Nat) (Option.none : Option Jvm.ClassFile.FieldType), Jvm.Cond.code ({ cls := "com/example/sectile/sectile/blocks/Blocks$StepLength", name := "ascii", desc := "(C)V" } : Jvm.MethodName) prog_10_method_3_code (2 : Nat) (Option.none : Option Jvm.ClassFile.FieldType), Jvm.Cond.code ({ cls := "com/example/sectile/sectile/blocks/Blocks$StepLength", name := "text", desc := "(Ljava/lang/CharSequence;)V" } : Jvm.MethodName) prog_10_method_4_code (2 : Nat) (Option.none : Option Jvm.ClassFile.FieldType), Jvm.Cond.code ({ cls := "java/lang/String", name := "length", desc := "()I" } : Jvm.MethodName) jdk_42_method_54_code (1 : Nat) (Option.some Jvm.ClassFile.FieldType.int), Jvm.Cond.code ({ cls := "java/lang/String", name := "coder", desc := "()B" } : Jvm.MethodName) jdk_42_method_152_code (1 : Nat) (Option.some Jvm.ClassFile.FieldType.byte), Jvm.Cond.code ({ cls := "com/example/sectile/sectile/blocks/Blocks$StepLength", name := "number", desc := "(I)V" } : Jvm.MethodName) prog_10_method_5_code (3 : Nat) (Option.none : Option Jvm.ClassFile.FieldType), Jvm.Cond.code ({ cls := "com/example/sectile/sectile/blocks/StepLengthNumberPinLaw", name := "decimalLength", desc := "(I)I" } : Jvm.MethodName) method_3_code (5 : Nat) (Option.some Jvm.ClassFile.FieldType.int), Jvm.Cond.code ({ cls := "java/lang/String", name := "valueOf", desc := "(C)Ljava/lang/String;" } : Jvm.MethodName) jdk_42_method_139_code (1 : Nat) (Option.some (Jvm.ClassFile.FieldType.object "java/lang/String")), Jvm.Cond.code ({ cls := "java/lang/StringLatin1", name := "canEncode", desc := "(C)Z" } : Jvm.MethodName) jdk_43_method_3_code (1 : Nat) (Option.some Jvm.ClassFile.FieldType.boolean), Jvm.Cond.code ({ cls := "java/lang/StringLatin1", name := "toBytes", desc := "(C)[B" } : Jvm.MethodName) jdk_43_method_46_code (1 : Nat) (Option.some (Jvm.ClassFile.FieldType.array Jvm.ClassFile.FieldType.byte)), Jvm.Cond.code ({ cls := "java/lang/String", name := "<init>", desc := "([BB)V" } : Jvm.MethodName) jdk_42_method_151_code (3 : Nat) (Option.none : Option Jvm.ClassFile.FieldType)]
set_option maxRecDepth 65536 in
theorem codes_eq : words1.filter isCode = codes1 := rfl
theorem w_codes : ∀ c ∈ words1.filter isCode, c.before args0 about1 = true := by
  rw [codes_eq]
  intro c hc
  simp only [codes1, List.mem_cons, List.not_mem_nil, or_false] at hc
  rcases hc with rfl | rfl | rfl | rfl | rfl | rfl | rfl | rfl | rfl | rfl | rfl | rfl | rfl | rfl | rfl
  · exact w_c0
  · exact w_c1
  · exact w_c2
  · exact w_c3
  · exact w_c4
  · exact w_c5
  · exact w_c6
  · exact w_c7
  · exact w_c8
  · exact w_c9
  · exact w_c10
  · exact w_c11
  · exact w_c12
  · exact w_c13
  · exact w_c14
set_option maxRecDepth 65536 in
theorem w_t1 : (words1.take 24).all (fun c => isCode c || c.before args0 about1) = true := by decide +kernel
set_option maxRecDepth 65536 in
theorem w_t2 : ((words1.drop 24).take 24).all (fun c => isCode c || c.before args0 about1) = true := by decide +kernel
set_option maxRecDepth 65536 in
theorem w_t3 : (((words1.drop 24).drop 24).take 24).all (fun c => isCode c || c.before args0 about1) = true := by decide +kernel
set_option maxRecDepth 65536 in
theorem w_t4 : ((((words1.drop 24).drop 24).drop 24).take 24).all (fun c => isCode c || c.before args0 about1) = true := by decide +kernel
set_option maxRecDepth 65536 in
theorem w_t5 : ((((words1.drop 24).drop 24).drop 24).drop 24).all (fun c => isCode c || c.before args0 about1) = true := by decide +kernel
theorem w_tables : (allAtoms (Jvm.Cond.code x code maxLocals ret :: tables_1)).before args0 about1 = true := by
  rw [allAtoms_all]
  show words1.all (fun c => c.before args0 about1) = true
  refine all_split ?_ w_codes
  rw [← List.take_append_drop 24 words1, List.all_append, w_t1, ← List.take_append_drop 24 (words1.drop 24), List.all_append, w_t2, ← List.take_append_drop 24 ((words1.drop 24).drop 24), List.all_append, w_t3, ← List.take_append_drop 24 (((words1.drop 24).drop 24).drop 24), List.all_append, w_t4, w_t5]
  rfl
set_option maxRecDepth 65536 in
theorem w_rest : rest_1_c.before args0 about1 = true := by decide +kernel
set_option maxRecDepth 65536 in
theorem w_case : (Jvm.Cond.and given_1 narrow_1).before args0 about1 = true := by decide +kernel
set_option maxRecDepth 65536 in
theorem w_consts : constsHeld consts_1 about1 := Jvm.Lit.constsHeldB_iff.mp (by decide +kernel)
theorem w_applies : (headSpec (Jvm.Cond.code x code maxLocals ret :: tables_1) room_1).applies x e0.platform about1 = true :=
  (Spec.applies_iff w_frames).mpr ⟨w_running, w_runnable, w_alone, w_named, w_hears, w_ripe, w_room, w_tables⟩
theorem atStart : AtStart classFile x code maxLocals ret World_1 tables_1 room_1 Calls_1 rest_1 Pre_1 launch0 p0 e0 about1 theMethod args0 below0 :=
  ⟨lists_1, trivial, launch0.admits_env _ _ _, launch0.least_env, fairChoices_fair.cas, fairChoices_fair.clock, w_frames, w_args, w_heap, w_applies, ⟨w_consts, trivial⟩, w_rest, w_case⟩
end start1
theorem witness_1 : WitnessClaimed_1 := ⟨start1.p0, start1.e0, start1.about1, start1.theMethod, start1.args0, start1.below0, start1.atStart⟩
end Jvm.Pilot.@@N@@
