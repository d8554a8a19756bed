import JvmDerived
import JvmDerived.Pilot.@@N@@Statement
import JvmDerived.Pilot.@@N@@Code
set_option linter.unusedVariables false
set_option linter.unusedSimpArgs false
namespace Jvm.Pilot.@@N@@
open Jvm Jvm.ClassFile Sem Op Lib Jvm.Free Jvm.Stand Jvm.LawKit Jvm.RoadKit Bundle Jvm.Pilot.@@N@@.Jvm.D
def G (p : Program) (l : Launch) (e : Env) (R : Room) (s : State) (m : MethodId) (args : Array Value) (below : List Frame) (meth : Method) (c : Code) (n0 : Nat) (Q : Option Value → Heap → Prop) (h : Heap) (k n : Nat) (pc : Nat) (Ls : Array Slot) (st : List Value) : Prop :=
  ∀ T locs cells slots, Stand p l e R s m args below meth c T locs cells slots → Fr n0 locs → T.heap = h → cells ≤ k → slots ≤ n →
    ∃ s₂ o, Steps p.tables e below (T.setTop (mkF m pc Ls st)) s₂ ∧ s₂.status = .running ∧ Ended s₂ below o ∧ ∃ v L, o = .returned v ∧ (Q v s₂.heap ∧ Fr n0 L) ∧ FrameEnd s o s₂ L R.cells R.slots
def Cx (Z : State) (p : Program) (s : State) (m : MethodId) (meth : Method) (c : Code) (R : Room) (k n : Nat) (own nm : String) (code : ByteArray) (maxL : Nat) (ret : Option FieldType) : Prop :=
  p.tables.exec = Jvm.exec ∧ Z.Warmed39 s.vm ∧ s.vm.findClass own = some m.cls ∧ c.code = code ∧ c.maxLocals = maxL ∧ meth.sig.returnType = ret ∧ meth.name = nm ∧ meth.locks = false
def Dc (code : ByteArray) (pc : Nat) (i : Instr) (len pc' : Nat) : Prop := decode code pc = .ok (i, len) ∧ pc + len = pc'
def Bi (code : ByteArray) (pc : Nat) (f : Int → Instr) (pcY pcN : Nat) : Prop := ∃ o, decode code pc = .ok (f o, 3) ∧ 0 ≤ (pc : Int) + o ∧ ((pc : Int) + o).toNat = pcY ∧ pc + 3 = pcN
def Met (l : Launch) (Z : State) (y : MethodName) (bytes : ByteArray) (maxL : Nat) (ret : Option FieldType) (rm : Room) (as : Array Value) (h0 : Heap) (Q : Option Value → Heap → Prop) : Prop :=
  ∀ ws, MetFree l y (head1 (Jvm.Cond.code y bytes maxL ret :: ws) rm) (fun a U => a = as ∧ Z.Warmed39 U.vm ∧ U.heap = h0) (fun _ _ _ _ _ => True) (fun _ U o U' => ∃ v L, o = .returned v ∧ (Q v U'.heap ∧ Fr Z.heap.size L) ∧ FrameEnd U o U' L rm.cells rm.slots)

def Arx (Z : State) (h : Heap) (a : Addr) (k : ClassId) (ty : FieldType) (z : Int32) (vs : List Value) (dv : Value) (ad : String) : Prop := Arv Z h a k ty z vs dv ∧ Exa Z h a ad
section ArxS
variable {Z : State} {h h' : Heap} {a x : Addr} {k : ClassId} {ty : FieldType} {z : Int32} {vs vs' : List Value} {dv w : Value} {ad : String} {sl : Nat} {ws : List Addr}
theorem Arx.ext (F : Arx Z h a k ty z vs dv ad) (E : Ext h h') : Arx Z h' a k ty z vs dv ad := ⟨F.1.ext E, F.2.ext E⟩
theorem Arx.other (F : Arx Z h a k ty z vs dv ad) (W : Wr h h' x sl w) (q : a ≠ x) : Arx Z h' a k ty z vs dv ad := ⟨F.1.other W q, F.2.wr W⟩
theorem Arx.keep (F : Arx Z h a k ty z vs dv ad) (K : Keep h h' ws) (q : a ∉ ws) : Arx Z h' a k ty z vs dv ad := ⟨F.1.keep K q, F.2.keep K⟩
theorem Arx.lt (F : Arx Z h a k ty z vs dv ad) : a < h.size := F.1.lt
theorem Arx.pad (F : Arx Z h a k ty z vs dv ad) (q : ∀ i, vs'.getD i dv = vs.getD i dv) : Arx Z h a k ty z vs' dv ad := ⟨F.1.pad q, F.2⟩
theorem sto_of {C : String} {y : Addr} (A : Arx Z h a k ty z vs dv ad) (O : Ovr Z k C) (I : Ins Z h y C true) : Sto Z h a (.ref y) := by
  obtain ⟨⟨c, Ar, q, -⟩, -⟩ := A; exact Sto.ofV Ar q O I
theorem sto_ofA {C : String} {y : Addr} {t : FieldType} (A : Arx Z h a k ty z vs dv ad) (O : OvrA Z k t C) (I : Ins Z h y C true) : Sto Z h a (.ref y) := by
  obtain ⟨⟨c, Ar, q, -⟩, -⟩ := A; exact Sto.ofVA Ar q O I
end ArxS
section Walk
variable {p : Program} {l : Launch} {e : Env} {R : Room} {s : State} {m : MethodId} {args : Array Value} {below : List Frame} {meth : Method} {c : Code} {Z : State} {a0 : Array Value} {k n : Nat} {own nm : String} {code : ByteArray} {maxL : Nat} {ret : Option FieldType} {n0 : Nat} {Q : Option Value → Heap → Prop} {h : Heap} {pc pc' pcY pcN : Nat} {Ls : Array Slot} {st rest : List Value}
theorem G.mono {k' n' : Nat} (H : G p l e R s m args below meth c Z.heap.size Q h k n pc Ls st) (hk : k' ≤ k) (hn : n' ≤ n) : G p l e R s m args below meth c Z.heap.size Q h k' n' pc Ls st :=
  fun T locs cells slots X N eT a b => H T locs cells slots X N eT (Nat.le_trans a hk) (Nat.le_trans b hn)
theorem G.cast {st' : List Value} (H : G p l e R s m args below meth c Z.heap.size Q h k n pc Ls st') (q : st = st') : G p l e R s m args below meth c Z.heap.size Q h k n pc Ls st := q ▸ H
theorem G.post {Q' : Option Value → Heap → Prop} (H : G p l e R s m args below meth c Z.heap.size Q h k n pc Ls st) (q : ∀ v h, Q v h → Q' v h) : G p l e R s m args below meth c Z.heap.size Q' h k n pc Ls st :=
  fun T locs cells slots X N eT a b => by
    obtain ⟨s₂, o, h1, h2, h3, v, L, h4, ⟨h5, h6⟩, h7⟩ := H T locs cells slots X N eT a b
    exact ⟨s₂, o, h1, h2, h3, v, L, h4, ⟨q _ _ h5, h6⟩, h7⟩
theorem met_of {y : MethodName} {bytes : ByteArray} {rm : Room} {as : Array Value} {h0 : Heap} (pn : plainFor y = true) (ef : ∀ m, entryFrame m as maxL = mkF m 0 Ls [])
    (body : ∀ p e s m below meth c, Cx Z p s m meth c rm 0 0 y.cls y.name bytes maxL ret → G p l e rm s m as below meth c Z.heap.size Q h0 0 0 0 Ls []) : Met l Z y bytes maxL ret rm as h0 Q := by
  intro ws
  refine MetFree.of_bodySF pn hisR ?_
  intro p e s m args below meth c s₁ Bd hml0 hP hK
  obtain ⟨rfl, hZ, hh⟩ := hP
  have e0 : s₁.heap = h0 := by rw [← hh, Bd.state]; rfl
  have X0 : Stand p l e rm s m args below meth c s₁ [] 0 0 := Stand.of_body Bd
  rw [ef m]
  exact body p e s m below meth c ⟨Bd.exec, hZ, findClass_of_methodNamed Bd.named, Bd.bytes, hml0, Bd.returns, (name_of_methodNamed Bd.named Bd.method).1, BodyLoose.notSynchronized Bd⟩ s₁ [] 0 0 X0 (Fr.nil _) e0 (Nat.le_refl _) (Nat.le_refl _)
theorem g_iloadN {kx nx : Nat} (cx : Cx Z p s m meth c R kx nx own nm code maxL ret) {i : Fin 4} {v : Int32} (d : Dc code pc (.iload_n i) 1 pc') (hl : Ls[i.val]? = some (.val (.int v))) (H : G p l e R s m args below meth c Z.heap.size Q h k n pc' Ls (.int v :: st)) : G p l e R s m args below meth c Z.heap.size Q h k n pc Ls st := by
  obtain ⟨hx, hZ, hown, rfl, hml, hret, hnm, -⟩ := cx
  obtain ⟨d, rfl⟩ := d
  intro T locs cells slots X N eT hk hn
  obtain ⟨s₂, o, st2, r⟩ := H T locs cells slots X N eT hk hn
  exact ⟨s₂, o, Jvm.Free.XS.iloadN X.here hx rfl d hl st2, r⟩
theorem g_iload {kx nx : Nat} (cx : Cx Z p s m meth c R kx nx own nm code maxL ret) {i : Nat} {v : Int32} (d : Dc code pc (.iload i) 2 pc') (hl : Ls[i]? = some (.val (.int v))) (H : G p l e R s m args below meth c Z.heap.size Q h k n pc' Ls (.int v :: st)) : G p l e R s m args below meth c Z.heap.size Q h k n pc Ls st := by
  obtain ⟨hx, hZ, hown, rfl, hml, hret, hnm, -⟩ := cx
  obtain ⟨d, rfl⟩ := d
  intro T locs cells slots X N eT hk hn
  obtain ⟨s₂, o, st2, r⟩ := H T locs cells slots X N eT hk hn
  exact ⟨s₂, o, Jvm.Free.XS.iload X.here hx rfl d hl st2, r⟩
theorem g_istoreN {kx nx : Nat} (cx : Cx Z p s m meth c R kx nx own nm code maxL ret) {i : Fin 4} {v : Int32} {Ls' : Array Slot} (d : Dc code pc (.istore_n i) 1 pc') (hl : storeLocals Ls i.val (.int v) = some Ls') (H : G p l e R s m args below meth c Z.heap.size Q h k n pc' Ls' st) : G p l e R s m args below meth c Z.heap.size Q h k n pc Ls (.int v :: st) := by
  obtain ⟨hx, hZ, hown, rfl, hml, hret, hnm, -⟩ := cx
  obtain ⟨d, rfl⟩ := d
  intro T locs cells slots X N eT hk hn
  obtain ⟨s₂, o, st2, r⟩ := H T locs cells slots X N eT hk hn
  exact ⟨s₂, o, Jvm.Free.XS.istoreN X.here hx rfl d rfl hl st2, r⟩
theorem g_istore {kx nx : Nat} (cx : Cx Z p s m meth c R kx nx own nm code maxL ret) {i : Nat} {v : Int32} {Ls' : Array Slot} (d : Dc code pc (.istore i) 2 pc') (hl : storeLocals Ls i (.int v) = some Ls') (H : G p l e R s m args below meth c Z.heap.size Q h k n pc' Ls' st) : G p l e R s m args below meth c Z.heap.size Q h k n pc Ls (.int v :: st) := by
  obtain ⟨hx, hZ, hown, rfl, hml, hret, hnm, -⟩ := cx
  obtain ⟨d, rfl⟩ := d
  intro T locs cells slots X N eT hk hn
  obtain ⟨s₂, o, st2, r⟩ := H T locs cells slots X N eT hk hn
  exact ⟨s₂, o, Jvm.Free.XS.istore X.here hx rfl d rfl hl st2, r⟩
theorem g_lloadN {kx nx : Nat} (cx : Cx Z p s m meth c R kx nx own nm code maxL ret) {i : Fin 4} {v : Int64} (d : Dc code pc (.lload_n i) 1 pc') (hl : Ls[i.val]? = some (.val (.long v))) (H : G p l e R s m args below meth c Z.heap.size Q h k n pc' Ls (.long v :: st)) : G p l e R s m args below meth c Z.heap.size Q h k n pc Ls st := by
  obtain ⟨hx, hZ, hown, rfl, hml, hret, hnm, -⟩ := cx
  obtain ⟨d, rfl⟩ := d
  intro T locs cells slots X N eT hk hn
  obtain ⟨s₂, o, st2, r⟩ := H T locs cells slots X N eT hk hn
  exact ⟨s₂, o, Jvm.Free.XS.lloadN X.here hx rfl d hl st2, r⟩
theorem g_lload {kx nx : Nat} (cx : Cx Z p s m meth c R kx nx own nm code maxL ret) {i : Nat} {v : Int64} (d : Dc code pc (.lload i) 2 pc') (hl : Ls[i]? = some (.val (.long v))) (H : G p l e R s m args below meth c Z.heap.size Q h k n pc' Ls (.long v :: st)) : G p l e R s m args below meth c Z.heap.size Q h k n pc Ls st := by
  obtain ⟨hx, hZ, hown, rfl, hml, hret, hnm, -⟩ := cx
  obtain ⟨d, rfl⟩ := d
  intro T locs cells slots X N eT hk hn
  obtain ⟨s₂, o, st2, r⟩ := H T locs cells slots X N eT hk hn
  exact ⟨s₂, o, Jvm.Free.XS.lload X.here hx rfl d hl st2, r⟩
theorem g_lstoreN {kx nx : Nat} (cx : Cx Z p s m meth c R kx nx own nm code maxL ret) {i : Fin 4} {v : Int64} {Ls' : Array Slot} (d : Dc code pc (.lstore_n i) 1 pc') (hl : storeLocals Ls i.val (.long v) = some Ls') (H : G p l e R s m args below meth c Z.heap.size Q h k n pc' Ls' st) : G p l e R s m args below meth c Z.heap.size Q h k n pc Ls (.long v :: st) := by
  obtain ⟨hx, hZ, hown, rfl, hml, hret, hnm, -⟩ := cx
  obtain ⟨d, rfl⟩ := d
  intro T locs cells slots X N eT hk hn
  obtain ⟨s₂, o, st2, r⟩ := H T locs cells slots X N eT hk hn
  exact ⟨s₂, o, Jvm.Free.XS.lstoreN X.here hx rfl d rfl hl st2, r⟩
theorem g_lstore {kx nx : Nat} (cx : Cx Z p s m meth c R kx nx own nm code maxL ret) {i : Nat} {v : Int64} {Ls' : Array Slot} (d : Dc code pc (.lstore i) 2 pc') (hl : storeLocals Ls i (.long v) = some Ls') (H : G p l e R s m args below meth c Z.heap.size Q h k n pc' Ls' st) : G p l e R s m args below meth c Z.heap.size Q h k n pc Ls (.long v :: st) := by
  obtain ⟨hx, hZ, hown, rfl, hml, hret, hnm, -⟩ := cx
  obtain ⟨d, rfl⟩ := d
  intro T locs cells slots X N eT hk hn
  obtain ⟨s₂, o, st2, r⟩ := H T locs cells slots X N eT hk hn
  exact ⟨s₂, o, Jvm.Free.XS.lstore X.here hx rfl d rfl hl st2, r⟩
theorem g_aloadN {kx nx : Nat} (cx : Cx Z p s m meth c R kx nx own nm code maxL ret) {i : Fin 4} {v : Value} (d : Dc code pc (.aload_n i) 1 pc') (hl : Ls[i.val]? = some (.val v)) (hv : v.isRef = true) (H : G p l e R s m args below meth c Z.heap.size Q h k n pc' Ls (v :: st)) : G p l e R s m args below meth c Z.heap.size Q h k n pc Ls st := by
  obtain ⟨hx, hZ, hown, rfl, hml, hret, hnm, -⟩ := cx
  obtain ⟨d, rfl⟩ := d
  intro T locs cells slots X N eT hk hn
  obtain ⟨s₂, o, st2, r⟩ := H T locs cells slots X N eT hk hn
  exact ⟨s₂, o, Jvm.Free.XS.aloadN X.here hx rfl d hl hv st2, r⟩
theorem g_aload {kx nx : Nat} (cx : Cx Z p s m meth c R kx nx own nm code maxL ret) {i : Nat} {v : Value} (d : Dc code pc (.aload i) 2 pc') (hl : Ls[i]? = some (.val v)) (hv : v.isRef = true) (H : G p l e R s m args below meth c Z.heap.size Q h k n pc' Ls (v :: st)) : G p l e R s m args below meth c Z.heap.size Q h k n pc Ls st := by
  obtain ⟨hx, hZ, hown, rfl, hml, hret, hnm, -⟩ := cx
  obtain ⟨d, rfl⟩ := d
  intro T locs cells slots X N eT hk hn
  obtain ⟨s₂, o, st2, r⟩ := H T locs cells slots X N eT hk hn
  exact ⟨s₂, o, Jvm.Free.XS.aload X.here hx rfl d hl hv st2, r⟩
theorem g_astoreN {kx nx : Nat} (cx : Cx Z p s m meth c R kx nx own nm code maxL ret) {i : Fin 4} {v : Value} {Ls' : Array Slot} (d : Dc code pc (.astore_n i) 1 pc') (hv : v.isRef = true) (hl : storeLocals Ls i.val v = some Ls') (H : G p l e R s m args below meth c Z.heap.size Q h k n pc' Ls' st) : G p l e R s m args below meth c Z.heap.size Q h k n pc Ls (v :: st) := by
  obtain ⟨hx, hZ, hown, rfl, hml, hret, hnm, -⟩ := cx
  obtain ⟨d, rfl⟩ := d
  intro T locs cells slots X N eT hk hn
  obtain ⟨s₂, o, st2, r⟩ := H T locs cells slots X N eT hk hn
  exact ⟨s₂, o, Jvm.Free.XS.astoreN X.here hx rfl d rfl hv hl st2, r⟩
theorem g_astore {kx nx : Nat} (cx : Cx Z p s m meth c R kx nx own nm code maxL ret) {i : Nat} {v : Value} {Ls' : Array Slot} (d : Dc code pc (.astore i) 2 pc') (hv : v.isRef = true) (hl : storeLocals Ls i v = some Ls') (H : G p l e R s m args below meth c Z.heap.size Q h k n pc' Ls' st) : G p l e R s m args below meth c Z.heap.size Q h k n pc Ls (v :: st) := by
  obtain ⟨hx, hZ, hown, rfl, hml, hret, hnm, -⟩ := cx
  obtain ⟨d, rfl⟩ := d
  intro T locs cells slots X N eT hk hn
  obtain ⟨s₂, o, st2, r⟩ := H T locs cells slots X N eT hk hn
  exact ⟨s₂, o, Jvm.Free.XS.astore X.here hx rfl d rfl hv hl st2, r⟩
theorem g_iconst {kx nx : Nat} (cx : Cx Z p s m meth c R kx nx own nm code maxL ret) {i : Int} {v : Int32} (d : Dc code pc (.iconst i) 1 pc') (hv : Int32.ofInt i = v) (H : G p l e R s m args below meth c Z.heap.size Q h k n pc' Ls (.int v :: st)) : G p l e R s m args below meth c Z.heap.size Q h k n pc Ls st := by
  obtain ⟨hx, hZ, hown, rfl, hml, hret, hnm, -⟩ := cx
  obtain ⟨d, rfl⟩ := d
  intro T locs cells slots X N eT hk hn
  obtain ⟨s₂, o, st2, r⟩ := H T locs cells slots X N eT hk hn
  exact ⟨s₂, o, Jvm.Free.XS.iconst X.here hx rfl d (by rw [hv]; exact st2), r⟩
theorem g_bipush {kx nx : Nat} (cx : Cx Z p s m meth c R kx nx own nm code maxL ret) {i : Int} {v : Int32} (d : Dc code pc (.bipush i) 2 pc') (hv : (Int8.ofInt i).toInt32 = v) (H : G p l e R s m args below meth c Z.heap.size Q h k n pc' Ls (.int v :: st)) : G p l e R s m args below meth c Z.heap.size Q h k n pc Ls st := by
  obtain ⟨hx, hZ, hown, rfl, hml, hret, hnm, -⟩ := cx
  obtain ⟨d, rfl⟩ := d
  intro T locs cells slots X N eT hk hn
  obtain ⟨s₂, o, st2, r⟩ := H T locs cells slots X N eT hk hn
  exact ⟨s₂, o, Jvm.Free.XS.bipush X.here hx rfl d (by rw [hv]; exact st2), r⟩
theorem g_sipush {kx nx : Nat} (cx : Cx Z p s m meth c R kx nx own nm code maxL ret) {i : Int} {v : Int32} (d : Dc code pc (.sipush i) 3 pc') (hv : (Int16.ofInt i).toInt32 = v) (H : G p l e R s m args below meth c Z.heap.size Q h k n pc' Ls (.int v :: st)) : G p l e R s m args below meth c Z.heap.size Q h k n pc Ls st := by
  obtain ⟨hx, hZ, hown, rfl, hml, hret, hnm, -⟩ := cx
  obtain ⟨d, rfl⟩ := d
  intro T locs cells slots X N eT hk hn
  obtain ⟨s₂, o, st2, r⟩ := H T locs cells slots X N eT hk hn
  exact ⟨s₂, o, Jvm.Free.XS.sipush X.here hx rfl d (by rw [hv]; exact st2), r⟩
theorem g_lconst {kx nx : Nat} (cx : Cx Z p s m meth c R kx nx own nm code maxL ret) {i : Fin 2} {v : Int64} (d : Dc code pc (.lconst i) 1 pc') (hv : Int64.ofNat i = v) (H : G p l e R s m args below meth c Z.heap.size Q h k n pc' Ls (.long v :: st)) : G p l e R s m args below meth c Z.heap.size Q h k n pc Ls st := by
  obtain ⟨hx, hZ, hown, rfl, hml, hret, hnm, -⟩ := cx
  obtain ⟨d, rfl⟩ := d
  intro T locs cells slots X N eT hk hn
  obtain ⟨s₂, o, st2, r⟩ := H T locs cells slots X N eT hk hn
  exact ⟨s₂, o, Jvm.Free.XS.lconst X.here hx rfl d (by rw [hv]; exact st2), r⟩
theorem g_aconst_null {kx nx : Nat} (cx : Cx Z p s m meth c R kx nx own nm code maxL ret)  (d : Dc code pc .aconst_null 1 pc') (H : G p l e R s m args below meth c Z.heap.size Q h k n pc' Ls (.null :: st)) : G p l e R s m args below meth c Z.heap.size Q h k n pc Ls st := by
  obtain ⟨hx, hZ, hown, rfl, hml, hret, hnm, -⟩ := cx
  obtain ⟨d, rfl⟩ := d
  intro T locs cells slots X N eT hk hn
  obtain ⟨s₂, o, st2, r⟩ := H T locs cells slots X N eT hk hn
  exact ⟨s₂, o, Jvm.Free.XS.aconstNull X.here hx rfl d  st2, r⟩
theorem g_iadd {kx nx : Nat} (cx : Cx Z p s m meth c R kx nx own nm code maxL ret) {x y : Int32} (d : Dc code pc .iadd 1 pc') (H : G p l e R s m args below meth c Z.heap.size Q h k n pc' Ls (.int (x + y) :: st)) : G p l e R s m args below meth c Z.heap.size Q h k n pc Ls (.int y :: .int x :: st) := by
  obtain ⟨hx, hZ, hown, rfl, hml, hret, hnm, -⟩ := cx
  obtain ⟨d, rfl⟩ := d
  intro T locs cells slots X N eT hk hn
  obtain ⟨s₂, o, st2, r⟩ := H T locs cells slots X N eT hk hn
  exact ⟨s₂, o, Jvm.Free.XS.iadd X.here hx rfl d rfl st2, r⟩
theorem g_ladd {kx nx : Nat} (cx : Cx Z p s m meth c R kx nx own nm code maxL ret) {x y : Int64} (d : Dc code pc .ladd 1 pc') (H : G p l e R s m args below meth c Z.heap.size Q h k n pc' Ls (.long (x + y) :: st)) : G p l e R s m args below meth c Z.heap.size Q h k n pc Ls (.long y :: .long x :: st) := by
  obtain ⟨hx, hZ, hown, rfl, hml, hret, hnm, -⟩ := cx
  obtain ⟨d, rfl⟩ := d
  intro T locs cells slots X N eT hk hn
  obtain ⟨s₂, o, st2, r⟩ := H T locs cells slots X N eT hk hn
  exact ⟨s₂, o, Jvm.Free.XS.ladd X.here hx rfl d rfl st2, r⟩
theorem g_isub {kx nx : Nat} (cx : Cx Z p s m meth c R kx nx own nm code maxL ret) {x y : Int32} (d : Dc code pc .isub 1 pc') (H : G p l e R s m args below meth c Z.heap.size Q h k n pc' Ls (.int (x - y) :: st)) : G p l e R s m args below meth c Z.heap.size Q h k n pc Ls (.int y :: .int x :: st) := by
  obtain ⟨hx, hZ, hown, rfl, hml, hret, hnm, -⟩ := cx
  obtain ⟨d, rfl⟩ := d
  intro T locs cells slots X N eT hk hn
  obtain ⟨s₂, o, st2, r⟩ := H T locs cells slots X N eT hk hn
  exact ⟨s₂, o, Jvm.Free.XS.isub X.here hx rfl d rfl st2, r⟩
theorem g_lsub {kx nx : Nat} (cx : Cx Z p s m meth c R kx nx own nm code maxL ret) {x y : Int64} (d : Dc code pc .lsub 1 pc') (H : G p l e R s m args below meth c Z.heap.size Q h k n pc' Ls (.long (x - y) :: st)) : G p l e R s m args below meth c Z.heap.size Q h k n pc Ls (.long y :: .long x :: st) := by
  obtain ⟨hx, hZ, hown, rfl, hml, hret, hnm, -⟩ := cx
  obtain ⟨d, rfl⟩ := d
  intro T locs cells slots X N eT hk hn
  obtain ⟨s₂, o, st2, r⟩ := H T locs cells slots X N eT hk hn
  exact ⟨s₂, o, Jvm.Free.XS.lsub X.here hx rfl d rfl st2, r⟩
theorem g_imul {kx nx : Nat} (cx : Cx Z p s m meth c R kx nx own nm code maxL ret) {x y : Int32} (d : Dc code pc .imul 1 pc') (H : G p l e R s m args below meth c Z.heap.size Q h k n pc' Ls (.int (x * y) :: st)) : G p l e R s m args below meth c Z.heap.size Q h k n pc Ls (.int y :: .int x :: st) := by
  obtain ⟨hx, hZ, hown, rfl, hml, hret, hnm, -⟩ := cx
  obtain ⟨d, rfl⟩ := d
  intro T locs cells slots X N eT hk hn
  obtain ⟨s₂, o, st2, r⟩ := H T locs cells slots X N eT hk hn
  exact ⟨s₂, o, Jvm.Free.XS.imul X.here hx rfl d rfl st2, r⟩
theorem g_lmul {kx nx : Nat} (cx : Cx Z p s m meth c R kx nx own nm code maxL ret) {x y : Int64} (d : Dc code pc .lmul 1 pc') (H : G p l e R s m args below meth c Z.heap.size Q h k n pc' Ls (.long (x * y) :: st)) : G p l e R s m args below meth c Z.heap.size Q h k n pc Ls (.long y :: .long x :: st) := by
  obtain ⟨hx, hZ, hown, rfl, hml, hret, hnm, -⟩ := cx
  obtain ⟨d, rfl⟩ := d
  intro T locs cells slots X N eT hk hn
  obtain ⟨s₂, o, st2, r⟩ := H T locs cells slots X N eT hk hn
  exact ⟨s₂, o, Jvm.Free.XS.lmul X.here hx rfl d rfl st2, r⟩
theorem g_iand {kx nx : Nat} (cx : Cx Z p s m meth c R kx nx own nm code maxL ret) {x y : Int32} (d : Dc code pc .iand 1 pc') (H : G p l e R s m args below meth c Z.heap.size Q h k n pc' Ls (.int (x &&& y) :: st)) : G p l e R s m args below meth c Z.heap.size Q h k n pc Ls (.int y :: .int x :: st) := by
  obtain ⟨hx, hZ, hown, rfl, hml, hret, hnm, -⟩ := cx
  obtain ⟨d, rfl⟩ := d
  intro T locs cells slots X N eT hk hn
  obtain ⟨s₂, o, st2, r⟩ := H T locs cells slots X N eT hk hn
  exact ⟨s₂, o, Jvm.Free.XS.iand X.here hx rfl d rfl st2, r⟩
theorem g_land {kx nx : Nat} (cx : Cx Z p s m meth c R kx nx own nm code maxL ret) {x y : Int64} (d : Dc code pc .land 1 pc') (H : G p l e R s m args below meth c Z.heap.size Q h k n pc' Ls (.long (x &&& y) :: st)) : G p l e R s m args below meth c Z.heap.size Q h k n pc Ls (.long y :: .long x :: st) := by
  obtain ⟨hx, hZ, hown, rfl, hml, hret, hnm, -⟩ := cx
  obtain ⟨d, rfl⟩ := d
  intro T locs cells slots X N eT hk hn
  obtain ⟨s₂, o, st2, r⟩ := H T locs cells slots X N eT hk hn
  exact ⟨s₂, o, Jvm.Free.XS.land X.here hx rfl d rfl st2, r⟩
theorem g_ior {kx nx : Nat} (cx : Cx Z p s m meth c R kx nx own nm code maxL ret) {x y : Int32} (d : Dc code pc .ior 1 pc') (H : G p l e R s m args below meth c Z.heap.size Q h k n pc' Ls (.int (x ||| y) :: st)) : G p l e R s m args below meth c Z.heap.size Q h k n pc Ls (.int y :: .int x :: st) := by
  obtain ⟨hx, hZ, hown, rfl, hml, hret, hnm, -⟩ := cx
  obtain ⟨d, rfl⟩ := d
  intro T locs cells slots X N eT hk hn
  obtain ⟨s₂, o, st2, r⟩ := H T locs cells slots X N eT hk hn
  exact ⟨s₂, o, Jvm.Free.XS.ior X.here hx rfl d rfl st2, r⟩
theorem g_lor {kx nx : Nat} (cx : Cx Z p s m meth c R kx nx own nm code maxL ret) {x y : Int64} (d : Dc code pc .lor 1 pc') (H : G p l e R s m args below meth c Z.heap.size Q h k n pc' Ls (.long (x ||| y) :: st)) : G p l e R s m args below meth c Z.heap.size Q h k n pc Ls (.long y :: .long x :: st) := by
  obtain ⟨hx, hZ, hown, rfl, hml, hret, hnm, -⟩ := cx
  obtain ⟨d, rfl⟩ := d
  intro T locs cells slots X N eT hk hn
  obtain ⟨s₂, o, st2, r⟩ := H T locs cells slots X N eT hk hn
  exact ⟨s₂, o, Jvm.Free.XS.lor X.here hx rfl d rfl st2, r⟩
theorem g_ixor {kx nx : Nat} (cx : Cx Z p s m meth c R kx nx own nm code maxL ret) {x y : Int32} (d : Dc code pc .ixor 1 pc') (H : G p l e R s m args below meth c Z.heap.size Q h k n pc' Ls (.int (x ^^^ y) :: st)) : G p l e R s m args below meth c Z.heap.size Q h k n pc Ls (.int y :: .int x :: st) := by
  obtain ⟨hx, hZ, hown, rfl, hml, hret, hnm, -⟩ := cx
  obtain ⟨d, rfl⟩ := d
  intro T locs cells slots X N eT hk hn
  obtain ⟨s₂, o, st2, r⟩ := H T locs cells slots X N eT hk hn
  exact ⟨s₂, o, Jvm.Free.XS.ixor X.here hx rfl d rfl st2, r⟩
theorem g_lxor {kx nx : Nat} (cx : Cx Z p s m meth c R kx nx own nm code maxL ret) {x y : Int64} (d : Dc code pc .lxor 1 pc') (H : G p l e R s m args below meth c Z.heap.size Q h k n pc' Ls (.long (x ^^^ y) :: st)) : G p l e R s m args below meth c Z.heap.size Q h k n pc Ls (.long y :: .long x :: st) := by
  obtain ⟨hx, hZ, hown, rfl, hml, hret, hnm, -⟩ := cx
  obtain ⟨d, rfl⟩ := d
  intro T locs cells slots X N eT hk hn
  obtain ⟨s₂, o, st2, r⟩ := H T locs cells slots X N eT hk hn
  exact ⟨s₂, o, Jvm.Free.XS.lxor X.here hx rfl d rfl st2, r⟩
theorem g_ishl {kx nx : Nat} (cx : Cx Z p s m meth c R kx nx own nm code maxL ret) {x : Int32} {y : Int32} (d : Dc code pc .ishl 1 pc') (H : G p l e R s m args below meth c Z.heap.size Q h k n pc' Ls (.int (x <<< (y &&& 31)) :: st)) : G p l e R s m args below meth c Z.heap.size Q h k n pc Ls (.int y :: .int x :: st) := by
  obtain ⟨hx, hZ, hown, rfl, hml, hret, hnm, -⟩ := cx
  obtain ⟨d, rfl⟩ := d
  intro T locs cells slots X N eT hk hn
  obtain ⟨s₂, o, st2, r⟩ := H T locs cells slots X N eT hk hn
  exact ⟨s₂, o, Jvm.Free.XS.ishl X.here hx rfl d rfl st2, r⟩
theorem g_ishr {kx nx : Nat} (cx : Cx Z p s m meth c R kx nx own nm code maxL ret) {x : Int32} {y : Int32} (d : Dc code pc .ishr 1 pc') (H : G p l e R s m args below meth c Z.heap.size Q h k n pc' Ls (.int (x >>> (y &&& 31)) :: st)) : G p l e R s m args below meth c Z.heap.size Q h k n pc Ls (.int y :: .int x :: st) := by
  obtain ⟨hx, hZ, hown, rfl, hml, hret, hnm, -⟩ := cx
  obtain ⟨d, rfl⟩ := d
  intro T locs cells slots X N eT hk hn
  obtain ⟨s₂, o, st2, r⟩ := H T locs cells slots X N eT hk hn
  exact ⟨s₂, o, Jvm.Free.XS.ishr X.here hx rfl d rfl st2, r⟩
theorem g_iushr {kx nx : Nat} (cx : Cx Z p s m meth c R kx nx own nm code maxL ret) {x : Int32} {y : Int32} (d : Dc code pc .iushr 1 pc') (H : G p l e R s m args below meth c Z.heap.size Q h k n pc' Ls (.int ((x.toUInt32 >>> (y &&& 31).toUInt32).toInt32) :: st)) : G p l e R s m args below meth c Z.heap.size Q h k n pc Ls (.int y :: .int x :: st) := by
  obtain ⟨hx, hZ, hown, rfl, hml, hret, hnm, -⟩ := cx
  obtain ⟨d, rfl⟩ := d
  intro T locs cells slots X N eT hk hn
  obtain ⟨s₂, o, st2, r⟩ := H T locs cells slots X N eT hk hn
  exact ⟨s₂, o, Jvm.Free.XS.iushr X.here hx rfl d rfl st2, r⟩
theorem g_lshl {kx nx : Nat} (cx : Cx Z p s m meth c R kx nx own nm code maxL ret) {x : Int64} {y : Int32} (d : Dc code pc .lshl 1 pc') (H : G p l e R s m args below meth c Z.heap.size Q h k n pc' Ls (.long (x <<< (y &&& 0x3f).toInt64) :: st)) : G p l e R s m args below meth c Z.heap.size Q h k n pc Ls (.int y :: .long x :: st) := by
  obtain ⟨hx, hZ, hown, rfl, hml, hret, hnm, -⟩ := cx
  obtain ⟨d, rfl⟩ := d
  intro T locs cells slots X N eT hk hn
  obtain ⟨s₂, o, st2, r⟩ := H T locs cells slots X N eT hk hn
  exact ⟨s₂, o, Jvm.Free.XS.lshl X.here hx rfl d rfl st2, r⟩
theorem g_lshr {kx nx : Nat} (cx : Cx Z p s m meth c R kx nx own nm code maxL ret) {x : Int64} {y : Int32} (d : Dc code pc .lshr 1 pc') (H : G p l e R s m args below meth c Z.heap.size Q h k n pc' Ls (.long (x >>> (y &&& 0x3f).toInt64) :: st)) : G p l e R s m args below meth c Z.heap.size Q h k n pc Ls (.int y :: .long x :: st) := by
  obtain ⟨hx, hZ, hown, rfl, hml, hret, hnm, -⟩ := cx
  obtain ⟨d, rfl⟩ := d
  intro T locs cells slots X N eT hk hn
  obtain ⟨s₂, o, st2, r⟩ := H T locs cells slots X N eT hk hn
  exact ⟨s₂, o, Jvm.Free.XS.lshr X.here hx rfl d rfl st2, r⟩
theorem g_lushr {kx nx : Nat} (cx : Cx Z p s m meth c R kx nx own nm code maxL ret) {x : Int64} {y : Int32} (d : Dc code pc .lushr 1 pc') (H : G p l e R s m args below meth c Z.heap.size Q h k n pc' Ls (.long ((x.toUInt64 >>> (y &&& 0x3f).toInt64.toUInt64).toInt64) :: st)) : G p l e R s m args below meth c Z.heap.size Q h k n pc Ls (.int y :: .long x :: st) := by
  obtain ⟨hx, hZ, hown, rfl, hml, hret, hnm, -⟩ := cx
  obtain ⟨d, rfl⟩ := d
  intro T locs cells slots X N eT hk hn
  obtain ⟨s₂, o, st2, r⟩ := H T locs cells slots X N eT hk hn
  exact ⟨s₂, o, Jvm.Free.XS.lushr X.here hx rfl d rfl st2, r⟩
theorem g_ineg {kx nx : Nat} (cx : Cx Z p s m meth c R kx nx own nm code maxL ret) {x : Int32} (d : Dc code pc .ineg 1 pc') (H : G p l e R s m args below meth c Z.heap.size Q h k n pc' Ls (.int (-x) :: st)) : G p l e R s m args below meth c Z.heap.size Q h k n pc Ls (.int x :: st) := by
  obtain ⟨hx, hZ, hown, rfl, hml, hret, hnm, -⟩ := cx
  obtain ⟨d, rfl⟩ := d
  intro T locs cells slots X N eT hk hn
  obtain ⟨s₂, o, st2, r⟩ := H T locs cells slots X N eT hk hn
  exact ⟨s₂, o, Jvm.Free.XS.ineg X.here hx rfl d rfl st2, r⟩
theorem g_lneg {kx nx : Nat} (cx : Cx Z p s m meth c R kx nx own nm code maxL ret) {x : Int64} (d : Dc code pc .lneg 1 pc') (H : G p l e R s m args below meth c Z.heap.size Q h k n pc' Ls (.long (-x) :: st)) : G p l e R s m args below meth c Z.heap.size Q h k n pc Ls (.long x :: st) := by
  obtain ⟨hx, hZ, hown, rfl, hml, hret, hnm, -⟩ := cx
  obtain ⟨d, rfl⟩ := d
  intro T locs cells slots X N eT hk hn
  obtain ⟨s₂, o, st2, r⟩ := H T locs cells slots X N eT hk hn
  exact ⟨s₂, o, Jvm.Free.XS.lneg X.here hx rfl d rfl st2, r⟩
theorem g_i2l {kx nx : Nat} (cx : Cx Z p s m meth c R kx nx own nm code maxL ret) {x : Int32} (d : Dc code pc .i2l 1 pc') (H : G p l e R s m args below meth c Z.heap.size Q h k n pc' Ls (.long (x.toInt64) :: st)) : G p l e R s m args below meth c Z.heap.size Q h k n pc Ls (.int x :: st) := by
  obtain ⟨hx, hZ, hown, rfl, hml, hret, hnm, -⟩ := cx
  obtain ⟨d, rfl⟩ := d
  intro T locs cells slots X N eT hk hn
  obtain ⟨s₂, o, st2, r⟩ := H T locs cells slots X N eT hk hn
  exact ⟨s₂, o, Jvm.Free.XS.i2l X.here hx rfl d rfl st2, r⟩
theorem g_l2i {kx nx : Nat} (cx : Cx Z p s m meth c R kx nx own nm code maxL ret) {x : Int64} (d : Dc code pc .l2i 1 pc') (H : G p l e R s m args below meth c Z.heap.size Q h k n pc' Ls (.int (x.toInt32) :: st)) : G p l e R s m args below meth c Z.heap.size Q h k n pc Ls (.long x :: st) := by
  obtain ⟨hx, hZ, hown, rfl, hml, hret, hnm, -⟩ := cx
  obtain ⟨d, rfl⟩ := d
  intro T locs cells slots X N eT hk hn
  obtain ⟨s₂, o, st2, r⟩ := H T locs cells slots X N eT hk hn
  exact ⟨s₂, o, Jvm.Free.XS.l2i X.here hx rfl d rfl st2, r⟩
theorem g_i2b {kx nx : Nat} (cx : Cx Z p s m meth c R kx nx own nm code maxL ret) {x : Int32} (d : Dc code pc .i2b 1 pc') (H : G p l e R s m args below meth c Z.heap.size Q h k n pc' Ls (.int (x.toInt8.toInt32) :: st)) : G p l e R s m args below meth c Z.heap.size Q h k n pc Ls (.int x :: st) := by
  obtain ⟨hx, hZ, hown, rfl, hml, hret, hnm, -⟩ := cx
  obtain ⟨d, rfl⟩ := d
  intro T locs cells slots X N eT hk hn
  obtain ⟨s₂, o, st2, r⟩ := H T locs cells slots X N eT hk hn
  exact ⟨s₂, o, Jvm.Free.XS.i2b X.here hx rfl d rfl st2, r⟩
theorem g_i2s {kx nx : Nat} (cx : Cx Z p s m meth c R kx nx own nm code maxL ret) {x : Int32} (d : Dc code pc .i2s 1 pc') (H : G p l e R s m args below meth c Z.heap.size Q h k n pc' Ls (.int (x.toInt16.toInt32) :: st)) : G p l e R s m args below meth c Z.heap.size Q h k n pc Ls (.int x :: st) := by
  obtain ⟨hx, hZ, hown, rfl, hml, hret, hnm, -⟩ := cx
  obtain ⟨d, rfl⟩ := d
  intro T locs cells slots X N eT hk hn
  obtain ⟨s₂, o, st2, r⟩ := H T locs cells slots X N eT hk hn
  exact ⟨s₂, o, Jvm.Free.XS.i2s X.here hx rfl d rfl st2, r⟩
theorem g_i2c {kx nx : Nat} (cx : Cx Z p s m meth c R kx nx own nm code maxL ret) {x : Int32} (d : Dc code pc .i2c 1 pc') (H : G p l e R s m args below meth c Z.heap.size Q h k n pc' Ls (.int (x.toUInt32.toUInt16.toUInt32.toInt32) :: st)) : G p l e R s m args below meth c Z.heap.size Q h k n pc Ls (.int x :: st) := by
  obtain ⟨hx, hZ, hown, rfl, hml, hret, hnm, -⟩ := cx
  obtain ⟨d, rfl⟩ := d
  intro T locs cells slots X N eT hk hn
  obtain ⟨s₂, o, st2, r⟩ := H T locs cells slots X N eT hk hn
  exact ⟨s₂, o, Jvm.Free.XS.i2c X.here hx rfl d rfl st2, r⟩
theorem g_idiv {kx nx : Nat} (cx : Cx Z p s m meth c R kx nx own nm code maxL ret) {x y : Int32} (d : Dc code pc .idiv 1 pc') (hy : y ≠ 0) (H : G p l e R s m args below meth c Z.heap.size Q h k n pc' Ls (.int (x / y) :: st)) : G p l e R s m args below meth c Z.heap.size Q h k n pc Ls (.int y :: .int x :: st) := by
  obtain ⟨hx, hZ, hown, rfl, hml, hret, hnm, -⟩ := cx
  obtain ⟨d, rfl⟩ := d
  intro T locs cells slots X N eT hk hn
  obtain ⟨s₂, o, st2, r⟩ := H T locs cells slots X N eT hk hn
  exact ⟨s₂, o, Jvm.Free.XS.idiv X.here hx rfl d rfl hy st2, r⟩
theorem g_ldiv {kx nx : Nat} (cx : Cx Z p s m meth c R kx nx own nm code maxL ret) {x y : Int64} (d : Dc code pc .ldiv 1 pc') (hy : y ≠ 0) (H : G p l e R s m args below meth c Z.heap.size Q h k n pc' Ls (.long (x / y) :: st)) : G p l e R s m args below meth c Z.heap.size Q h k n pc Ls (.long y :: .long x :: st) := by
  obtain ⟨hx, hZ, hown, rfl, hml, hret, hnm, -⟩ := cx
  obtain ⟨d, rfl⟩ := d
  intro T locs cells slots X N eT hk hn
  obtain ⟨s₂, o, st2, r⟩ := H T locs cells slots X N eT hk hn
  exact ⟨s₂, o, Jvm.Free.XS.ldiv X.here hx rfl d rfl hy st2, r⟩
theorem g_irem {kx nx : Nat} (cx : Cx Z p s m meth c R kx nx own nm code maxL ret) {x y : Int32} (d : Dc code pc .irem 1 pc') (hy : y ≠ 0) (H : G p l e R s m args below meth c Z.heap.size Q h k n pc' Ls (.int (x % y) :: st)) : G p l e R s m args below meth c Z.heap.size Q h k n pc Ls (.int y :: .int x :: st) := by
  obtain ⟨hx, hZ, hown, rfl, hml, hret, hnm, -⟩ := cx
  obtain ⟨d, rfl⟩ := d
  intro T locs cells slots X N eT hk hn
  obtain ⟨s₂, o, st2, r⟩ := H T locs cells slots X N eT hk hn
  exact ⟨s₂, o, Jvm.Free.XS.irem X.here hx rfl d rfl hy (by rw [irem_eq_mod]; exact st2), r⟩
theorem g_lrem {kx nx : Nat} (cx : Cx Z p s m meth c R kx nx own nm code maxL ret) {x y : Int64} (d : Dc code pc .lrem 1 pc') (hy : y ≠ 0) (H : G p l e R s m args below meth c Z.heap.size Q h k n pc' Ls (.long (x % y) :: st)) : G p l e R s m args below meth c Z.heap.size Q h k n pc Ls (.long y :: .long x :: st) := by
  obtain ⟨hx, hZ, hown, rfl, hml, hret, hnm, -⟩ := cx
  obtain ⟨d, rfl⟩ := d
  intro T locs cells slots X N eT hk hn
  obtain ⟨s₂, o, st2, r⟩ := H T locs cells slots X N eT hk hn
  exact ⟨s₂, o, Jvm.Free.XS.lrem X.here hx rfl d rfl hy (by rw [lrem_mod]; exact st2), r⟩
theorem g_iinc {kx nx : Nat} (cx : Cx Z p s m meth c R kx nx own nm code maxL ret) {i : Nat} {z : Int} {x v : Int32} {Ls' : Array Slot} (d : Dc code pc (.iinc i z) 3 pc') (hl : Ls[i]? = some (.val (.int x))) (hv : Int32.ofInt z = v) (hl' : storeLocals Ls i (.int (x + v)) = some Ls') (H : G p l e R s m args below meth c Z.heap.size Q h k n pc' Ls' st) : G p l e R s m args below meth c Z.heap.size Q h k n pc Ls st := by
  obtain ⟨hx, hZ, hown, rfl, hml, hret, hnm, -⟩ := cx
  obtain ⟨d, rfl⟩ := d
  intro T locs cells slots X N eT hk hn
  obtain ⟨s₂, o, st2, r⟩ := H T locs cells slots X N eT hk hn
  exact ⟨s₂, o, Jvm.Free.XS.iinc X.here hx rfl d hl (by rw [hv]; exact hl') st2, r⟩
theorem g_dup {kx nx : Nat} (cx : Cx Z p s m meth c R kx nx own nm code maxL ret) {v : Value} (d : Dc code pc .dup 1 pc') (hc : v.category = 1) (H : G p l e R s m args below meth c Z.heap.size Q h k n pc' Ls (v :: v :: st)) : G p l e R s m args below meth c Z.heap.size Q h k n pc Ls (v :: st) := by
  obtain ⟨hx, hZ, hown, rfl, hml, hret, hnm, -⟩ := cx
  obtain ⟨d, rfl⟩ := d
  intro T locs cells slots X N eT hk hn
  obtain ⟨s₂, o, st2, r⟩ := H T locs cells slots X N eT hk hn
  exact ⟨s₂, o, Jvm.Free.XS.dup X.here hx rfl d rfl hc st2, r⟩
theorem g_pop {kx nx : Nat} (cx : Cx Z p s m meth c R kx nx own nm code maxL ret) {v : Value} (d : Dc code pc .pop 1 pc') (hc : v.category = 1) (H : G p l e R s m args below meth c Z.heap.size Q h k n pc' Ls st) : G p l e R s m args below meth c Z.heap.size Q h k n pc Ls (v :: st) := by
  obtain ⟨hx, hZ, hown, rfl, hml, hret, hnm, -⟩ := cx
  obtain ⟨d, rfl⟩ := d
  intro T locs cells slots X N eT hk hn
  obtain ⟨s₂, o, st2, r⟩ := H T locs cells slots X N eT hk hn
  exact ⟨s₂, o, Jvm.Free.XS.pop X.here hx rfl d rfl hc st2, r⟩
theorem g_dup_x1 {kx nx : Nat} (cx : Cx Z p s m meth c R kx nx own nm code maxL ret) {v w : Value} (d : Dc code pc .dup_x1 1 pc') (hc : v.category = 1) (hc2 : w.category = 1) (H : G p l e R s m args below meth c Z.heap.size Q h k n pc' Ls (v :: w :: v :: st)) : G p l e R s m args below meth c Z.heap.size Q h k n pc Ls (v :: w :: st) := by
  obtain ⟨hx, hZ, hown, rfl, hml, hret, hnm, -⟩ := cx
  obtain ⟨d, rfl⟩ := d
  intro T locs cells slots X N eT hk hn
  obtain ⟨s₂, o, st2, r⟩ := H T locs cells slots X N eT hk hn
  exact ⟨s₂, o, Jvm.Free.XS.dupX1 X.here hx rfl d rfl hc hc2 st2, r⟩
theorem g_dup2 {kx nx : Nat} (cx : Cx Z p s m meth c R kx nx own nm code maxL ret) {v w : Value} (d : Dc code pc .dup2 1 pc') (hc : v.category = 1) (hc2 : w.category = 1) (H : G p l e R s m args below meth c Z.heap.size Q h k n pc' Ls (v :: w :: v :: w :: st)) : G p l e R s m args below meth c Z.heap.size Q h k n pc Ls (v :: w :: st) := by
  obtain ⟨hx, hZ, hown, rfl, hml, hret, hnm, -⟩ := cx
  obtain ⟨d, rfl⟩ := d
  intro T locs cells slots X N eT hk hn
  obtain ⟨s₂, o, st2, r⟩ := H T locs cells slots X N eT hk hn
  exact ⟨s₂, o, Jvm.Free.XT.dup2 X.here hx rfl d rfl hc hc2 st2, r⟩
theorem g_dup2L {kx nx : Nat} (cx : Cx Z p s m meth c R kx nx own nm code maxL ret) {v : Int64} (d : Dc code pc .dup2 1 pc') (H : G p l e R s m args below meth c Z.heap.size Q h k n pc' Ls (.long v :: .long v :: st)) : G p l e R s m args below meth c Z.heap.size Q h k n pc Ls (.long v :: st) := by
  obtain ⟨hx, hZ, hown, rfl, hml, hret, hnm, -⟩ := cx
  obtain ⟨d, rfl⟩ := d
  intro T locs cells slots X N eT hk hn
  obtain ⟨s₂, o, st2, r⟩ := H T locs cells slots X N eT hk hn
  exact ⟨s₂, o, Jvm.Free.XT.dup2L X.here hx rfl d rfl st2, r⟩
theorem g_goto {kx nx : Nat} (cx : Cx Z p s m meth c R kx nx own nm code maxL ret) (d : Bi code pc Instr.goto pcY pcN) (H : G p l e R s m args below meth c Z.heap.size Q h k n pcY Ls st) : G p l e R s m args below meth c Z.heap.size Q h k n pc Ls st := by
  obtain ⟨hx, hZ, hown, rfl, hml, hret, hnm, -⟩ := cx
  obtain ⟨o', d, ho, rfl, rfl⟩ := d
  intro T locs cells slots X N eT hk hn
  obtain ⟨s₂, o, st2, r⟩ := H T locs cells slots X N eT hk hn
  exact ⟨s₂, o, Jvm.Free.XS.goto X.here hx rfl (pc0 := pc) rfl d ho rfl st2, r⟩
theorem g_ifB {kx nx : Nat} (cx : Cx Z p s m meth c R kx nx own nm code maxL ret) {cd : ClassFile.Cond} {x : Int32} (d : Bi code pc (Instr.ifCond cd) pcY pcN) (HY : if_icmp.holds cd x 0 = true → G p l e R s m args below meth c Z.heap.size Q h k n pcY Ls st) (HN : if_icmp.holds cd x 0 = false → G p l e R s m args below meth c Z.heap.size Q h k n pcN Ls st) : G p l e R s m args below meth c Z.heap.size Q h k n pc Ls (.int x :: st) := by
  obtain ⟨hx, hZ, hown, rfl, hml, hret, hnm, -⟩ := cx
  obtain ⟨o', d, ho, rfl, rfl⟩ := d
  intro T locs cells slots X N eT hk hn
  cases hc : if_icmp.holds cd x 0
  · obtain ⟨s₂, o, st2, r⟩ := HN hc T locs cells slots X N eT hk hn
    exact ⟨s₂, o, Jvm.Free.XS.ifNo X.here hx rfl d rfl ((if0 _ _).trans hc) st2, r⟩
  · obtain ⟨s₂, o, st2, r⟩ := HY hc T locs cells slots X N eT hk hn
    exact ⟨s₂, o, Jvm.Free.XS.ifYes X.here hx rfl (pc0 := pc) rfl d rfl ((if0 _ _).trans hc) ho rfl st2, r⟩
theorem g_icmpB {kx nx : Nat} (cx : Cx Z p s m meth c R kx nx own nm code maxL ret) {cd : ClassFile.Cond} {x y : Int32} (d : Bi code pc (Instr.if_icmp cd) pcY pcN) (HY : if_icmp.holds cd x y = true → G p l e R s m args below meth c Z.heap.size Q h k n pcY Ls st) (HN : if_icmp.holds cd x y = false → G p l e R s m args below meth c Z.heap.size Q h k n pcN Ls st) : G p l e R s m args below meth c Z.heap.size Q h k n pc Ls (.int y :: .int x :: st) := by
  obtain ⟨hx, hZ, hown, rfl, hml, hret, hnm, -⟩ := cx
  obtain ⟨o', d, ho, rfl, rfl⟩ := d
  intro T locs cells slots X N eT hk hn
  cases hc : if_icmp.holds cd x y
  · obtain ⟨s₂, o, st2, r⟩ := HN hc T locs cells slots X N eT hk hn
    exact ⟨s₂, o, Jvm.Free.XS.icmpNo X.here hx rfl d rfl hc st2, r⟩
  · obtain ⟨s₂, o, st2, r⟩ := HY hc T locs cells slots X N eT hk hn
    exact ⟨s₂, o, Jvm.Free.XS.icmpYes X.here hx rfl (pc0 := pc) rfl d rfl hc ho rfl st2, r⟩
theorem h_eq {x y : Int32} : if_icmp.holds .eq x y = decide (x = y) := by by_cases h : x = y <;> simp [if_icmp.holds, h]
theorem h_ne {x y : Int32} : if_icmp.holds .ne x y = !decide (x = y) := by by_cases h : x = y <;> simp [if_icmp.holds, h]
theorem h_lt {x y : Int32} : if_icmp.holds .lt x y = decide (x < y) := by by_cases h : x < y <;> simp [if_icmp.holds, h]
theorem h_ge {x y : Int32} : if_icmp.holds .ge x y = !decide (x < y) := by by_cases h : x < y <;> simp [if_icmp.holds, h, Int32.not_le.mpr, Int32.not_lt.mp]
theorem h_gt {x y : Int32} : if_icmp.holds .gt x y = decide (y < x) := by by_cases h : y < x <;> simp [if_icmp.holds, h]
theorem h_le {x y : Int32} : if_icmp.holds .le x y = !decide (y < x) := by by_cases h : y < x <;> simp [if_icmp.holds, h, Int32.not_le.mpr, Int32.not_lt.mp]
theorem g_if_eq {kx nx : Nat} (cx : Cx Z p s m meth c R kx nx own nm code maxL ret) {x : Int32} (d : Bi code pc (Instr.ifCond .eq) pcY pcN) (HY : x = 0 → G p l e R s m args below meth c Z.heap.size Q h k n pcY Ls st) (HN : ¬ x = 0 → G p l e R s m args below meth c Z.heap.size Q h k n pcN Ls st) : G p l e R s m args below meth c Z.heap.size Q h k n pc Ls (.int x :: st) :=
  g_ifB cx d (fun q => HY (by rw [h_eq] at q; simpa using q)) (fun q => HN (by rw [h_eq] at q; simpa using q))
theorem g_icmp_eq {kx nx : Nat} (cx : Cx Z p s m meth c R kx nx own nm code maxL ret) {x y : Int32} (d : Bi code pc (Instr.if_icmp .eq) pcY pcN) (HY : x = y → G p l e R s m args below meth c Z.heap.size Q h k n pcY Ls st) (HN : ¬ x = y → G p l e R s m args below meth c Z.heap.size Q h k n pcN Ls st) : G p l e R s m args below meth c Z.heap.size Q h k n pc Ls (.int y :: .int x :: st) :=
  g_icmpB cx d (fun q => HY (by rw [h_eq] at q; simpa using q)) (fun q => HN (by rw [h_eq] at q; simpa using q))
theorem g_if_ne {kx nx : Nat} (cx : Cx Z p s m meth c R kx nx own nm code maxL ret) {x : Int32} (d : Bi code pc (Instr.ifCond .ne) pcY pcN) (HY : ¬ x = 0 → G p l e R s m args below meth c Z.heap.size Q h k n pcY Ls st) (HN : x = 0 → G p l e R s m args below meth c Z.heap.size Q h k n pcN Ls st) : G p l e R s m args below meth c Z.heap.size Q h k n pc Ls (.int x :: st) :=
  g_ifB cx d (fun q => HY (by rw [h_ne] at q; simpa using q)) (fun q => HN (by rw [h_ne] at q; simpa using q))
theorem g_icmp_ne {kx nx : Nat} (cx : Cx Z p s m meth c R kx nx own nm code maxL ret) {x y : Int32} (d : Bi code pc (Instr.if_icmp .ne) pcY pcN) (HY : ¬ x = y → G p l e R s m args below meth c Z.heap.size Q h k n pcY Ls st) (HN : x = y → G p l e R s m args below meth c Z.heap.size Q h k n pcN Ls st) : G p l e R s m args below meth c Z.heap.size Q h k n pc Ls (.int y :: .int x :: st) :=
  g_icmpB cx d (fun q => HY (by rw [h_ne] at q; simpa using q)) (fun q => HN (by rw [h_ne] at q; simpa using q))
theorem g_if_lt {kx nx : Nat} (cx : Cx Z p s m meth c R kx nx own nm code maxL ret) {x : Int32} (d : Bi code pc (Instr.ifCond .lt) pcY pcN) (HY : x < 0 → G p l e R s m args below meth c Z.heap.size Q h k n pcY Ls st) (HN : ¬ x < 0 → G p l e R s m args below meth c Z.heap.size Q h k n pcN Ls st) : G p l e R s m args below meth c Z.heap.size Q h k n pc Ls (.int x :: st) :=
  g_ifB cx d (fun q => HY (by rw [h_lt] at q; simpa using q)) (fun q => HN (by rw [h_lt] at q; simpa using q))
theorem g_icmp_lt {kx nx : Nat} (cx : Cx Z p s m meth c R kx nx own nm code maxL ret) {x y : Int32} (d : Bi code pc (Instr.if_icmp .lt) pcY pcN) (HY : x < y → G p l e R s m args below meth c Z.heap.size Q h k n pcY Ls st) (HN : ¬ x < y → G p l e R s m args below meth c Z.heap.size Q h k n pcN Ls st) : G p l e R s m args below meth c Z.heap.size Q h k n pc Ls (.int y :: .int x :: st) :=
  g_icmpB cx d (fun q => HY (by rw [h_lt] at q; simpa using q)) (fun q => HN (by rw [h_lt] at q; simpa using q))
theorem g_if_ge {kx nx : Nat} (cx : Cx Z p s m meth c R kx nx own nm code maxL ret) {x : Int32} (d : Bi code pc (Instr.ifCond .ge) pcY pcN) (HY : ¬ x < 0 → G p l e R s m args below meth c Z.heap.size Q h k n pcY Ls st) (HN : x < 0 → G p l e R s m args below meth c Z.heap.size Q h k n pcN Ls st) : G p l e R s m args below meth c Z.heap.size Q h k n pc Ls (.int x :: st) :=
  g_ifB cx d (fun q => HY (by rw [h_ge] at q; simpa using q)) (fun q => HN (by rw [h_ge] at q; simpa using q))
theorem g_icmp_ge {kx nx : Nat} (cx : Cx Z p s m meth c R kx nx own nm code maxL ret) {x y : Int32} (d : Bi code pc (Instr.if_icmp .ge) pcY pcN) (HY : ¬ x < y → G p l e R s m args below meth c Z.heap.size Q h k n pcY Ls st) (HN : x < y → G p l e R s m args below meth c Z.heap.size Q h k n pcN Ls st) : G p l e R s m args below meth c Z.heap.size Q h k n pc Ls (.int y :: .int x :: st) :=
  g_icmpB cx d (fun q => HY (by rw [h_ge] at q; simpa using q)) (fun q => HN (by rw [h_ge] at q; simpa using q))
theorem g_if_gt {kx nx : Nat} (cx : Cx Z p s m meth c R kx nx own nm code maxL ret) {x : Int32} (d : Bi code pc (Instr.ifCond .gt) pcY pcN) (HY : 0 < x → G p l e R s m args below meth c Z.heap.size Q h k n pcY Ls st) (HN : ¬ 0 < x → G p l e R s m args below meth c Z.heap.size Q h k n pcN Ls st) : G p l e R s m args below meth c Z.heap.size Q h k n pc Ls (.int x :: st) :=
  g_ifB cx d (fun q => HY (by rw [h_gt] at q; simpa using q)) (fun q => HN (by rw [h_gt] at q; simpa using q))
theorem g_icmp_gt {kx nx : Nat} (cx : Cx Z p s m meth c R kx nx own nm code maxL ret) {x y : Int32} (d : Bi code pc (Instr.if_icmp .gt) pcY pcN) (HY : y < x → G p l e R s m args below meth c Z.heap.size Q h k n pcY Ls st) (HN : ¬ y < x → G p l e R s m args below meth c Z.heap.size Q h k n pcN Ls st) : G p l e R s m args below meth c Z.heap.size Q h k n pc Ls (.int y :: .int x :: st) :=
  g_icmpB cx d (fun q => HY (by rw [h_gt] at q; simpa using q)) (fun q => HN (by rw [h_gt] at q; simpa using q))
theorem g_if_le {kx nx : Nat} (cx : Cx Z p s m meth c R kx nx own nm code maxL ret) {x : Int32} (d : Bi code pc (Instr.ifCond .le) pcY pcN) (HY : ¬ 0 < x → G p l e R s m args below meth c Z.heap.size Q h k n pcY Ls st) (HN : 0 < x → G p l e R s m args below meth c Z.heap.size Q h k n pcN Ls st) : G p l e R s m args below meth c Z.heap.size Q h k n pc Ls (.int x :: st) :=
  g_ifB cx d (fun q => HY (by rw [h_le] at q; simpa using q)) (fun q => HN (by rw [h_le] at q; simpa using q))
theorem g_icmp_le {kx nx : Nat} (cx : Cx Z p s m meth c R kx nx own nm code maxL ret) {x y : Int32} (d : Bi code pc (Instr.if_icmp .le) pcY pcN) (HY : ¬ y < x → G p l e R s m args below meth c Z.heap.size Q h k n pcY Ls st) (HN : y < x → G p l e R s m args below meth c Z.heap.size Q h k n pcN Ls st) : G p l e R s m args below meth c Z.heap.size Q h k n pc Ls (.int y :: .int x :: st) :=
  g_icmpB cx d (fun q => HY (by rw [h_le] at q; simpa using q)) (fun q => HN (by rw [h_le] at q; simpa using q))
theorem g_lcmp {kx nx : Nat} (cx : Cx Z p s m meth c R kx nx own nm code maxL ret) {x y : Int64} (d : Dc code pc .lcmp 1 pc') (H : G p l e R s m args below meth c Z.heap.size Q h k n pc' Ls (.int (lcmpW x y) :: st)) : G p l e R s m args below meth c Z.heap.size Q h k n pc Ls (.long y :: .long x :: st) := by
  obtain ⟨hx, hZ, hown, rfl, hml, hret, hnm, -⟩ := cx
  obtain ⟨d, rfl⟩ := d
  intro T locs cells slots X N eT hk hn
  obtain ⟨s₂, o, st2, r⟩ := H T locs cells slots X N eT hk hn
  exact ⟨s₂, o, Jvm.Free.XS.lcmp X.here hx rfl d rfl st2, r⟩
theorem g_lif_eq {kx nx : Nat} (cx : Cx Z p s m meth c R kx nx own nm code maxL ret) {x y : Int64} (d0 : Dc code pc .lcmp 1 pc') (d : Bi code pc' (Instr.ifCond .eq) pcY pcN) (HY : x = y → G p l e R s m args below meth c Z.heap.size Q h k n pcY Ls st) (HN : ¬ x = y → G p l e R s m args below meth c Z.heap.size Q h k n pcN Ls st) : G p l e R s m args below meth c Z.heap.size Q h k n pc Ls (.long y :: .long x :: st) :=
  g_lcmp cx d0 (g_if_eq cx d (fun q => HY ((lw_eq x y).mp q)) (fun q => HN (fun z => q ((lw_eq x y).mpr z))))
theorem g_lif_ne {kx nx : Nat} (cx : Cx Z p s m meth c R kx nx own nm code maxL ret) {x y : Int64} (d0 : Dc code pc .lcmp 1 pc') (d : Bi code pc' (Instr.ifCond .ne) pcY pcN) (HY : ¬ x = y → G p l e R s m args below meth c Z.heap.size Q h k n pcY Ls st) (HN : x = y → G p l e R s m args below meth c Z.heap.size Q h k n pcN Ls st) : G p l e R s m args below meth c Z.heap.size Q h k n pc Ls (.long y :: .long x :: st) :=
  g_lcmp cx d0 (g_if_ne cx d (fun q => HY (fun z => q ((lw_eq x y).mpr z))) (fun q => HN ((lw_eq x y).mp q)))
theorem g_lif_lt {kx nx : Nat} (cx : Cx Z p s m meth c R kx nx own nm code maxL ret) {x y : Int64} (d0 : Dc code pc .lcmp 1 pc') (d : Bi code pc' (Instr.ifCond .lt) pcY pcN) (HY : x < y → G p l e R s m args below meth c Z.heap.size Q h k n pcY Ls st) (HN : ¬ x < y → G p l e R s m args below meth c Z.heap.size Q h k n pcN Ls st) : G p l e R s m args below meth c Z.heap.size Q h k n pc Ls (.long y :: .long x :: st) :=
  g_lcmp cx d0 (g_if_lt cx d (fun q => HY ((lw_lt x y).mp q)) (fun q => HN (fun z => q ((lw_lt x y).mpr z))))
theorem g_lif_ge {kx nx : Nat} (cx : Cx Z p s m meth c R kx nx own nm code maxL ret) {x y : Int64} (d0 : Dc code pc .lcmp 1 pc') (d : Bi code pc' (Instr.ifCond .ge) pcY pcN) (HY : ¬ x < y → G p l e R s m args below meth c Z.heap.size Q h k n pcY Ls st) (HN : x < y → G p l e R s m args below meth c Z.heap.size Q h k n pcN Ls st) : G p l e R s m args below meth c Z.heap.size Q h k n pc Ls (.long y :: .long x :: st) :=
  g_lcmp cx d0 (g_if_ge cx d (fun q => HY (fun z => q ((lw_lt x y).mpr z))) (fun q => HN ((lw_lt x y).mp q)))
theorem g_lif_gt {kx nx : Nat} (cx : Cx Z p s m meth c R kx nx own nm code maxL ret) {x y : Int64} (d0 : Dc code pc .lcmp 1 pc') (d : Bi code pc' (Instr.ifCond .gt) pcY pcN) (HY : y < x → G p l e R s m args below meth c Z.heap.size Q h k n pcY Ls st) (HN : ¬ y < x → G p l e R s m args below meth c Z.heap.size Q h k n pcN Ls st) : G p l e R s m args below meth c Z.heap.size Q h k n pc Ls (.long y :: .long x :: st) :=
  g_lcmp cx d0 (g_if_gt cx d (fun q => HY ((lw_gt x y).mp q)) (fun q => HN (fun z => q ((lw_gt x y).mpr z))))
theorem g_lif_le {kx nx : Nat} (cx : Cx Z p s m meth c R kx nx own nm code maxL ret) {x y : Int64} (d0 : Dc code pc .lcmp 1 pc') (d : Bi code pc' (Instr.ifCond .le) pcY pcN) (HY : ¬ y < x → G p l e R s m args below meth c Z.heap.size Q h k n pcY Ls st) (HN : y < x → G p l e R s m args below meth c Z.heap.size Q h k n pcN Ls st) : G p l e R s m args below meth c Z.heap.size Q h k n pc Ls (.long y :: .long x :: st) :=
  g_lcmp cx d0 (g_if_le cx d (fun q => HY (fun z => q ((lw_gt x y).mpr z))) (fun q => HN ((lw_gt x y).mp q)))
theorem g_acmp {kx nx : Nat} (cx : Cx Z p s m meth c R kx nx own nm code maxL ret) {cd : ACond} {x y : Value} (h1 : x.isRef = true) (h2 : y.isRef = true) (d : Bi code pc (Instr.if_acmp cd) pcY pcN) (HY : x = y → G p l e R s m args below meth c Z.heap.size Q h k n (if acV cd true = true then pcY else pcN) Ls st) (HN : ¬ x = y → G p l e R s m args below meth c Z.heap.size Q h k n (if acV cd false = true then pcY else pcN) Ls st) : G p l e R s m args below meth c Z.heap.size Q h k n pc Ls (y :: x :: st) := by
  obtain ⟨hx, hZ, hown, rfl, hml, hret, hnm, -⟩ := cx
  obtain ⟨o', d, ho, rfl, rfl⟩ := d
  intro T locs cells slots X N eT hk hn
  by_cases hc : x = y
  · obtain ⟨s₂, o, st2, r⟩ := HY hc T locs cells slots X N eT hk hn
    exact ⟨s₂, o, Jvm.RoadKit.acmp (g := mkF m pc Ls (y :: x :: st)) X hx rfl h1 h2 (pc0 := pc) (same := true) rfl d rfl (decide_eq_true hc) ho rfl st2, r⟩
  · obtain ⟨s₂, o, st2, r⟩ := HN hc T locs cells slots X N eT hk hn
    exact ⟨s₂, o, Jvm.RoadKit.acmp (g := mkF m pc Ls (y :: x :: st)) X hx rfl h1 h2 (pc0 := pc) (same := false) rfl d rfl (decide_eq_false hc) ho rfl st2, r⟩
theorem g_acmp_eq {kx nx : Nat} (cx : Cx Z p s m meth c R kx nx own nm code maxL ret) {x y : Value} (h1 : x.isRef = true) (h2 : y.isRef = true) (d : Bi code pc (Instr.if_acmp .eq) pcY pcN) (HY : x = y → G p l e R s m args below meth c Z.heap.size Q h k n pcY Ls st) (HN : ¬ x = y → G p l e R s m args below meth c Z.heap.size Q h k n pcN Ls st) : G p l e R s m args below meth c Z.heap.size Q h k n pc Ls (y :: x :: st) := g_acmp cx h1 h2 d HY HN
theorem g_acmp_ne {kx nx : Nat} (cx : Cx Z p s m meth c R kx nx own nm code maxL ret) {x y : Value} (h1 : x.isRef = true) (h2 : y.isRef = true) (d : Bi code pc (Instr.if_acmp .ne) pcY pcN) (HY : ¬ x = y → G p l e R s m args below meth c Z.heap.size Q h k n pcY Ls st) (HN : x = y → G p l e R s m args below meth c Z.heap.size Q h k n pcN Ls st) : G p l e R s m args below meth c Z.heap.size Q h k n pc Ls (y :: x :: st) := g_acmp cx h1 h2 d HN HY
theorem g_ifnull_null {kx nx : Nat} (cx : Cx Z p s m meth c R kx nx own nm code maxL ret) (d : Bi code pc Instr.ifnull pcY pcN) (H : G p l e R s m args below meth c Z.heap.size Q h k n pcY Ls st) : G p l e R s m args below meth c Z.heap.size Q h k n pc Ls (.null :: st) := by
  obtain ⟨hx, hZ, hown, rfl, hml, hret, hnm, -⟩ := cx
  obtain ⟨o', d, ho, rfl, rfl⟩ := d
  intro T locs cells slots X N eT hk hn
  obtain ⟨s₂, o, st2, r⟩ := H T locs cells slots X N eT hk hn
  exact ⟨s₂, o, Jvm.Free.XS.ifnullYes X.here hx rfl (pc0 := pc) rfl d rfl ho rfl st2, r⟩
theorem g_ifnull_ref {kx nx : Nat} (cx : Cx Z p s m meth c R kx nx own nm code maxL ret) {a : Addr} (d : Bi code pc Instr.ifnull pcY pcN) (H : G p l e R s m args below meth c Z.heap.size Q h k n pcN Ls st) : G p l e R s m args below meth c Z.heap.size Q h k n pc Ls (.ref a :: st) := by
  obtain ⟨hx, hZ, hown, rfl, hml, hret, hnm, -⟩ := cx
  obtain ⟨o', d, ho, rfl, rfl⟩ := d
  intro T locs cells slots X N eT hk hn
  obtain ⟨s₂, o, st2, r⟩ := H T locs cells slots X N eT hk hn
  exact ⟨s₂, o, Jvm.Free.XS.ifnullNo X.here hx rfl d rfl st2, r⟩
theorem g_ifnonnull_ref {kx nx : Nat} (cx : Cx Z p s m meth c R kx nx own nm code maxL ret) {a : Addr} (d : Bi code pc Instr.ifnonnull pcY pcN) (H : G p l e R s m args below meth c Z.heap.size Q h k n pcY Ls st) : G p l e R s m args below meth c Z.heap.size Q h k n pc Ls (.ref a :: st) := by
  obtain ⟨hx, hZ, hown, rfl, hml, hret, hnm, -⟩ := cx
  obtain ⟨o', d, ho, rfl, rfl⟩ := d
  intro T locs cells slots X N eT hk hn
  obtain ⟨s₂, o, st2, r⟩ := H T locs cells slots X N eT hk hn
  exact ⟨s₂, o, Jvm.Free.XS.ifnonnullYes X.here hx rfl (pc0 := pc) rfl d rfl ho rfl st2, r⟩
theorem g_ifnonnull_null {kx nx : Nat} (cx : Cx Z p s m meth c R kx nx own nm code maxL ret) (d : Bi code pc Instr.ifnonnull pcY pcN) (H : G p l e R s m args below meth c Z.heap.size Q h k n pcN Ls st) : G p l e R s m args below meth c Z.heap.size Q h k n pc Ls (.null :: st) := by
  obtain ⟨hx, hZ, hown, rfl, hml, hret, hnm, -⟩ := cx
  obtain ⟨o', d, ho, rfl, rfl⟩ := d
  intro T locs cells slots X N eT hk hn
  obtain ⟨s₂, o, st2, r⟩ := H T locs cells slots X N eT hk hn
  exact ⟨s₂, o, Jvm.Free.XS.ifnonnullNo X.here hx rfl d rfl st2, r⟩
theorem g_ldcI {kx nx : Nat} (cx : Cx Z p s m meth c R kx nx own nm code maxL ret) {i : Nat} {v : Int32} (d : Dc code pc (.ldc i) 2 pc') (w : (Jvm.Cond.constant own i v).before a0 Z = true) (H : G p l e R s m args below meth c Z.heap.size Q h k n pc' Ls (.int v :: st)) : G p l e R s m args below meth c Z.heap.size Q h k n pc Ls st := by
  obtain ⟨hx, hZ, hown, rfl, hml, hret, hnm, -⟩ := cx
  obtain ⟨d, rfl⟩ := d
  intro T locs cells slots X N eT hk hn
  obtain ⟨s₂, o, st2, r⟩ := H T locs cells slots X N eT hk hn
  exact ⟨s₂, o, X.ldcInt hx hown (mvT hZ w) (g := mkF m pc Ls st) rfl d _ st2, r⟩
theorem g_ldcJ {kx nx : Nat} (cx : Cx Z p s m meth c R kx nx own nm code maxL ret) {i : Nat} {v : Int64} (d : Dc code pc (.ldc2_w i) 3 pc') (w : (Jvm.Cond.constantLong own i v).before a0 Z = true) (H : G p l e R s m args below meth c Z.heap.size Q h k n pc' Ls (.long v :: st)) : G p l e R s m args below meth c Z.heap.size Q h k n pc Ls st := by
  obtain ⟨hx, hZ, hown, rfl, hml, hret, hnm, -⟩ := cx
  obtain ⟨d, rfl⟩ := d
  intro T locs cells slots X N eT hk hn
  obtain ⟨s₂, o, st2, r⟩ := H T locs cells slots X N eT hk hn
  exact ⟨s₂, o, X.ldc2Long hx hown (mvT hZ w) (g := mkF m pc Ls st) rfl d _ st2, r⟩
theorem g_getF {kx nx : Nat} (cx : Cx Z p s m meth c R kx nx own nm code maxL ret) {R0 O f ds host : String} {i : Nat} {a : Addr} {v : Value} (d : Dc code pc (.getfield i) 3 pc') (w : (Jvm.Cond.fieldLink own i R0 f ds).before a0 Z = true ∨ (Jvm.Cond.fieldLinkNest own i R0 f ds host).before a0 Z = true) (via : Via Z R0 O f ds) (F : Fld Z h a O f ds v) (H : G p l e R s m args below meth c Z.heap.size Q h k n pc' Ls (v :: st)) : G p l e R s m args below meth c Z.heap.size Q h k n pc Ls (.ref a :: st) := by
  obtain ⟨hx, hZ, hown, rfl, hml, hret, hnm, -⟩ := cx
  obtain ⟨d, rfl⟩ := d
  intro T locs cells slots X N eT hk hn
  obtain ⟨T', X', e', stp⟩ := getF X hx hZ hown w via eT F (g := mkF m pc Ls (.ref a :: st)) rfl rfl d
  obtain ⟨s₂, o, st2, r⟩ := H T' locs cells slots X' N e' hk hn
  exact ⟨s₂, o, stp _ st2, r⟩
theorem g_getS {kx nx : Nat} (cx : Cx Z p s m meth c R kx nx own nm code maxL ret) {R0 O f ds host : String} {i : Nat} {v : Value} (d : Dc code pc (.getstatic i) 3 pc') (w : (Jvm.Cond.fieldLink own i R0 f ds).before a0 Z = true ∨ (Jvm.Cond.fieldLinkNest own i R0 f ds host).before a0 Z = true) (via : Via Z R0 O f ds) (F : Sta Z h O f ds v) (H : G p l e R s m args below meth c Z.heap.size Q h k n pc' Ls (v :: st)) : G p l e R s m args below meth c Z.heap.size Q h k n pc Ls st := by
  obtain ⟨hx, hZ, hown, rfl, hml, hret, hnm, -⟩ := cx
  obtain ⟨d, rfl⟩ := d
  intro T locs cells slots X N eT hk hn
  obtain ⟨T', X', e', stp⟩ := getS2 X hx hZ hown w via eT F (g := mkF m pc Ls st) rfl d
  obtain ⟨s₂, o, st2, r⟩ := H T' locs cells slots X' N e' hk hn
  exact ⟨s₂, o, stp _ st2, r⟩
theorem g_putF {kx nx : Nat} (cx : Cx Z p s m meth c R kx nx own nm code maxL ret) {R0 O f ds host C : String} {i kk : Nat} {ty : FieldType} {a : Addr} {v old : Value} (d : Dc code pc (.putfield i) 3 pc') (w : (Jvm.Cond.fieldLink own i R0 f ds).before a0 Z = true ∨ (Jvm.Cond.fieldLinkNest own i R0 f ds host).before a0 Z = true) (via : Via Z R0 O f ds) (F : Fld Z h a O f ds old) (E : Exa Z h a C)
    (L : (Jvm.Cond.lays C O f ds).before a0 Z = true ∨ ((Jvm.Cond.laysFinal C O f ds).before a0 Z = true ∧ own = O ∧ nm = "<init>")) (wi : (Jvm.Cond.instantiable C kk).before a0 Z = true) (hty : parseFieldDescriptor ds = some ty) (hnar : narrow ty v = v) (hfit : fits ty v = true) (g : Z.heap.size ≤ a)
    (H : ∀ h', Wr h h' a (Jvm.RoadKit.slotOf Z O f ds) v → G p l e R s m args below meth c Z.heap.size Q h' k n pc' Ls st) : G p l e R s m args below meth c Z.heap.size Q h k n pc Ls (v :: .ref a :: st) := by
  obtain ⟨hx, hZ, hown, rfl, hml, hret, rfl, -⟩ := cx
  obtain ⟨d, rfl⟩ := d
  intro T locs cells slots X N eT hk hn
  obtain ⟨T', h', X', e', W, stp⟩ := putF X hx hZ hown w via eT F E L wi hty hnar hfit (g := mkF m pc Ls (v :: .ref a :: st)) rfl rfl d
  obtain ⟨s₂, o, st2, r⟩ := H h' W T' _ cells slots X' (Fr.snoc X' N g) e' hk hn
  exact ⟨s₂, o, stp _ st2, r⟩
theorem g_putFN {kx nx : Nat} (cx : Cx Z p s m meth c R kx nx own nm code maxL ret) {R0 O f ds C : String} {i kk : Nat} {ty : FieldType} {a : Addr} {v v' old : Value} (d : Dc code pc (.putfield i) 3 pc') (w : (Jvm.Cond.fieldLink own i R0 f ds).before a0 Z = true) (via : Via Z R0 O f ds) (F : Fld Z h a O f ds old) (E : Exa Z h a C)
    (L : (Jvm.Cond.lays C O f ds).before a0 Z = true ∨ ((Jvm.Cond.laysFinal C O f ds).before a0 Z = true ∧ own = O ∧ nm = "<init>")) (wi : (Jvm.Cond.instantiable C kk).before a0 Z = true) (hty : parseFieldDescriptor ds = some ty) (hnar : narrow ty v = v') (hfit : fits ty v' = true) (g : Z.heap.size ≤ a)
    (H : ∀ h', Wr h h' a (Jvm.RoadKit.slotOf Z O f ds) v' → G p l e R s m args below meth c Z.heap.size Q h' k n pc' Ls st) : G p l e R s m args below meth c Z.heap.size Q h k n pc Ls (v :: .ref a :: st) := by
  obtain ⟨hx, hZ, hown, rfl, hml, hret, rfl, -⟩ := cx
  obtain ⟨d, rfl⟩ := d
  intro T locs cells slots X N eT hk hn
  obtain ⟨T', h', X', e', W, stp⟩ := putFN X hx hZ hown w via eT F E L wi hty hnar hfit (g := mkF m pc Ls (v :: .ref a :: st)) rfl rfl d
  obtain ⟨s₂, o, st2, r⟩ := H h' W T' _ cells slots X' (Fr.snoc X' N g) e' hk hn
  exact ⟨s₂, o, stp _ st2, r⟩
theorem g_new {kx nx : Nat} (cx : Cx Z p s m meth c R kx nx own nm code maxL ret) {C : String} {i sl : Nat} {k' n' : Nat} (d : Dc code pc (.new i) 3 pc') (w : (Jvm.Cond.classLink own i C).before a0 Z = true) (wi : (Jvm.Cond.instantiable C sl).before a0 Z = true) (wz : (Jvm.Cond.initialized C).before a0 Z = true) (hk1 : k + 1 = k') (hn1 : n + sl = n') (hkR : k' ≤ R.cells) (hnR : n' ≤ R.slots)
    (H : ∀ h' b, b = h.size → Ext h h' → Exa Z h' b C → (∀ {O nm d : String} {ty : FieldType}, Laid Z a0 C O nm d → parseFieldDescriptor d = some ty → Fld Z h' b O nm d (defaultValue ty)) → G p l e R s m args below meth c Z.heap.size Q h' k' n' pc' Ls (.ref b :: st)) : G p l e R s m args below meth c Z.heap.size Q h k n pc Ls st := by
  obtain ⟨hx, hZ, hown, rfl, hml, hret, hnm, -⟩ := cx
  obtain ⟨d, rfl⟩ := d
  subst hk1 hn1
  intro T locs cells slots X N eT hk hn
  obtain ⟨T', h', X', e', E, A, D, -, stp⟩ := newO X hx hZ hown w wi wz eT (g := mkF m pc Ls st) rfl d (by omega) (by omega)
  obtain ⟨s₂, o, st2, r⟩ := H h' _ rfl E A D T' locs _ _ X' N e' (by omega) (by omega)
  exact ⟨s₂, o, stp _ st2, r⟩
theorem g_newarray {kx nx : Nat} (cx : Cx Z p s m meth c R kx nx own nm code maxL ret) {aty : ArrayType} {z : Int32} {cap k' n' : Nat} {ad : String} (had : "[" ++ (newarray.typeOf aty).toString = ad) (d : Dc code pc (.newarray aty) 2 pc') (w : (Jvm.Cond.arrayClass (newarray.typeOf aty)).before a0 Z = true) (hz : ¬ z < 0) (hcap : z.toNatClampNeg ≤ cap) (hb : cap * 8 ≤ 536870912) (hk1 : k + 1 = k') (hn1 : n + cap = n') (hkR : k' ≤ R.cells) (hnR : n' ≤ R.slots)
    (H : ∀ h' b cA, b = h.size → Ext h h' → Arx Z h' b cA (newarray.typeOf aty) z [] (defaultValue (newarray.typeOf aty)) ad → G p l e R s m args below meth c Z.heap.size Q h' k' n' pc' Ls (.ref b :: st)) : G p l e R s m args below meth c Z.heap.size Q h k n pc Ls (.int z :: st) := by
  obtain ⟨hx, hZ, hown, rfl, hml, hret, hnm, -⟩ := cx
  obtain ⟨d, rfl⟩ := d
  subst hk1 hn1
  intro T locs cells slots X N eT hk hn
  obtain ⟨T', h', cA, X', e', E, A, Ex, stp⟩ := newPE X hx hZ w eT (g := mkF m pc Ls (.int z :: st)) rfl d rfl hz hcap hb (by omega) (by omega) had
  obtain ⟨s₂, o, st2, r⟩ := H h' _ cA rfl E ⟨Arv.new A hz, Ex⟩ T' locs _ _ X' N e' (by omega) (by omega)
  exact ⟨s₂, o, stp _ st2, r⟩
theorem g_anewarray {kx nx : Nat} (cx : Cx Z p s m meth c R kx nx own nm code maxL ret) {C ad : String} {i : Nat} {z : Int32} {cap k' n' : Nat} (had : "[" ++ (FieldType.object C).toString = ad) (d : Dc code pc (.anewarray i) 3 pc') (w1 : (Jvm.Cond.classLink own i C).before a0 Z = true) (w2 : (Jvm.Cond.arrayOver (.object C)).before a0 Z = true) (hz : ¬ z < 0) (hcap : z.toNatClampNeg ≤ cap) (hb : cap * 8 ≤ 536870912) (hk1 : k + 1 = k') (hn1 : n + cap = n') (hkR : k' ≤ R.cells) (hnR : n' ≤ R.slots)
    (H : ∀ h' b cA, b = h.size → Ext h h' → Arx Z h' b cA (.object C) z [] .null ad → Ovr Z cA C → G p l e R s m args below meth c Z.heap.size Q h' k' n' pc' Ls (.ref b :: st)) : G p l e R s m args below meth c Z.heap.size Q h k n pc Ls (.int z :: st) := by
  obtain ⟨hx, hZ, hown, rfl, hml, hret, hnm, -⟩ := cx
  obtain ⟨d, rfl⟩ := d
  subst hk1 hn1
  intro T locs cells slots X N eT hk hn
  obtain ⟨T', h', cA, X', e', E, A, Ex, O, stp⟩ := newRE X hx hZ hown w1 w2 eT (g := mkF m pc Ls (.int z :: st)) rfl d rfl hz hcap hb (by omega) (by omega) had
  obtain ⟨s₂, o, st2, r⟩ := H h' _ cA rfl E ⟨Arv.new A hz, Ex⟩ O T' locs _ _ X' N e' (by omega) (by omega)
  exact ⟨s₂, o, stp _ st2, r⟩
theorem g_anewarrayA {kx nx : Nat} (cx : Cx Z p s m meth c R kx nx own nm code maxL ret) {C ad : String} {t : FieldType} {i : Nat} {z : Int32} {cap k' n' : Nat} (hC : (FieldType.array t).toString = C) (had : "[" ++ C = ad) (d : Dc code pc (.anewarray i) 3 pc') (w1 : (Jvm.Cond.classLink own i C).before a0 Z = true) (w2 : (Jvm.Cond.arrayOver (.array t)).before a0 Z = true) (hz : ¬ z < 0) (hcap : z.toNatClampNeg ≤ cap) (hb : cap * 8 ≤ 536870912) (hk1 : k + 1 = k') (hn1 : n + cap = n') (hkR : k' ≤ R.cells) (hnR : n' ≤ R.slots)
    (H : ∀ h' b cA, b = h.size → Ext h h' → Arx Z h' b cA (.array t) z [] .null ad → OvrA Z cA t C → G p l e R s m args below meth c Z.heap.size Q h' k' n' pc' Ls (.ref b :: st)) : G p l e R s m args below meth c Z.heap.size Q h k n pc Ls (.int z :: st) := by
  obtain ⟨hx, hZ, hown, rfl, hml, hret, hnm, -⟩ := cx
  obtain ⟨d, rfl⟩ := d
  subst hk1 hn1
  intro T locs cells slots X N eT hk hn
  obtain ⟨T', h', cA, X', e', E, A, Ex, O, stp⟩ := newRA X hx hZ hown hC w1 w2 eT (g := mkF m pc Ls (.int z :: st)) rfl d rfl hz hcap hb (by omega) (by omega) had
  obtain ⟨s₂, o, st2, r⟩ := H h' _ cA rfl E ⟨Arv.new A hz, Ex⟩ O T' locs _ _ X' N e' (by omega) (by omega)
  exact ⟨s₂, o, stp _ st2, r⟩
theorem g_iastore {kx nx : Nat} (cx : Cx Z p s m meth c R kx nx own nm code maxL ret) {a : Addr} {cA : ClassId} {z j : Int32} {ad : String} {vs : List Value} {dv : Value} {x : Int32} (d : Dc code pc .iastore 1 pc') (A : Arx Z h a cA .int z vs dv ad) (hj : ¬ j < 0 ∧ j < z) (hl : j.toNatClampNeg < vs.length) (g : Z.heap.size ≤ a) (H : ∀ h', Wr h h' a j.toNatClampNeg (.int x) → Arx Z h' a cA .int z (vs.set j.toNatClampNeg (.int x)) dv ad → G p l e R s m args below meth c Z.heap.size Q h' k n pc' Ls st) : G p l e R s m args below meth c Z.heap.size Q h k n pc Ls (.int x :: .int j :: .ref a :: st) := by
  obtain ⟨hx, hZ, hown, rfl, hml, hret, hnm, -⟩ := cx
  obtain ⟨d, rfl⟩ := d
  intro T locs cells slots X N eT hk hn
  obtain ⟨⟨cl, Ar, q, S, Nz, Hs, Gf⟩, Ex⟩ := A
  obtain ⟨T', h', X', e', W, stp⟩ := stI X hx hZ eT Ar (j := j) (inb_of S hj) (g := mkF m pc Ls (.int x :: .int j :: .ref a :: st)) rfl rfl d
  obtain ⟨s₂, o, st2, r⟩ := H h' W ⟨Arv.set Ar q S Nz Hs Gf rfl W _ rfl hl, Ex.wr W⟩ T' _ cells slots X' (Fr.snoc X' N g) e' hk hn
  exact ⟨s₂, o, stp _ st2, r⟩
theorem g_lastore {kx nx : Nat} (cx : Cx Z p s m meth c R kx nx own nm code maxL ret) {a : Addr} {cA : ClassId} {z j : Int32} {ad : String} {vs : List Value} {dv : Value} {x : Int64} (d : Dc code pc .lastore 1 pc') (A : Arx Z h a cA .long z vs dv ad) (hj : ¬ j < 0 ∧ j < z) (hl : j.toNatClampNeg < vs.length) (g : Z.heap.size ≤ a) (H : ∀ h', Wr h h' a j.toNatClampNeg (.long x) → Arx Z h' a cA .long z (vs.set j.toNatClampNeg (.long x)) dv ad → G p l e R s m args below meth c Z.heap.size Q h' k n pc' Ls st) : G p l e R s m args below meth c Z.heap.size Q h k n pc Ls (.long x :: .int j :: .ref a :: st) := by
  obtain ⟨hx, hZ, hown, rfl, hml, hret, hnm, -⟩ := cx
  obtain ⟨d, rfl⟩ := d
  intro T locs cells slots X N eT hk hn
  obtain ⟨⟨cl, Ar, q, S, Nz, Hs, Gf⟩, Ex⟩ := A
  obtain ⟨T', h', X', e', W, stp⟩ := stJ X hx hZ eT Ar (j := j) (inb_of S hj) (g := mkF m pc Ls (.long x :: .int j :: .ref a :: st)) rfl rfl d
  obtain ⟨s₂, o, st2, r⟩ := H h' W ⟨Arv.set Ar q S Nz Hs Gf rfl W _ rfl hl, Ex.wr W⟩ T' _ cells slots X' (Fr.snoc X' N g) e' hk hn
  exact ⟨s₂, o, stp _ st2, r⟩
theorem g_castore {kx nx : Nat} (cx : Cx Z p s m meth c R kx nx own nm code maxL ret) {a : Addr} {cA : ClassId} {z j : Int32} {ad : String} {vs : List Value} {dv : Value} {x : Int32} (d : Dc code pc .castore 1 pc') (A : Arx Z h a cA .char z vs dv ad) (hj : ¬ j < 0 ∧ j < z) (hl : j.toNatClampNeg < vs.length) (g : Z.heap.size ≤ a) (H : ∀ h', Wr h h' a j.toNatClampNeg (.int (nar .char x)) → Arx Z h' a cA .char z (vs.set j.toNatClampNeg (.int (nar .char x))) dv ad → G p l e R s m args below meth c Z.heap.size Q h' k n pc' Ls st) : G p l e R s m args below meth c Z.heap.size Q h k n pc Ls (.int x :: .int j :: .ref a :: st) := by
  obtain ⟨hx, hZ, hown, rfl, hml, hret, hnm, -⟩ := cx
  obtain ⟨d, rfl⟩ := d
  intro T locs cells slots X N eT hk hn
  obtain ⟨⟨cl, Ar, q, S, Nz, Hs, Gf⟩, Ex⟩ := A
  obtain ⟨T', h', X', e', W, stp⟩ := stC X hx hZ eT Ar (j := j) (inb_of S hj) (g := mkF m pc Ls (.int x :: .int j :: .ref a :: st)) rfl rfl d
  obtain ⟨s₂, o, st2, r⟩ := H h' W ⟨Arv.set Ar q S Nz Hs Gf (fits_nar_char _) W _ rfl hl, Ex.wr W⟩ T' _ cells slots X' (Fr.snoc X' N g) e' hk hn
  exact ⟨s₂, o, stp _ st2, r⟩
theorem g_bastore {kx nx : Nat} (cx : Cx Z p s m meth c R kx nx own nm code maxL ret) {a : Addr} {cA : ClassId} {z j : Int32} {ad : String} {vs : List Value} {dv : Value} {x : Int32} (d : Dc code pc .bastore 1 pc') (A : Arx Z h a cA .byte z vs dv ad) (hj : ¬ j < 0 ∧ j < z) (hl : j.toNatClampNeg < vs.length) (g : Z.heap.size ≤ a) (H : ∀ h', Wr h h' a j.toNatClampNeg (.int (nar .byte x)) → Arx Z h' a cA .byte z (vs.set j.toNatClampNeg (.int (nar .byte x))) dv ad → G p l e R s m args below meth c Z.heap.size Q h' k n pc' Ls st) : G p l e R s m args below meth c Z.heap.size Q h k n pc Ls (.int x :: .int j :: .ref a :: st) := by
  obtain ⟨hx, hZ, hown, rfl, hml, hret, hnm, -⟩ := cx
  obtain ⟨d, rfl⟩ := d
  intro T locs cells slots X N eT hk hn
  obtain ⟨⟨cl, Ar, q, S, Nz, Hs, Gf⟩, Ex⟩ := A
  obtain ⟨T', h', X', e', W, stp⟩ := stB X hx hZ eT Ar (j := j) (inb_of S hj) (g := mkF m pc Ls (.int x :: .int j :: .ref a :: st)) rfl rfl d
  obtain ⟨s₂, o, st2, r⟩ := H h' W ⟨Arv.set Ar q S Nz Hs Gf (fits_nar_byte _) W _ rfl hl, Ex.wr W⟩ T' _ cells slots X' (Fr.snoc X' N g) e' hk hn
  exact ⟨s₂, o, stp _ st2, r⟩
theorem g_aastore {kx nx : Nat} (cx : Cx Z p s m meth c R kx nx own nm code maxL ret) {a : Addr} {cA : ClassId} {z j : Int32} {ad : String} {vs : List Value} {dv v : Value} {ty : FieldType} (d : Dc code pc .aastore 1 pc') (A : Arx Z h a cA ty z vs dv ad) (hty : ty.isReference = true) (hf : fits ty v = true) (So : Sto Z h a v) (hj : ¬ j < 0 ∧ j < z) (hl : j.toNatClampNeg < vs.length) (g : Z.heap.size ≤ a) (H : ∀ h', Wr h h' a j.toNatClampNeg v → Arx Z h' a cA ty z (vs.set j.toNatClampNeg v) dv ad → G p l e R s m args below meth c Z.heap.size Q h' k n pc' Ls st) : G p l e R s m args below meth c Z.heap.size Q h k n pc Ls (v :: .int j :: .ref a :: st) := by
  obtain ⟨hx, hZ, hown, rfl, hml, hret, hnm, -⟩ := cx
  obtain ⟨d, rfl⟩ := d
  intro T locs cells slots X N eT hk hn
  obtain ⟨⟨cl, Ar, q, S, Nz, Hs, Gf⟩, Ex⟩ := A
  obtain ⟨T', h', X', e', W, stp⟩ := stR X hx hZ eT Ar (j := j) (inb_of S hj) hty So (g := mkF m pc Ls (v :: .int j :: .ref a :: st)) rfl rfl d
  obtain ⟨s₂, o, st2, r⟩ := H h' W ⟨Arv.set Ar q S Nz Hs Gf hf W _ rfl hl, Ex.wr W⟩ T' _ cells slots X' (Fr.snoc X' N g) e' hk hn
  exact ⟨s₂, o, stp _ st2, r⟩
theorem g_iaload {kx nx : Nat} (cx : Cx Z p s m meth c R kx nx own nm code maxL ret) {a : Addr} {cA : ClassId} {z j : Int32} {vs : List Value} {dv v : Value} (d : Dc code pc .iaload 1 pc') (A : Arv Z h a cA .int z vs dv) (hj : ¬ j < 0 ∧ j < z) (hv : vs.getD j.toNatClampNeg dv = v) (H : G p l e R s m args below meth c Z.heap.size Q h k n pc' Ls (v :: st)) : G p l e R s m args below meth c Z.heap.size Q h k n pc Ls (.int j :: .ref a :: st) := by
  obtain ⟨hx, hZ, hown, rfl, hml, hret, hnm, -⟩ := cx
  obtain ⟨d, rfl⟩ := d
  intro T locs cells slots X N eT hk hn
  obtain ⟨cl, Ar, q, S, Nz, Hs, Gf⟩ := A
  obtain ⟨s₂, o, st2, r⟩ := H T _ cells slots X N eT hk hn
  exact ⟨s₂, o, X.iaload hx (j := j) (v := v) (by rw [eT]; exact Ar.1) (State.isArrayOf_alike hZ.alike Ar.2.1) Ar.2.2 (inb_of S hj) (Hs.at (inb_of S hj) hv) (g := mkF m pc Ls (.int j :: .ref a :: st)) rfl rfl d _ st2, r⟩
theorem g_laload {kx nx : Nat} (cx : Cx Z p s m meth c R kx nx own nm code maxL ret) {a : Addr} {cA : ClassId} {z j : Int32} {vs : List Value} {dv v : Value} (d : Dc code pc .laload 1 pc') (A : Arv Z h a cA .long z vs dv) (hj : ¬ j < 0 ∧ j < z) (hv : vs.getD j.toNatClampNeg dv = v) (H : G p l e R s m args below meth c Z.heap.size Q h k n pc' Ls (v :: st)) : G p l e R s m args below meth c Z.heap.size Q h k n pc Ls (.int j :: .ref a :: st) := by
  obtain ⟨hx, hZ, hown, rfl, hml, hret, hnm, -⟩ := cx
  obtain ⟨d, rfl⟩ := d
  intro T locs cells slots X N eT hk hn
  obtain ⟨cl, Ar, q, S, Nz, Hs, Gf⟩ := A
  obtain ⟨s₂, o, st2, r⟩ := H T _ cells slots X N eT hk hn
  exact ⟨s₂, o, X.laload hx (j := j) (v := v) (by rw [eT]; exact Ar.1) (State.isArrayOf_alike hZ.alike Ar.2.1) Ar.2.2 (inb_of S hj) (Hs.at (inb_of S hj) hv) (g := mkF m pc Ls (.int j :: .ref a :: st)) rfl rfl d _ st2, r⟩
theorem g_caload {kx nx : Nat} (cx : Cx Z p s m meth c R kx nx own nm code maxL ret) {a : Addr} {cA : ClassId} {z j : Int32} {vs : List Value} {dv v : Value} (d : Dc code pc .caload 1 pc') (A : Arv Z h a cA .char z vs dv) (hj : ¬ j < 0 ∧ j < z) (hv : vs.getD j.toNatClampNeg dv = v) (H : G p l e R s m args below meth c Z.heap.size Q h k n pc' Ls (v :: st)) : G p l e R s m args below meth c Z.heap.size Q h k n pc Ls (.int j :: .ref a :: st) := by
  obtain ⟨hx, hZ, hown, rfl, hml, hret, hnm, -⟩ := cx
  obtain ⟨d, rfl⟩ := d
  intro T locs cells slots X N eT hk hn
  obtain ⟨cl, Ar, q, S, Nz, Hs, Gf⟩ := A
  obtain ⟨s₂, o, st2, r⟩ := H T _ cells slots X N eT hk hn
  exact ⟨s₂, o, X.caload hx (j := j) (v := v) (by rw [eT]; exact Ar.1) (State.isArrayOf_alike hZ.alike Ar.2.1) Ar.2.2 (inb_of S hj) (Hs.at (inb_of S hj) hv) (g := mkF m pc Ls (.int j :: .ref a :: st)) rfl rfl d _ st2, r⟩
theorem g_baload {kx nx : Nat} (cx : Cx Z p s m meth c R kx nx own nm code maxL ret) {a : Addr} {cA : ClassId} {z j : Int32} {vs : List Value} {dv v : Value} (d : Dc code pc .baload 1 pc') (A : Arv Z h a cA .byte z vs dv) (hj : ¬ j < 0 ∧ j < z) (hv : vs.getD j.toNatClampNeg dv = v) (H : G p l e R s m args below meth c Z.heap.size Q h k n pc' Ls (v :: st)) : G p l e R s m args below meth c Z.heap.size Q h k n pc Ls (.int j :: .ref a :: st) := by
  obtain ⟨hx, hZ, hown, rfl, hml, hret, hnm, -⟩ := cx
  obtain ⟨d, rfl⟩ := d
  intro T locs cells slots X N eT hk hn
  obtain ⟨cl, Ar, q, S, Nz, Hs, Gf⟩ := A
  obtain ⟨s₂, o, st2, r⟩ := H T _ cells slots X N eT hk hn
  exact ⟨s₂, o, X.baloadBytes hx (j := j) (v := v) (by rw [eT]; exact Ar.1) (State.isArrayOf_alike hZ.alike Ar.2.1) Ar.2.2 (inb_of S hj) (Hs.at (inb_of S hj) hv) (g := mkF m pc Ls (.int j :: .ref a :: st)) rfl rfl d _ st2, r⟩
theorem g_aaload {kx nx : Nat} (cx : Cx Z p s m meth c R kx nx own nm code maxL ret) {a : Addr} {cA : ClassId} {z j : Int32} {vs : List Value} {dv v : Value} {ty : FieldType} (d : Dc code pc .aaload 1 pc') (A : Arv Z h a cA ty z vs dv) (hty : ty.isReference = true) (hj : ¬ j < 0 ∧ j < z) (hv : vs.getD j.toNatClampNeg dv = v) (H : G p l e R s m args below meth c Z.heap.size Q h k n pc' Ls (v :: st)) : G p l e R s m args below meth c Z.heap.size Q h k n pc Ls (.int j :: .ref a :: st) := by
  obtain ⟨hx, hZ, hown, rfl, hml, hret, hnm, -⟩ := cx
  obtain ⟨d, rfl⟩ := d
  intro T locs cells slots X N eT hk hn
  obtain ⟨cl, Ar, q, S, Nz, Hs, Gf⟩ := A
  obtain ⟨s₂, o, st2, r⟩ := H T _ cells slots X N eT hk hn
  exact ⟨s₂, o, X.aaload hx (j := j) (v := v) (by rw [eT]; exact Ar.1) (State.isArrayOf_alike hZ.alike Ar.2.1) hty Ar.2.2 (inb_of S hj) (Hs.at (inb_of S hj) hv) (g := mkF m pc Ls (.int j :: .ref a :: st)) rfl rfl d _ st2, r⟩
theorem g_arraylength {kx nx : Nat} (cx : Cx Z p s m meth c R kx nx own nm code maxL ret) {a : Addr} {cA : ClassId} {z : Int32} {vs : List Value} {dv : Value} {ty : FieldType} (d : Dc code pc .arraylength 1 pc') (A : Arv Z h a cA ty z vs dv) (H : G p l e R s m args below meth c Z.heap.size Q h k n pc' Ls (.int z :: st)) : G p l e R s m args below meth c Z.heap.size Q h k n pc Ls (.ref a :: st) := by
  obtain ⟨hx, hZ, hown, rfl, hml, hret, hnm, -⟩ := cx
  obtain ⟨d, rfl⟩ := d
  intro T locs cells slots X N eT hk hn
  obtain ⟨cl, Ar, q, S, Nz, Hs, Gf⟩ := A
  obtain ⟨s₂, o, st2, r⟩ := H T _ cells slots X N eT hk hn
  exact ⟨s₂, o, X.arraylength hx (by rw [eT]; exact Ar.1) (State.isArrayOf_alike hZ.alike Ar.2.1) (g := mkF m pc Ls (.ref a :: st)) rfl rfl d _ (by rw [len_of S Nz]; exact st2), r⟩
theorem g_checkcast {kx nx : Nat} (cx : Cx Z p s m meth c R kx nx own nm code maxL ret) {K : String} {i : Nat} {a : Addr} (d : Dc code pc (.checkcast i) 3 pc') (w : (Jvm.Cond.classLink own i K).before a0 Z = true) (F : Ins Z h a K true) (H : G p l e R s m args below meth c Z.heap.size Q h k n pc' Ls (.ref a :: st)) : G p l e R s m args below meth c Z.heap.size Q h k n pc Ls (.ref a :: st) := by
  obtain ⟨hx, hZ, hown, rfl, hml, hret, hnm, -⟩ := cx
  obtain ⟨d, rfl⟩ := d
  intro T locs cells slots X N eT hk hn
  obtain ⟨T', X', e', stp⟩ := castY X hx hZ hown w eT F (g := mkF m pc Ls (.ref a :: st)) rfl rfl d
  obtain ⟨s₂, o, st2, r⟩ := H T' _ cells slots X' N e' hk hn
  exact ⟨s₂, o, stp _ st2, r⟩
theorem g_instanceY {kx nx : Nat} (cx : Cx Z p s m meth c R kx nx own nm code maxL ret) {K : String} {i : Nat} {a : Addr} (d : Dc code pc (.instanceof i) 3 pc') (w : (Jvm.Cond.classLink own i K).before a0 Z = true) (F : Ins Z h a K true) (H : G p l e R s m args below meth c Z.heap.size Q h k n pc' Ls (.int 1 :: st)) : G p l e R s m args below meth c Z.heap.size Q h k n pc Ls (.ref a :: st) := by
  obtain ⟨hx, hZ, hown, rfl, hml, hret, hnm, -⟩ := cx
  obtain ⟨d, rfl⟩ := d
  intro T locs cells slots X N eT hk hn
  obtain ⟨T', X', e', stp⟩ := instY X hx hZ hown w eT F (g := mkF m pc Ls (.ref a :: st)) rfl rfl d
  obtain ⟨s₂, o, st2, r⟩ := H T' _ cells slots X' N e' hk hn
  exact ⟨s₂, o, stp _ st2, r⟩
theorem g_ret {kx nx : Nat} (cx : Cx Z p s m meth c R kx nx own nm code maxL ret) {t : FieldType} {w v : Value} {i : Instr} (d : Dc code pc i 1 pc') (hR : ret = some t)
    (hs : ∀ T locs cells slots, Stand p l e R s m args below meth c T locs cells slots → ∀ fs, (∀ (f : JFrame) (acts : List Action), f.method = m → f.locked = none → f.entered = [] → (doReturn e (T.setTop f) acts (some v)).1 = T.setFrames fs) → Steps p.tables e below (T.setTop (mkF m pc Ls (w :: st))) (T.setFrames fs))
    (hk : k ≤ R.cells) (hn : n ≤ R.slots) (q : Q (some v) h) : G p l e R s m args below meth c Z.heap.size Q h k n pc Ls (w :: st) := by
  obtain ⟨hx, hZ, hown, rfl, hml, rfl, hnm, hlk⟩ := cx
  intro T locs cells slots X N eT hk' hn'
  obtain ⟨fs, hr, hrun, hended, hW, hsame⟩ := X.leave (v := some v) (fun h => by rw [hR] at h; cases h) hlk
  exact ⟨_, _, hs T locs cells slots X fs hr, hrun, hended, _, locs, rfl, ⟨by show Q _ T.heap; rw [eT]; exact q, N⟩, ⟨_, rfl⟩, hW, hsame.mono (by omega) (by omega)⟩
theorem g_retI {kx nx : Nat} (cx : Cx Z p s m meth c R kx nx own nm code maxL ret) {x : Int32} (d : Dc code pc .ireturn 1 pc') (hR : ret = some .int) (hk : k ≤ R.cells) (hn : n ≤ R.slots) (q : Q (some (.int x)) h) : G p l e R s m args below meth c Z.heap.size Q h k n pc Ls (.int x :: st) :=
  g_ret cx (t := .int) d hR (fun T locs cells slots X fs hl => retOut X cx.1 (cx.2.2.2.2.2.1.trans hR) rfl (Or.inl ⟨rfl, Or.inl rfl, _, rfl⟩) (by rw [cx.2.2.2.1]; exact d.1) hl) hk hn q
theorem g_retJ {kx nx : Nat} (cx : Cx Z p s m meth c R kx nx own nm code maxL ret) {x : Int64} (d : Dc code pc .lreturn 1 pc') (hR : ret = some .long) (hk : k ≤ R.cells) (hn : n ≤ R.slots) (q : Q (some (.long x)) h) : G p l e R s m args below meth c Z.heap.size Q h k n pc Ls (.long x :: st) :=
  g_ret cx (t := .long) d hR (fun T locs cells slots X fs hl => retOut X cx.1 (cx.2.2.2.2.2.1.trans hR) rfl (Or.inr (Or.inl ⟨rfl, rfl, _, rfl⟩)) (by rw [cx.2.2.2.1]; exact d.1) hl) hk hn q
theorem g_retN {kx nx : Nat} (cx : Cx Z p s m meth c R kx nx own nm code maxL ret) {x : Int32} {t : FieldType} (d : Dc code pc .ireturn 1 pc') (hR : ret = some t) (ht : t = .boolean ∨ t = .byte ∨ t = .char ∨ t = .short) (hk : k ≤ R.cells) (hn : n ≤ R.slots) (q : Q (some (.int (nar t x))) h) : G p l e R s m args below meth c Z.heap.size Q h k n pc Ls (.int x :: st) :=
  g_ret cx (t := t) d hR (fun T locs cells slots X fs hl => retN X cx.1 (cx.2.2.2.2.2.1.trans hR) ht (by rw [cx.2.2.2.1]; exact d.1) hl) hk hn q
theorem g_retZ {kx nx : Nat} (cx : Cx Z p s m meth c R kx nx own nm code maxL ret) {x : Int32} (d : Dc code pc .ireturn 1 pc') (hR : ret = some .boolean) (hx01 : nar .boolean x = x) (hk : k ≤ R.cells) (hn : n ≤ R.slots) (q : Q (some (.int x)) h) : G p l e R s m args below meth c Z.heap.size Q h k n pc Ls (.int x :: st) :=
  g_retN cx d hR (Or.inl rfl) hk hn (by rw [hx01]; exact q)
theorem g_retA {kx nx : Nat} (cx : Cx Z p s m meth c R kx nx own nm code maxL ret) {w : Value} {t : FieldType} (d : Dc code pc .areturn 1 pc') (hR : ret = some t) (ht : t.isReference = true) (hw : w.isRef = true) (hnar : narrow t w = w) (hk : k ≤ R.cells) (hn : n ≤ R.slots) (q : Q (some w) h) : G p l e R s m args below meth c Z.heap.size Q h k n pc Ls (w :: st) :=
  g_ret cx (t := t) d hR (fun T locs cells slots X fs hl => retOut X cx.1 (cx.2.2.2.2.2.1.trans hR) hnar (Or.inr (Or.inr (Or.inr (Or.inr ⟨rfl, ht, hw⟩)))) (by rw [cx.2.2.2.1]; exact d.1) hl) hk hn q
theorem g_retV {kx nx : Nat} (cx : Cx Z p s m meth c R kx nx own nm code maxL ret) (d : Dc code pc .return_ 1 pc') (hR : ret = none) (hk : k ≤ R.cells) (hn : n ≤ R.slots) (q : Q none h) : G p l e R s m args below meth c Z.heap.size Q h k n pc Ls [] := by
  obtain ⟨hx, hZ, hown, rfl, hml, rfl, hnm, hlk⟩ := cx
  intro T locs cells slots X N eT hk' hn'
  obtain ⟨fs, hr, hrun, hended, hW, hsame⟩ := X.leave (v := none) (fun _ => rfl) hlk
  exact ⟨_, _, X.returnOut hx hR d.1 hr, hrun, hended, _, locs, rfl, ⟨by show Q _ T.heap; rw [eT]; exact q, N⟩, ⟨_, rfl⟩, hW, hsame.mono (by omega) (by omega)⟩
theorem g_initO {kx nx : Nat} (cx : Cx Z p s m meth c R kx nx own nm code maxL ret) {i W : Nat} {a : Addr} (d : Dc code pc (.invokespecial i) 3 pc') (w1 : (Jvm.Cond.methodLink own i Lib.objectInit).before a0 Z = true) (w2 : (Jvm.Cond.instanceMethod Lib.objectInit).before a0 Z = true) (w3 : (Jvm.Cond.code Lib.objectInit ⟨#[0xb1]⟩ 1 none).before a0 Z = true) (hsz : Ls.size = maxL) (hf : 1 ≤ R.frames) (hW : (st.map fun v => v.category).sum ≤ W) (hl : W + 12 ≤ R.locals)
    (H : G p l e R s m args below meth c Z.heap.size Q h k n pc' Ls st) : G p l e R s m args below meth c Z.heap.size Q h k n pc Ls (.ref a :: st) := by
  obtain ⟨hx, hZ, hown, rfl, hml, hret, hnm, -⟩ := cx
  obtain ⟨d, rfl⟩ := d
  intro T locs cells slots X N eT hk hn
  obtain ⟨T', X', e', stp⟩ := initO X hx hZ hown w1 w2 w3 eT (g := mkF m pc Ls (.ref a :: st)) rfl (by rw [hml]; exact hsz) rfl d hf (W := W) (by show 2 * 0 + _ ≤ _; omega) hl
  obtain ⟨s₂, o, st2, r⟩ := H T' locs cells slots X' N e' hk hn
  exact ⟨s₂, o, stp _ st2, r⟩
theorem own_dummy : True := trivial
theorem g_static {kx nx : Nat} (cx : Cx Z p s m meth c R kx nx own nm code maxL ret) {i W k' n' maxL' : Nat} {bytes : ByteArray} {ret' : Option FieldType} {rm : Room} {argsL : List Value} {Q' : Option Value → Heap → Prop} {y : MethodName} (d : Dc code pc (.invokestatic i) 3 pc') (w1 : (Jvm.Cond.methodLink own i y).before a0 Z = true) (w2 : (Jvm.Cond.static y).before a0 Z = true) (w3 : (Jvm.Cond.initialized y.cls).before a0 Z = true) (w4 : (Jvm.Cond.code y bytes maxL' ret').before a0 Z = true) (hy : y.cls ≠ "java/lang/invoke/MethodHandle" ∧ y.cls ≠ "java/lang/invoke/VarHandle") (M : Met l Z y bytes maxL' ret' rm argsL.toArray h Q') (hsz : Ls.size = maxL) (hlen : ∀ sig, parseMethodDescriptor y.desc = some sig → argsL.length = sig.parameters.length) (hf : rm.frames + 1 ≤ R.frames) (hW : (rest.map fun v => v.category).sum ≤ W) (hl : W + (maxL' + 11) + rm.locals ≤ R.locals) (hk1 : k + rm.cells = k') (hn1 : n + rm.slots = n') (hkR : k' ≤ R.cells) (hnR : n' ≤ R.slots)
    (hst : st = argsL.reverse ++ rest) (H : ∀ v h', Q' v h' → G p l e R s m args below meth c Z.heap.size Q h' k' n' pc' Ls (v.toList ++ rest)) : G p l e R s m args below meth c Z.heap.size Q h k n pc Ls st := by
  obtain ⟨hx, hZ, hown, rfl, hml, hret, hnm, -⟩ := cx
  obtain ⟨d, rfl⟩ := d
  subst hk1 hn1 hst
  intro T locs cells slots X N eT hk hn
  obtain ⟨v, _, ⟨T', L', k1', n1'⟩, -, X', ⟨Lc, hQ, l1, l2, l3⟩, stp⟩ := Jvm.LawKit.callS X hx (y := y) hown (mvT hZ w1) (mvT hZ w2) (mvT hZ w3) (mvT hZ w4) hy (backOf (W := W) (Q := fun v h L => Q' v h ∧ Fr Z.heap.size L) (M []) hZ w4 w3 hf hl) (g := mkF m pc Ls (argsL.reverse ++ rest)) rfl (by rw [hml]; exact hsz)  (argsL := argsL) (rest := rest) hlen rfl (by show 2 * 0 + _ ≤ _; omega) d (fun _ _ => ⟨rfl, eT, (by show cells + rm.cells ≤ _; omega), (by show slots + rm.slots ≤ _; omega)⟩)
  dsimp only [Pt.U, Pt.locs, Pt.cells, Pt.slots] at X' l1 l2 l3 stp hQ
  subst l1 l2 l3
  obtain ⟨s₂, o, st2, r⟩ := H v T'.heap hQ.1 T' _ _ _ X' (Fr.app N hQ.2) rfl (by omega) (by omega)
  exact ⟨s₂, o, stp _ st2, r⟩
theorem g_special {kx nx : Nat} (cx : Cx Z p s m meth c R kx nx own nm code maxL ret) {i W k' n' maxL' : Nat} {bytes : ByteArray} {ret' : Option FieldType} {rm : Room} {argsL : List Value} {Q' : Option Value → Heap → Prop} {y : MethodName} {a : Addr} (d : Dc code pc (.invokespecial i) 3 pc') (hyn : y.name = "<init>") (hr0 : ret' = none) (w1 : (Jvm.Cond.methodLink own i y).before a0 Z = true) (w2 : (Jvm.Cond.instanceMethod y).before a0 Z = true) (w3 : (Jvm.Cond.initialized y.cls).before a0 Z = true) (w4 : (Jvm.Cond.code y bytes maxL' ret').before a0 Z = true) (hy : y.cls ≠ "java/lang/invoke/MethodHandle" ∧ y.cls ≠ "java/lang/invoke/VarHandle") (M : Met l Z y bytes maxL' ret' rm (.ref a :: argsL).toArray h Q') (hsz : Ls.size = maxL) (hlen : ∀ sig, parseMethodDescriptor y.desc = some sig → argsL.length = sig.parameters.length) (hf : rm.frames + 1 ≤ R.frames) (hW : (rest.map fun v => v.category).sum ≤ W) (hl : W + (maxL' + 11) + rm.locals ≤ R.locals) (hk1 : k + rm.cells = k') (hn1 : n + rm.slots = n') (hkR : k' ≤ R.cells) (hnR : n' ≤ R.slots)
    (hst : st = argsL.reverse ++ .ref a :: rest) (H : ∀ v h', Q' v h' → G p l e R s m args below meth c Z.heap.size Q h' k' n' pc' Ls (v.toList ++ rest)) : G p l e R s m args below meth c Z.heap.size Q h k n pc Ls st := by
  obtain ⟨hx, hZ, hown, rfl, hml, hret, hnm, -⟩ := cx
  obtain ⟨d, rfl⟩ := d
  subst hk1 hn1 hst
  intro T locs cells slots X N eT hk hn
  subst hr0
  obtain ⟨v, _, ⟨T', L', k1', n1'⟩, -, X', ⟨Lc, hQ, l1, l2, l3⟩, stp⟩ := X.specialBack hx (y := y) hyn hown (mvT hZ w1) (mvT hZ w2) (mvT hZ w4) hy (backOf (W := W) (Q := fun v h L => Q' v h ∧ Fr Z.heap.size L) (M []) hZ w4 w3 hf hl) (g := mkF m pc Ls (argsL.reverse ++ .ref a :: rest)) rfl (by rw [hml]; exact hsz) (Steps.refl _) (a := a) (argsL := argsL) (rest := rest) hlen rfl (by show 2 * 0 + _ ≤ _; omega) d (fun _ _ => ⟨rfl, eT, (by show cells + rm.cells ≤ _; omega), (by show slots + rm.slots ≤ _; omega)⟩)
  dsimp only [Pt.U, Pt.locs, Pt.cells, Pt.slots] at X' l1 l2 l3 stp hQ
  subst l1 l2 l3
  obtain ⟨s₂, o, st2, r⟩ := H v T'.heap hQ.1 T' _ _ _ X' (Fr.app N hQ.2) rfl (by omega) (by omega)
  exact ⟨s₂, o, stp.trans st2, r⟩
theorem g_virtual {kx nx : Nat} (cx : Cx Z p s m meth c R kx nx own nm code maxL ret) {i W k' n' maxL' : Nat} {bytes : ByteArray} {ret' : Option FieldType} {rm : Room} {argsL : List Value} {Q' : Option Value → Heap → Prop} {y z : MethodName} {a : Addr} {C : String} (d : Dc code pc (.invokevirtual i) 3 pc') (w1 : (Jvm.Cond.methodLink own i y).before a0 Z = true) (w2 : (Jvm.Cond.declares y).before a0 Z = true) (w3 : (Jvm.Cond.initialized z.cls).before a0 Z = true) (w4 : (Jvm.Cond.code z bytes maxL' ret').before a0 Z = true) (w5 : (Jvm.Cond.selects C y z).before a0 Z = true) (w6 : (Jvm.Cond.instanceMethod z).before a0 Z = true) (hnf : y = z) (hy : y.cls ≠ "java/lang/invoke/MethodHandle" ∧ y.cls ≠ "java/lang/invoke/VarHandle") (E : Exa Z h a C) (M : Met l Z z bytes maxL' ret' rm (.ref a :: argsL).toArray h Q') (hsz : Ls.size = maxL) (hlen : ∀ sig, parseMethodDescriptor y.desc = some sig → argsL.length = sig.parameters.length) (hf : rm.frames + 1 ≤ R.frames) (hW : (rest.map fun v => v.category).sum ≤ W) (hl : W + (maxL' + 11) + rm.locals ≤ R.locals) (hk1 : k + rm.cells = k') (hn1 : n + rm.slots = n') (hkR : k' ≤ R.cells) (hnR : n' ≤ R.slots)
    (hst : st = argsL.reverse ++ .ref a :: rest) (H : ∀ v h', Q' v h' → G p l e R s m args below meth c Z.heap.size Q h' k' n' pc' Ls (v.toList ++ rest)) : G p l e R s m args below meth c Z.heap.size Q h k n pc Ls st := by
  obtain ⟨hx, hZ, hown, rfl, hml, hret, hnm, -⟩ := cx
  obtain ⟨d, rfl⟩ := d
  subst hk1 hn1 hst
  intro T locs cells slots X N eT hk hn
  subst hnf
  obtain ⟨cq, kq, q1, q2, q3⟩ := isOf hZ eT E
  obtain ⟨v, _, ⟨T', L', k1', n1'⟩, -, X', ⟨Lc, hQ, l1, l2, l3⟩, stp⟩ := X.virtualBack hx (y := y) (z := y) hown (mvT hZ w1) (mvT hZ w2) (notFace_of_selects (args := #[]) (mvT hZ w5)) (mvT hZ w5) (mvT hZ w6) hy (backOf (W := W) (Q := fun v h L => Q' v h ∧ Fr Z.heap.size L) (M []) hZ w4 w3 hf hl) q1 q3 (g := mkF m pc Ls (argsL.reverse ++ .ref a :: rest)) rfl (by rw [hml]; exact hsz) (Steps.refl _) (argsL := argsL) (rest := rest) hlen rfl (by show 2 * 0 + _ ≤ _; omega) d (fun _ _ => ⟨rfl, eT, (by show cells + rm.cells ≤ _; omega), (by show slots + rm.slots ≤ _; omega)⟩)
  dsimp only [Pt.U, Pt.locs, Pt.cells, Pt.slots] at X' l1 l2 l3 stp hQ
  subst l1 l2 l3
  obtain ⟨s₂, o, st2, r⟩ := H v T'.heap hQ.1 T' _ _ _ X' (Fr.app N hQ.2) rfl (by omega) (by omega)
  exact ⟨s₂, o, stp.trans st2, r⟩
theorem g_private {kx nx : Nat} (cx : Cx Z p s m meth c R kx nx own nm code maxL ret) {i W k' n' maxL' : Nat} {bytes : ByteArray} {ret' : Option FieldType} {rm : Room} {argsL : List Value} {Q' : Option Value → Heap → Prop} {y : MethodName} {a : Addr} (d : Dc code pc (.invokevirtual i) 3 pc') (w1 : (Jvm.Cond.methodLink own i y).before a0 Z = true) (w2 : (Jvm.Cond.instanceMethod y).before a0 Z = true) (w3 : (Jvm.Cond.initialized y.cls).before a0 Z = true) (w4 : (Jvm.Cond.code y bytes maxL' ret').before a0 Z = true) (w5 : (Jvm.Cond.selects y.cls y y).before a0 Z = true) (w6 : (Jvm.Cond.privateMethod y).before a0 Z = true) (hy : y.cls ≠ "java/lang/invoke/MethodHandle" ∧ y.cls ≠ "java/lang/invoke/VarHandle") {C : String} (E : Exa Z h a C) (M : Met l Z y bytes maxL' ret' rm (.ref a :: argsL).toArray h Q') (hsz : Ls.size = maxL) (hlen : ∀ sig, parseMethodDescriptor y.desc = some sig → argsL.length = sig.parameters.length) (hf : rm.frames + 1 ≤ R.frames) (hW : (rest.map fun v => v.category).sum ≤ W) (hl : W + (maxL' + 11) + rm.locals ≤ R.locals) (hk1 : k + rm.cells = k') (hn1 : n + rm.slots = n') (hkR : k' ≤ R.cells) (hnR : n' ≤ R.slots)
    (hst : st = argsL.reverse ++ .ref a :: rest) (H : ∀ v h', Q' v h' → G p l e R s m args below meth c Z.heap.size Q h' k' n' pc' Ls (v.toList ++ rest)) : G p l e R s m args below meth c Z.heap.size Q h k n pc Ls st := by
  obtain ⟨hx, hZ, hown, rfl, hml, hret, hnm, -⟩ := cx
  obtain ⟨d, rfl⟩ := d
  subst hk1 hn1 hst
  intro T locs cells slots X N eT hk hn
  obtain ⟨cq, q1, q2⟩ := E.cell
  obtain ⟨v, _, ⟨T', L', k1', n1'⟩, -, X', ⟨Lc, hQ, l1, l2, l3⟩, stp⟩ := X.privateBack hx (y := y) hown (mvT hZ w1) (mvT hZ w2) (mvT hZ w5) (Cond.privateMethod_at (mvP hZ w6 (args := #[]))) (mvT hZ w4) hy (backOf (W := W) (Q := fun v h L => Q' v h ∧ Fr Z.heap.size L) (M []) hZ w4 w3 hf hl) (g := mkF m pc Ls (argsL.reverse ++ .ref a :: rest)) rfl (by rw [hml]; exact hsz) (Steps.refl _) (a := a) (by rw [eT]; exact q1) q2 (argsL := argsL) (rest := rest) hlen rfl (by show 2 * 0 + _ ≤ _; omega) d (fun _ _ => ⟨rfl, eT, (by show cells + rm.cells ≤ _; omega), (by show slots + rm.slots ≤ _; omega)⟩)
  dsimp only [Pt.U, Pt.locs, Pt.cells, Pt.slots] at X' l1 l2 l3 stp hQ
  subst l1 l2 l3
  obtain ⟨s₂, o, st2, r⟩ := H v T'.heap hQ.1 T' _ _ _ X' (Fr.app N hQ.2) rfl (by omega) (by omega)
  exact ⟨s₂, o, stp.trans st2, r⟩
theorem g_virtualUp {kx nx : Nat} (cx : Cx Z p s m meth c R kx nx own nm code maxL ret) {i W k' n' maxL' : Nat} {bytes : ByteArray} {ret' : Option FieldType} {rm : Room} {argsL : List Value} {Q' : Option Value → Heap → Prop} {x y : MethodName} {a : Addr} {C owner : String} (d : Dc code pc (.invokevirtual i) 3 pc') (w1 : (Jvm.Cond.methodLink own i x).before a0 Z = true) (w0 : (Jvm.Cond.sameMethod x.cls owner x.name x.desc).before a0 Z = true) (w2 : (Jvm.Cond.declares ⟨owner, x.name, x.desc⟩).before a0 Z = true) (w3 : (Jvm.Cond.initialized y.cls).before a0 Z = true) (w4 : (Jvm.Cond.code y bytes maxL' ret').before a0 Z = true) (w5 : (Jvm.Cond.selects C x y).before a0 Z = true) (w6 : (Jvm.Cond.instanceMethod y).before a0 Z = true) (hy : owner ≠ "java/lang/invoke/MethodHandle" ∧ owner ≠ "java/lang/invoke/VarHandle") (E : Exa Z h a C) (M : Met l Z y bytes maxL' ret' rm (.ref a :: argsL).toArray h Q') (hsz : Ls.size = maxL) (hlen : ∀ sig, parseMethodDescriptor x.desc = some sig → argsL.length = sig.parameters.length) (hf : rm.frames + 1 ≤ R.frames) (hW : (rest.map fun v => v.category).sum ≤ W) (hl : W + (maxL' + 11) + rm.locals ≤ R.locals) (hk1 : k + rm.cells = k') (hn1 : n + rm.slots = n') (hkR : k' ≤ R.cells) (hnR : n' ≤ R.slots)
    (hst : st = argsL.reverse ++ .ref a :: rest) (H : ∀ v h', Q' v h' → G p l e R s m args below meth c Z.heap.size Q h' k' n' pc' Ls (v.toList ++ rest)) : G p l e R s m args below meth c Z.heap.size Q h k n pc Ls st := by
  obtain ⟨hx, hZ, hown, rfl, hml, hret, hnm, -⟩ := cx
  obtain ⟨d, rfl⟩ := d
  subst hk1 hn1 hst
  intro T locs cells slots X N eT hk hn
  obtain ⟨cq, kq, q1, q2, q3⟩ := isOf hZ eT E
  obtain ⟨v, _, ⟨T', L', k1', n1'⟩, -, X', ⟨Lc, hQ, l1, l2, l3⟩, stp⟩ := X.virtualBackUp hx (x := x) (y := y) hown (mvT hZ w1) (mvT hZ w0) (mvT hZ w2) hy (mvT hZ w5) (mvT hZ w6) (backOf (W := W) (Q := fun v h L => Q' v h ∧ Fr Z.heap.size L) (M []) hZ w4 w3 hf hl) q1 q3 (g := mkF m pc Ls (argsL.reverse ++ .ref a :: rest)) rfl (by rw [hml]; exact hsz) (Steps.refl _) (argsL := argsL) (rest := rest) hlen rfl (by show 2 * 0 + _ ≤ _; omega) d (fun _ _ => ⟨rfl, eT, (by show cells + rm.cells ≤ _; omega), (by show slots + rm.slots ≤ _; omega)⟩)
  dsimp only [Pt.U, Pt.locs, Pt.cells, Pt.slots] at X' l1 l2 l3 stp hQ
  subst l1 l2 l3
  obtain ⟨s₂, o, st2, r⟩ := H v T'.heap hQ.1 T' _ _ _ X' (Fr.app N hQ.2) rfl (by omega) (by omega)
  exact ⟨s₂, o, stp.trans st2, r⟩
theorem specialRef {T : State} {locs : List Loc} {cells slots : Nat} (X : Stand p l e R s m args below meth c T locs cells slots) (hexec : p.tables.exec = Jvm.exec) (hZ : Z.Warmed39 s.vm) {index : Nat} {y : MethodName} (hy1 : y.name = "<init>") (hown : s.vm.findClass own = some m.cls)
    (href : (Jvm.Cond.methodRef own index y).before a0 Z = true) (hinst : (Jvm.Cond.instanceMethod y).before a0 Z = true) {bytes : ByteArray} {mL : Nat} (hcode : (Jvm.Cond.code y bytes mL none).before a0 Z = true) (hy : y.cls ≠ "java/lang/invoke/MethodHandle" ∧ y.cls ≠ "java/lang/invoke/VarHandle")
    {W : Nat} {Pre : Pt → Array Value → Prop} {Post : Pt → Array Value → Option Value → Pt → Prop} (hK : Back l R p e below s args y 3 W Pre Post)
    {g : JFrame} (hg : g.method = m) (hsize : g.locals.size = c.maxLocals) {a : Addr} {argsL rest : List Value}
    (hlen : ∀ sig, parseMethodDescriptor y.desc = some sig → argsL.length = sig.parameters.length) (hstack : g.stack = argsL.reverse ++ .ref a :: rest) (hW : 2 * g.monitorRoom + (rest.map fun v => v.category).sum ≤ W)
    (hdg : decode c.code g.pc = .ok (.invokespecial index, 3)) (hpre : Pre ⟨T, locs, cells, slots⟩ (.ref a :: argsL).toArray) :
    ∃ (v : Option Value) (B : Pt), Stand p l e R s m args below meth c B.U B.locs B.cells B.slots ∧ Post ⟨T, locs, cells, slots⟩ (.ref a :: argsL).toArray v B ∧
      Steps p.tables e below (T.setTop g) (B.U.setTop { g with pc := g.pc + 3, stack := v.toList ++ rest }) := by
  have hZT : Z.Warmed39 T.vm := wtrans hZ X.warmed
  have hinst' : (Jvm.Cond.instanceMethod y).before args s = true := mvT hZ hinst
  have hcode' : (Jvm.Cond.code y bytes mL none).before args s = true := mvT hZ hcode
  obtain ⟨obj, methO, hnO, hmO, hstO, habO⟩ := Cond.instanceMethod_spec hinst'
  obtain ⟨methO', cO, hmO', hcO, hbO, hlO, -, hlockO, -, hsigO⟩ := Cond.code_spec hnO hcode'
  cases hmO.symm.trans hmO'
  obtain ⟨kO, hkO, hnameO⟩ := className_of_methodNamed hnO
  obtain ⟨hnameMO, hdescO⟩ := name_of_methodNamed hnO hmO
  obtain ⟨objZ, _, hnZ, -⟩ := Cond.instanceMethod_spec hinst
  have hr : (Jvm.Cond.methodRef own index y).before a0 (Z.setVm T.vm) = true := Cond.methodRef_warmed39 hZT hnZ hy href
  have hownT : (Z.setVm T.vm).vm.findClass own = some m.cls := by show T.vm.findClass own = _; rw [X.warmed.alike.findClass]; exact hown
  obtain ⟨m', c', hm', hready, hfind, hnamed⟩ := Cond.methodRef_named e hownT hr
  have hf0 : s.methodFound? y.cls y.name y.desc = some obj := State.methodFound?_of_named hnO hy
  have hf1 : (s.setVm T.vm).methodFound? y.cls y.name y.desc = some obj := (State.methodFound?_setVm_of_named X.warmed.alike hnO hy).trans hf0
  have hf2 : (Z.setVm T.vm).methodFound? y.cls y.name y.desc = some obj := hf1
  cases hf2.symm.trans hm'
  have hcc : c' = obj.cls := by
    have h1 : T.vm.findClass y.cls = some c' := hfind
    rw [X.warmed.alike.findClass, findClass_of_methodNamed hnO] at h1
    exact (Option.some.inj h1).symm
  subst hcc
  obtain ⟨kO₂, hkO₂, heO₂⟩ := X.warmed.alike.2.2 _ _ hkO
  have hmO₂ : T.vm.method? obj = some methO := by rw [X.warmed.alike.method?]; exact hmO
  have hfound : lookupSpecial T.vm obj.cls "<init>" methO.desc = .method obj := by
    rw [X.warmed.alike.lookupSpecial, hdescO, ← hy1]; exact lookupSpecial_of_named hnO hmO hstO
  obtain ⟨v, B, X', hpost, hsteps⟩ := hK m meth c ⟨T, locs, cells, slots⟩ { g with stack := rest } (.invokespecial index) obj (.ref a :: argsL).toArray X hg hsize hdg hW (X.named hnO) hpre
  refine ⟨v, B, X', hpost, Steps.trans ?_ hsteps⟩
  subst hg
  jvm_step X.here [hexec, hdg, invokespecial.wp_init (e := e) (s := T) (k := kO₂) (meth := methO) (m := obj) (a := a) (args := argsL) (rest := rest) (f := g) X.here.top hnamed hready hkO₂ hmO₂ (by rw [hnameMO]; exact hy1) hstO habO hfound (hlen _ hsigO) hstack]
  intro acts
  rw [doInvoke_state]
  exact Steps.refl _
theorem g_specialRef {kx nx : Nat} (cx : Cx Z p s m meth c R kx nx own nm code maxL ret) {i W k' n' maxL' : Nat} {bytes : ByteArray} {ret' : Option FieldType} {rm : Room} {argsL : List Value} {Q' : Option Value → Heap → Prop} {y : MethodName} {a : Addr} (d : Dc code pc (.invokespecial i) 3 pc') (hyn : y.name = "<init>") (hr0 : ret' = none) (w1 : (Jvm.Cond.methodRef own i y).before a0 Z = true) (w2 : (Jvm.Cond.instanceMethod y).before a0 Z = true) (w3 : (Jvm.Cond.initialized y.cls).before a0 Z = true) (w4 : (Jvm.Cond.code y bytes maxL' ret').before a0 Z = true) (hy : y.cls ≠ "java/lang/invoke/MethodHandle" ∧ y.cls ≠ "java/lang/invoke/VarHandle") (M : Met l Z y bytes maxL' ret' rm (.ref a :: argsL).toArray h Q') (hsz : Ls.size = maxL) (hlen : ∀ sig, parseMethodDescriptor y.desc = some sig → argsL.length = sig.parameters.length) (hf : rm.frames + 1 ≤ R.frames) (hW : (rest.map fun v => v.category).sum ≤ W) (hl : W + (maxL' + 11) + rm.locals ≤ R.locals) (hk1 : k + rm.cells = k') (hn1 : n + rm.slots = n') (hkR : k' ≤ R.cells) (hnR : n' ≤ R.slots)
    (hst : st = argsL.reverse ++ .ref a :: rest) (H : ∀ v h', Q' v h' → G p l e R s m args below meth c Z.heap.size Q h' k' n' pc' Ls (v.toList ++ rest)) : G p l e R s m args below meth c Z.heap.size Q h k n pc Ls st := by
  obtain ⟨hx, hZ, hown, rfl, hml, hret, hnm, -⟩ := cx
  obtain ⟨d, rfl⟩ := d
  subst hk1 hn1 hst
  intro T locs cells slots X N eT hk hn
  subst hr0
  obtain ⟨v, ⟨T', L', k1', n1'⟩, X', ⟨Lc, hQ, l1, l2, l3⟩, stp⟩ := specialRef X hx hZ (y := y) hyn hown w1 w2 w4 hy (backOf (W := W) (Q := fun v h L => Q' v h ∧ Fr Z.heap.size L) (M []) hZ w4 w3 hf hl) (g := mkF m pc Ls (argsL.reverse ++ .ref a :: rest)) rfl (by rw [hml]; exact hsz) (a := a) (argsL := argsL) (rest := rest) hlen rfl (by show 2 * 0 + _ ≤ _; omega) d ⟨rfl, eT, (by show cells + rm.cells ≤ _; omega), (by show slots + rm.slots ≤ _; omega)⟩
  dsimp only [Pt.U, Pt.locs, Pt.cells, Pt.slots] at X' l1 l2 l3 stp hQ
  subst l1 l2 l3
  obtain ⟨s₂, o, st2, r⟩ := H v T'.heap hQ.1 T' _ _ _ X' (Fr.app N hQ.2) rfl (by omega) (by omega)
  exact ⟨s₂, o, stp.trans st2, r⟩
theorem g_lsw {kx nx : Nat} (cx : Cx Z p s m meth c R kx nx own nm code maxL ret) {x : Int32} {dflt : Int} {pairs : Array (Int × Int)} {len : Nat} (d : decode code pc = .ok (.lookupswitch dflt pairs, len)) (hs : (pairs.toList.zip (pairs.toList.drop 1)).all (fun (a, next) => a.1 < next.1) = true) {off : Int} (hf : ((pairs.find? (·.1 == x.toInt)).map (·.2)).getD dflt = off) (h0 : 0 ≤ (pc : Int) + off) (hp : ((pc : Int) + off).toNat = pc') (H : G p l e R s m args below meth c Z.heap.size Q h k n pc' Ls st) : G p l e R s m args below meth c Z.heap.size Q h k n pc Ls (.int x :: st) := by
  obtain ⟨hx, hZ, hown, rfl, hml, hret, hnm, -⟩ := cx
  subst hp
  intro T locs cells slots X N eT hk hn
  obtain ⟨s₂, o, st2, r⟩ := H T locs cells slots X N eT hk hn
  cases hq : pairs.find? (·.1 == x.toInt) with
  | none =>
    rw [hq] at hf
    have hf' : dflt = off := hf
    subst hf'
    exact ⟨s₂, o, X.lookupswitchMiss hx (g := mkF m pc Ls (.int x :: st)) rfl rfl d hs hq h0 _ st2, r⟩
  | some ao =>
    rw [hq] at hf
    have hf' : ao.2 = off := hf
    subst hf'
    exact ⟨s₂, o, X.lookupswitchHit hx (g := mkF m pc Ls (.int x :: st)) rfl rfl d hs (a := ao.1) (off := ao.2) hq h0 _ st2, r⟩
theorem lsw_miss {x : Int32} {dflt : Int} {pairs : Array (Int × Int)} (q : ∀ a ∈ pairs.toList, a.1 ≠ x.toInt) : ((pairs.find? (·.1 == x.toInt)).map (·.2)).getD dflt = dflt := by rw [find_miss q]; rfl
theorem g_aaloadR {kx nx : Nat} (cx : Cx Z p s m meth c R kx nx own nm code maxL ret) {a : Addr} {cl : Cell} {j : Int32} {v : Value} {ty : FieldType} (d : Dc code pc .aaload 1 pc') (A : Arr Z h a cl ty) (hty : ty.isReference = true) (hj : ¬ (j < 0 ∨ cl.slots.size ≤ j.toNatClampNeg)) (hv : cl.slots[j.toNatClampNeg]? = some v) (H : G p l e R s m args below meth c Z.heap.size Q h k n pc' Ls (v :: st)) : G p l e R s m args below meth c Z.heap.size Q h k n pc Ls (.int j :: .ref a :: st) := by
  obtain ⟨hx, hZ, hown, rfl, hml, hret, hnm, -⟩ := cx
  obtain ⟨d, rfl⟩ := d
  intro T locs cells slots X N eT hk hn
  obtain ⟨s₂, o, st2, r⟩ := H T _ cells slots X N eT hk hn
  exact ⟨s₂, o, X.aaload hx (j := j) (v := v) (by rw [eT]; exact A.1) (State.isArrayOf_alike hZ.alike A.2.1) hty A.2.2 hj hv (g := mkF m pc Ls (.int j :: .ref a :: st)) rfl rfl d _ st2, r⟩
theorem arr_len {t : Term} {a : Addr} {cl : Cell} {ty : FieldType} {z : Int32} (ev : t.eval args Z none [] Z = some (.ref a)) (A : Arr Z Z.heap a cl ty) (h3 : (Jvm.Cond.eq (.length t) (.int z)).value args Z none Z [] = some true) : cl.slots.size < 2 ^ 31 ∧ cl.slots.size.toInt32 = z := by
  have ex := eqv_i (F := .int z) rfl h3
  have A1 := A.fin (Vm.Alike.refl _)
  have hl : cl.slots.size < 2 ^ 31 := by
    refine Decidable.byContradiction fun hc => ?_
    simp [Term.eval, ev, A1, hc] at ex
  rw [len_f ev A1 hl] at ex
  exact ⟨hl, by simpa using ex⟩
theorem sta_arr {C f d : String} {ty : FieldType} {z : Int32} (hi : (Jvm.Cond.initializedFor C f d).before args Z = true ∨ ((Jvm.Cond.initialized C).before args Z = true ∧ (Jvm.Cond.laysStatic C f d).before args Z = true)) (h1 : (Jvm.Cond.arrayOf (.static C f d) ty).value args Z none Z [] = some true) (h3 : (Jvm.Cond.eq (.length (.static C f d)) (.int z)).value args Z none Z [] = some true) :
    ∃ a cl, Sta Z Z.heap C f d (.ref a) ∧ (Term.static C f d).eval args Z none [] Z = some (.ref a) ∧ Arr Z Z.heap a cl ty ∧ cl.slots.size < 2 ^ 31 ∧ cl.slots.size.toInt32 = z := by
  obtain ⟨a, ev⟩ := arr_v h1
  obtain ⟨cl, A⟩ := Arr.start ev h1
  obtain ⟨q1, q2⟩ := arr_len ev A h3
  exact ⟨a, cl, Sta.start ev hi, ev, A, q1, q2⟩
theorem fld_exa {t : Term} {C f d K : String} {a : Addr} (ev : t.eval args Z none [] Z = some (.ref a)) (h : (Jvm.Cond.exactly (.field t C f d) K).value args Z none Z [] = some true) : ∃ b, Fld Z Z.heap a C f d (.ref b) ∧ Exa Z Z.heap b K ∧ (Term.field t C f d).eval args Z none [] Z = some (.ref b) := by
  obtain ⟨b, eb⟩ := exa_v h
  exact ⟨b, Fld.start ((fld_at ev).symm.trans eb), Exa.start eb h, eb⟩
theorem fld_arr {t : Term} {C f d : String} {a : Addr} {ty : FieldType} {z : Int32} (ev : t.eval args Z none [] Z = some (.ref a)) (h : (Jvm.Cond.arrayOf (.field t C f d) ty).value args Z none Z [] = some true) (h3 : (Jvm.Cond.eq (.length (.field t C f d)) (.int z)).value args Z none Z [] = some true) : ∃ b cl, Fld Z Z.heap a C f d (.ref b) ∧ (Term.field t C f d).eval args Z none [] Z = some (.ref b) ∧ Arr Z Z.heap b cl ty ∧ cl.slots.size < 2 ^ 31 ∧ cl.slots.size.toInt32 = z := by
  obtain ⟨b, eb⟩ := arr_v h
  obtain ⟨cl, A⟩ := Arr.start eb h
  obtain ⟨q1, q2⟩ := arr_len eb A h3
  exact ⟨b, cl, Fld.start ((fld_at ev).symm.trans eb), eb, A, q1, q2⟩
theorem elem_eq {t : Term} {a : Addr} {cl : Cell} {ty : FieldType} {j v : Int32} (ev : t.eval args Z none [] Z = some (.ref a)) (A : Arr Z Z.heap a cl ty) (h : (Jvm.Cond.eq (.elem t (.int j)) (.int v)).value args Z none Z [] = some true) : cl.slots[j.toNatClampNeg]? = some (.int v) := (elem_in (eqv_i (F := .int v) rfl h) ev rfl A.1).2
theorem own_selpriv {y : MethodName} {sl : Nat} (hins : (Jvm.Cond.instantiable y.cls sl).before a0 Z = true) (hpriv : (Jvm.Cond.privateMethod y).before a0 Z = true) (hinst : (Jvm.Cond.instanceMethod y).before a0 Z = true) (hy : y.cls ≠ "java/lang/invoke/MethodHandle" ∧ y.cls ≠ "java/lang/invoke/VarHandle") : (Jvm.Cond.selects y.cls y y).before a0 Z = true := by
  obtain ⟨c, k, hc, hk, -, hniab, -, -⟩ := Cond.instantiable_spec hins
  have hni : k.isInterface = false := (Bool.or_eq_false_iff.mp hniab).1
  obtain ⟨mk, methM, hnamed, hmethM, -, -⟩ := Cond.instanceMethod_spec hinst
  have hfound : Z.methodFound? y.cls y.name y.desc = some mk := State.methodFound?_of_named hnamed hy
  have hcls : mk.cls = c := Option.some.inj ((findClass_of_methodNamed hnamed).symm.trans hc)
  have hsel : selectMethod {} Z.vm c mk = .method mk := selectMethod_private hmethM (Cond.privateMethod_at hpriv mk methM hnamed hmethM)
  simp only [Cond.before, Cond.holds, Cond.value, hc, hfound, hnamed, hsel, hcls, hk]
  simp; exact hni
theorem nar1 : nar .boolean 1 = 1 := rfl
theorem nar0 : nar .boolean 0 = 0 := rfl
theorem sta_exa {C f d K : String} (hx : (Jvm.Cond.exactly (.static C f d) K).value args Z none Z [] = some true) (wi : (Jvm.Cond.initialized C).before args Z = true) (wl : (Jvm.Cond.laysStatic C f d).before args Z = true) : ∃ a, Sta Z Z.heap C f d (.ref a) ∧ Exa Z Z.heap a K ∧ (Term.static C f d).eval args Z none [] Z = some (.ref a) := by
  obtain ⟨a, ev⟩ := exa_v hx
  exact ⟨a, Sta.start ev (Or.inr ⟨wi, wl⟩), Exa.start ev hx, ev⟩
theorem fld_eq {t : Term} {C f d : String} {a : Addr} {v : Int32} (ev : t.eval args Z none [] Z = some (.ref a)) (h : (Jvm.Cond.eq (.field t C f d) (.int v)).value args Z none Z [] = some true) : Fld Z Z.heap a C f d (.int v) := by
  obtain ⟨x, y, ex, ey, -, k2⟩ := cmp_v (Or.inl h)
  have e2 : y = .int v := by simpa [Term.eval] using ey.symm
  subst e2
  obtain ⟨z, rfl⟩ := k2
  have hz : z = v := by simpa [Cond.value, ex, ey] using h
  subst hz
  rw [fld_at ev] at ex
  exact Fld.start ex
theorem sta_int {C f d : String} (hi : (Jvm.Cond.initializedFor C f d).before args Z = true) (h1 : (Jvm.Cond.isInt (.static C f d)).before args Z = true) : ∃ v, Sta Z Z.heap C f d (.int v) ∧ (Term.static C f d).eval args Z none [] Z = some (.int v) := by
  obtain ⟨v, ev⟩ := is_v (Cond.before_iff.mp h1)
  exact ⟨v, Sta.start ev (Or.inl hi), ev⟩
theorem ne_of_not {t : Term} {z v : Int32} (ev : t.eval args Z none [] Z = some (.int z)) (h : (Jvm.Cond.not (.eq t (.int v))).before args Z = true) : ¬ z = v := by
  have h2 := not_v (Cond.before_iff.mp h)
  intro q
  subst q
  simp [Cond.value, ev, Term.eval] at h2
theorem own_lrem (x y : Int64) (d : Int) (hy : y.toInt = d) : (0 ≤ x.toInt → (x % y).toInt = x.toInt % d) ∧ (x.toInt < 0 → (x % y).toInt = -((-x.toInt) % d)) := by
  rw [← lrem_mod]; exact c_lrem x y d hy
end Walk
def ObP (Z : State) (h : Heap) (a : Addr) (v1 v2 v3 v4 v5 v6 v7 v8 : Value) : Prop := Exa Z h a "com/example/thalweg/thalweg/node/Pace" ∧ Fld Z h a "com/example/thalweg/thalweg/node/Pace" "onTheWay" "Ljava/util/ArrayDeque;" v1 ∧ Fld Z h a "com/example/thalweg/thalweg/node/Pace" "samples" "Ljava/util/ArrayDeque;" v2 ∧ Fld Z h a "com/example/thalweg/thalweg/node/Pace" "sampleBytes" "J" v3 ∧ Fld Z h a "com/example/thalweg/thalweg/node/Pace" "busySinceNs" "J" v4 ∧ Fld Z h a "com/example/thalweg/thalweg/node/Pace" "bytes" "J" v5 ∧ Fld Z h a "com/example/thalweg/thalweg/node/Pace" "written" "J" v6 ∧ Fld Z h a "com/example/thalweg/thalweg/node/Pace" "taken" "J" v7 ∧ Fld Z h a "com/example/thalweg/thalweg/node/Pace" "sampleBusyNs" "J" v8
theorem ObP.ext {h' : Heap} {Z : State} {h : Heap} {a : Addr} {v1 v2 v3 v4 v5 v6 v7 v8 : Value} (F : ObP Z h a v1 v2 v3 v4 v5 v6 v7 v8) (E : Ext h h') : ObP Z h' a v1 v2 v3 v4 v5 v6 v7 v8 := ⟨F.1.ext E, F.2.1.ext E, F.2.2.1.ext E, F.2.2.2.1.ext E, F.2.2.2.2.1.ext E, F.2.2.2.2.2.1.ext E, F.2.2.2.2.2.2.1.ext E, F.2.2.2.2.2.2.2.1.ext E, F.2.2.2.2.2.2.2.2.ext E⟩
theorem ObP.keep {h' : Heap} {Z : State} {h : Heap} {a : Addr} {v1 v2 v3 v4 v5 v6 v7 v8 : Value} {ws : List Addr} (F : ObP Z h a v1 v2 v3 v4 v5 v6 v7 v8) (K : Keep h h' ws) (q : a ∉ ws) : ObP Z h' a v1 v2 v3 v4 v5 v6 v7 v8 := ⟨F.1.keep K, F.2.1.keep K q, F.2.2.1.keep K q, F.2.2.2.1.keep K q, F.2.2.2.2.1.keep K q, F.2.2.2.2.2.1.keep K q, F.2.2.2.2.2.2.1.keep K q, F.2.2.2.2.2.2.2.1.keep K q, F.2.2.2.2.2.2.2.2.keep K q⟩
theorem ObP.oth {x : Addr} {sl : Nat} {w : Value} {h' : Heap} {Z : State} {h : Heap} {a : Addr} {v1 v2 v3 v4 v5 v6 v7 v8 : Value} (F : ObP Z h a v1 v2 v3 v4 v5 v6 v7 v8) (W : Wr h h' x sl w) (q : a ≠ x) : ObP Z h' a v1 v2 v3 v4 v5 v6 v7 v8 := ⟨F.1.wr W, F.2.1.other W (Or.inl q), F.2.2.1.other W (Or.inl q), F.2.2.2.1.other W (Or.inl q), F.2.2.2.2.1.other W (Or.inl q), F.2.2.2.2.2.1.other W (Or.inl q), F.2.2.2.2.2.2.1.other W (Or.inl q), F.2.2.2.2.2.2.2.1.other W (Or.inl q), F.2.2.2.2.2.2.2.2.other W (Or.inl q)⟩
theorem ObP.lt {Z : State} {h : Heap} {a : Addr} {v1 v2 v3 v4 v5 v6 v7 v8 : Value} (F : ObP Z h a v1 v2 v3 v4 v5 v6 v7 v8) : a < h.size := F.1.lt
theorem ObP.put1 {v : Value} {h' : Heap} {Z : State} {h : Heap} {a : Addr} {v1 v2 v3 v4 v5 v6 v7 v8 : Value} {a0 : Array Value} (hw : ∀ d ∈ tables_1, d.before a0 Z = true) (F : ObP Z h a v1 v2 v3 v4 v5 v6 v7 v8) (W : Wr h h' a (Jvm.RoadKit.slotOf Z "com/example/thalweg/thalweg/node/Pace" "onTheWay" "Ljava/util/ArrayDeque;") v) : ObP Z h' a v v2 v3 v4 v5 v6 v7 v8 := ⟨F.1.wr W, F.2.1.same W, F.2.2.1.other W (Or.inr (slot_ne (Or.inr (hw _ (List.mem_of_getElem? (i := 30) rfl))) (Or.inr (hw _ (List.mem_of_getElem? (i := 28) rfl))) (by decide) (t := (.object "java/util/ArrayDeque")) (t' := (.object "java/util/ArrayDeque")) (by decide) (by decide))), F.2.2.2.1.other W (Or.inr (slot_ne (Or.inl (hw _ (List.mem_of_getElem? (i := 37) rfl))) (Or.inr (hw _ (List.mem_of_getElem? (i := 28) rfl))) (by decide) (t := .long) (t' := (.object "java/util/ArrayDeque")) (by decide) (by decide))), F.2.2.2.2.1.other W (Or.inr (slot_ne (Or.inl (hw _ (List.mem_of_getElem? (i := 53) rfl))) (Or.inr (hw _ (List.mem_of_getElem? (i := 28) rfl))) (by decide) (t := .long) (t' := (.object "java/util/ArrayDeque")) (by decide) (by decide))), F.2.2.2.2.2.1.other W (Or.inr (slot_ne (Or.inl (hw _ (List.mem_of_getElem? (i := 65) rfl))) (Or.inr (hw _ (List.mem_of_getElem? (i := 28) rfl))) (by decide) (t := .long) (t' := (.object "java/util/ArrayDeque")) (by decide) (by decide))), F.2.2.2.2.2.2.1.other W (Or.inr (slot_ne (Or.inl (hw _ (List.mem_of_getElem? (i := 67) rfl))) (Or.inr (hw _ (List.mem_of_getElem? (i := 28) rfl))) (by decide) (t := .long) (t' := (.object "java/util/ArrayDeque")) (by decide) (by decide))), F.2.2.2.2.2.2.2.1.other W (Or.inr (slot_ne (Or.inl (hw _ (List.mem_of_getElem? (i := 74) rfl))) (Or.inr (hw _ (List.mem_of_getElem? (i := 28) rfl))) (by decide) (t := .long) (t' := (.object "java/util/ArrayDeque")) (by decide) (by decide))), F.2.2.2.2.2.2.2.2.other W (Or.inr (slot_ne (Or.inl (hw _ (List.mem_of_getElem? (i := 125) rfl))) (Or.inr (hw _ (List.mem_of_getElem? (i := 28) rfl))) (by decide) (t := .long) (t' := (.object "java/util/ArrayDeque")) (by decide) (by decide)))⟩
theorem ObP.put2 {v : Value} {h' : Heap} {Z : State} {h : Heap} {a : Addr} {v1 v2 v3 v4 v5 v6 v7 v8 : Value} {a0 : Array Value} (hw : ∀ d ∈ tables_1, d.before a0 Z = true) (F : ObP Z h a v1 v2 v3 v4 v5 v6 v7 v8) (W : Wr h h' a (Jvm.RoadKit.slotOf Z "com/example/thalweg/thalweg/node/Pace" "samples" "Ljava/util/ArrayDeque;") v) : ObP Z h' a v1 v v3 v4 v5 v6 v7 v8 := ⟨F.1.wr W, F.2.1.other W (Or.inr (slot_ne (Or.inr (hw _ (List.mem_of_getElem? (i := 28) rfl))) (Or.inr (hw _ (List.mem_of_getElem? (i := 30) rfl))) (by decide) (t := (.object "java/util/ArrayDeque")) (t' := (.object "java/util/ArrayDeque")) (by decide) (by decide))), F.2.2.1.same W, F.2.2.2.1.other W (Or.inr (slot_ne (Or.inl (hw _ (List.mem_of_getElem? (i := 37) rfl))) (Or.inr (hw _ (List.mem_of_getElem? (i := 30) rfl))) (by decide) (t := .long) (t' := (.object "java/util/ArrayDeque")) (by decide) (by decide))), F.2.2.2.2.1.other W (Or.inr (slot_ne (Or.inl (hw _ (List.mem_of_getElem? (i := 53) rfl))) (Or.inr (hw _ (List.mem_of_getElem? (i := 30) rfl))) (by decide) (t := .long) (t' := (.object "java/util/ArrayDeque")) (by decide) (by decide))), F.2.2.2.2.2.1.other W (Or.inr (slot_ne (Or.inl (hw _ (List.mem_of_getElem? (i := 65) rfl))) (Or.inr (hw _ (List.mem_of_getElem? (i := 30) rfl))) (by decide) (t := .long) (t' := (.object "java/util/ArrayDeque")) (by decide) (by decide))), F.2.2.2.2.2.2.1.other W (Or.inr (slot_ne (Or.inl (hw _ (List.mem_of_getElem? (i := 67) rfl))) (Or.inr (hw _ (List.mem_of_getElem? (i := 30) rfl))) (by decide) (t := .long) (t' := (.object "java/util/ArrayDeque")) (by decide) (by decide))), F.2.2.2.2.2.2.2.1.other W (Or.inr (slot_ne (Or.inl (hw _ (List.mem_of_getElem? (i := 74) rfl))) (Or.inr (hw _ (List.mem_of_getElem? (i := 30) rfl))) (by decide) (t := .long) (t' := (.object "java/util/ArrayDeque")) (by decide) (by decide))), F.2.2.2.2.2.2.2.2.other W (Or.inr (slot_ne (Or.inl (hw _ (List.mem_of_getElem? (i := 125) rfl))) (Or.inr (hw _ (List.mem_of_getElem? (i := 30) rfl))) (by decide) (t := .long) (t' := (.object "java/util/ArrayDeque")) (by decide) (by decide)))⟩
theorem ObP.put3 {v : Value} {h' : Heap} {Z : State} {h : Heap} {a : Addr} {v1 v2 v3 v4 v5 v6 v7 v8 : Value} {a0 : Array Value} (hw : ∀ d ∈ tables_1, d.before a0 Z = true) (F : ObP Z h a v1 v2 v3 v4 v5 v6 v7 v8) (W : Wr h h' a (Jvm.RoadKit.slotOf Z "com/example/thalweg/thalweg/node/Pace" "sampleBytes" "J") v) : ObP Z h' a v1 v2 v v4 v5 v6 v7 v8 := ⟨F.1.wr W, F.2.1.other W (Or.inr (slot_ne (Or.inr (hw _ (List.mem_of_getElem? (i := 28) rfl))) (Or.inl (hw _ (List.mem_of_getElem? (i := 37) rfl))) (by decide) (t := (.object "java/util/ArrayDeque")) (t' := .long) (by decide) (by decide))), F.2.2.1.other W (Or.inr (slot_ne (Or.inr (hw _ (List.mem_of_getElem? (i := 30) rfl))) (Or.inl (hw _ (List.mem_of_getElem? (i := 37) rfl))) (by decide) (t := (.object "java/util/ArrayDeque")) (t' := .long) (by decide) (by decide))), F.2.2.2.1.same W, F.2.2.2.2.1.other W (Or.inr (slot_ne (Or.inl (hw _ (List.mem_of_getElem? (i := 53) rfl))) (Or.inl (hw _ (List.mem_of_getElem? (i := 37) rfl))) (by decide) (t := .long) (t' := .long) (by decide) (by decide))), F.2.2.2.2.2.1.other W (Or.inr (slot_ne (Or.inl (hw _ (List.mem_of_getElem? (i := 65) rfl))) (Or.inl (hw _ (List.mem_of_getElem? (i := 37) rfl))) (by decide) (t := .long) (t' := .long) (by decide) (by decide))), F.2.2.2.2.2.2.1.other W (Or.inr (slot_ne (Or.inl (hw _ (List.mem_of_getElem? (i := 67) rfl))) (Or.inl (hw _ (List.mem_of_getElem? (i := 37) rfl))) (by decide) (t := .long) (t' := .long) (by decide) (by decide))), F.2.2.2.2.2.2.2.1.other W (Or.inr (slot_ne (Or.inl (hw _ (List.mem_of_getElem? (i := 74) rfl))) (Or.inl (hw _ (List.mem_of_getElem? (i := 37) rfl))) (by decide) (t := .long) (t' := .long) (by decide) (by decide))), F.2.2.2.2.2.2.2.2.other W (Or.inr (slot_ne (Or.inl (hw _ (List.mem_of_getElem? (i := 125) rfl))) (Or.inl (hw _ (List.mem_of_getElem? (i := 37) rfl))) (by decide) (t := .long) (t' := .long) (by decide) (by decide)))⟩
theorem ObP.put4 {v : Value} {h' : Heap} {Z : State} {h : Heap} {a : Addr} {v1 v2 v3 v4 v5 v6 v7 v8 : Value} {a0 : Array Value} (hw : ∀ d ∈ tables_1, d.before a0 Z = true) (F : ObP Z h a v1 v2 v3 v4 v5 v6 v7 v8) (W : Wr h h' a (Jvm.RoadKit.slotOf Z "com/example/thalweg/thalweg/node/Pace" "busySinceNs" "J") v) : ObP Z h' a v1 v2 v3 v v5 v6 v7 v8 := ⟨F.1.wr W, F.2.1.other W (Or.inr (slot_ne (Or.inr (hw _ (List.mem_of_getElem? (i := 28) rfl))) (Or.inl (hw _ (List.mem_of_getElem? (i := 53) rfl))) (by decide) (t := (.object "java/util/ArrayDeque")) (t' := .long) (by decide) (by decide))), F.2.2.1.other W (Or.inr (slot_ne (Or.inr (hw _ (List.mem_of_getElem? (i := 30) rfl))) (Or.inl (hw _ (List.mem_of_getElem? (i := 53) rfl))) (by decide) (t := (.object "java/util/ArrayDeque")) (t' := .long) (by decide) (by decide))), F.2.2.2.1.other W (Or.inr (slot_ne (Or.inl (hw _ (List.mem_of_getElem? (i := 37) rfl))) (Or.inl (hw _ (List.mem_of_getElem? (i := 53) rfl))) (by decide) (t := .long) (t' := .long) (by decide) (by decide))), F.2.2.2.2.1.same W, F.2.2.2.2.2.1.other W (Or.inr (slot_ne (Or.inl (hw _ (List.mem_of_getElem? (i := 65) rfl))) (Or.inl (hw _ (List.mem_of_getElem? (i := 53) rfl))) (by decide) (t := .long) (t' := .long) (by decide) (by decide))), F.2.2.2.2.2.2.1.other W (Or.inr (slot_ne (Or.inl (hw _ (List.mem_of_getElem? (i := 67) rfl))) (Or.inl (hw _ (List.mem_of_getElem? (i := 53) rfl))) (by decide) (t := .long) (t' := .long) (by decide) (by decide))), F.2.2.2.2.2.2.2.1.other W (Or.inr (slot_ne (Or.inl (hw _ (List.mem_of_getElem? (i := 74) rfl))) (Or.inl (hw _ (List.mem_of_getElem? (i := 53) rfl))) (by decide) (t := .long) (t' := .long) (by decide) (by decide))), F.2.2.2.2.2.2.2.2.other W (Or.inr (slot_ne (Or.inl (hw _ (List.mem_of_getElem? (i := 125) rfl))) (Or.inl (hw _ (List.mem_of_getElem? (i := 53) rfl))) (by decide) (t := .long) (t' := .long) (by decide) (by decide)))⟩
theorem ObP.put5 {v : Value} {h' : Heap} {Z : State} {h : Heap} {a : Addr} {v1 v2 v3 v4 v5 v6 v7 v8 : Value} {a0 : Array Value} (hw : ∀ d ∈ tables_1, d.before a0 Z = true) (F : ObP Z h a v1 v2 v3 v4 v5 v6 v7 v8) (W : Wr h h' a (Jvm.RoadKit.slotOf Z "com/example/thalweg/thalweg/node/Pace" "bytes" "J") v) : ObP Z h' a v1 v2 v3 v4 v v6 v7 v8 := ⟨F.1.wr W, F.2.1.other W (Or.inr (slot_ne (Or.inr (hw _ (List.mem_of_getElem? (i := 28) rfl))) (Or.inl (hw _ (List.mem_of_getElem? (i := 65) rfl))) (by decide) (t := (.object "java/util/ArrayDeque")) (t' := .long) (by decide) (by decide))), F.2.2.1.other W (Or.inr (slot_ne (Or.inr (hw _ (List.mem_of_getElem? (i := 30) rfl))) (Or.inl (hw _ (List.mem_of_getElem? (i := 65) rfl))) (by decide) (t := (.object "java/util/ArrayDeque")) (t' := .long) (by decide) (by decide))), F.2.2.2.1.other W (Or.inr (slot_ne (Or.inl (hw _ (List.mem_of_getElem? (i := 37) rfl))) (Or.inl (hw _ (List.mem_of_getElem? (i := 65) rfl))) (by decide) (t := .long) (t' := .long) (by decide) (by decide))), F.2.2.2.2.1.other W (Or.inr (slot_ne (Or.inl (hw _ (List.mem_of_getElem? (i := 53) rfl))) (Or.inl (hw _ (List.mem_of_getElem? (i := 65) rfl))) (by decide) (t := .long) (t' := .long) (by decide) (by decide))), F.2.2.2.2.2.1.same W, F.2.2.2.2.2.2.1.other W (Or.inr (slot_ne (Or.inl (hw _ (List.mem_of_getElem? (i := 67) rfl))) (Or.inl (hw _ (List.mem_of_getElem? (i := 65) rfl))) (by decide) (t := .long) (t' := .long) (by decide) (by decide))), F.2.2.2.2.2.2.2.1.other W (Or.inr (slot_ne (Or.inl (hw _ (List.mem_of_getElem? (i := 74) rfl))) (Or.inl (hw _ (List.mem_of_getElem? (i := 65) rfl))) (by decide) (t := .long) (t' := .long) (by decide) (by decide))), F.2.2.2.2.2.2.2.2.other W (Or.inr (slot_ne (Or.inl (hw _ (List.mem_of_getElem? (i := 125) rfl))) (Or.inl (hw _ (List.mem_of_getElem? (i := 65) rfl))) (by decide) (t := .long) (t' := .long) (by decide) (by decide)))⟩
theorem ObP.put6 {v : Value} {h' : Heap} {Z : State} {h : Heap} {a : Addr} {v1 v2 v3 v4 v5 v6 v7 v8 : Value} {a0 : Array Value} (hw : ∀ d ∈ tables_1, d.before a0 Z = true) (F : ObP Z h a v1 v2 v3 v4 v5 v6 v7 v8) (W : Wr h h' a (Jvm.RoadKit.slotOf Z "com/example/thalweg/thalweg/node/Pace" "written" "J") v) : ObP Z h' a v1 v2 v3 v4 v5 v v7 v8 := ⟨F.1.wr W, F.2.1.other W (Or.inr (slot_ne (Or.inr (hw _ (List.mem_of_getElem? (i := 28) rfl))) (Or.inl (hw _ (List.mem_of_getElem? (i := 67) rfl))) (by decide) (t := (.object "java/util/ArrayDeque")) (t' := .long) (by decide) (by decide))), F.2.2.1.other W (Or.inr (slot_ne (Or.inr (hw _ (List.mem_of_getElem? (i := 30) rfl))) (Or.inl (hw _ (List.mem_of_getElem? (i := 67) rfl))) (by decide) (t := (.object "java/util/ArrayDeque")) (t' := .long) (by decide) (by decide))), F.2.2.2.1.other W (Or.inr (slot_ne (Or.inl (hw _ (List.mem_of_getElem? (i := 37) rfl))) (Or.inl (hw _ (List.mem_of_getElem? (i := 67) rfl))) (by decide) (t := .long) (t' := .long) (by decide) (by decide))), F.2.2.2.2.1.other W (Or.inr (slot_ne (Or.inl (hw _ (List.mem_of_getElem? (i := 53) rfl))) (Or.inl (hw _ (List.mem_of_getElem? (i := 67) rfl))) (by decide) (t := .long) (t' := .long) (by decide) (by decide))), F.2.2.2.2.2.1.other W (Or.inr (slot_ne (Or.inl (hw _ (List.mem_of_getElem? (i := 65) rfl))) (Or.inl (hw _ (List.mem_of_getElem? (i := 67) rfl))) (by decide) (t := .long) (t' := .long) (by decide) (by decide))), F.2.2.2.2.2.2.1.same W, F.2.2.2.2.2.2.2.1.other W (Or.inr (slot_ne (Or.inl (hw _ (List.mem_of_getElem? (i := 74) rfl))) (Or.inl (hw _ (List.mem_of_getElem? (i := 67) rfl))) (by decide) (t := .long) (t' := .long) (by decide) (by decide))), F.2.2.2.2.2.2.2.2.other W (Or.inr (slot_ne (Or.inl (hw _ (List.mem_of_getElem? (i := 125) rfl))) (Or.inl (hw _ (List.mem_of_getElem? (i := 67) rfl))) (by decide) (t := .long) (t' := .long) (by decide) (by decide)))⟩
theorem ObP.put7 {v : Value} {h' : Heap} {Z : State} {h : Heap} {a : Addr} {v1 v2 v3 v4 v5 v6 v7 v8 : Value} {a0 : Array Value} (hw : ∀ d ∈ tables_1, d.before a0 Z = true) (F : ObP Z h a v1 v2 v3 v4 v5 v6 v7 v8) (W : Wr h h' a (Jvm.RoadKit.slotOf Z "com/example/thalweg/thalweg/node/Pace" "taken" "J") v) : ObP Z h' a v1 v2 v3 v4 v5 v6 v v8 := ⟨F.1.wr W, F.2.1.other W (Or.inr (slot_ne (Or.inr (hw _ (List.mem_of_getElem? (i := 28) rfl))) (Or.inl (hw _ (List.mem_of_getElem? (i := 74) rfl))) (by decide) (t := (.object "java/util/ArrayDeque")) (t' := .long) (by decide) (by decide))), F.2.2.1.other W (Or.inr (slot_ne (Or.inr (hw _ (List.mem_of_getElem? (i := 30) rfl))) (Or.inl (hw _ (List.mem_of_getElem? (i := 74) rfl))) (by decide) (t := (.object "java/util/ArrayDeque")) (t' := .long) (by decide) (by decide))), F.2.2.2.1.other W (Or.inr (slot_ne (Or.inl (hw _ (List.mem_of_getElem? (i := 37) rfl))) (Or.inl (hw _ (List.mem_of_getElem? (i := 74) rfl))) (by decide) (t := .long) (t' := .long) (by decide) (by decide))), F.2.2.2.2.1.other W (Or.inr (slot_ne (Or.inl (hw _ (List.mem_of_getElem? (i := 53) rfl))) (Or.inl (hw _ (List.mem_of_getElem? (i := 74) rfl))) (by decide) (t := .long) (t' := .long) (by decide) (by decide))), F.2.2.2.2.2.1.other W (Or.inr (slot_ne (Or.inl (hw _ (List.mem_of_getElem? (i := 65) rfl))) (Or.inl (hw _ (List.mem_of_getElem? (i := 74) rfl))) (by decide) (t := .long) (t' := .long) (by decide) (by decide))), F.2.2.2.2.2.2.1.other W (Or.inr (slot_ne (Or.inl (hw _ (List.mem_of_getElem? (i := 67) rfl))) (Or.inl (hw _ (List.mem_of_getElem? (i := 74) rfl))) (by decide) (t := .long) (t' := .long) (by decide) (by decide))), F.2.2.2.2.2.2.2.1.same W, F.2.2.2.2.2.2.2.2.other W (Or.inr (slot_ne (Or.inl (hw _ (List.mem_of_getElem? (i := 125) rfl))) (Or.inl (hw _ (List.mem_of_getElem? (i := 74) rfl))) (by decide) (t := .long) (t' := .long) (by decide) (by decide)))⟩
theorem ObP.put8 {v : Value} {h' : Heap} {Z : State} {h : Heap} {a : Addr} {v1 v2 v3 v4 v5 v6 v7 v8 : Value} {a0 : Array Value} (hw : ∀ d ∈ tables_1, d.before a0 Z = true) (F : ObP Z h a v1 v2 v3 v4 v5 v6 v7 v8) (W : Wr h h' a (Jvm.RoadKit.slotOf Z "com/example/thalweg/thalweg/node/Pace" "sampleBusyNs" "J") v) : ObP Z h' a v1 v2 v3 v4 v5 v6 v7 v := ⟨F.1.wr W, F.2.1.other W (Or.inr (slot_ne (Or.inr (hw _ (List.mem_of_getElem? (i := 28) rfl))) (Or.inl (hw _ (List.mem_of_getElem? (i := 125) rfl))) (by decide) (t := (.object "java/util/ArrayDeque")) (t' := .long) (by decide) (by decide))), F.2.2.1.other W (Or.inr (slot_ne (Or.inr (hw _ (List.mem_of_getElem? (i := 30) rfl))) (Or.inl (hw _ (List.mem_of_getElem? (i := 125) rfl))) (by decide) (t := (.object "java/util/ArrayDeque")) (t' := .long) (by decide) (by decide))), F.2.2.2.1.other W (Or.inr (slot_ne (Or.inl (hw _ (List.mem_of_getElem? (i := 37) rfl))) (Or.inl (hw _ (List.mem_of_getElem? (i := 125) rfl))) (by decide) (t := .long) (t' := .long) (by decide) (by decide))), F.2.2.2.2.1.other W (Or.inr (slot_ne (Or.inl (hw _ (List.mem_of_getElem? (i := 53) rfl))) (Or.inl (hw _ (List.mem_of_getElem? (i := 125) rfl))) (by decide) (t := .long) (t' := .long) (by decide) (by decide))), F.2.2.2.2.2.1.other W (Or.inr (slot_ne (Or.inl (hw _ (List.mem_of_getElem? (i := 65) rfl))) (Or.inl (hw _ (List.mem_of_getElem? (i := 125) rfl))) (by decide) (t := .long) (t' := .long) (by decide) (by decide))), F.2.2.2.2.2.2.1.other W (Or.inr (slot_ne (Or.inl (hw _ (List.mem_of_getElem? (i := 67) rfl))) (Or.inl (hw _ (List.mem_of_getElem? (i := 125) rfl))) (by decide) (t := .long) (t' := .long) (by decide) (by decide))), F.2.2.2.2.2.2.2.1.other W (Or.inr (slot_ne (Or.inl (hw _ (List.mem_of_getElem? (i := 74) rfl))) (Or.inl (hw _ (List.mem_of_getElem? (i := 125) rfl))) (by decide) (t := .long) (t' := .long) (by decide) (by decide))), F.2.2.2.2.2.2.2.2.same W⟩
theorem ObP.new {Z : State} {h : Heap} {b : Addr} {a0 : Array Value} (hw : ∀ d ∈ tables_1, d.before a0 Z = true) (E : Exa Z h b "com/example/thalweg/thalweg/node/Pace") (D : ∀ {O nm d : String} {ty : FieldType}, Laid Z a0 "com/example/thalweg/thalweg/node/Pace" O nm d → parseFieldDescriptor d = some ty → Fld Z h b O nm d (defaultValue ty)) : ObP Z h b .null .null (.long (0 : Int64)) (.long (0 : Int64)) (.long (0 : Int64)) (.long (0 : Int64)) (.long (0 : Int64)) (.long (0 : Int64)) := ⟨E, D (Or.inr (hw _ (List.mem_of_getElem? (i := 28) rfl))) (ty := (.object "java/util/ArrayDeque")) (by decide), D (Or.inr (hw _ (List.mem_of_getElem? (i := 30) rfl))) (ty := (.object "java/util/ArrayDeque")) (by decide), D (Or.inl (hw _ (List.mem_of_getElem? (i := 37) rfl))) (ty := .long) (by decide), D (Or.inl (hw _ (List.mem_of_getElem? (i := 53) rfl))) (ty := .long) (by decide), D (Or.inl (hw _ (List.mem_of_getElem? (i := 65) rfl))) (ty := .long) (by decide), D (Or.inl (hw _ (List.mem_of_getElem? (i := 67) rfl))) (ty := .long) (by decide), D (Or.inl (hw _ (List.mem_of_getElem? (i := 74) rfl))) (ty := .long) (by decide), D (Or.inl (hw _ (List.mem_of_getElem? (i := 125) rfl))) (ty := .long) (by decide)⟩
def ObS (Z : State) (h : Heap) (a : Addr) (v1 v2 v3 v4 : Value) : Prop := Exa Z h a "com/example/thalweg/thalweg/node/Pace$Sample" ∧ Fld Z h a "com/example/thalweg/thalweg/node/Pace$Sample" "atNs" "J" v1 ∧ Fld Z h a "com/example/thalweg/thalweg/node/Pace$Sample" "bytes" "J" v2 ∧ Fld Z h a "com/example/thalweg/thalweg/node/Pace$Sample" "busyNs" "J" v3 ∧ Fld Z h a "com/example/thalweg/thalweg/node/Pace$Sample" "turnNs" "J" v4
theorem ObS.ext {h' : Heap} {Z : State} {h : Heap} {a : Addr} {v1 v2 v3 v4 : Value} (F : ObS Z h a v1 v2 v3 v4) (E : Ext h h') : ObS Z h' a v1 v2 v3 v4 := ⟨F.1.ext E, F.2.1.ext E, F.2.2.1.ext E, F.2.2.2.1.ext E, F.2.2.2.2.ext E⟩
theorem ObS.keep {h' : Heap} {Z : State} {h : Heap} {a : Addr} {v1 v2 v3 v4 : Value} {ws : List Addr} (F : ObS Z h a v1 v2 v3 v4) (K : Keep h h' ws) (q : a ∉ ws) : ObS Z h' a v1 v2 v3 v4 := ⟨F.1.keep K, F.2.1.keep K q, F.2.2.1.keep K q, F.2.2.2.1.keep K q, F.2.2.2.2.keep K q⟩
theorem ObS.oth {x : Addr} {sl : Nat} {w : Value} {h' : Heap} {Z : State} {h : Heap} {a : Addr} {v1 v2 v3 v4 : Value} (F : ObS Z h a v1 v2 v3 v4) (W : Wr h h' x sl w) (q : a ≠ x) : ObS Z h' a v1 v2 v3 v4 := ⟨F.1.wr W, F.2.1.other W (Or.inl q), F.2.2.1.other W (Or.inl q), F.2.2.2.1.other W (Or.inl q), F.2.2.2.2.other W (Or.inl q)⟩
theorem ObS.lt {Z : State} {h : Heap} {a : Addr} {v1 v2 v3 v4 : Value} (F : ObS Z h a v1 v2 v3 v4) : a < h.size := F.1.lt
theorem ObS.put1 {v : Value} {h' : Heap} {Z : State} {h : Heap} {a : Addr} {v1 v2 v3 v4 : Value} {a0 : Array Value} (hw : ∀ d ∈ tables_1, d.before a0 Z = true) (F : ObS Z h a v1 v2 v3 v4) (W : Wr h h' a (Jvm.RoadKit.slotOf Z "com/example/thalweg/thalweg/node/Pace$Sample" "atNs" "J") v) : ObS Z h' a v v2 v3 v4 := ⟨F.1.wr W, F.2.1.same W, F.2.2.1.other W (Or.inr (slot_ne (Or.inr (hw _ (List.mem_of_getElem? (i := 109) rfl))) (Or.inr (hw _ (List.mem_of_getElem? (i := 107) rfl))) (by decide) (t := .long) (t' := .long) (by decide) (by decide))), F.2.2.2.1.other W (Or.inr (slot_ne (Or.inr (hw _ (List.mem_of_getElem? (i := 111) rfl))) (Or.inr (hw _ (List.mem_of_getElem? (i := 107) rfl))) (by decide) (t := .long) (t' := .long) (by decide) (by decide))), F.2.2.2.2.other W (Or.inr (slot_ne (Or.inr (hw _ (List.mem_of_getElem? (i := 113) rfl))) (Or.inr (hw _ (List.mem_of_getElem? (i := 107) rfl))) (by decide) (t := .long) (t' := .long) (by decide) (by decide)))⟩
theorem ObS.put2 {v : Value} {h' : Heap} {Z : State} {h : Heap} {a : Addr} {v1 v2 v3 v4 : Value} {a0 : Array Value} (hw : ∀ d ∈ tables_1, d.before a0 Z = true) (F : ObS Z h a v1 v2 v3 v4) (W : Wr h h' a (Jvm.RoadKit.slotOf Z "com/example/thalweg/thalweg/node/Pace$Sample" "bytes" "J") v) : ObS Z h' a v1 v v3 v4 := ⟨F.1.wr W, F.2.1.other W (Or.inr (slot_ne (Or.inr (hw _ (List.mem_of_getElem? (i := 107) rfl))) (Or.inr (hw _ (List.mem_of_getElem? (i := 109) rfl))) (by decide) (t := .long) (t' := .long) (by decide) (by decide))), F.2.2.1.same W, F.2.2.2.1.other W (Or.inr (slot_ne (Or.inr (hw _ (List.mem_of_getElem? (i := 111) rfl))) (Or.inr (hw _ (List.mem_of_getElem? (i := 109) rfl))) (by decide) (t := .long) (t' := .long) (by decide) (by decide))), F.2.2.2.2.other W (Or.inr (slot_ne (Or.inr (hw _ (List.mem_of_getElem? (i := 113) rfl))) (Or.inr (hw _ (List.mem_of_getElem? (i := 109) rfl))) (by decide) (t := .long) (t' := .long) (by decide) (by decide)))⟩
theorem ObS.put3 {v : Value} {h' : Heap} {Z : State} {h : Heap} {a : Addr} {v1 v2 v3 v4 : Value} {a0 : Array Value} (hw : ∀ d ∈ tables_1, d.before a0 Z = true) (F : ObS Z h a v1 v2 v3 v4) (W : Wr h h' a (Jvm.RoadKit.slotOf Z "com/example/thalweg/thalweg/node/Pace$Sample" "busyNs" "J") v) : ObS Z h' a v1 v2 v v4 := ⟨F.1.wr W, F.2.1.other W (Or.inr (slot_ne (Or.inr (hw _ (List.mem_of_getElem? (i := 107) rfl))) (Or.inr (hw _ (List.mem_of_getElem? (i := 111) rfl))) (by decide) (t := .long) (t' := .long) (by decide) (by decide))), F.2.2.1.other W (Or.inr (slot_ne (Or.inr (hw _ (List.mem_of_getElem? (i := 109) rfl))) (Or.inr (hw _ (List.mem_of_getElem? (i := 111) rfl))) (by decide) (t := .long) (t' := .long) (by decide) (by decide))), F.2.2.2.1.same W, F.2.2.2.2.other W (Or.inr (slot_ne (Or.inr (hw _ (List.mem_of_getElem? (i := 113) rfl))) (Or.inr (hw _ (List.mem_of_getElem? (i := 111) rfl))) (by decide) (t := .long) (t' := .long) (by decide) (by decide)))⟩
theorem ObS.put4 {v : Value} {h' : Heap} {Z : State} {h : Heap} {a : Addr} {v1 v2 v3 v4 : Value} {a0 : Array Value} (hw : ∀ d ∈ tables_1, d.before a0 Z = true) (F : ObS Z h a v1 v2 v3 v4) (W : Wr h h' a (Jvm.RoadKit.slotOf Z "com/example/thalweg/thalweg/node/Pace$Sample" "turnNs" "J") v) : ObS Z h' a v1 v2 v3 v := ⟨F.1.wr W, F.2.1.other W (Or.inr (slot_ne (Or.inr (hw _ (List.mem_of_getElem? (i := 107) rfl))) (Or.inr (hw _ (List.mem_of_getElem? (i := 113) rfl))) (by decide) (t := .long) (t' := .long) (by decide) (by decide))), F.2.2.1.other W (Or.inr (slot_ne (Or.inr (hw _ (List.mem_of_getElem? (i := 109) rfl))) (Or.inr (hw _ (List.mem_of_getElem? (i := 113) rfl))) (by decide) (t := .long) (t' := .long) (by decide) (by decide))), F.2.2.2.1.other W (Or.inr (slot_ne (Or.inr (hw _ (List.mem_of_getElem? (i := 111) rfl))) (Or.inr (hw _ (List.mem_of_getElem? (i := 113) rfl))) (by decide) (t := .long) (t' := .long) (by decide) (by decide))), F.2.2.2.2.same W⟩
theorem ObS.new {Z : State} {h : Heap} {b : Addr} {a0 : Array Value} (hw : ∀ d ∈ tables_1, d.before a0 Z = true) (E : Exa Z h b "com/example/thalweg/thalweg/node/Pace$Sample") (D : ∀ {O nm d : String} {ty : FieldType}, Laid Z a0 "com/example/thalweg/thalweg/node/Pace$Sample" O nm d → parseFieldDescriptor d = some ty → Fld Z h b O nm d (defaultValue ty)) : ObS Z h b (.long (0 : Int64)) (.long (0 : Int64)) (.long (0 : Int64)) (.long (0 : Int64)) := ⟨E, D (Or.inr (hw _ (List.mem_of_getElem? (i := 107) rfl))) (ty := .long) (by decide), D (Or.inr (hw _ (List.mem_of_getElem? (i := 109) rfl))) (ty := .long) (by decide), D (Or.inr (hw _ (List.mem_of_getElem? (i := 111) rfl))) (ty := .long) (by decide), D (Or.inr (hw _ (List.mem_of_getElem? (i := 113) rfl))) (ty := .long) (by decide)⟩
def ObD (Z : State) (h : Heap) (a : Addr) (v1 v2 v3 : Value) : Prop := Exa Z h a "java/util/ArrayDeque" ∧ Fld Z h a "java/util/ArrayDeque" "elements" "[Ljava/lang/Object;" v1 ∧ Fld Z h a "java/util/ArrayDeque" "head" "I" v2 ∧ Fld Z h a "java/util/ArrayDeque" "tail" "I" v3
theorem ObD.ext {h' : Heap} {Z : State} {h : Heap} {a : Addr} {v1 v2 v3 : Value} (F : ObD Z h a v1 v2 v3) (E : Ext h h') : ObD Z h' a v1 v2 v3 := ⟨F.1.ext E, F.2.1.ext E, F.2.2.1.ext E, F.2.2.2.ext E⟩
theorem ObD.keep {h' : Heap} {Z : State} {h : Heap} {a : Addr} {v1 v2 v3 : Value} {ws : List Addr} (F : ObD Z h a v1 v2 v3) (K : Keep h h' ws) (q : a ∉ ws) : ObD Z h' a v1 v2 v3 := ⟨F.1.keep K, F.2.1.keep K q, F.2.2.1.keep K q, F.2.2.2.keep K q⟩
theorem ObD.oth {x : Addr} {sl : Nat} {w : Value} {h' : Heap} {Z : State} {h : Heap} {a : Addr} {v1 v2 v3 : Value} (F : ObD Z h a v1 v2 v3) (W : Wr h h' x sl w) (q : a ≠ x) : ObD Z h' a v1 v2 v3 := ⟨F.1.wr W, F.2.1.other W (Or.inl q), F.2.2.1.other W (Or.inl q), F.2.2.2.other W (Or.inl q)⟩
theorem ObD.lt {Z : State} {h : Heap} {a : Addr} {v1 v2 v3 : Value} (F : ObD Z h a v1 v2 v3) : a < h.size := F.1.lt
theorem ObD.put1 {v : Value} {h' : Heap} {Z : State} {h : Heap} {a : Addr} {v1 v2 v3 : Value} {a0 : Array Value} (hw : ∀ d ∈ tables_1, d.before a0 Z = true) (F : ObD Z h a v1 v2 v3) (W : Wr h h' a (Jvm.RoadKit.slotOf Z "java/util/ArrayDeque" "elements" "[Ljava/lang/Object;") v) : ObD Z h' a v v2 v3 := ⟨F.1.wr W, F.2.1.same W, F.2.2.1.other W (Or.inr (slot_ne (Or.inl (hw _ (List.mem_of_getElem? (i := 49) rfl))) (Or.inl (hw _ (List.mem_of_getElem? (i := 26) rfl))) (by decide) (t := .int) (t' := (.array (.object "java/lang/Object"))) (by decide) (by decide))), F.2.2.2.other W (Or.inr (slot_ne (Or.inl (hw _ (List.mem_of_getElem? (i := 51) rfl))) (Or.inl (hw _ (List.mem_of_getElem? (i := 26) rfl))) (by decide) (t := .int) (t' := (.array (.object "java/lang/Object"))) (by decide) (by decide)))⟩
theorem ObD.put2 {v : Value} {h' : Heap} {Z : State} {h : Heap} {a : Addr} {v1 v2 v3 : Value} {a0 : Array Value} (hw : ∀ d ∈ tables_1, d.before a0 Z = true) (F : ObD Z h a v1 v2 v3) (W : Wr h h' a (Jvm.RoadKit.slotOf Z "java/util/ArrayDeque" "head" "I") v) : ObD Z h' a v1 v v3 := ⟨F.1.wr W, F.2.1.other W (Or.inr (slot_ne (Or.inl (hw _ (List.mem_of_getElem? (i := 26) rfl))) (Or.inl (hw _ (List.mem_of_getElem? (i := 49) rfl))) (by decide) (t := (.array (.object "java/lang/Object"))) (t' := .int) (by decide) (by decide))), F.2.2.1.same W, F.2.2.2.other W (Or.inr (slot_ne (Or.inl (hw _ (List.mem_of_getElem? (i := 51) rfl))) (Or.inl (hw _ (List.mem_of_getElem? (i := 49) rfl))) (by decide) (t := .int) (t' := .int) (by decide) (by decide)))⟩
theorem ObD.put3 {v : Value} {h' : Heap} {Z : State} {h : Heap} {a : Addr} {v1 v2 v3 : Value} {a0 : Array Value} (hw : ∀ d ∈ tables_1, d.before a0 Z = true) (F : ObD Z h a v1 v2 v3) (W : Wr h h' a (Jvm.RoadKit.slotOf Z "java/util/ArrayDeque" "tail" "I") v) : ObD Z h' a v1 v2 v := ⟨F.1.wr W, F.2.1.other W (Or.inr (slot_ne (Or.inl (hw _ (List.mem_of_getElem? (i := 26) rfl))) (Or.inl (hw _ (List.mem_of_getElem? (i := 51) rfl))) (by decide) (t := (.array (.object "java/lang/Object"))) (t' := .int) (by decide) (by decide))), F.2.2.1.other W (Or.inr (slot_ne (Or.inl (hw _ (List.mem_of_getElem? (i := 49) rfl))) (Or.inl (hw _ (List.mem_of_getElem? (i := 51) rfl))) (by decide) (t := .int) (t' := .int) (by decide) (by decide))), F.2.2.2.same W⟩
theorem ObD.new {Z : State} {h : Heap} {b : Addr} {a0 : Array Value} (hw : ∀ d ∈ tables_1, d.before a0 Z = true) (E : Exa Z h b "java/util/ArrayDeque") (D : ∀ {O nm d : String} {ty : FieldType}, Laid Z a0 "java/util/ArrayDeque" O nm d → parseFieldDescriptor d = some ty → Fld Z h b O nm d (defaultValue ty)) : ObD Z h b .null (.int (0 : Int32)) (.int (0 : Int32)) := ⟨E, D (Or.inl (hw _ (List.mem_of_getElem? (i := 26) rfl))) (ty := (.array (.object "java/lang/Object"))) (by decide), D (Or.inl (hw _ (List.mem_of_getElem? (i := 49) rfl))) (ty := .int) (by decide), D (Or.inl (hw _ (List.mem_of_getElem? (i := 51) rfl))) (ty := .int) (by decide)⟩
def own_max (x y : Int64) : Int64 := if x < y then y else x
theorem d14_0 : Dc jdk_29_method_66_code 0 (.lload_n 0) 1 1 := ⟨by decide +kernel, rfl⟩
theorem d14_1 : Dc jdk_29_method_66_code 1 (.lload_n 2) 1 2 := ⟨by decide +kernel, rfl⟩
theorem d14_2 : Dc jdk_29_method_66_code 2 (.lcmp) 1 3 := ⟨by decide +kernel, rfl⟩
theorem d14_3 : Bi jdk_29_method_66_code 3 (Instr.ifCond .lt) 10 6 := ⟨7, by decide +kernel, by decide, by decide, rfl⟩
theorem d14_10 : Dc jdk_29_method_66_code 10 (.lload_n 2) 1 11 := ⟨by decide +kernel, rfl⟩
theorem d14_11 : Dc jdk_29_method_66_code 11 (.lreturn) 1 12 := ⟨by decide +kernel, rfl⟩
theorem d14_6 : Dc jdk_29_method_66_code 6 (.lload_n 0) 1 7 := ⟨by decide +kernel, rfl⟩
theorem d14_7 : Bi jdk_29_method_66_code 7 (Instr.goto) 11 10 := ⟨4, by decide +kernel, by decide, by decide, rfl⟩
set_option maxRecDepth 65536 in
set_option maxHeartbeats 40000000 in
theorem rm3 (l : Launch) (Z : State) (a0 : Array Value) (hw : ∀ d ∈ tables_1, d.before a0 Z = true) (x y : Int64) (h0 : Heap) :
    Met l Z (⟨"java/lang/Math", "max", "(JJ)J"⟩ : MethodName) jdk_29_method_66_code 4 (some .long) ({ frames := 0, cells := 0, slots := 0, locals := 0 } : Room) #[(.long x), (.long y)] h0 (fun v h' => v = some (.long (own_max x y)) ∧ h0 = h') := by
  refine met_of (Ls := #[.val (.long x), .second, .val (.long y), .second]) (Jvm.Free.JP.mathPlain rfl (by decide +kernel)) (fun m => by first | (simp [entryFrame, mkF, argsToLocals, Value.category]; done) | rfl) (fun p e s m below meth c cx => ?_)
  refine g_lloadN cx d14_0 rfl ?_
  refine g_lloadN cx d14_1 rfl ?_
  refine g_lif_lt cx d14_2 d14_3 (fun hc3 => ?_) (fun hc3 => ?_)
  · refine g_lloadN cx d14_10 rfl ?_
    refine g_retJ cx d14_11 rfl (by decide) (by decide) ?_
    exact ⟨by simp [own_max, hc3], rfl⟩
  · refine g_lloadN cx d14_6 rfl ?_
    refine g_goto cx d14_7 ?_
    refine g_retJ cx d14_11 rfl (by decide) (by decide) ?_
    exact ⟨by simp [own_max, hc3], rfl⟩
theorem d16_0 : Dc jdk_30_method_1_code 0 (.aload_n 0) 1 1 := ⟨by decide +kernel, rfl⟩
theorem d16_1 : Dc jdk_30_method_1_code 1 (.invokespecial 1) 3 4 := ⟨by decide +kernel, rfl⟩
theorem d16_4 : Dc jdk_30_method_1_code 4 (.return_) 1 5 := ⟨by decide +kernel, rfl⟩
theorem pn_rm1 : plainName "java/lang/Record" = true := by first | (simp [plainName, overriddenIn]; done) | decide +kernel
set_option maxRecDepth 65536 in
set_option maxHeartbeats 40000000 in
theorem rm1 (l : Launch) (Z : State) (a0 : Array Value) (hw : ∀ d ∈ tables_1, d.before a0 Z = true) (a : Addr) (h0 : Heap) :
    Met l Z (⟨"java/lang/Record", "<init>", "()V"⟩ : MethodName) jdk_30_method_1_code 1 none ({ frames := 1, cells := 0, slots := 0, locals := 12 } : Room) #[(.ref a)] h0 (fun v h' => v = none ∧ h0 = h') := by
  refine met_of (Ls := #[.val (.ref a)]) (plainFor_of_name pn_rm1) (fun m => by first | (simp [entryFrame, mkF, argsToLocals, Value.category]; done) | rfl) (fun p e s m below meth c cx => ?_)
  refine g_aloadN cx d16_0 rfl rfl ?_
  refine g_initO cx d16_1 (hw _ (List.mem_of_getElem? (i := 105) rfl)) (hw _ (List.mem_of_getElem? (i := 8) rfl)) (hw _ (List.mem_of_getElem? (i := 9) rfl)) rfl (by decide) (W := 0) (Nat.le_of_eq rfl) (by decide) ?_
  refine g_retV cx d16_4 rfl (by decide) (by decide) ?_
  exact ⟨rfl, rfl⟩
theorem d4_0 : Dc jdk_22_method_1_code 0 (.aload_n 0) 1 1 := ⟨by decide +kernel, rfl⟩
theorem d4_1 : Dc jdk_22_method_1_code 1 (.invokespecial 1) 3 4 := ⟨by decide +kernel, rfl⟩
theorem d4_4 : Dc jdk_22_method_1_code 4 (.return_) 1 5 := ⟨by decide +kernel, rfl⟩
theorem pn_rm2 : plainName "java/util/AbstractCollection" = true := by first | (simp [plainName, overriddenIn]; done) | decide +kernel
set_option maxRecDepth 65536 in
set_option maxHeartbeats 40000000 in
theorem rm2 (l : Launch) (Z : State) (a0 : Array Value) (hw : ∀ d ∈ tables_1, d.before a0 Z = true) (a : Addr) (h0 : Heap) :
    Met l Z (⟨"java/util/AbstractCollection", "<init>", "()V"⟩ : MethodName) jdk_22_method_1_code 1 none ({ frames := 1, cells := 0, slots := 0, locals := 12 } : Room) #[(.ref a)] h0 (fun v h' => v = none ∧ h0 = h') := by
  refine met_of (Ls := #[.val (.ref a)]) (plainFor_of_name pn_rm2) (fun m => by first | (simp [entryFrame, mkF, argsToLocals, Value.category]; done) | rfl) (fun p e s m below meth c cx => ?_)
  refine g_aloadN cx d4_0 rfl rfl ?_
  refine g_initO cx d4_1 (hw _ (List.mem_of_getElem? (i := 22) rfl)) (hw _ (List.mem_of_getElem? (i := 8) rfl)) (hw _ (List.mem_of_getElem? (i := 9) rfl)) rfl (by decide) (W := 0) (Nat.le_of_eq rfl) (by decide) ?_
  refine g_retV cx d4_4 rfl (by decide) (by decide) ?_
  exact ⟨rfl, rfl⟩
theorem d0_0 : Dc code 0 (.iload_n 0) 1 1 := ⟨by decide +kernel, rfl⟩
theorem d0_1 : Dc code 1 (.i2l) 1 2 := ⟨by decide +kernel, rfl⟩
theorem d0_2 : Dc code 2 (.ldc2_w 7) 3 5 := ⟨by decide +kernel, rfl⟩
theorem d0_5 : Dc code 5 (.land) 1 6 := ⟨by decide +kernel, rfl⟩
theorem d0_6 : Dc code 6 (.lstore 6) 2 8 := ⟨by decide +kernel, rfl⟩
theorem d0_8 : Dc code 8 (.iload_n 1) 1 9 := ⟨by decide +kernel, rfl⟩
theorem d0_9 : Dc code 9 (.i2l) 1 10 := ⟨by decide +kernel, rfl⟩
theorem d0_10 : Dc code 10 (.ldc2_w 7) 3 13 := ⟨by decide +kernel, rfl⟩
theorem d0_13 : Dc code 13 (.land) 1 14 := ⟨by decide +kernel, rfl⟩
theorem d0_14 : Dc code 14 (.lstore 8) 2 16 := ⟨by decide +kernel, rfl⟩
theorem d0_16 : Dc code 16 (.iload_n 2) 1 17 := ⟨by decide +kernel, rfl⟩
theorem d0_17 : Dc code 17 (.sipush 255) 3 20 := ⟨by decide +kernel, rfl⟩
theorem d0_20 : Dc code 20 (.iand) 1 21 := ⟨by decide +kernel, rfl⟩
theorem d0_21 : Dc code 21 (.iconst 3) 1 22 := ⟨by decide +kernel, rfl⟩
theorem d0_22 : Dc code 22 (.irem) 1 23 := ⟨by decide +kernel, rfl⟩
theorem d0_23 : Dc code 23 (.istore 10) 2 25 := ⟨by decide +kernel, rfl⟩
theorem d0_25 : Dc code 25 (.iload 10) 2 27 := ⟨by decide +kernel, rfl⟩
theorem d0_27 : Dc code 27 (.iload_n 2) 1 28 := ⟨by decide +kernel, rfl⟩
theorem d0_28 : Dc code 28 (.bipush 8) 2 30 := ⟨by decide +kernel, rfl⟩
theorem d0_30 : Dc code 30 (.iushr) 1 31 := ⟨by decide +kernel, rfl⟩
theorem d0_31 : Dc code 31 (.sipush 255) 3 34 := ⟨by decide +kernel, rfl⟩
theorem d0_34 : Dc code 34 (.iand) 1 35 := ⟨by decide +kernel, rfl⟩
theorem d0_35 : Dc code 35 (.iconst 3) 1 36 := ⟨by decide +kernel, rfl⟩
theorem d0_36 : Dc code 36 (.iload 10) 2 38 := ⟨by decide +kernel, rfl⟩
theorem d0_38 : Dc code 38 (.isub) 1 39 := ⟨by decide +kernel, rfl⟩
theorem d0_39 : Dc code 39 (.irem) 1 40 := ⟨by decide +kernel, rfl⟩
theorem d0_40 : Dc code 40 (.iadd) 1 41 := ⟨by decide +kernel, rfl⟩
theorem d0_41 : Dc code 41 (.istore 11) 2 43 := ⟨by decide +kernel, rfl⟩
theorem d0_43 : Dc code 43 (.iload 4) 2 45 := ⟨by decide +kernel, rfl⟩
theorem d0_45 : Dc code 45 (.i2l) 1 46 := ⟨by decide +kernel, rfl⟩
theorem d0_46 : Dc code 46 (.lstore 12) 2 48 := ⟨by decide +kernel, rfl⟩
theorem d0_48 : Dc code 48 (.lload 12) 2 50 := ⟨by decide +kernel, rfl⟩
theorem d0_50 : Dc code 50 (.iload 5) 2 52 := ⟨by decide +kernel, rfl⟩
theorem d0_52 : Dc code 52 (.i2l) 1 53 := ⟨by decide +kernel, rfl⟩
theorem d0_53 : Dc code 53 (.ldc2_w 7) 3 56 := ⟨by decide +kernel, rfl⟩
theorem d0_56 : Dc code 56 (.land) 1 57 := ⟨by decide +kernel, rfl⟩
theorem d0_57 : Dc code 57 (.ladd) 1 58 := ⟨by decide +kernel, rfl⟩
theorem d0_58 : Dc code 58 (.lstore 14) 2 60 := ⟨by decide +kernel, rfl⟩
theorem d0_60 : Dc code 60 (.new 9) 3 63 := ⟨by decide +kernel, rfl⟩
theorem d0_63 : Dc code 63 (.dup) 1 64 := ⟨by decide +kernel, rfl⟩
theorem d1_0 : Dc prog_54_method_1_code 0 (.aload_n 0) 1 1 := ⟨by decide +kernel, rfl⟩
theorem d1_1 : Dc prog_54_method_1_code 1 (.invokespecial 1) 3 4 := ⟨by decide +kernel, rfl⟩
theorem d1_4 : Dc prog_54_method_1_code 4 (.aload_n 0) 1 5 := ⟨by decide +kernel, rfl⟩
theorem d1_5 : Dc prog_54_method_1_code 5 (.new 7) 3 8 := ⟨by decide +kernel, rfl⟩
theorem d1_8 : Dc prog_54_method_1_code 8 (.dup) 1 9 := ⟨by decide +kernel, rfl⟩
theorem d3_0 : Dc jdk_21_method_3_code 0 (.aload_n 0) 1 1 := ⟨by decide +kernel, rfl⟩
theorem pd_0 : parseMethodDescriptor "()V" = some ⟨[], none⟩ := by decide +kernel
theorem d3_1 : Dc jdk_21_method_3_code 1 (.invokespecial 42) 3 4 := ⟨by decide +kernel, rfl⟩
theorem d3_4 : Dc jdk_21_method_3_code 4 (.aload_n 0) 1 5 := ⟨by decide +kernel, rfl⟩
theorem d3_5 : Dc jdk_21_method_3_code 5 (.bipush 17) 2 7 := ⟨by decide +kernel, rfl⟩
theorem d3_7 : Dc jdk_21_method_3_code 7 (.anewarray 47) 3 10 := ⟨by decide +kernel, rfl⟩
theorem d3_10 : Dc jdk_21_method_3_code 10 (.putfield 3) 3 13 := ⟨by decide +kernel, rfl⟩
theorem d3_13 : Dc jdk_21_method_3_code 13 (.return_) 1 14 := ⟨by decide +kernel, rfl⟩
theorem pn_ra2 : plainName "java/util/ArrayDeque" = true := by first | (simp [plainName, overriddenIn]; done) | decide +kernel
set_option maxRecDepth 65536 in
set_option maxHeartbeats 40000000 in
theorem ra2 (l : Launch) (Z : State) (a0 : Array Value) (hw : ∀ d ∈ tables_1, d.before a0 Z = true)  (ad0 : Addr) (h0 : Heap) (O_ad0 : ObD Z h0 ad0 .null (.int (0 : Int32)) (.int (0 : Int32))) (g_ad0 : Z.heap.size ≤ ad0) (OL : Old Z Z.heap.size h0) :
    Met l Z (⟨"java/util/ArrayDeque", "<init>", "()V"⟩ : MethodName) jdk_21_method_3_code 1 none ({ frames := 2, cells := 1, slots := 17, locals := 24 } : Room) #[(.ref ad0)] h0 (fun v h' => (∃ (b5 : Addr) (cA6 : ClassId) , v = none ∧ Keep h0 h' [ad0] ∧ h0.size ≤ b5 ∧ Arx Z h' b5 cA6 (.object "java/lang/Object") (17 : Int32) [.null, .null, .null, .null, .null, .null, .null, .null, .null, .null, .null, .null, .null, .null, .null, .null, .null] .null "[Ljava/lang/Object;" ∧ Ovr Z cA6 "java/lang/Object" ∧ ObD Z h' ad0 (.ref b5) (.int (0 : Int32)) (.int (0 : Int32)))) := by
  refine met_of (Ls := #[.val (.ref ad0)]) (plainFor_of_name pn_ra2) (fun m => by first | (simp [entryFrame, mkF, argsToLocals, Value.category]; done) | rfl) (fun p e s m below meth c cx => ?_)
  have KK := Keep.refl h0 [ad0]
  refine g_aloadN cx d3_0 rfl rfl ?_
  refine g_special cx (y := (⟨"java/util/AbstractCollection", "<init>", "()V"⟩ : MethodName)) (a := ad0) d3_1 rfl rfl (hw _ (List.mem_of_getElem? (i := 16) rfl)) (hw _ (List.mem_of_getElem? (i := 17) rfl)) (hw _ (List.mem_of_getElem? (i := 20) rfl)) (hw _ (List.mem_of_getElem? (i := 21) rfl)) (by decide) (bytes := jdk_22_method_1_code) (maxL' := 1) (M := (rm2 l Z a0 hw ad0 _)) rfl (lenOf pd_0 rfl) (by decide) (W := 0) (Nat.le_of_eq rfl) (by decide) (k' := 0) (n' := 0) rfl rfl (by decide) (by decide) (argsL := []) (rest := []) rfl (fun v2 h1 q3 => ?_)
  obtain ⟨rfl, rfl⟩ := q3
  refine G.cast (st' := []) ?_ rfl
  refine g_aloadN cx d3_4 rfl rfl ?_
  refine g_bipush cx d3_5 (v := (17 : Int32)) rfl ?_
  refine g_anewarray cx (C := "java/lang/Object") (ad := "[Ljava/lang/Object;") (by decide) d3_7 (hw _ (List.mem_of_getElem? (i := 23) rfl)) (hw _ (List.mem_of_getElem? (i := 24) rfl)) (by decide) (cap := 17) (by decide) (by decide) (k' := 1) (n' := 17) rfl rfl (by decide) (by decide) (fun h4 b5 cA6 gb7 E8 X9 OV_b5 => ?_)
  have ne_ad0_b5 : ad0 ≠ b5 := Nat.ne_of_lt (by rw [gb7]; exact O_ad0.lt)
  have g_b5 : Z.heap.size ≤ b5 := by rw [gb7]; exact OL.2.1
  have sz_b5 := (by rw [gb7]; exact KK.1 : h0.size ≤ b5)
  have O_ad0 := O_ad0.ext E8
  have OL := OL.ext E8
  have KK := KK.ext E8
  have A_b5 : Arx Z h4 b5 cA6 (.object "java/lang/Object") (17 : Int32) [.null, .null, .null, .null, .null, .null, .null, .null, .null, .null, .null, .null, .null, .null, .null, .null, .null] .null "[Ljava/lang/Object;" := X9.pad (pad_rep [] .null 17)
  refine g_putF cx d3_10 (host := "") (Or.inl (hw _ (List.mem_of_getElem? (i := 25) rfl))) Via.refl O_ad0.2.1 O_ad0.1 (Or.inl (hw _ (List.mem_of_getElem? (i := 26) rfl))) (hw _ (List.mem_of_getElem? (i := 11) rfl)) (ty := (.array (.object "java/lang/Object"))) (by decide) rfl rfl g_ad0 (fun h11 W12 => ?_)
  have O_ad0 := O_ad0.put1 hw W12
  have A_b5 := A_b5.other W12 (Ne.symm ne_ad0_b5)
  have OL := OL.wr W12 g_ad0
  have KK := KK.wr W12 (Or.inl (List.mem_of_getElem? (i := 0) rfl))
  refine g_retV cx d3_13 rfl (by decide) (by decide) ?_
  exact ⟨b5, cA6, rfl, KK, sz_b5, A_b5, OV_b5, O_ad0⟩
theorem d1_9 : Dc prog_54_method_1_code 9 (.invokespecial 9) 3 12 := ⟨by decide +kernel, rfl⟩
theorem d1_12 : Dc prog_54_method_1_code 12 (.putfield 10) 3 15 := ⟨by decide +kernel, rfl⟩
theorem d1_15 : Dc prog_54_method_1_code 15 (.aload_n 0) 1 16 := ⟨by decide +kernel, rfl⟩
theorem d1_16 : Dc prog_54_method_1_code 16 (.new 7) 3 19 := ⟨by decide +kernel, rfl⟩
theorem d1_19 : Dc prog_54_method_1_code 19 (.dup) 1 20 := ⟨by decide +kernel, rfl⟩
theorem d1_20 : Dc prog_54_method_1_code 20 (.invokespecial 9) 3 23 := ⟨by decide +kernel, rfl⟩
theorem d1_23 : Dc prog_54_method_1_code 23 (.putfield 16) 3 26 := ⟨by decide +kernel, rfl⟩
theorem d1_26 : Dc prog_54_method_1_code 26 (.return_) 1 27 := ⟨by decide +kernel, rfl⟩
theorem pn_ra1 : plainName "com/example/thalweg/thalweg/node/Pace" = true := by first | (simp [plainName, overriddenIn]; done) | decide +kernel
set_option maxRecDepth 65536 in
set_option maxHeartbeats 40000000 in
theorem ra1 (l : Launch) (Z : State) (a0 : Array Value) (hw : ∀ d ∈ tables_1, d.before a0 Z = true)  (ad0 : Addr) (h0 : Heap) (O_ad0 : ObP Z h0 ad0 .null .null (.long (0 : Int64)) (.long (0 : Int64)) (.long (0 : Int64)) (.long (0 : Int64)) (.long (0 : Int64)) (.long (0 : Int64))) (g_ad0 : Z.heap.size ≤ ad0) (OL : Old Z Z.heap.size h0) :
    Met l Z (⟨"com/example/thalweg/thalweg/node/Pace", "<init>", "()V"⟩ : MethodName) prog_54_method_1_code 1 none ({ frames := 3, cells := 4, slots := 40, locals := 38 } : Room) #[(.ref ad0)] h0 (fun v h' => (∃ (b2 : Addr) (b7 : Addr) (b16 : Addr) (b21 : Addr) (cA8 : ClassId) (cA22 : ClassId) , v = none ∧ Keep h0 h' [ad0] ∧ h0.size ≤ b2 ∧ h0.size ≤ b7 ∧ h0.size ≤ b16 ∧ h0.size ≤ b21 ∧ b2 ≠ b7 ∧ b2 ≠ b16 ∧ b7 ≠ b16 ∧ b2 ≠ b21 ∧ b7 ≠ b21 ∧ b16 ≠ b21 ∧ ObD Z h' b2 (.ref b7) (.int (0 : Int32)) (.int (0 : Int32)) ∧ Arx Z h' b7 cA8 (.object "java/lang/Object") (17 : Int32) [.null, .null, .null, .null, .null, .null, .null, .null, .null, .null, .null, .null, .null, .null, .null, .null, .null] .null "[Ljava/lang/Object;" ∧ ObD Z h' b16 (.ref b21) (.int (0 : Int32)) (.int (0 : Int32)) ∧ Arx Z h' b21 cA22 (.object "java/lang/Object") (17 : Int32) [.null, .null, .null, .null, .null, .null, .null, .null, .null, .null, .null, .null, .null, .null, .null, .null, .null] .null "[Ljava/lang/Object;" ∧ Ovr Z cA8 "java/lang/Object" ∧ Ovr Z cA22 "java/lang/Object" ∧ ObP Z h' ad0 (.ref b2) (.ref b16) (.long (0 : Int64)) (.long (0 : Int64)) (.long (0 : Int64)) (.long (0 : Int64)) (.long (0 : Int64)) (.long (0 : Int64)))) := by
  refine met_of (Ls := #[.val (.ref ad0)]) (plainFor_of_name pn_ra1) (fun m => by first | (simp [entryFrame, mkF, argsToLocals, Value.category]; done) | rfl) (fun p e s m below meth c cx => ?_)
  have KK := Keep.refl h0 [ad0]
  refine g_aloadN cx d1_0 rfl rfl ?_
  refine g_initO cx d1_1 (hw _ (List.mem_of_getElem? (i := 7) rfl)) (hw _ (List.mem_of_getElem? (i := 8) rfl)) (hw _ (List.mem_of_getElem? (i := 9) rfl)) rfl (by decide) (W := 0) (Nat.le_of_eq rfl) (by decide) ?_
  refine g_aloadN cx d1_4 rfl rfl ?_
  refine g_new cx d1_5 (hw _ (List.mem_of_getElem? (i := 10) rfl)) (hw _ (List.mem_of_getElem? (i := 11) rfl)) (hw _ (List.mem_of_getElem? (i := 12) rfl)) (k' := 1) (n' := 3) rfl rfl (by decide) (by decide) (fun h1 b2 gb3 E4 X5 D6 => ?_)
  have ne_ad0_b2 : ad0 ≠ b2 := Nat.ne_of_lt (by rw [gb3]; exact O_ad0.lt)
  have g_b2 : Z.heap.size ≤ b2 := by rw [gb3]; exact OL.2.1
  have sz_b2 := (by rw [gb3]; exact KK.1 : h0.size ≤ b2)
  have O_ad0 := O_ad0.ext E4
  have OL := OL.ext E4
  have KK := KK.ext E4
  have O_b2 := ObD.new hw X5 D6
  refine g_dup cx d1_8 rfl ?_
  have lt_b2 := O_b2.lt
  refine g_special cx (y := (⟨"java/util/ArrayDeque", "<init>", "()V"⟩ : MethodName)) (a := b2) d1_9 rfl rfl (hw _ (List.mem_of_getElem? (i := 13) rfl)) (hw _ (List.mem_of_getElem? (i := 14) rfl)) (hw _ (List.mem_of_getElem? (i := 12) rfl)) (hw _ (List.mem_of_getElem? (i := 15) rfl)) (by decide) (bytes := jdk_21_method_3_code) (maxL' := 1) (M := (ra2 l Z a0 hw  b2 _ O_b2 g_b2 OL)) rfl (lenOf pd_0 rfl) (by decide) (W := 2) (Nat.le_of_eq rfl) (by decide) (k' := 2) (n' := 20) rfl rfl (by decide) (by decide) (argsL := []) (rest := [(.ref b2), (.ref ad0)]) rfl (fun v11 h10 q12 => ?_)
  obtain ⟨b7, cA8, rfl, K9, sq_b7, A_b7, OV_b7, O_b2⟩ := q12
  have ne_ad0_b7 : ad0 ≠ b7 := Nat.ne_of_lt (Nat.lt_of_lt_of_le O_ad0.lt sq_b7)
  have ne_b2_b7 : b2 ≠ b7 := Nat.ne_of_lt (Nat.lt_of_lt_of_le lt_b2 sq_b7)
  have g_b7 : Z.heap.size ≤ b7 := Nat.le_trans OL.2.1 sq_b7
  have sz_b7 := Nat.le_trans KK.1 sq_b7
  have O_ad0 := O_ad0.keep K9 (ninS ne_ad0_b2 nin0)
  have OL := OL.keep K9 (allS g_b2 all0)
  have KK := KK.trans K9 (allS (P := fun z => z ∈ _ ∨ _ ≤ z) (Or.inr sz_b2) all0)
  refine G.cast (st' := [(.ref b2), (.ref ad0)]) ?_ rfl
  refine g_putF cx d1_12 (host := "") (Or.inl (hw _ (List.mem_of_getElem? (i := 27) rfl))) Via.refl O_ad0.2.1 O_ad0.1 (Or.inr ⟨(hw _ (List.mem_of_getElem? (i := 28) rfl)), rfl, rfl⟩) (hw _ (List.mem_of_getElem? (i := 2) rfl)) (ty := (.object "java/util/ArrayDeque")) (by decide) rfl rfl g_ad0 (fun h13 W14 => ?_)
  have O_ad0 := O_ad0.put1 hw W14
  have O_b2 := O_b2.oth W14 (Ne.symm ne_ad0_b2)
  have A_b7 := A_b7.other W14 (Ne.symm ne_ad0_b7)
  have OL := OL.wr W14 g_ad0
  have KK := KK.wr W14 (Or.inl (List.mem_of_getElem? (i := 0) rfl))
  refine g_aloadN cx d1_15 rfl rfl ?_
  refine g_new cx d1_16 (hw _ (List.mem_of_getElem? (i := 10) rfl)) (hw _ (List.mem_of_getElem? (i := 11) rfl)) (hw _ (List.mem_of_getElem? (i := 12) rfl)) (k' := 3) (n' := 23) rfl rfl (by decide) (by decide) (fun h15 b16 gb17 E18 X19 D20 => ?_)
  have ne_ad0_b16 : ad0 ≠ b16 := Nat.ne_of_lt (by rw [gb17]; exact O_ad0.lt)
  have ne_b2_b16 : b2 ≠ b16 := Nat.ne_of_lt (by rw [gb17]; exact O_b2.lt)
  have ne_b7_b16 : b7 ≠ b16 := Nat.ne_of_lt (by rw [gb17]; exact A_b7.lt)
  have g_b16 : Z.heap.size ≤ b16 := by rw [gb17]; exact OL.2.1
  have sz_b16 := (by rw [gb17]; exact KK.1 : h0.size ≤ b16)
  have O_ad0 := O_ad0.ext E18
  have O_b2 := O_b2.ext E18
  have A_b7 := A_b7.ext E18
  have OL := OL.ext E18
  have KK := KK.ext E18
  have O_b16 := ObD.new hw X19 D20
  refine g_dup cx d1_19 rfl ?_
  have lt_b16 := O_b16.lt
  refine g_special cx (y := (⟨"java/util/ArrayDeque", "<init>", "()V"⟩ : MethodName)) (a := b16) d1_20 rfl rfl (hw _ (List.mem_of_getElem? (i := 13) rfl)) (hw _ (List.mem_of_getElem? (i := 14) rfl)) (hw _ (List.mem_of_getElem? (i := 12) rfl)) (hw _ (List.mem_of_getElem? (i := 15) rfl)) (by decide) (bytes := jdk_21_method_3_code) (maxL' := 1) (M := (ra2 l Z a0 hw  b16 _ O_b16 g_b16 OL)) rfl (lenOf pd_0 rfl) (by decide) (W := 2) (Nat.le_of_eq rfl) (by decide) (k' := 4) (n' := 40) rfl rfl (by decide) (by decide) (argsL := []) (rest := [(.ref b16), (.ref ad0)]) rfl (fun v25 h24 q26 => ?_)
  obtain ⟨b21, cA22, rfl, K23, sq_b21, A_b21, OV_b21, O_b16⟩ := q26
  have ne_ad0_b21 : ad0 ≠ b21 := Nat.ne_of_lt (Nat.lt_of_lt_of_le O_ad0.lt sq_b21)
  have ne_b2_b21 : b2 ≠ b21 := Nat.ne_of_lt (Nat.lt_of_lt_of_le O_b2.lt sq_b21)
  have ne_b16_b21 : b16 ≠ b21 := Nat.ne_of_lt (Nat.lt_of_lt_of_le lt_b16 sq_b21)
  have ne_b7_b21 : b7 ≠ b21 := Nat.ne_of_lt (Nat.lt_of_lt_of_le A_b7.lt sq_b21)
  have g_b21 : Z.heap.size ≤ b21 := Nat.le_trans OL.2.1 sq_b21
  have sz_b21 := Nat.le_trans KK.1 sq_b21
  have O_ad0 := O_ad0.keep K23 (ninS ne_ad0_b16 nin0)
  have O_b2 := O_b2.keep K23 (ninS ne_b2_b16 nin0)
  have A_b7 := A_b7.keep K23 (ninS ne_b7_b16 nin0)
  have OL := OL.keep K23 (allS g_b16 all0)
  have KK := KK.trans K23 (allS (P := fun z => z ∈ _ ∨ _ ≤ z) (Or.inr sz_b16) all0)
  refine G.cast (st' := [(.ref b16), (.ref ad0)]) ?_ rfl
  refine g_putF cx d1_23 (host := "") (Or.inl (hw _ (List.mem_of_getElem? (i := 29) rfl))) Via.refl O_ad0.2.2.1 O_ad0.1 (Or.inr ⟨(hw _ (List.mem_of_getElem? (i := 30) rfl)), rfl, rfl⟩) (hw _ (List.mem_of_getElem? (i := 2) rfl)) (ty := (.object "java/util/ArrayDeque")) (by decide) rfl rfl g_ad0 (fun h27 W28 => ?_)
  have O_ad0 := O_ad0.put2 hw W28
  have O_b2 := O_b2.oth W28 (Ne.symm ne_ad0_b2)
  have O_b16 := O_b16.oth W28 (Ne.symm ne_ad0_b16)
  have A_b7 := A_b7.other W28 (Ne.symm ne_ad0_b7)
  have A_b21 := A_b21.other W28 (Ne.symm ne_ad0_b21)
  have OL := OL.wr W28 g_ad0
  have KK := KK.wr W28 (Or.inl (List.mem_of_getElem? (i := 0) rfl))
  refine g_retV cx d1_26 rfl (by decide) (by decide) ?_
  exact ⟨b2, b7, b16, b21, cA8, cA22, rfl, KK, sz_b2, sz_b7, sz_b16, sz_b21, ne_b2_b7, ne_b2_b16, ne_b7_b16, ne_b2_b21, ne_b7_b21, ne_b16_b21, O_b2, A_b7, O_b16, A_b21, OV_b7, OV_b21, O_ad0⟩
theorem d0_64 : Dc code 64 (.invokespecial 11) 3 67 := ⟨by decide +kernel, rfl⟩
theorem d0_67 : Dc code 67 (.astore 16) 2 69 := ⟨by decide +kernel, rfl⟩
theorem d0_69 : Dc code 69 (.aload 16) 2 71 := ⟨by decide +kernel, rfl⟩
theorem d5_0 : Dc prog_54_method_5_code 0 (.aload_n 0) 1 1 := ⟨by decide +kernel, rfl⟩
theorem d5_1 : Dc prog_54_method_5_code 1 (.getfield 76) 3 4 := ⟨by decide +kernel, rfl⟩
theorem d5_4 : Dc prog_54_method_5_code 4 (.lconst 0) 1 5 := ⟨by decide +kernel, rfl⟩
theorem d5_5 : Dc prog_54_method_5_code 5 (.lcmp) 1 6 := ⟨by decide +kernel, rfl⟩
theorem d5_6 : Bi prog_54_method_5_code 6 (Instr.ifCond .le) 13 9 := ⟨7, by decide +kernel, by decide, by decide, rfl⟩
theorem d5_13 : Dc prog_54_method_5_code 13 (.iconst 0) 1 14 := ⟨by decide +kernel, rfl⟩
theorem d5_14 : Dc prog_54_method_5_code 14 (.ireturn) 1 15 := ⟨by decide +kernel, rfl⟩
theorem pn_ra3 : plainName "com/example/thalweg/thalweg/node/Pace" = true := by first | (simp [plainName, overriddenIn]; done) | decide +kernel
set_option maxRecDepth 65536 in
set_option maxHeartbeats 40000000 in
theorem ra3 (l : Launch) (Z : State) (a0 : Array Value) (hw : ∀ d ∈ tables_1, d.before a0 Z = true)  (ad0 ad1 ad2 ad3 ad4 : Addr) (cA_ad2 : ClassId) (cA_ad4 : ClassId) (h0 : Heap) (O_ad0 : ObP Z h0 ad0 (.ref ad1) (.ref ad3) (.long (0 : Int64)) (.long (0 : Int64)) (.long (0 : Int64)) (.long (0 : Int64)) (.long (0 : Int64)) (.long (0 : Int64))) (O_ad1 : ObD Z h0 ad1 (.ref ad2) (.int (0 : Int32)) (.int (0 : Int32))) (O_ad3 : ObD Z h0 ad3 (.ref ad4) (.int (0 : Int32)) (.int (0 : Int32))) (A_ad2 : Arx Z h0 ad2 cA_ad2 (.object "java/lang/Object") (17 : Int32) [.null, .null, .null, .null, .null, .null, .null, .null, .null, .null, .null, .null, .null, .null, .null, .null, .null] .null "[Ljava/lang/Object;") (A_ad4 : Arx Z h0 ad4 cA_ad4 (.object "java/lang/Object") (17 : Int32) [.null, .null, .null, .null, .null, .null, .null, .null, .null, .null, .null, .null, .null, .null, .null, .null, .null] .null "[Ljava/lang/Object;") (OV_ad2 : Ovr Z cA_ad2 "java/lang/Object") (OV_ad4 : Ovr Z cA_ad4 "java/lang/Object") (ne_ad0_ad1 : ad0 ≠ ad1) (ne_ad0_ad2 : ad0 ≠ ad2) (ne_ad1_ad2 : ad1 ≠ ad2) (ne_ad0_ad3 : ad0 ≠ ad3) (ne_ad1_ad3 : ad1 ≠ ad3) (ne_ad2_ad3 : ad2 ≠ ad3) (ne_ad0_ad4 : ad0 ≠ ad4) (ne_ad1_ad4 : ad1 ≠ ad4) (ne_ad2_ad4 : ad2 ≠ ad4) (ne_ad3_ad4 : ad3 ≠ ad4) (g_ad0 : Z.heap.size ≤ ad0) (g_ad1 : Z.heap.size ≤ ad1) (g_ad2 : Z.heap.size ≤ ad2) (g_ad3 : Z.heap.size ≤ ad3) (g_ad4 : Z.heap.size ≤ ad4) (OL : Old Z Z.heap.size h0) :
    Met l Z (⟨"com/example/thalweg/thalweg/node/Pace", "known", "()Z"⟩ : MethodName) prog_54_method_5_code 1 (some .boolean) ({ frames := 0, cells := 0, slots := 0, locals := 0 } : Room) #[(.ref ad0)] h0 (fun v h' => (v = some (.int (0 : Int32)) ∧ h0 = h')) := by
  refine met_of (Ls := #[.val (.ref ad0)]) (plainFor_of_name pn_ra3) (fun m => by first | (simp [entryFrame, mkF, argsToLocals, Value.category]; done) | rfl) (fun p e s m below meth c cx => ?_)
  have KK := Keep.refl h0 []
  refine g_aloadN cx d5_0 rfl rfl ?_
  refine g_getF cx d5_1 (host := "") (Or.inl (hw _ (List.mem_of_getElem? (i := 36) rfl))) Via.refl O_ad0.2.2.2.1 ?_
  refine g_lconst cx d5_4 (v := (0 : Int64)) rfl ?_
  refine g_lif_le cx d5_5 d5_6 (fun hc6 => ?_) (fun q => absurd q (fun q => by revert q; decide))
  refine g_iconst cx d5_13 (v := (0 : Int32)) rfl ?_
  refine g_retZ cx d5_14 rfl rfl (by decide) (by decide) ?_
  exact ⟨rfl, rfl⟩
theorem pd_1 : parseMethodDescriptor "()Z" = some ⟨[], some .boolean⟩ := by decide +kernel
theorem d0_71 : Dc code 71 (.invokevirtual 12) 3 74 := ⟨by decide +kernel, rfl⟩
theorem d0_74 : Dc code 74 (.istore 17) 2 76 := ⟨by decide +kernel, rfl⟩
theorem d0_76 : Dc code 76 (.aload 16) 2 78 := ⟨by decide +kernel, rfl⟩
theorem d0_78 : Dc code 78 (.lload 6) 2 80 := ⟨by decide +kernel, rfl⟩
theorem d0_80 : Dc code 80 (.iload_n 3) 1 81 := ⟨by decide +kernel, rfl⟩
theorem d0_81 : Dc code 81 (.i2l) 1 82 := ⟨by decide +kernel, rfl⟩
theorem d6_0 : Dc prog_54_method_2_code 0 (.aload_n 0) 1 1 := ⟨by decide +kernel, rfl⟩
theorem d6_1 : Dc prog_54_method_2_code 1 (.getfield 10) 3 4 := ⟨by decide +kernel, rfl⟩
theorem d7_0 : Dc jdk_21_method_38_code 0 (.aload_n 0) 1 1 := ⟨by decide +kernel, rfl⟩
theorem d7_1 : Dc jdk_21_method_38_code 1 (.getfield 24) 3 4 := ⟨by decide +kernel, rfl⟩
theorem d7_4 : Dc jdk_21_method_38_code 4 (.aload_n 0) 1 5 := ⟨by decide +kernel, rfl⟩
theorem d7_5 : Dc jdk_21_method_38_code 5 (.getfield 20) 3 8 := ⟨by decide +kernel, rfl⟩
theorem d7_8 : Bi jdk_21_method_38_code 8 (Instr.if_icmp .ne) 15 11 := ⟨7, by decide +kernel, by decide, by decide, rfl⟩
theorem d7_11 : Dc jdk_21_method_38_code 11 (.iconst 1) 1 12 := ⟨by decide +kernel, rfl⟩
theorem d7_12 : Bi jdk_21_method_38_code 12 (Instr.goto) 16 15 := ⟨4, by decide +kernel, by decide, by decide, rfl⟩
theorem d7_16 : Dc jdk_21_method_38_code 16 (.ireturn) 1 17 := ⟨by decide +kernel, rfl⟩
theorem pn_ra5 : plainName "java/util/ArrayDeque" = true := by first | (simp [plainName, overriddenIn]; done) | decide +kernel
set_option maxRecDepth 65536 in
set_option maxHeartbeats 40000000 in
theorem ra5 (l : Launch) (Z : State) (a0 : Array Value) (hw : ∀ d ∈ tables_1, d.before a0 Z = true)  (ad0 ad1 : Addr) (cA_ad1 : ClassId) (h0 : Heap) (O_ad0 : ObD Z h0 ad0 (.ref ad1) (.int (0 : Int32)) (.int (0 : Int32))) (A_ad1 : Arx Z h0 ad1 cA_ad1 (.object "java/lang/Object") (17 : Int32) [.null, .null, .null, .null, .null, .null, .null, .null, .null, .null, .null, .null, .null, .null, .null, .null, .null] .null "[Ljava/lang/Object;") (OV_ad1 : Ovr Z cA_ad1 "java/lang/Object") (ne_ad0_ad1 : ad0 ≠ ad1) (g_ad0 : Z.heap.size ≤ ad0) (g_ad1 : Z.heap.size ≤ ad1) (OL : Old Z Z.heap.size h0) :
    Met l Z (⟨"java/util/ArrayDeque", "isEmpty", "()Z"⟩ : MethodName) jdk_21_method_38_code 1 (some .boolean) ({ frames := 0, cells := 0, slots := 0, locals := 0 } : Room) #[(.ref ad0)] h0 (fun v h' => (v = some (.int (1 : Int32)) ∧ h0 = h')) := by
  refine met_of (Ls := #[.val (.ref ad0)]) (plainFor_of_name pn_ra5) (fun m => by first | (simp [entryFrame, mkF, argsToLocals, Value.category]; done) | rfl) (fun p e s m below meth c cx => ?_)
  have KK := Keep.refl h0 []
  refine g_aloadN cx d7_0 rfl rfl ?_
  refine g_getF cx d7_1 (host := "") (Or.inl (hw _ (List.mem_of_getElem? (i := 48) rfl))) Via.refl O_ad0.2.2.1 ?_
  refine g_aloadN cx d7_4 rfl rfl ?_
  refine g_getF cx d7_5 (host := "") (Or.inl (hw _ (List.mem_of_getElem? (i := 50) rfl))) Via.refl O_ad0.2.2.2 ?_
  refine g_icmp_ne cx d7_8 (fun q => absurd q (fun q => by revert q; decide)) (fun hc8 => ?_)
  refine g_iconst cx d7_11 (v := (1 : Int32)) rfl ?_
  refine g_goto cx d7_12 ?_
  refine g_retZ cx d7_16 rfl rfl (by decide) (by decide) ?_
  exact ⟨rfl, rfl⟩
theorem d6_4 : Dc prog_54_method_2_code 4 (.invokevirtual 19) 3 7 := ⟨by decide +kernel, rfl⟩
theorem d6_7 : Bi prog_54_method_2_code 7 (Instr.ifCond .eq) 15 10 := ⟨8, by decide +kernel, by decide, by decide, rfl⟩
theorem d6_10 : Dc prog_54_method_2_code 10 (.aload_n 0) 1 11 := ⟨by decide +kernel, rfl⟩
theorem d6_11 : Dc prog_54_method_2_code 11 (.lload_n 3) 1 12 := ⟨by decide +kernel, rfl⟩
theorem d6_12 : Dc prog_54_method_2_code 12 (.putfield 23) 3 15 := ⟨by decide +kernel, rfl⟩
theorem d6_15 : Dc prog_54_method_2_code 15 (.aload_n 0) 1 16 := ⟨by decide +kernel, rfl⟩
theorem d6_16 : Dc prog_54_method_2_code 16 (.getfield 10) 3 19 := ⟨by decide +kernel, rfl⟩
theorem d6_19 : Dc prog_54_method_2_code 19 (.iconst 2) 1 20 := ⟨by decide +kernel, rfl⟩
theorem d6_20 : Dc prog_54_method_2_code 20 (.newarray .long) 2 22 := ⟨by decide +kernel, rfl⟩
theorem d6_22 : Dc prog_54_method_2_code 22 (.dup) 1 23 := ⟨by decide +kernel, rfl⟩
theorem d6_23 : Dc prog_54_method_2_code 23 (.iconst 0) 1 24 := ⟨by decide +kernel, rfl⟩
theorem d6_24 : Dc prog_54_method_2_code 24 (.lload_n 1) 1 25 := ⟨by decide +kernel, rfl⟩
theorem d6_25 : Dc prog_54_method_2_code 25 (.lastore) 1 26 := ⟨by decide +kernel, rfl⟩
theorem d6_26 : Dc prog_54_method_2_code 26 (.dup) 1 27 := ⟨by decide +kernel, rfl⟩
theorem d6_27 : Dc prog_54_method_2_code 27 (.iconst 1) 1 28 := ⟨by decide +kernel, rfl⟩
theorem d6_28 : Dc prog_54_method_2_code 28 (.lload_n 3) 1 29 := ⟨by decide +kernel, rfl⟩
theorem d6_29 : Dc prog_54_method_2_code 29 (.lastore) 1 30 := ⟨by decide +kernel, rfl⟩
theorem d8_0 : Dc jdk_21_method_13_code 0 (.aload_n 1) 1 1 := ⟨by decide +kernel, rfl⟩
theorem d8_1 : Bi jdk_21_method_13_code 1 (Instr.ifnonnull) 12 4 := ⟨11, by decide +kernel, by decide, by decide, rfl⟩
theorem d8_12 : Dc jdk_21_method_13_code 12 (.aload_n 0) 1 13 := ⟨by decide +kernel, rfl⟩
theorem d8_13 : Dc jdk_21_method_13_code 13 (.getfield 3) 3 16 := ⟨by decide +kernel, rfl⟩
theorem d8_16 : Dc jdk_21_method_13_code 16 (.astore_n 2) 1 17 := ⟨by decide +kernel, rfl⟩
theorem d8_17 : Dc jdk_21_method_13_code 17 (.aload_n 2) 1 18 := ⟨by decide +kernel, rfl⟩
theorem d8_18 : Dc jdk_21_method_13_code 18 (.aload_n 0) 1 19 := ⟨by decide +kernel, rfl⟩
theorem d8_19 : Dc jdk_21_method_13_code 19 (.getfield 20) 3 22 := ⟨by decide +kernel, rfl⟩
theorem d8_22 : Dc jdk_21_method_13_code 22 (.aload_n 1) 1 23 := ⟨by decide +kernel, rfl⟩
theorem d8_23 : Dc jdk_21_method_13_code 23 (.aastore) 1 24 := ⟨by decide +kernel, rfl⟩
theorem d8_24 : Dc jdk_21_method_13_code 24 (.aload_n 0) 1 25 := ⟨by decide +kernel, rfl⟩
theorem d8_25 : Dc jdk_21_method_13_code 25 (.getfield 24) 3 28 := ⟨by decide +kernel, rfl⟩
theorem d8_28 : Dc jdk_21_method_13_code 28 (.aload_n 0) 1 29 := ⟨by decide +kernel, rfl⟩
theorem d8_29 : Dc jdk_21_method_13_code 29 (.aload_n 0) 1 30 := ⟨by decide +kernel, rfl⟩
theorem d8_30 : Dc jdk_21_method_13_code 30 (.getfield 20) 3 33 := ⟨by decide +kernel, rfl⟩
theorem d8_33 : Dc jdk_21_method_13_code 33 (.aload_n 2) 1 34 := ⟨by decide +kernel, rfl⟩
theorem d8_34 : Dc jdk_21_method_13_code 34 (.arraylength) 1 35 := ⟨by decide +kernel, rfl⟩
theorem d9_0 : Dc jdk_21_method_6_code 0 (.iinc 0 1) 3 3 := ⟨by decide +kernel, rfl⟩
theorem d9_3 : Dc jdk_21_method_6_code 3 (.iload_n 0) 1 4 := ⟨by decide +kernel, rfl⟩
theorem d9_4 : Dc jdk_21_method_6_code 4 (.iload_n 1) 1 5 := ⟨by decide +kernel, rfl⟩
theorem d9_5 : Bi jdk_21_method_6_code 5 (Instr.if_icmp .lt) 10 8 := ⟨5, by decide +kernel, by decide, by decide, rfl⟩
theorem d9_10 : Dc jdk_21_method_6_code 10 (.iload_n 0) 1 11 := ⟨by decide +kernel, rfl⟩
theorem d9_11 : Dc jdk_21_method_6_code 11 (.ireturn) 1 12 := ⟨by decide +kernel, rfl⟩
theorem pn_ra7 : plainName "java/util/ArrayDeque" = true := by first | (simp [plainName, overriddenIn]; done) | decide +kernel
set_option maxRecDepth 65536 in
set_option maxHeartbeats 40000000 in
theorem ra7 (l : Launch) (Z : State) (a0 : Array Value) (hw : ∀ d ∈ tables_1, d.before a0 Z = true)  (h0 : Heap) (OL : Old Z Z.heap.size h0) :
    Met l Z (⟨"java/util/ArrayDeque", "inc", "(II)I"⟩ : MethodName) jdk_21_method_6_code 2 (some .int) ({ frames := 0, cells := 0, slots := 0, locals := 0 } : Room) #[(.int (0 : Int32)), (.int (17 : Int32))] h0 (fun v h' => (v = some (.int (1 : Int32)) ∧ h0 = h')) := by
  refine met_of (Ls := #[.val (.int (0 : Int32)), .val (.int (17 : Int32))]) (plainFor_of_name pn_ra7) (fun m => by first | (simp [entryFrame, mkF, argsToLocals, Value.category]; done) | rfl) (fun p e s m below meth c cx => ?_)
  have KK := Keep.refl h0 []
  refine g_iinc cx d9_0 rfl (v := (1 : Int32)) rfl (Ls' := #[.val (.int (1 : Int32)), .val (.int (17 : Int32))]) rfl ?_
  refine g_iloadN cx d9_3 rfl ?_
  refine g_iloadN cx d9_4 rfl ?_
  refine g_icmp_lt cx d9_5 (fun hc5 => ?_) (fun q => absurd q (fun q => by revert q; decide))
  refine g_iloadN cx d9_10 rfl ?_
  refine g_retI cx d9_11 rfl (by decide) (by decide) ?_
  exact ⟨rfl, rfl⟩
theorem pd_2 : parseMethodDescriptor "(II)I" = some ⟨[.int, .int], some .int⟩ := by decide +kernel
theorem d8_35 : Dc jdk_21_method_13_code 35 (.invokestatic 74) 3 38 := ⟨by decide +kernel, rfl⟩
theorem d8_38 : Dc jdk_21_method_13_code 38 (.dup_x1) 1 39 := ⟨by decide +kernel, rfl⟩
theorem d8_39 : Dc jdk_21_method_13_code 39 (.putfield 20) 3 42 := ⟨by decide +kernel, rfl⟩
theorem d8_42 : Bi jdk_21_method_13_code 42 (Instr.if_icmp .ne) 50 45 := ⟨8, by decide +kernel, by decide, by decide, rfl⟩
theorem d8_50 : Dc jdk_21_method_13_code 50 (.return_) 1 51 := ⟨by decide +kernel, rfl⟩
theorem pn_ra6 : plainName "java/util/ArrayDeque" = true := by first | (simp [plainName, overriddenIn]; done) | decide +kernel
set_option maxRecDepth 65536 in
set_option maxHeartbeats 40000000 in
theorem ra6 (l : Launch) (Z : State) (a0 : Array Value) (hw : ∀ d ∈ tables_1, d.before a0 Z = true)  (ad0 ad1 ad2 : Addr) (x0 : Int64) (x1 : Int64) (cA_ad1 : ClassId) (cA_ad2 : ClassId) (h0 : Heap) (O_ad0 : ObD Z h0 ad0 (.ref ad1) (.int (0 : Int32)) (.int (0 : Int32))) (A_ad1 : Arx Z h0 ad1 cA_ad1 (.object "java/lang/Object") (17 : Int32) [.null, .null, .null, .null, .null, .null, .null, .null, .null, .null, .null, .null, .null, .null, .null, .null, .null] .null "[Ljava/lang/Object;") (A_ad2 : Arx Z h0 ad2 cA_ad2 .long (2 : Int32) [(.long x0), (.long x1)] (.long (0 : Int64)) "[J") (OV_ad1 : Ovr Z cA_ad1 "java/lang/Object") (ne_ad0_ad1 : ad0 ≠ ad1) (ne_ad0_ad2 : ad0 ≠ ad2) (ne_ad1_ad2 : ad1 ≠ ad2) (g_ad0 : Z.heap.size ≤ ad0) (g_ad1 : Z.heap.size ≤ ad1) (g_ad2 : Z.heap.size ≤ ad2) (OL : Old Z Z.heap.size h0) :
    Met l Z (⟨"java/util/ArrayDeque", "addLast", "(Ljava/lang/Object;)V"⟩ : MethodName) jdk_21_method_13_code 3 none ({ frames := 1, cells := 0, slots := 0, locals := 15 } : Room) #[(.ref ad0), (.ref ad2)] h0 (fun v h' => (v = none ∧ Keep h0 h' [ad0, ad1] ∧ ObD Z h' ad0 (.ref ad1) (.int (0 : Int32)) (.int (1 : Int32)) ∧ Arx Z h' ad1 cA_ad1 (.object "java/lang/Object") (17 : Int32) [(.ref ad2), .null, .null, .null, .null, .null, .null, .null, .null, .null, .null, .null, .null, .null, .null, .null, .null] .null "[Ljava/lang/Object;")) := by
  refine met_of (Ls := #[.val (.ref ad0), .val (.ref ad2), .unset]) (plainFor_of_name pn_ra6) (fun m => by first | (simp [entryFrame, mkF, argsToLocals, Value.category]; done) | rfl) (fun p e s m below meth c cx => ?_)
  have KK := Keep.refl h0 [ad0, ad1]
  refine g_aloadN cx d8_0 rfl rfl ?_
  refine g_ifnonnull_ref cx d8_1 ?_
  refine g_aloadN cx d8_12 rfl rfl ?_
  refine g_getF cx d8_13 (host := "") (Or.inl (hw _ (List.mem_of_getElem? (i := 25) rfl))) Via.refl O_ad0.2.1 ?_
  refine g_astoreN cx d8_16 rfl (Ls' := #[.val (.ref ad0), .val (.ref ad2), .val (.ref ad1)]) rfl ?_
  refine g_aloadN cx d8_17 rfl rfl ?_
  refine g_aloadN cx d8_18 rfl rfl ?_
  refine g_getF cx d8_19 (host := "") (Or.inl (hw _ (List.mem_of_getElem? (i := 50) rfl))) Via.refl O_ad0.2.2.2 ?_
  refine g_aloadN cx d8_22 rfl rfl ?_
  refine g_aastore cx d8_23 A_ad1 rfl rfl (sto_of A_ad1 OV_ad1 (Ins.of_exa A_ad2.2 (hw _ (List.mem_of_getElem? (i := 60) rfl)))) ⟨by decide, by decide⟩ (Nat.le_of_ble_eq_true rfl) g_ad1 (fun h1 W2 AA3 => ?_)
  have O_ad0 := O_ad0.oth W2 ne_ad0_ad1
  have A_ad1 : Arx Z h1 ad1 cA_ad1 (.object "java/lang/Object") (17 : Int32) [(.ref ad2), .null, .null, .null, .null, .null, .null, .null, .null, .null, .null, .null, .null, .null, .null, .null, .null] .null "[Ljava/lang/Object;" := AA3
  have A_ad2 := A_ad2.other W2 (Ne.symm ne_ad1_ad2)
  have OL := OL.wr W2 g_ad1
  have KK := KK.wr W2 (Or.inl (List.mem_of_getElem? (i := 1) rfl))
  refine g_aloadN cx d8_24 rfl rfl ?_
  refine g_getF cx d8_25 (host := "") (Or.inl (hw _ (List.mem_of_getElem? (i := 48) rfl))) Via.refl O_ad0.2.2.1 ?_
  refine g_aloadN cx d8_28 rfl rfl ?_
  refine g_aloadN cx d8_29 rfl rfl ?_
  refine g_getF cx d8_30 (host := "") (Or.inl (hw _ (List.mem_of_getElem? (i := 50) rfl))) Via.refl O_ad0.2.2.2 ?_
  refine g_aloadN cx d8_33 rfl rfl ?_
  refine g_arraylength cx d8_34 A_ad1.1 ?_
  refine g_static cx (y := (⟨"java/util/ArrayDeque", "inc", "(II)I"⟩ : MethodName)) d8_35 (hw _ (List.mem_of_getElem? (i := 61) rfl)) (hw _ (List.mem_of_getElem? (i := 62) rfl)) (hw _ (List.mem_of_getElem? (i := 12) rfl)) (hw _ (List.mem_of_getElem? (i := 63) rfl)) (by decide) (bytes := jdk_21_method_6_code) (maxL' := 2) (M := (ra7 l Z a0 hw   _  OL)) rfl (lenOf pd_2 rfl) (by decide) (W := 2) (Nat.le_of_eq rfl) (by decide) (k' := 0) (n' := 0) rfl rfl (by decide) (by decide) (argsL := [(.int (0 : Int32)), (.int (17 : Int32))]) (rest := [(.ref ad0), (.int (0 : Int32))]) rfl (fun v6 h5 q7 => ?_)
  obtain ⟨rfl, rfl⟩ := q7
  refine G.cast (st' := [(.int (1 : Int32)), (.ref ad0), (.int (0 : Int32))]) ?_ rfl
  refine g_dup_x1 cx d8_38 rfl rfl ?_
  refine g_putF cx d8_39 (host := "") (Or.inl (hw _ (List.mem_of_getElem? (i := 50) rfl))) Via.refl O_ad0.2.2.2 O_ad0.1 (Or.inl (hw _ (List.mem_of_getElem? (i := 51) rfl))) (hw _ (List.mem_of_getElem? (i := 11) rfl)) (ty := .int) (by decide) rfl rfl g_ad0 (fun h8 W9 => ?_)
  have O_ad0 := O_ad0.put3 hw W9
  have A_ad1 := A_ad1.other W9 (Ne.symm ne_ad0_ad1)
  have A_ad2 := A_ad2.other W9 (Ne.symm ne_ad0_ad2)
  have OL := OL.wr W9 g_ad0
  have KK := KK.wr W9 (Or.inl (List.mem_of_getElem? (i := 0) rfl))
  refine g_icmp_ne cx d8_42 (fun hc42 => ?_) (fun q => absurd q (fun q => by revert q; decide))
  refine g_retV cx d8_50 rfl (by decide) (by decide) ?_
  exact ⟨rfl, KK, O_ad0, A_ad1⟩
theorem pd_3 : parseMethodDescriptor "(Ljava/lang/Object;)V" = some ⟨[(.object "java/lang/Object")], none⟩ := by decide +kernel
theorem d6_30 : Dc prog_54_method_2_code 30 (.invokevirtual 27) 3 33 := ⟨by decide +kernel, rfl⟩
theorem d6_33 : Dc prog_54_method_2_code 33 (.aload_n 0) 1 34 := ⟨by decide +kernel, rfl⟩
theorem d6_34 : Dc prog_54_method_2_code 34 (.dup) 1 35 := ⟨by decide +kernel, rfl⟩
theorem d6_35 : Dc prog_54_method_2_code 35 (.getfield 31) 3 38 := ⟨by decide +kernel, rfl⟩
theorem d6_38 : Dc prog_54_method_2_code 38 (.lload_n 1) 1 39 := ⟨by decide +kernel, rfl⟩
theorem d6_39 : Dc prog_54_method_2_code 39 (.ladd) 1 40 := ⟨by decide +kernel, rfl⟩
theorem d6_40 : Dc prog_54_method_2_code 40 (.putfield 31) 3 43 := ⟨by decide +kernel, rfl⟩
theorem d6_43 : Dc prog_54_method_2_code 43 (.aload_n 0) 1 44 := ⟨by decide +kernel, rfl⟩
theorem d6_44 : Dc prog_54_method_2_code 44 (.dup) 1 45 := ⟨by decide +kernel, rfl⟩
theorem d6_45 : Dc prog_54_method_2_code 45 (.getfield 34) 3 48 := ⟨by decide +kernel, rfl⟩
theorem d6_48 : Dc prog_54_method_2_code 48 (.lconst 1) 1 49 := ⟨by decide +kernel, rfl⟩
theorem d6_49 : Dc prog_54_method_2_code 49 (.ladd) 1 50 := ⟨by decide +kernel, rfl⟩
theorem d6_50 : Dc prog_54_method_2_code 50 (.putfield 34) 3 53 := ⟨by decide +kernel, rfl⟩
theorem d6_53 : Dc prog_54_method_2_code 53 (.return_) 1 54 := ⟨by decide +kernel, rfl⟩
theorem pn_ra4 : plainName "com/example/thalweg/thalweg/node/Pace" = true := by first | (simp [plainName, overriddenIn]; done) | decide +kernel
set_option maxRecDepth 65536 in
set_option maxHeartbeats 40000000 in
theorem ra4 (l : Launch) (Z : State) (a0 : Array Value) (hw : ∀ d ∈ tables_1, d.before a0 Z = true)  (ad0 ad1 ad2 ad3 ad4 : Addr) (x0 : Int64) (x1 : Int64) (cA_ad2 : ClassId) (cA_ad4 : ClassId) (h0 : Heap) (O_ad0 : ObP Z h0 ad0 (.ref ad1) (.ref ad3) (.long (0 : Int64)) (.long (0 : Int64)) (.long (0 : Int64)) (.long (0 : Int64)) (.long (0 : Int64)) (.long (0 : Int64))) (O_ad1 : ObD Z h0 ad1 (.ref ad2) (.int (0 : Int32)) (.int (0 : Int32))) (O_ad3 : ObD Z h0 ad3 (.ref ad4) (.int (0 : Int32)) (.int (0 : Int32))) (A_ad2 : Arx Z h0 ad2 cA_ad2 (.object "java/lang/Object") (17 : Int32) [.null, .null, .null, .null, .null, .null, .null, .null, .null, .null, .null, .null, .null, .null, .null, .null, .null] .null "[Ljava/lang/Object;") (A_ad4 : Arx Z h0 ad4 cA_ad4 (.object "java/lang/Object") (17 : Int32) [.null, .null, .null, .null, .null, .null, .null, .null, .null, .null, .null, .null, .null, .null, .null, .null, .null] .null "[Ljava/lang/Object;") (OV_ad2 : Ovr Z cA_ad2 "java/lang/Object") (OV_ad4 : Ovr Z cA_ad4 "java/lang/Object") (ne_ad0_ad1 : ad0 ≠ ad1) (ne_ad0_ad2 : ad0 ≠ ad2) (ne_ad1_ad2 : ad1 ≠ ad2) (ne_ad0_ad3 : ad0 ≠ ad3) (ne_ad1_ad3 : ad1 ≠ ad3) (ne_ad2_ad3 : ad2 ≠ ad3) (ne_ad0_ad4 : ad0 ≠ ad4) (ne_ad1_ad4 : ad1 ≠ ad4) (ne_ad2_ad4 : ad2 ≠ ad4) (ne_ad3_ad4 : ad3 ≠ ad4) (g_ad0 : Z.heap.size ≤ ad0) (g_ad1 : Z.heap.size ≤ ad1) (g_ad2 : Z.heap.size ≤ ad2) (g_ad3 : Z.heap.size ≤ ad3) (g_ad4 : Z.heap.size ≤ ad4) (OL : Old Z Z.heap.size h0) :
    Met l Z (⟨"com/example/thalweg/thalweg/node/Pace", "written", "(JJ)V"⟩ : MethodName) prog_54_method_2_code 5 none ({ frames := 2, cells := 1, slots := 2, locals := 29 } : Room) #[(.ref ad0), (.long x0), (.long x1)] h0 (fun v h' => (∃ (b8 : Addr) (cA9 : ClassId) , v = none ∧ Keep h0 h' [ad0, ad1, ad2] ∧ h0.size ≤ b8 ∧ Arx Z h' b8 cA9 .long (2 : Int32) [(.long x0), (.long x1)] (.long (0 : Int64)) "[J" ∧ ObP Z h' ad0 (.ref ad1) (.ref ad3) (.long (0 : Int64)) (.long x1) (.long x0) (.long (1 : Int64)) (.long (0 : Int64)) (.long (0 : Int64)) ∧ ObD Z h' ad1 (.ref ad2) (.int (0 : Int32)) (.int (1 : Int32)) ∧ Arx Z h' ad2 cA_ad2 (.object "java/lang/Object") (17 : Int32) [(.ref b8), .null, .null, .null, .null, .null, .null, .null, .null, .null, .null, .null, .null, .null, .null, .null, .null] .null "[Ljava/lang/Object;")) := by
  refine met_of (Ls := #[.val (.ref ad0), .val (.long x0), .second, .val (.long x1), .second]) (plainFor_of_name pn_ra4) (fun m => by first | (simp [entryFrame, mkF, argsToLocals, Value.category]; done) | rfl) (fun p e s m below meth c cx => ?_)
  have KK := Keep.refl h0 [ad0, ad1, ad2]
  refine g_aloadN cx d6_0 rfl rfl ?_
  refine g_getF cx d6_1 (host := "") (Or.inl (hw _ (List.mem_of_getElem? (i := 27) rfl))) Via.refl O_ad0.2.1 ?_
  refine g_virtual cx (y := (⟨"java/util/ArrayDeque", "isEmpty", "()Z"⟩ : MethodName)) (z := (⟨"java/util/ArrayDeque", "isEmpty", "()Z"⟩ : MethodName)) (a := ad1) d6_4 (hw _ (List.mem_of_getElem? (i := 43) rfl)) (hw _ (List.mem_of_getElem? (i := 44) rfl)) (hw _ (List.mem_of_getElem? (i := 12) rfl)) (hw _ (List.mem_of_getElem? (i := 47) rfl)) (hw _ (List.mem_of_getElem? (i := 46) rfl)) (hw _ (List.mem_of_getElem? (i := 45) rfl)) rfl (by decide) O_ad1.1 (bytes := jdk_21_method_38_code) (maxL' := 1) (M := (ra5 l Z a0 hw  ad1 ad2 cA_ad2 _ O_ad1 A_ad2 OV_ad2 ne_ad1_ad2 g_ad1 g_ad2 OL)) rfl (lenOf pd_1 rfl) (by decide) (W := 0) (Nat.le_of_eq rfl) (by decide) (k' := 0) (n' := 0) rfl rfl (by decide) (by decide) (argsL := []) (rest := []) rfl (fun v3 h2 q4 => ?_)
  obtain ⟨rfl, rfl⟩ := q4
  refine G.cast (st' := [(.int (1 : Int32))]) ?_ rfl
  refine g_if_eq cx d6_7 (fun q => absurd q (fun q => by revert q; decide)) (fun hc7 => ?_)
  refine g_aloadN cx d6_10 rfl rfl ?_
  refine g_lloadN cx d6_11 rfl ?_
  refine g_putF cx d6_12 (host := "") (Or.inl (hw _ (List.mem_of_getElem? (i := 52) rfl))) Via.refl O_ad0.2.2.2.2.1 O_ad0.1 (Or.inl (hw _ (List.mem_of_getElem? (i := 53) rfl))) (hw _ (List.mem_of_getElem? (i := 2) rfl)) (ty := .long) (by decide) rfl rfl g_ad0 (fun h5 W6 => ?_)
  have O_ad0 := O_ad0.put4 hw W6
  have O_ad1 := O_ad1.oth W6 (Ne.symm ne_ad0_ad1)
  have O_ad3 := O_ad3.oth W6 (Ne.symm ne_ad0_ad3)
  have A_ad2 := A_ad2.other W6 (Ne.symm ne_ad0_ad2)
  have A_ad4 := A_ad4.other W6 (Ne.symm ne_ad0_ad4)
  have OL := OL.wr W6 g_ad0
  have KK := KK.wr W6 (Or.inl (List.mem_of_getElem? (i := 0) rfl))
  refine g_aloadN cx d6_15 rfl rfl ?_
  refine g_getF cx d6_16 (host := "") (Or.inl (hw _ (List.mem_of_getElem? (i := 27) rfl))) Via.refl O_ad0.2.1 ?_
  refine g_iconst cx d6_19 (v := (2 : Int32)) rfl ?_
  refine g_newarray cx (ad := "[J") (by decide) d6_20 (hw _ (List.mem_of_getElem? (i := 54) rfl)) (by decide) (cap := 2) (by decide) (by decide) (k' := 1) (n' := 2) rfl rfl (by decide) (by decide) (fun h7 b8 cA9 gb10 E11 X12 => ?_)
  have ne_ad0_b8 : ad0 ≠ b8 := Nat.ne_of_lt (by rw [gb10]; exact O_ad0.lt)
  have ne_ad1_b8 : ad1 ≠ b8 := Nat.ne_of_lt (by rw [gb10]; exact O_ad1.lt)
  have ne_ad3_b8 : ad3 ≠ b8 := Nat.ne_of_lt (by rw [gb10]; exact O_ad3.lt)
  have ne_ad2_b8 : ad2 ≠ b8 := Nat.ne_of_lt (by rw [gb10]; exact A_ad2.lt)
  have ne_ad4_b8 : ad4 ≠ b8 := Nat.ne_of_lt (by rw [gb10]; exact A_ad4.lt)
  have g_b8 : Z.heap.size ≤ b8 := by rw [gb10]; exact OL.2.1
  have sz_b8 := (by rw [gb10]; exact KK.1 : h0.size ≤ b8)
  have O_ad0 := O_ad0.ext E11
  have O_ad1 := O_ad1.ext E11
  have O_ad3 := O_ad3.ext E11
  have A_ad2 := A_ad2.ext E11
  have A_ad4 := A_ad4.ext E11
  have OL := OL.ext E11
  have KK := KK.ext E11
  have A_b8 : Arx Z h7 b8 cA9 .long (2 : Int32) [(.long (0 : Int64)), (.long (0 : Int64))] (.long (0 : Int64)) "[J" := X12.pad (pad_rep [] (.long (0 : Int64)) 2)
  refine g_dup cx d6_22 rfl ?_
  refine g_iconst cx d6_23 (v := (0 : Int32)) rfl ?_
  refine g_lloadN cx d6_24 rfl ?_
  refine g_lastore cx d6_25 A_b8 ⟨by decide, by decide⟩ (Nat.le_of_ble_eq_true rfl) g_b8 (fun h13 W14 AA15 => ?_)
  have O_ad0 := O_ad0.oth W14 ne_ad0_b8
  have O_ad1 := O_ad1.oth W14 ne_ad1_b8
  have O_ad3 := O_ad3.oth W14 ne_ad3_b8
  have A_ad2 := A_ad2.other W14 ne_ad2_b8
  have A_ad4 := A_ad4.other W14 ne_ad4_b8
  have A_b8 : Arx Z h13 b8 cA9 .long (2 : Int32) [(.long x0), (.long (0 : Int64))] (.long (0 : Int64)) "[J" := AA15
  have OL := OL.wr W14 g_b8
  have KK := KK.wr W14 (Or.inr sz_b8)
  refine g_dup cx d6_26 rfl ?_
  refine g_iconst cx d6_27 (v := (1 : Int32)) rfl ?_
  refine g_lloadN cx d6_28 rfl ?_
  refine g_lastore cx d6_29 A_b8 ⟨by decide, by decide⟩ (Nat.le_of_ble_eq_true rfl) g_b8 (fun h16 W17 AA18 => ?_)
  have O_ad0 := O_ad0.oth W17 ne_ad0_b8
  have O_ad1 := O_ad1.oth W17 ne_ad1_b8
  have O_ad3 := O_ad3.oth W17 ne_ad3_b8
  have A_ad2 := A_ad2.other W17 ne_ad2_b8
  have A_ad4 := A_ad4.other W17 ne_ad4_b8
  have A_b8 : Arx Z h16 b8 cA9 .long (2 : Int32) [(.long x0), (.long x1)] (.long (0 : Int64)) "[J" := AA18
  have OL := OL.wr W17 g_b8
  have KK := KK.wr W17 (Or.inr sz_b8)
  refine g_virtual cx (y := (⟨"java/util/ArrayDeque", "addLast", "(Ljava/lang/Object;)V"⟩ : MethodName)) (z := (⟨"java/util/ArrayDeque", "addLast", "(Ljava/lang/Object;)V"⟩ : MethodName)) (a := ad1) d6_30 (hw _ (List.mem_of_getElem? (i := 55) rfl)) (hw _ (List.mem_of_getElem? (i := 56) rfl)) (hw _ (List.mem_of_getElem? (i := 12) rfl)) (hw _ (List.mem_of_getElem? (i := 59) rfl)) (hw _ (List.mem_of_getElem? (i := 58) rfl)) (hw _ (List.mem_of_getElem? (i := 57) rfl)) rfl (by decide) O_ad1.1 (bytes := jdk_21_method_13_code) (maxL' := 3) (M := (ra6 l Z a0 hw  ad1 ad2 b8 x0 x1 cA_ad2 cA9 _ O_ad1 A_ad2 A_b8 OV_ad2 ne_ad1_ad2 ne_ad1_b8 ne_ad2_b8 g_ad1 g_ad2 g_b8 OL)) rfl (lenOf pd_3 rfl) (by decide) (W := 0) (Nat.le_of_eq rfl) (by decide) (k' := 1) (n' := 2) rfl rfl (by decide) (by decide) (argsL := [(.ref b8)]) (rest := []) rfl (fun v21 h20 q22 => ?_)
  obtain ⟨rfl, K19, O_ad1, A_ad2⟩ := q22
  have O_ad0 := O_ad0.keep K19 (ninS ne_ad0_ad1 (ninS ne_ad0_ad2 nin0))
  have O_ad3 := O_ad3.keep K19 (ninS (Ne.symm ne_ad1_ad3) (ninS (Ne.symm ne_ad2_ad3) nin0))
  have A_ad4 := A_ad4.keep K19 (ninS (Ne.symm ne_ad1_ad4) (ninS (Ne.symm ne_ad2_ad4) nin0))
  have A_b8 := A_b8.keep K19 (ninS (Ne.symm ne_ad1_b8) (ninS (Ne.symm ne_ad2_b8) nin0))
  have OL := OL.keep K19 (allS g_ad1 (allS g_ad2 all0))
  have KK := KK.trans K19 (allS (P := fun z => z ∈ _ ∨ _ ≤ z) (Or.inl (List.mem_of_getElem? (i := 1) rfl)) (allS (P := fun z => z ∈ _ ∨ _ ≤ z) (Or.inl (List.mem_of_getElem? (i := 2) rfl)) all0))
  refine G.cast (st' := []) ?_ rfl
  refine g_aloadN cx d6_33 rfl rfl ?_
  refine g_dup cx d6_34 rfl ?_
  refine g_getF cx d6_35 (host := "") (Or.inl (hw _ (List.mem_of_getElem? (i := 64) rfl))) Via.refl O_ad0.2.2.2.2.2.1 ?_
  refine g_lloadN cx d6_38 rfl ?_
  refine g_ladd cx d6_39 ?_
  rw [Int64.zero_add]
  refine g_putF cx d6_40 (host := "") (Or.inl (hw _ (List.mem_of_getElem? (i := 64) rfl))) Via.refl O_ad0.2.2.2.2.2.1 O_ad0.1 (Or.inl (hw _ (List.mem_of_getElem? (i := 65) rfl))) (hw _ (List.mem_of_getElem? (i := 2) rfl)) (ty := .long) (by decide) rfl rfl g_ad0 (fun h23 W24 => ?_)
  have O_ad0 := O_ad0.put5 hw W24
  have O_ad1 := O_ad1.oth W24 (Ne.symm ne_ad0_ad1)
  have O_ad3 := O_ad3.oth W24 (Ne.symm ne_ad0_ad3)
  have A_ad2 := A_ad2.other W24 (Ne.symm ne_ad0_ad2)
  have A_ad4 := A_ad4.other W24 (Ne.symm ne_ad0_ad4)
  have A_b8 := A_b8.other W24 (Ne.symm ne_ad0_b8)
  have OL := OL.wr W24 g_ad0
  have KK := KK.wr W24 (Or.inl (List.mem_of_getElem? (i := 0) rfl))
  refine g_aloadN cx d6_43 rfl rfl ?_
  refine g_dup cx d6_44 rfl ?_
  refine g_getF cx d6_45 (host := "") (Or.inl (hw _ (List.mem_of_getElem? (i := 66) rfl))) Via.refl O_ad0.2.2.2.2.2.2.1 ?_
  refine g_lconst cx d6_48 (v := (1 : Int64)) rfl ?_
  refine g_ladd cx d6_49 ?_
  refine G.cast (st' := [(.long (1 : Int64)), (.ref ad0)]) ?_ rfl
  refine g_putF cx d6_50 (host := "") (Or.inl (hw _ (List.mem_of_getElem? (i := 66) rfl))) Via.refl O_ad0.2.2.2.2.2.2.1 O_ad0.1 (Or.inl (hw _ (List.mem_of_getElem? (i := 67) rfl))) (hw _ (List.mem_of_getElem? (i := 2) rfl)) (ty := .long) (by decide) rfl rfl g_ad0 (fun h25 W26 => ?_)
  have O_ad0 := O_ad0.put6 hw W26
  have O_ad1 := O_ad1.oth W26 (Ne.symm ne_ad0_ad1)
  have O_ad3 := O_ad3.oth W26 (Ne.symm ne_ad0_ad3)
  have A_ad2 := A_ad2.other W26 (Ne.symm ne_ad0_ad2)
  have A_ad4 := A_ad4.other W26 (Ne.symm ne_ad0_ad4)
  have A_b8 := A_b8.other W26 (Ne.symm ne_ad0_b8)
  have OL := OL.wr W26 g_ad0
  have KK := KK.wr W26 (Or.inl (List.mem_of_getElem? (i := 0) rfl))
  refine g_retV cx d6_53 rfl (by decide) (by decide) ?_
  exact ⟨b8, cA9, rfl, KK, sz_b8, A_b8, O_ad0, O_ad1, A_ad2⟩
theorem pd_4 : parseMethodDescriptor "(JJ)V" = some ⟨[.long, .long], none⟩ := by decide +kernel
theorem d0_82 : Dc code 82 (.invokevirtual 16) 3 85 := ⟨by decide +kernel, rfl⟩
theorem d0_85 : Dc code 85 (.aload 16) 2 87 := ⟨by decide +kernel, rfl⟩
theorem d0_87 : Dc code 87 (.lload 8) 2 89 := ⟨by decide +kernel, rfl⟩
theorem d0_89 : Dc code 89 (.iload_n 3) 1 90 := ⟨by decide +kernel, rfl⟩
theorem d0_90 : Dc code 90 (.i2l) 1 91 := ⟨by decide +kernel, rfl⟩
theorem d7_15 : Dc jdk_21_method_38_code 15 (.iconst 0) 1 16 := ⟨by decide +kernel, rfl⟩
theorem pn_ra9 : plainName "java/util/ArrayDeque" = true := by first | (simp [plainName, overriddenIn]; done) | decide +kernel
set_option maxRecDepth 65536 in
set_option maxHeartbeats 40000000 in
theorem ra9 (l : Launch) (Z : State) (a0 : Array Value) (hw : ∀ d ∈ tables_1, d.before a0 Z = true)  (ad0 ad1 ad2 : Addr) (x0 : Int64) (x1 : Int64) (cA_ad1 : ClassId) (cA_ad2 : ClassId) (h0 : Heap) (O_ad0 : ObD Z h0 ad0 (.ref ad1) (.int (0 : Int32)) (.int (1 : Int32))) (A_ad1 : Arx Z h0 ad1 cA_ad1 (.object "java/lang/Object") (17 : Int32) [(.ref ad2), .null, .null, .null, .null, .null, .null, .null, .null, .null, .null, .null, .null, .null, .null, .null, .null] .null "[Ljava/lang/Object;") (A_ad2 : Arx Z h0 ad2 cA_ad2 .long (2 : Int32) [(.long x0), (.long x1)] (.long (0 : Int64)) "[J") (OV_ad1 : Ovr Z cA_ad1 "java/lang/Object") (ne_ad0_ad1 : ad0 ≠ ad1) (ne_ad0_ad2 : ad0 ≠ ad2) (ne_ad1_ad2 : ad1 ≠ ad2) (g_ad0 : Z.heap.size ≤ ad0) (g_ad1 : Z.heap.size ≤ ad1) (g_ad2 : Z.heap.size ≤ ad2) (OL : Old Z Z.heap.size h0) :
    Met l Z (⟨"java/util/ArrayDeque", "isEmpty", "()Z"⟩ : MethodName) jdk_21_method_38_code 1 (some .boolean) ({ frames := 0, cells := 0, slots := 0, locals := 0 } : Room) #[(.ref ad0)] h0 (fun v h' => (v = some (.int (0 : Int32)) ∧ h0 = h')) := by
  refine met_of (Ls := #[.val (.ref ad0)]) (plainFor_of_name pn_ra9) (fun m => by first | (simp [entryFrame, mkF, argsToLocals, Value.category]; done) | rfl) (fun p e s m below meth c cx => ?_)
  have KK := Keep.refl h0 []
  refine g_aloadN cx d7_0 rfl rfl ?_
  refine g_getF cx d7_1 (host := "") (Or.inl (hw _ (List.mem_of_getElem? (i := 48) rfl))) Via.refl O_ad0.2.2.1 ?_
  refine g_aloadN cx d7_4 rfl rfl ?_
  refine g_getF cx d7_5 (host := "") (Or.inl (hw _ (List.mem_of_getElem? (i := 50) rfl))) Via.refl O_ad0.2.2.2 ?_
  refine g_icmp_ne cx d7_8 (fun hc8 => ?_) (fun q => absurd q (fun q => by revert q; decide))
  refine g_iconst cx d7_15 (v := (0 : Int32)) rfl ?_
  refine g_retZ cx d7_16 rfl rfl (by decide) (by decide) ?_
  exact ⟨rfl, rfl⟩
theorem pn_ra11 : plainName "java/util/ArrayDeque" = true := by first | (simp [plainName, overriddenIn]; done) | decide +kernel
set_option maxRecDepth 65536 in
set_option maxHeartbeats 40000000 in
theorem ra11 (l : Launch) (Z : State) (a0 : Array Value) (hw : ∀ d ∈ tables_1, d.before a0 Z = true)  (h0 : Heap) (OL : Old Z Z.heap.size h0) :
    Met l Z (⟨"java/util/ArrayDeque", "inc", "(II)I"⟩ : MethodName) jdk_21_method_6_code 2 (some .int) ({ frames := 0, cells := 0, slots := 0, locals := 0 } : Room) #[(.int (1 : Int32)), (.int (17 : Int32))] h0 (fun v h' => (v = some (.int (2 : Int32)) ∧ h0 = h')) := by
  refine met_of (Ls := #[.val (.int (1 : Int32)), .val (.int (17 : Int32))]) (plainFor_of_name pn_ra11) (fun m => by first | (simp [entryFrame, mkF, argsToLocals, Value.category]; done) | rfl) (fun p e s m below meth c cx => ?_)
  have KK := Keep.refl h0 []
  refine g_iinc cx d9_0 rfl (v := (1 : Int32)) rfl (Ls' := #[.val (.int (2 : Int32)), .val (.int (17 : Int32))]) rfl ?_
  refine g_iloadN cx d9_3 rfl ?_
  refine g_iloadN cx d9_4 rfl ?_
  refine g_icmp_lt cx d9_5 (fun hc5 => ?_) (fun q => absurd q (fun q => by revert q; decide))
  refine g_iloadN cx d9_10 rfl ?_
  refine g_retI cx d9_11 rfl (by decide) (by decide) ?_
  exact ⟨rfl, rfl⟩
theorem pn_ra10 : plainName "java/util/ArrayDeque" = true := by first | (simp [plainName, overriddenIn]; done) | decide +kernel
set_option maxRecDepth 65536 in
set_option maxHeartbeats 40000000 in
theorem ra10 (l : Launch) (Z : State) (a0 : Array Value) (hw : ∀ d ∈ tables_1, d.before a0 Z = true)  (ad0 ad1 ad2 ad3 : Addr) (x0 : Int64) (x1 : Int64) (x2 : Int64) (cA_ad1 : ClassId) (cA_ad2 : ClassId) (cA_ad3 : ClassId) (h0 : Heap) (O_ad0 : ObD Z h0 ad0 (.ref ad1) (.int (0 : Int32)) (.int (1 : Int32))) (A_ad1 : Arx Z h0 ad1 cA_ad1 (.object "java/lang/Object") (17 : Int32) [(.ref ad2), .null, .null, .null, .null, .null, .null, .null, .null, .null, .null, .null, .null, .null, .null, .null, .null] .null "[Ljava/lang/Object;") (A_ad2 : Arx Z h0 ad2 cA_ad2 .long (2 : Int32) [(.long x0), (.long x1)] (.long (0 : Int64)) "[J") (A_ad3 : Arx Z h0 ad3 cA_ad3 .long (2 : Int32) [(.long x2), (.long x1)] (.long (0 : Int64)) "[J") (OV_ad1 : Ovr Z cA_ad1 "java/lang/Object") (ne_ad0_ad1 : ad0 ≠ ad1) (ne_ad0_ad2 : ad0 ≠ ad2) (ne_ad1_ad2 : ad1 ≠ ad2) (ne_ad0_ad3 : ad0 ≠ ad3) (ne_ad1_ad3 : ad1 ≠ ad3) (ne_ad2_ad3 : ad2 ≠ ad3) (g_ad0 : Z.heap.size ≤ ad0) (g_ad1 : Z.heap.size ≤ ad1) (g_ad2 : Z.heap.size ≤ ad2) (g_ad3 : Z.heap.size ≤ ad3) (OL : Old Z Z.heap.size h0) :
    Met l Z (⟨"java/util/ArrayDeque", "addLast", "(Ljava/lang/Object;)V"⟩ : MethodName) jdk_21_method_13_code 3 none ({ frames := 1, cells := 0, slots := 0, locals := 15 } : Room) #[(.ref ad0), (.ref ad3)] h0 (fun v h' => (v = none ∧ Keep h0 h' [ad0, ad1] ∧ ObD Z h' ad0 (.ref ad1) (.int (0 : Int32)) (.int (2 : Int32)) ∧ Arx Z h' ad1 cA_ad1 (.object "java/lang/Object") (17 : Int32) [(.ref ad2), (.ref ad3), .null, .null, .null, .null, .null, .null, .null, .null, .null, .null, .null, .null, .null, .null, .null] .null "[Ljava/lang/Object;")) := by
  refine met_of (Ls := #[.val (.ref ad0), .val (.ref ad3), .unset]) (plainFor_of_name pn_ra10) (fun m => by first | (simp [entryFrame, mkF, argsToLocals, Value.category]; done) | rfl) (fun p e s m below meth c cx => ?_)
  have KK := Keep.refl h0 [ad0, ad1]
  refine g_aloadN cx d8_0 rfl rfl ?_
  refine g_ifnonnull_ref cx d8_1 ?_
  refine g_aloadN cx d8_12 rfl rfl ?_
  refine g_getF cx d8_13 (host := "") (Or.inl (hw _ (List.mem_of_getElem? (i := 25) rfl))) Via.refl O_ad0.2.1 ?_
  refine g_astoreN cx d8_16 rfl (Ls' := #[.val (.ref ad0), .val (.ref ad3), .val (.ref ad1)]) rfl ?_
  refine g_aloadN cx d8_17 rfl rfl ?_
  refine g_aloadN cx d8_18 rfl rfl ?_
  refine g_getF cx d8_19 (host := "") (Or.inl (hw _ (List.mem_of_getElem? (i := 50) rfl))) Via.refl O_ad0.2.2.2 ?_
  refine g_aloadN cx d8_22 rfl rfl ?_
  refine g_aastore cx d8_23 A_ad1 rfl rfl (sto_of A_ad1 OV_ad1 (Ins.of_exa A_ad3.2 (hw _ (List.mem_of_getElem? (i := 60) rfl)))) ⟨by decide, by decide⟩ (Nat.le_of_ble_eq_true rfl) g_ad1 (fun h1 W2 AA3 => ?_)
  have O_ad0 := O_ad0.oth W2 ne_ad0_ad1
  have A_ad1 : Arx Z h1 ad1 cA_ad1 (.object "java/lang/Object") (17 : Int32) [(.ref ad2), (.ref ad3), .null, .null, .null, .null, .null, .null, .null, .null, .null, .null, .null, .null, .null, .null, .null] .null "[Ljava/lang/Object;" := AA3
  have A_ad2 := A_ad2.other W2 (Ne.symm ne_ad1_ad2)
  have A_ad3 := A_ad3.other W2 (Ne.symm ne_ad1_ad3)
  have OL := OL.wr W2 g_ad1
  have KK := KK.wr W2 (Or.inl (List.mem_of_getElem? (i := 1) rfl))
  refine g_aloadN cx d8_24 rfl rfl ?_
  refine g_getF cx d8_25 (host := "") (Or.inl (hw _ (List.mem_of_getElem? (i := 48) rfl))) Via.refl O_ad0.2.2.1 ?_
  refine g_aloadN cx d8_28 rfl rfl ?_
  refine g_aloadN cx d8_29 rfl rfl ?_
  refine g_getF cx d8_30 (host := "") (Or.inl (hw _ (List.mem_of_getElem? (i := 50) rfl))) Via.refl O_ad0.2.2.2 ?_
  refine g_aloadN cx d8_33 rfl rfl ?_
  refine g_arraylength cx d8_34 A_ad1.1 ?_
  refine g_static cx (y := (⟨"java/util/ArrayDeque", "inc", "(II)I"⟩ : MethodName)) d8_35 (hw _ (List.mem_of_getElem? (i := 61) rfl)) (hw _ (List.mem_of_getElem? (i := 62) rfl)) (hw _ (List.mem_of_getElem? (i := 12) rfl)) (hw _ (List.mem_of_getElem? (i := 63) rfl)) (by decide) (bytes := jdk_21_method_6_code) (maxL' := 2) (M := (ra11 l Z a0 hw   _  OL)) rfl (lenOf pd_2 rfl) (by decide) (W := 2) (Nat.le_of_eq rfl) (by decide) (k' := 0) (n' := 0) rfl rfl (by decide) (by decide) (argsL := [(.int (1 : Int32)), (.int (17 : Int32))]) (rest := [(.ref ad0), (.int (0 : Int32))]) rfl (fun v6 h5 q7 => ?_)
  obtain ⟨rfl, rfl⟩ := q7
  refine G.cast (st' := [(.int (2 : Int32)), (.ref ad0), (.int (0 : Int32))]) ?_ rfl
  refine g_dup_x1 cx d8_38 rfl rfl ?_
  refine g_putF cx d8_39 (host := "") (Or.inl (hw _ (List.mem_of_getElem? (i := 50) rfl))) Via.refl O_ad0.2.2.2 O_ad0.1 (Or.inl (hw _ (List.mem_of_getElem? (i := 51) rfl))) (hw _ (List.mem_of_getElem? (i := 11) rfl)) (ty := .int) (by decide) rfl rfl g_ad0 (fun h8 W9 => ?_)
  have O_ad0 := O_ad0.put3 hw W9
  have A_ad1 := A_ad1.other W9 (Ne.symm ne_ad0_ad1)
  have A_ad2 := A_ad2.other W9 (Ne.symm ne_ad0_ad2)
  have A_ad3 := A_ad3.other W9 (Ne.symm ne_ad0_ad3)
  have OL := OL.wr W9 g_ad0
  have KK := KK.wr W9 (Or.inl (List.mem_of_getElem? (i := 0) rfl))
  refine g_icmp_ne cx d8_42 (fun hc42 => ?_) (fun q => absurd q (fun q => by revert q; decide))
  refine g_retV cx d8_50 rfl (by decide) (by decide) ?_
  exact ⟨rfl, KK, O_ad0, A_ad1⟩
theorem pn_ra8 : plainName "com/example/thalweg/thalweg/node/Pace" = true := by first | (simp [plainName, overriddenIn]; done) | decide +kernel
set_option maxRecDepth 65536 in
set_option maxHeartbeats 40000000 in
theorem ra8 (l : Launch) (Z : State) (a0 : Array Value) (hw : ∀ d ∈ tables_1, d.before a0 Z = true)  (ad0 ad1 ad2 ad3 ad4 ad5 : Addr) (x0 : Int64) (x1 : Int64) (x2 : Int64) (cA_ad2 : ClassId) (cA_ad3 : ClassId) (cA_ad5 : ClassId) (h0 : Heap) (O_ad0 : ObP Z h0 ad0 (.ref ad1) (.ref ad4) (.long (0 : Int64)) (.long x1) (.long x0) (.long (1 : Int64)) (.long (0 : Int64)) (.long (0 : Int64))) (O_ad1 : ObD Z h0 ad1 (.ref ad2) (.int (0 : Int32)) (.int (1 : Int32))) (O_ad4 : ObD Z h0 ad4 (.ref ad5) (.int (0 : Int32)) (.int (0 : Int32))) (A_ad2 : Arx Z h0 ad2 cA_ad2 (.object "java/lang/Object") (17 : Int32) [(.ref ad3), .null, .null, .null, .null, .null, .null, .null, .null, .null, .null, .null, .null, .null, .null, .null, .null] .null "[Ljava/lang/Object;") (A_ad3 : Arx Z h0 ad3 cA_ad3 .long (2 : Int32) [(.long x0), (.long x1)] (.long (0 : Int64)) "[J") (A_ad5 : Arx Z h0 ad5 cA_ad5 (.object "java/lang/Object") (17 : Int32) [.null, .null, .null, .null, .null, .null, .null, .null, .null, .null, .null, .null, .null, .null, .null, .null, .null] .null "[Ljava/lang/Object;") (OV_ad2 : Ovr Z cA_ad2 "java/lang/Object") (OV_ad5 : Ovr Z cA_ad5 "java/lang/Object") (ne_ad0_ad1 : ad0 ≠ ad1) (ne_ad0_ad2 : ad0 ≠ ad2) (ne_ad1_ad2 : ad1 ≠ ad2) (ne_ad0_ad3 : ad0 ≠ ad3) (ne_ad1_ad3 : ad1 ≠ ad3) (ne_ad2_ad3 : ad2 ≠ ad3) (ne_ad0_ad4 : ad0 ≠ ad4) (ne_ad1_ad4 : ad1 ≠ ad4) (ne_ad2_ad4 : ad2 ≠ ad4) (ne_ad3_ad4 : ad3 ≠ ad4) (ne_ad0_ad5 : ad0 ≠ ad5) (ne_ad1_ad5 : ad1 ≠ ad5) (ne_ad2_ad5 : ad2 ≠ ad5) (ne_ad3_ad5 : ad3 ≠ ad5) (ne_ad4_ad5 : ad4 ≠ ad5) (g_ad0 : Z.heap.size ≤ ad0) (g_ad1 : Z.heap.size ≤ ad1) (g_ad2 : Z.heap.size ≤ ad2) (g_ad3 : Z.heap.size ≤ ad3) (g_ad4 : Z.heap.size ≤ ad4) (g_ad5 : Z.heap.size ≤ ad5) (OL : Old Z Z.heap.size h0) :
    Met l Z (⟨"com/example/thalweg/thalweg/node/Pace", "written", "(JJ)V"⟩ : MethodName) prog_54_method_2_code 5 none ({ frames := 2, cells := 1, slots := 2, locals := 29 } : Room) #[(.ref ad0), (.long x2), (.long x1)] h0 (fun v h' => (∃ (b6 : Addr) (cA7 : ClassId) , v = none ∧ Keep h0 h' [ad0, ad1, ad2] ∧ h0.size ≤ b6 ∧ Arx Z h' b6 cA7 .long (2 : Int32) [(.long x2), (.long x1)] (.long (0 : Int64)) "[J" ∧ ObP Z h' ad0 (.ref ad1) (.ref ad4) (.long (0 : Int64)) (.long x1) (.long (x0 + x2)) (.long (2 : Int64)) (.long (0 : Int64)) (.long (0 : Int64)) ∧ ObD Z h' ad1 (.ref ad2) (.int (0 : Int32)) (.int (2 : Int32)) ∧ Arx Z h' ad2 cA_ad2 (.object "java/lang/Object") (17 : Int32) [(.ref ad3), (.ref b6), .null, .null, .null, .null, .null, .null, .null, .null, .null, .null, .null, .null, .null, .null, .null] .null "[Ljava/lang/Object;")) := by
  refine met_of (Ls := #[.val (.ref ad0), .val (.long x2), .second, .val (.long x1), .second]) (plainFor_of_name pn_ra8) (fun m => by first | (simp [entryFrame, mkF, argsToLocals, Value.category]; done) | rfl) (fun p e s m below meth c cx => ?_)
  have KK := Keep.refl h0 [ad0, ad1, ad2]
  refine g_aloadN cx d6_0 rfl rfl ?_
  refine g_getF cx d6_1 (host := "") (Or.inl (hw _ (List.mem_of_getElem? (i := 27) rfl))) Via.refl O_ad0.2.1 ?_
  refine g_virtual cx (y := (⟨"java/util/ArrayDeque", "isEmpty", "()Z"⟩ : MethodName)) (z := (⟨"java/util/ArrayDeque", "isEmpty", "()Z"⟩ : MethodName)) (a := ad1) d6_4 (hw _ (List.mem_of_getElem? (i := 43) rfl)) (hw _ (List.mem_of_getElem? (i := 44) rfl)) (hw _ (List.mem_of_getElem? (i := 12) rfl)) (hw _ (List.mem_of_getElem? (i := 47) rfl)) (hw _ (List.mem_of_getElem? (i := 46) rfl)) (hw _ (List.mem_of_getElem? (i := 45) rfl)) rfl (by decide) O_ad1.1 (bytes := jdk_21_method_38_code) (maxL' := 1) (M := (ra9 l Z a0 hw  ad1 ad2 ad3 x0 x1 cA_ad2 cA_ad3 _ O_ad1 A_ad2 A_ad3 OV_ad2 ne_ad1_ad2 ne_ad1_ad3 ne_ad2_ad3 g_ad1 g_ad2 g_ad3 OL)) rfl (lenOf pd_1 rfl) (by decide) (W := 0) (Nat.le_of_eq rfl) (by decide) (k' := 0) (n' := 0) rfl rfl (by decide) (by decide) (argsL := []) (rest := []) rfl (fun v3 h2 q4 => ?_)
  obtain ⟨rfl, rfl⟩ := q4
  refine G.cast (st' := [(.int (0 : Int32))]) ?_ rfl
  refine g_if_eq cx d6_7 (fun hc7 => ?_) (fun q => absurd q (fun q => by revert q; decide))
  refine g_aloadN cx d6_15 rfl rfl ?_
  refine g_getF cx d6_16 (host := "") (Or.inl (hw _ (List.mem_of_getElem? (i := 27) rfl))) Via.refl O_ad0.2.1 ?_
  refine g_iconst cx d6_19 (v := (2 : Int32)) rfl ?_
  refine g_newarray cx (ad := "[J") (by decide) d6_20 (hw _ (List.mem_of_getElem? (i := 54) rfl)) (by decide) (cap := 2) (by decide) (by decide) (k' := 1) (n' := 2) rfl rfl (by decide) (by decide) (fun h5 b6 cA7 gb8 E9 X10 => ?_)
  have ne_ad0_b6 : ad0 ≠ b6 := Nat.ne_of_lt (by rw [gb8]; exact O_ad0.lt)
  have ne_ad1_b6 : ad1 ≠ b6 := Nat.ne_of_lt (by rw [gb8]; exact O_ad1.lt)
  have ne_ad4_b6 : ad4 ≠ b6 := Nat.ne_of_lt (by rw [gb8]; exact O_ad4.lt)
  have ne_ad2_b6 : ad2 ≠ b6 := Nat.ne_of_lt (by rw [gb8]; exact A_ad2.lt)
  have ne_ad3_b6 : ad3 ≠ b6 := Nat.ne_of_lt (by rw [gb8]; exact A_ad3.lt)
  have ne_ad5_b6 : ad5 ≠ b6 := Nat.ne_of_lt (by rw [gb8]; exact A_ad5.lt)
  have g_b6 : Z.heap.size ≤ b6 := by rw [gb8]; exact OL.2.1
  have sz_b6 := (by rw [gb8]; exact KK.1 : h0.size ≤ b6)
  have O_ad0 := O_ad0.ext E9
  have O_ad1 := O_ad1.ext E9
  have O_ad4 := O_ad4.ext E9
  have A_ad2 := A_ad2.ext E9
  have A_ad3 := A_ad3.ext E9
  have A_ad5 := A_ad5.ext E9
  have OL := OL.ext E9
  have KK := KK.ext E9
  have A_b6 : Arx Z h5 b6 cA7 .long (2 : Int32) [(.long (0 : Int64)), (.long (0 : Int64))] (.long (0 : Int64)) "[J" := X10.pad (pad_rep [] (.long (0 : Int64)) 2)
  refine g_dup cx d6_22 rfl ?_
  refine g_iconst cx d6_23 (v := (0 : Int32)) rfl ?_
  refine g_lloadN cx d6_24 rfl ?_
  refine g_lastore cx d6_25 A_b6 ⟨by decide, by decide⟩ (Nat.le_of_ble_eq_true rfl) g_b6 (fun h11 W12 AA13 => ?_)
  have O_ad0 := O_ad0.oth W12 ne_ad0_b6
  have O_ad1 := O_ad1.oth W12 ne_ad1_b6
  have O_ad4 := O_ad4.oth W12 ne_ad4_b6
  have A_ad2 := A_ad2.other W12 ne_ad2_b6
  have A_ad3 := A_ad3.other W12 ne_ad3_b6
  have A_ad5 := A_ad5.other W12 ne_ad5_b6
  have A_b6 : Arx Z h11 b6 cA7 .long (2 : Int32) [(.long x2), (.long (0 : Int64))] (.long (0 : Int64)) "[J" := AA13
  have OL := OL.wr W12 g_b6
  have KK := KK.wr W12 (Or.inr sz_b6)
  refine g_dup cx d6_26 rfl ?_
  refine g_iconst cx d6_27 (v := (1 : Int32)) rfl ?_
  refine g_lloadN cx d6_28 rfl ?_
  refine g_lastore cx d6_29 A_b6 ⟨by decide, by decide⟩ (Nat.le_of_ble_eq_true rfl) g_b6 (fun h14 W15 AA16 => ?_)
  have O_ad0 := O_ad0.oth W15 ne_ad0_b6
  have O_ad1 := O_ad1.oth W15 ne_ad1_b6
  have O_ad4 := O_ad4.oth W15 ne_ad4_b6
  have A_ad2 := A_ad2.other W15 ne_ad2_b6
  have A_ad3 := A_ad3.other W15 ne_ad3_b6
  have A_ad5 := A_ad5.other W15 ne_ad5_b6
  have A_b6 : Arx Z h14 b6 cA7 .long (2 : Int32) [(.long x2), (.long x1)] (.long (0 : Int64)) "[J" := AA16
  have OL := OL.wr W15 g_b6
  have KK := KK.wr W15 (Or.inr sz_b6)
  refine g_virtual cx (y := (⟨"java/util/ArrayDeque", "addLast", "(Ljava/lang/Object;)V"⟩ : MethodName)) (z := (⟨"java/util/ArrayDeque", "addLast", "(Ljava/lang/Object;)V"⟩ : MethodName)) (a := ad1) d6_30 (hw _ (List.mem_of_getElem? (i := 55) rfl)) (hw _ (List.mem_of_getElem? (i := 56) rfl)) (hw _ (List.mem_of_getElem? (i := 12) rfl)) (hw _ (List.mem_of_getElem? (i := 59) rfl)) (hw _ (List.mem_of_getElem? (i := 58) rfl)) (hw _ (List.mem_of_getElem? (i := 57) rfl)) rfl (by decide) O_ad1.1 (bytes := jdk_21_method_13_code) (maxL' := 3) (M := (ra10 l Z a0 hw  ad1 ad2 ad3 b6 x0 x1 x2 cA_ad2 cA_ad3 cA7 _ O_ad1 A_ad2 A_ad3 A_b6 OV_ad2 ne_ad1_ad2 ne_ad1_ad3 ne_ad2_ad3 ne_ad1_b6 ne_ad2_b6 ne_ad3_b6 g_ad1 g_ad2 g_ad3 g_b6 OL)) rfl (lenOf pd_3 rfl) (by decide) (W := 0) (Nat.le_of_eq rfl) (by decide) (k' := 1) (n' := 2) rfl rfl (by decide) (by decide) (argsL := [(.ref b6)]) (rest := []) rfl (fun v19 h18 q20 => ?_)
  obtain ⟨rfl, K17, O_ad1, A_ad2⟩ := q20
  have O_ad0 := O_ad0.keep K17 (ninS ne_ad0_ad1 (ninS ne_ad0_ad2 nin0))
  have O_ad4 := O_ad4.keep K17 (ninS (Ne.symm ne_ad1_ad4) (ninS (Ne.symm ne_ad2_ad4) nin0))
  have A_ad3 := A_ad3.keep K17 (ninS (Ne.symm ne_ad1_ad3) (ninS (Ne.symm ne_ad2_ad3) nin0))
  have A_ad5 := A_ad5.keep K17 (ninS (Ne.symm ne_ad1_ad5) (ninS (Ne.symm ne_ad2_ad5) nin0))
  have A_b6 := A_b6.keep K17 (ninS (Ne.symm ne_ad1_b6) (ninS (Ne.symm ne_ad2_b6) nin0))
  have OL := OL.keep K17 (allS g_ad1 (allS g_ad2 all0))
  have KK := KK.trans K17 (allS (P := fun z => z ∈ _ ∨ _ ≤ z) (Or.inl (List.mem_of_getElem? (i := 1) rfl)) (allS (P := fun z => z ∈ _ ∨ _ ≤ z) (Or.inl (List.mem_of_getElem? (i := 2) rfl)) all0))
  refine G.cast (st' := []) ?_ rfl
  refine g_aloadN cx d6_33 rfl rfl ?_
  refine g_dup cx d6_34 rfl ?_
  refine g_getF cx d6_35 (host := "") (Or.inl (hw _ (List.mem_of_getElem? (i := 64) rfl))) Via.refl O_ad0.2.2.2.2.2.1 ?_
  refine g_lloadN cx d6_38 rfl ?_
  refine g_ladd cx d6_39 ?_
  refine g_putF cx d6_40 (host := "") (Or.inl (hw _ (List.mem_of_getElem? (i := 64) rfl))) Via.refl O_ad0.2.2.2.2.2.1 O_ad0.1 (Or.inl (hw _ (List.mem_of_getElem? (i := 65) rfl))) (hw _ (List.mem_of_getElem? (i := 2) rfl)) (ty := .long) (by decide) rfl rfl g_ad0 (fun h21 W22 => ?_)
  have O_ad0 := O_ad0.put5 hw W22
  have O_ad1 := O_ad1.oth W22 (Ne.symm ne_ad0_ad1)
  have O_ad4 := O_ad4.oth W22 (Ne.symm ne_ad0_ad4)
  have A_ad2 := A_ad2.other W22 (Ne.symm ne_ad0_ad2)
  have A_ad3 := A_ad3.other W22 (Ne.symm ne_ad0_ad3)
  have A_ad5 := A_ad5.other W22 (Ne.symm ne_ad0_ad5)
  have A_b6 := A_b6.other W22 (Ne.symm ne_ad0_b6)
  have OL := OL.wr W22 g_ad0
  have KK := KK.wr W22 (Or.inl (List.mem_of_getElem? (i := 0) rfl))
  refine g_aloadN cx d6_43 rfl rfl ?_
  refine g_dup cx d6_44 rfl ?_
  refine g_getF cx d6_45 (host := "") (Or.inl (hw _ (List.mem_of_getElem? (i := 66) rfl))) Via.refl O_ad0.2.2.2.2.2.2.1 ?_
  refine g_lconst cx d6_48 (v := (1 : Int64)) rfl ?_
  refine g_ladd cx d6_49 ?_
  refine G.cast (st' := [(.long (2 : Int64)), (.ref ad0)]) ?_ rfl
  refine g_putF cx d6_50 (host := "") (Or.inl (hw _ (List.mem_of_getElem? (i := 66) rfl))) Via.refl O_ad0.2.2.2.2.2.2.1 O_ad0.1 (Or.inl (hw _ (List.mem_of_getElem? (i := 67) rfl))) (hw _ (List.mem_of_getElem? (i := 2) rfl)) (ty := .long) (by decide) rfl rfl g_ad0 (fun h23 W24 => ?_)
  have O_ad0 := O_ad0.put6 hw W24
  have O_ad1 := O_ad1.oth W24 (Ne.symm ne_ad0_ad1)
  have O_ad4 := O_ad4.oth W24 (Ne.symm ne_ad0_ad4)
  have A_ad2 := A_ad2.other W24 (Ne.symm ne_ad0_ad2)
  have A_ad3 := A_ad3.other W24 (Ne.symm ne_ad0_ad3)
  have A_ad5 := A_ad5.other W24 (Ne.symm ne_ad0_ad5)
  have A_b6 := A_b6.other W24 (Ne.symm ne_ad0_b6)
  have OL := OL.wr W24 g_ad0
  have KK := KK.wr W24 (Or.inl (List.mem_of_getElem? (i := 0) rfl))
  refine g_retV cx d6_53 rfl (by decide) (by decide) ?_
  exact ⟨b6, cA7, rfl, KK, sz_b6, A_b6, O_ad0, O_ad1, A_ad2⟩
theorem d0_91 : Dc code 91 (.invokevirtual 16) 3 94 := ⟨by decide +kernel, rfl⟩
theorem d0_94 : Dc code 94 (.aload 16) 2 96 := ⟨by decide +kernel, rfl⟩
theorem pn_ra12 : plainName "com/example/thalweg/thalweg/node/Pace" = true := by first | (simp [plainName, overriddenIn]; done) | decide +kernel
set_option maxRecDepth 65536 in
set_option maxHeartbeats 40000000 in
theorem ra12 (l : Launch) (Z : State) (a0 : Array Value) (hw : ∀ d ∈ tables_1, d.before a0 Z = true)  (ad0 ad1 ad2 ad3 ad4 ad5 ad6 : Addr) (x0 : Int64) (x1 : Int64) (x2 : Int64) (x3 : Int64) (cA_ad2 : ClassId) (cA_ad3 : ClassId) (cA_ad4 : ClassId) (cA_ad6 : ClassId) (h0 : Heap) (O_ad0 : ObP Z h0 ad0 (.ref ad1) (.ref ad5) (.long (0 : Int64)) (.long x1) (.long x3) (.long (2 : Int64)) (.long (0 : Int64)) (.long (0 : Int64))) (O_ad1 : ObD Z h0 ad1 (.ref ad2) (.int (0 : Int32)) (.int (2 : Int32))) (O_ad5 : ObD Z h0 ad5 (.ref ad6) (.int (0 : Int32)) (.int (0 : Int32))) (A_ad2 : Arx Z h0 ad2 cA_ad2 (.object "java/lang/Object") (17 : Int32) [(.ref ad3), (.ref ad4), .null, .null, .null, .null, .null, .null, .null, .null, .null, .null, .null, .null, .null, .null, .null] .null "[Ljava/lang/Object;") (A_ad3 : Arx Z h0 ad3 cA_ad3 .long (2 : Int32) [(.long x0), (.long x1)] (.long (0 : Int64)) "[J") (A_ad4 : Arx Z h0 ad4 cA_ad4 .long (2 : Int32) [(.long x2), (.long x1)] (.long (0 : Int64)) "[J") (A_ad6 : Arx Z h0 ad6 cA_ad6 (.object "java/lang/Object") (17 : Int32) [.null, .null, .null, .null, .null, .null, .null, .null, .null, .null, .null, .null, .null, .null, .null, .null, .null] .null "[Ljava/lang/Object;") (OV_ad2 : Ovr Z cA_ad2 "java/lang/Object") (OV_ad6 : Ovr Z cA_ad6 "java/lang/Object") (ne_ad0_ad1 : ad0 ≠ ad1) (ne_ad0_ad2 : ad0 ≠ ad2) (ne_ad1_ad2 : ad1 ≠ ad2) (ne_ad0_ad3 : ad0 ≠ ad3) (ne_ad1_ad3 : ad1 ≠ ad3) (ne_ad2_ad3 : ad2 ≠ ad3) (ne_ad0_ad4 : ad0 ≠ ad4) (ne_ad1_ad4 : ad1 ≠ ad4) (ne_ad2_ad4 : ad2 ≠ ad4) (ne_ad3_ad4 : ad3 ≠ ad4) (ne_ad0_ad5 : ad0 ≠ ad5) (ne_ad1_ad5 : ad1 ≠ ad5) (ne_ad2_ad5 : ad2 ≠ ad5) (ne_ad3_ad5 : ad3 ≠ ad5) (ne_ad4_ad5 : ad4 ≠ ad5) (ne_ad0_ad6 : ad0 ≠ ad6) (ne_ad1_ad6 : ad1 ≠ ad6) (ne_ad2_ad6 : ad2 ≠ ad6) (ne_ad3_ad6 : ad3 ≠ ad6) (ne_ad4_ad6 : ad4 ≠ ad6) (ne_ad5_ad6 : ad5 ≠ ad6) (g_ad0 : Z.heap.size ≤ ad0) (g_ad1 : Z.heap.size ≤ ad1) (g_ad2 : Z.heap.size ≤ ad2) (g_ad3 : Z.heap.size ≤ ad3) (g_ad4 : Z.heap.size ≤ ad4) (g_ad5 : Z.heap.size ≤ ad5) (g_ad6 : Z.heap.size ≤ ad6) (OL : Old Z Z.heap.size h0) :
    Met l Z (⟨"com/example/thalweg/thalweg/node/Pace", "known", "()Z"⟩ : MethodName) prog_54_method_5_code 1 (some .boolean) ({ frames := 0, cells := 0, slots := 0, locals := 0 } : Room) #[(.ref ad0)] h0 (fun v h' => (v = some (.int (0 : Int32)) ∧ h0 = h')) := by
  refine met_of (Ls := #[.val (.ref ad0)]) (plainFor_of_name pn_ra12) (fun m => by first | (simp [entryFrame, mkF, argsToLocals, Value.category]; done) | rfl) (fun p e s m below meth c cx => ?_)
  have KK := Keep.refl h0 []
  refine g_aloadN cx d5_0 rfl rfl ?_
  refine g_getF cx d5_1 (host := "") (Or.inl (hw _ (List.mem_of_getElem? (i := 36) rfl))) Via.refl O_ad0.2.2.2.1 ?_
  refine g_lconst cx d5_4 (v := (0 : Int64)) rfl ?_
  refine g_lif_le cx d5_5 d5_6 (fun hc6 => ?_) (fun q => absurd q (fun q => by revert q; decide))
  refine g_iconst cx d5_13 (v := (0 : Int32)) rfl ?_
  refine g_retZ cx d5_14 rfl rfl (by decide) (by decide) ?_
  exact ⟨rfl, rfl⟩
theorem d0_96 : Dc code 96 (.invokevirtual 12) 3 99 := ⟨by decide +kernel, rfl⟩
theorem d0_99 : Dc code 99 (.istore 18) 2 101 := ⟨by decide +kernel, rfl⟩
theorem d0_101 : Dc code 101 (.aload 16) 2 103 := ⟨by decide +kernel, rfl⟩
theorem d0_103 : Dc code 103 (.iload 10) 2 105 := ⟨by decide +kernel, rfl⟩
theorem d0_105 : Dc code 105 (.i2l) 1 106 := ⟨by decide +kernel, rfl⟩
theorem d0_106 : Dc code 106 (.lload 12) 2 108 := ⟨by decide +kernel, rfl⟩
theorem d10_0 : Dc prog_54_method_3_code 0 (.lload_n 1) 1 1 := ⟨by decide +kernel, rfl⟩
theorem d10_1 : Dc prog_54_method_3_code 1 (.aload_n 0) 1 2 := ⟨by decide +kernel, rfl⟩
theorem d10_2 : Dc prog_54_method_3_code 2 (.getfield 37) 3 5 := ⟨by decide +kernel, rfl⟩
theorem d10_5 : Dc prog_54_method_3_code 5 (.lcmp) 1 6 := ⟨by decide +kernel, rfl⟩
theorem d10_6 : Bi prog_54_method_3_code 6 (Instr.ifCond .lt) 18 9 := ⟨12, by decide +kernel, by decide, by decide, rfl⟩
theorem d10_9 : Dc prog_54_method_3_code 9 (.lload_n 1) 1 10 := ⟨by decide +kernel, rfl⟩
theorem d10_10 : Dc prog_54_method_3_code 10 (.aload_n 0) 1 11 := ⟨by decide +kernel, rfl⟩
theorem d10_11 : Dc prog_54_method_3_code 11 (.getfield 34) 3 14 := ⟨by decide +kernel, rfl⟩
theorem d10_14 : Dc prog_54_method_3_code 14 (.lcmp) 1 15 := ⟨by decide +kernel, rfl⟩
theorem d10_15 : Bi prog_54_method_3_code 15 (Instr.ifCond .le) 40 18 := ⟨25, by decide +kernel, by decide, by decide, rfl⟩
theorem d10_40 : Dc prog_54_method_3_code 40 (.lload_n 1) 1 41 := ⟨by decide +kernel, rfl⟩
theorem d10_41 : Dc prog_54_method_3_code 41 (.aload_n 0) 1 42 := ⟨by decide +kernel, rfl⟩
theorem d10_42 : Dc prog_54_method_3_code 42 (.getfield 37) 3 45 := ⟨by decide +kernel, rfl⟩
theorem d10_45 : Dc prog_54_method_3_code 45 (.lcmp) 1 46 := ⟨by decide +kernel, rfl⟩
theorem d10_46 : Bi prog_54_method_3_code 46 (Instr.ifCond .ne) 50 49 := ⟨4, by decide +kernel, by decide, by decide, rfl⟩
theorem d10_49 : Dc prog_54_method_3_code 49 (.return_) 1 50 := ⟨by decide +kernel, rfl⟩
theorem pn_ra13 : plainName "com/example/thalweg/thalweg/node/Pace" = true := by first | (simp [plainName, overriddenIn]; done) | decide +kernel
set_option maxRecDepth 65536 in
set_option maxHeartbeats 40000000 in
theorem ra13 (l : Launch) (Z : State) (a0 : Array Value) (hw : ∀ d ∈ tables_1, d.before a0 Z = true)  (ad0 ad1 ad2 ad3 ad4 ad5 ad6 : Addr) (x0 : Int64) (x1 : Int64) (x2 : Int64) (x3 : Int64) (x4 : Int64) (cA_ad2 : ClassId) (cA_ad3 : ClassId) (cA_ad4 : ClassId) (cA_ad6 : ClassId) (h0 : Heap) (O_ad0 : ObP Z h0 ad0 (.ref ad1) (.ref ad5) (.long (0 : Int64)) (.long x1) (.long x3) (.long (2 : Int64)) (.long (0 : Int64)) (.long (0 : Int64))) (O_ad1 : ObD Z h0 ad1 (.ref ad2) (.int (0 : Int32)) (.int (2 : Int32))) (O_ad5 : ObD Z h0 ad5 (.ref ad6) (.int (0 : Int32)) (.int (0 : Int32))) (A_ad2 : Arx Z h0 ad2 cA_ad2 (.object "java/lang/Object") (17 : Int32) [(.ref ad3), (.ref ad4), .null, .null, .null, .null, .null, .null, .null, .null, .null, .null, .null, .null, .null, .null, .null] .null "[Ljava/lang/Object;") (A_ad3 : Arx Z h0 ad3 cA_ad3 .long (2 : Int32) [(.long x0), (.long x1)] (.long (0 : Int64)) "[J") (A_ad4 : Arx Z h0 ad4 cA_ad4 .long (2 : Int32) [(.long x2), (.long x1)] (.long (0 : Int64)) "[J") (A_ad6 : Arx Z h0 ad6 cA_ad6 (.object "java/lang/Object") (17 : Int32) [.null, .null, .null, .null, .null, .null, .null, .null, .null, .null, .null, .null, .null, .null, .null, .null, .null] .null "[Ljava/lang/Object;") (OV_ad2 : Ovr Z cA_ad2 "java/lang/Object") (OV_ad6 : Ovr Z cA_ad6 "java/lang/Object") (ne_ad0_ad1 : ad0 ≠ ad1) (ne_ad0_ad2 : ad0 ≠ ad2) (ne_ad1_ad2 : ad1 ≠ ad2) (ne_ad0_ad3 : ad0 ≠ ad3) (ne_ad1_ad3 : ad1 ≠ ad3) (ne_ad2_ad3 : ad2 ≠ ad3) (ne_ad0_ad4 : ad0 ≠ ad4) (ne_ad1_ad4 : ad1 ≠ ad4) (ne_ad2_ad4 : ad2 ≠ ad4) (ne_ad3_ad4 : ad3 ≠ ad4) (ne_ad0_ad5 : ad0 ≠ ad5) (ne_ad1_ad5 : ad1 ≠ ad5) (ne_ad2_ad5 : ad2 ≠ ad5) (ne_ad3_ad5 : ad3 ≠ ad5) (ne_ad4_ad5 : ad4 ≠ ad5) (ne_ad0_ad6 : ad0 ≠ ad6) (ne_ad1_ad6 : ad1 ≠ ad6) (ne_ad2_ad6 : ad2 ≠ ad6) (ne_ad3_ad6 : ad3 ≠ ad6) (ne_ad4_ad6 : ad4 ≠ ad6) (ne_ad5_ad6 : ad5 ≠ ad6) (g_ad0 : Z.heap.size ≤ ad0) (g_ad1 : Z.heap.size ≤ ad1) (g_ad2 : Z.heap.size ≤ ad2) (g_ad3 : Z.heap.size ≤ ad3) (g_ad4 : Z.heap.size ≤ ad4) (g_ad5 : Z.heap.size ≤ ad5) (g_ad6 : Z.heap.size ≤ ad6) (OL : Old Z Z.heap.size h0) :
    Met l Z (⟨"com/example/thalweg/thalweg/node/Pace", "taken", "(JJ)V"⟩ : MethodName) prog_54_method_3_code 10 none ({ frames := 0, cells := 0, slots := 0, locals := 0 } : Room) #[(.ref ad0), (.long (0 : Int64)), (.long x4)] h0 (fun v h' => (v = none ∧ h0 = h')) := by
  refine met_of (Ls := #[.val (.ref ad0), .val (.long (0 : Int64)), .second, .val (.long x4), .second, .unset, .unset, .unset, .unset, .unset]) (plainFor_of_name pn_ra13) (fun m => by first | (simp [entryFrame, mkF, argsToLocals, Value.category]; done) | rfl) (fun p e s m below meth c cx => ?_)
  have KK := Keep.refl h0 []
  refine g_lloadN cx d10_0 rfl ?_
  refine g_aloadN cx d10_1 rfl rfl ?_
  refine g_getF cx d10_2 (host := "") (Or.inl (hw _ (List.mem_of_getElem? (i := 73) rfl))) Via.refl O_ad0.2.2.2.2.2.2.2.1 ?_
  refine g_lif_lt cx d10_5 d10_6 (fun q => absurd q (fun q => by revert q; decide)) (fun hc6 => ?_)
  refine g_lloadN cx d10_9 rfl ?_
  refine g_aloadN cx d10_10 rfl rfl ?_
  refine g_getF cx d10_11 (host := "") (Or.inl (hw _ (List.mem_of_getElem? (i := 66) rfl))) Via.refl O_ad0.2.2.2.2.2.2.1 ?_
  refine g_lif_le cx d10_14 d10_15 (fun hc15 => ?_) (fun q => absurd q (fun q => by revert q; decide))
  refine g_lloadN cx d10_40 rfl ?_
  refine g_aloadN cx d10_41 rfl rfl ?_
  refine g_getF cx d10_42 (host := "") (Or.inl (hw _ (List.mem_of_getElem? (i := 73) rfl))) Via.refl O_ad0.2.2.2.2.2.2.2.1 ?_
  refine g_lif_ne cx d10_45 d10_46 (fun q => absurd q (fun q => by revert q; decide)) (fun hc46 => ?_)
  refine g_retV cx d10_49 rfl (by decide) (by decide) ?_
  exact ⟨rfl, rfl⟩
theorem d0_108 : Dc code 108 (.invokevirtual 20) 3 111 := ⟨by decide +kernel, rfl⟩
theorem d0_111 : Dc code 111 (.aload 16) 2 113 := ⟨by decide +kernel, rfl⟩
theorem d0_113 : Dc code 113 (.invokevirtual 12) 3 116 := ⟨by decide +kernel, rfl⟩
theorem d0_116 : Dc code 116 (.istore 19) 2 118 := ⟨by decide +kernel, rfl⟩
theorem d0_118 : Dc code 118 (.aload 16) 2 120 := ⟨by decide +kernel, rfl⟩
theorem d0_120 : Dc code 120 (.iload 11) 2 122 := ⟨by decide +kernel, rfl⟩
theorem d0_122 : Dc code 122 (.i2l) 1 123 := ⟨by decide +kernel, rfl⟩
theorem d0_123 : Dc code 123 (.lload 14) 2 125 := ⟨by decide +kernel, rfl⟩
theorem d0_125 : Dc code 125 (.invokevirtual 20) 3 128 := ⟨by decide +kernel, rfl⟩
theorem d0_128 : Dc code 128 (.aload 16) 2 130 := ⟨by decide +kernel, rfl⟩
theorem d0_130 : Dc code 130 (.invokevirtual 12) 3 133 := ⟨by decide +kernel, rfl⟩
theorem d0_133 : Dc code 133 (.istore 20) 2 135 := ⟨by decide +kernel, rfl⟩
theorem d0_135 : Dc code 135 (.iload 10) 2 137 := ⟨by decide +kernel, rfl⟩
theorem d0_137 : Dc code 137 (.iconst 1) 1 138 := ⟨by decide +kernel, rfl⟩
theorem d0_138 : Bi code 138 (Instr.if_icmp .lt) 146 141 := ⟨8, by decide +kernel, by decide, by decide, rfl⟩
theorem d0_146 : Dc code 146 (.lconst 0) 1 147 := ⟨by decide +kernel, rfl⟩
theorem d0_147 : Dc code 147 (.iload 10) 2 149 := ⟨by decide +kernel, rfl⟩
theorem d0_149 : Dc code 149 (.iconst 2) 1 150 := ⟨by decide +kernel, rfl⟩
theorem d0_150 : Bi code 150 (Instr.if_icmp .lt) 158 153 := ⟨8, by decide +kernel, by decide, by decide, rfl⟩
theorem d0_158 : Dc code 158 (.lconst 0) 1 159 := ⟨by decide +kernel, rfl⟩
theorem d0_159 : Dc code 159 (.ladd) 1 160 := ⟨by decide +kernel, rfl⟩
theorem d0_160 : Dc code 160 (.lstore 21) 2 162 := ⟨by decide +kernel, rfl⟩
theorem d0_162 : Dc code 162 (.iload 10) 2 164 := ⟨by decide +kernel, rfl⟩
theorem d0_164 : Dc code 164 (.iconst 1) 1 165 := ⟨by decide +kernel, rfl⟩
theorem d0_165 : Bi code 165 (Instr.if_icmp .ge) 179 168 := ⟨14, by decide +kernel, by decide, by decide, rfl⟩
theorem d0_168 : Dc code 168 (.iload 11) 2 170 := ⟨by decide +kernel, rfl⟩
theorem d0_170 : Dc code 170 (.iconst 1) 1 171 := ⟨by decide +kernel, rfl⟩
theorem d0_171 : Bi code 171 (Instr.if_icmp .lt) 179 174 := ⟨8, by decide +kernel, by decide, by decide, rfl⟩
theorem d0_179 : Dc code 179 (.lconst 0) 1 180 := ⟨by decide +kernel, rfl⟩
theorem d0_180 : Dc code 180 (.iload 10) 2 182 := ⟨by decide +kernel, rfl⟩
theorem d0_182 : Dc code 182 (.iconst 2) 1 183 := ⟨by decide +kernel, rfl⟩
theorem d0_183 : Bi code 183 (Instr.if_icmp .ge) 197 186 := ⟨14, by decide +kernel, by decide, by decide, rfl⟩
theorem d0_186 : Dc code 186 (.iload 11) 2 188 := ⟨by decide +kernel, rfl⟩
theorem d0_188 : Dc code 188 (.iconst 2) 1 189 := ⟨by decide +kernel, rfl⟩
theorem d0_189 : Bi code 189 (Instr.if_icmp .lt) 197 192 := ⟨8, by decide +kernel, by decide, by decide, rfl⟩
theorem d0_197 : Dc code 197 (.lconst 0) 1 198 := ⟨by decide +kernel, rfl⟩
theorem d0_198 : Dc code 198 (.ladd) 1 199 := ⟨by decide +kernel, rfl⟩
theorem d0_199 : Dc code 199 (.lstore 23) 2 201 := ⟨by decide +kernel, rfl⟩
theorem d0_201 : Dc code 201 (.iload 10) 2 203 := ⟨by decide +kernel, rfl⟩
theorem d0_203 : Bi code 203 (Instr.ifCond .le) 210 206 := ⟨7, by decide +kernel, by decide, by decide, rfl⟩
theorem d0_210 : Dc code 210 (.iconst 0) 1 211 := ⟨by decide +kernel, rfl⟩
theorem d0_211 : Dc code 211 (.istore 25) 2 213 := ⟨by decide +kernel, rfl⟩
theorem d0_213 : Dc code 213 (.iload 11) 2 215 := ⟨by decide +kernel, rfl⟩
theorem d0_215 : Dc code 215 (.iload 10) 2 217 := ⟨by decide +kernel, rfl⟩
theorem d0_217 : Bi code 217 (Instr.if_icmp .le) 224 220 := ⟨7, by decide +kernel, by decide, by decide, rfl⟩
theorem d0_224 : Dc code 224 (.iconst 0) 1 225 := ⟨by decide +kernel, rfl⟩
theorem d0_225 : Dc code 225 (.istore 26) 2 227 := ⟨by decide +kernel, rfl⟩
theorem d0_227 : Dc code 227 (.iload 25) 2 229 := ⟨by decide +kernel, rfl⟩
theorem d0_229 : Bi code 229 (Instr.ifCond .eq) 253 232 := ⟨24, by decide +kernel, by decide, by decide, rfl⟩
theorem d0_253 : Dc code 253 (.iconst 0) 1 254 := ⟨by decide +kernel, rfl⟩
theorem d0_254 : Dc code 254 (.istore 27) 2 256 := ⟨by decide +kernel, rfl⟩
theorem d0_256 : Dc code 256 (.iload 25) 2 258 := ⟨by decide +kernel, rfl⟩
theorem d0_258 : Bi code 258 (Instr.ifCond .eq) 271 261 := ⟨13, by decide +kernel, by decide, by decide, rfl⟩
theorem d0_271 : Dc code 271 (.lconst 0) 1 272 := ⟨by decide +kernel, rfl⟩
theorem d0_272 : Dc code 272 (.iload 26) 2 274 := ⟨by decide +kernel, rfl⟩
theorem d0_274 : Bi code 274 (Instr.ifCond .eq) 282 277 := ⟨8, by decide +kernel, by decide, by decide, rfl⟩
theorem d0_282 : Dc code 282 (.lconst 0) 1 283 := ⟨by decide +kernel, rfl⟩
theorem d0_283 : Dc code 283 (.ladd) 1 284 := ⟨by decide +kernel, rfl⟩
theorem d0_284 : Dc code 284 (.lstore 28) 2 286 := ⟨by decide +kernel, rfl⟩
theorem d0_286 : Dc code 286 (.iload 17) 2 288 := ⟨by decide +kernel, rfl⟩
theorem d0_288 : Bi code 288 (Instr.ifCond .ne) 334 291 := ⟨46, by decide +kernel, by decide, by decide, rfl⟩
theorem d0_291 : Dc code 291 (.iload 18) 2 293 := ⟨by decide +kernel, rfl⟩
theorem d0_293 : Bi code 293 (Instr.ifCond .ne) 334 296 := ⟨41, by decide +kernel, by decide, by decide, rfl⟩
theorem d0_296 : Dc code 296 (.iload 19) 2 298 := ⟨by decide +kernel, rfl⟩
theorem d0_298 : Dc code 298 (.lload 21) 2 300 := ⟨by decide +kernel, rfl⟩
theorem d0_300 : Dc code 300 (.lconst 0) 1 301 := ⟨by decide +kernel, rfl⟩
theorem d0_301 : Dc code 301 (.lcmp) 1 302 := ⟨by decide +kernel, rfl⟩
theorem d0_302 : Bi code 302 (Instr.ifCond .le) 309 305 := ⟨7, by decide +kernel, by decide, by decide, rfl⟩
theorem d0_309 : Dc code 309 (.iconst 0) 1 310 := ⟨by decide +kernel, rfl⟩
theorem d0_310 : Bi code 310 (Instr.if_icmp .ne) 334 313 := ⟨24, by decide +kernel, by decide, by decide, rfl⟩
theorem d0_313 : Dc code 313 (.iload 20) 2 315 := ⟨by decide +kernel, rfl⟩
theorem d0_315 : Dc code 315 (.lload 28) 2 317 := ⟨by decide +kernel, rfl⟩
theorem d0_317 : Dc code 317 (.lconst 0) 1 318 := ⟨by decide +kernel, rfl⟩
theorem d0_318 : Dc code 318 (.lcmp) 1 319 := ⟨by decide +kernel, rfl⟩
theorem d0_319 : Bi code 319 (Instr.ifCond .le) 326 322 := ⟨7, by decide +kernel, by decide, by decide, rfl⟩
theorem d0_326 : Dc code 326 (.iconst 0) 1 327 := ⟨by decide +kernel, rfl⟩
theorem d0_327 : Bi code 327 (Instr.if_icmp .ne) 334 330 := ⟨7, by decide +kernel, by decide, by decide, rfl⟩
theorem d0_330 : Dc code 330 (.iconst 1) 1 331 := ⟨by decide +kernel, rfl⟩
theorem d0_331 : Bi code 331 (Instr.goto) 335 334 := ⟨4, by decide +kernel, by decide, by decide, rfl⟩
theorem d0_335 : Dc code 335 (.ireturn) 1 336 := ⟨by decide +kernel, rfl⟩
theorem d10_50 : Dc prog_54_method_3_code 50 (.lconst 0) 1 51 := ⟨by decide +kernel, rfl⟩
theorem d10_51 : Dc prog_54_method_3_code 51 (.lstore 5) 2 53 := ⟨by decide +kernel, rfl⟩
theorem d10_53 : Dc prog_54_method_3_code 53 (.lconst 0) 1 54 := ⟨by decide +kernel, rfl⟩
theorem d10_54 : Dc prog_54_method_3_code 54 (.lstore 7) 2 56 := ⟨by decide +kernel, rfl⟩
theorem d10_56 : Dc prog_54_method_3_code 56 (.aload_n 0) 1 57 := ⟨by decide +kernel, rfl⟩
theorem d10_57 : Dc prog_54_method_3_code 57 (.getfield 37) 3 60 := ⟨by decide +kernel, rfl⟩
theorem d10_60 : Dc prog_54_method_3_code 60 (.lload_n 1) 1 61 := ⟨by decide +kernel, rfl⟩
theorem d10_61 : Dc prog_54_method_3_code 61 (.lcmp) 1 62 := ⟨by decide +kernel, rfl⟩
theorem d10_62 : Bi prog_54_method_3_code 62 (Instr.ifCond .ge) 105 65 := ⟨43, by decide +kernel, by decide, by decide, rfl⟩
theorem d10_65 : Dc prog_54_method_3_code 65 (.aload_n 0) 1 66 := ⟨by decide +kernel, rfl⟩
theorem d10_66 : Dc prog_54_method_3_code 66 (.getfield 10) 3 69 := ⟨by decide +kernel, rfl⟩
theorem d11_0 : Dc jdk_21_method_18_code 0 (.aload_n 0) 1 1 := ⟨by decide +kernel, rfl⟩
theorem d12_0 : Dc jdk_21_method_20_code 0 (.aload_n 0) 1 1 := ⟨by decide +kernel, rfl⟩
theorem d12_1 : Dc jdk_21_method_20_code 1 (.getfield 3) 3 4 := ⟨by decide +kernel, rfl⟩
theorem d12_4 : Dc jdk_21_method_20_code 4 (.dup) 1 5 := ⟨by decide +kernel, rfl⟩
theorem d12_5 : Dc jdk_21_method_20_code 5 (.astore_n 1) 1 6 := ⟨by decide +kernel, rfl⟩
theorem d12_6 : Dc jdk_21_method_20_code 6 (.aload_n 0) 1 7 := ⟨by decide +kernel, rfl⟩
theorem d12_7 : Dc jdk_21_method_20_code 7 (.getfield 24) 3 10 := ⟨by decide +kernel, rfl⟩
theorem d12_10 : Dc jdk_21_method_20_code 10 (.dup) 1 11 := ⟨by decide +kernel, rfl⟩
theorem d12_11 : Dc jdk_21_method_20_code 11 (.istore_n 2) 1 12 := ⟨by decide +kernel, rfl⟩
theorem d13_0 : Dc jdk_21_method_10_code 0 (.aload_n 0) 1 1 := ⟨by decide +kernel, rfl⟩
theorem d13_1 : Dc jdk_21_method_10_code 1 (.iload_n 1) 1 2 := ⟨by decide +kernel, rfl⟩
theorem d13_2 : Dc jdk_21_method_10_code 2 (.aaload) 1 3 := ⟨by decide +kernel, rfl⟩
theorem d13_3 : Dc jdk_21_method_10_code 3 (.areturn) 1 4 := ⟨by decide +kernel, rfl⟩
theorem pn_ra17 : plainName "java/util/ArrayDeque" = true := by first | (simp [plainName, overriddenIn]; done) | decide +kernel
set_option maxRecDepth 65536 in
set_option maxHeartbeats 40000000 in
theorem ra17 (l : Launch) (Z : State) (a0 : Array Value) (hw : ∀ d ∈ tables_1, d.before a0 Z = true)  (ad0 ad1 ad2 : Addr) (x0 : Int64) (x1 : Int64) (x2 : Int64) (cA_ad0 : ClassId) (cA_ad1 : ClassId) (cA_ad2 : ClassId) (h0 : Heap) (A_ad0 : Arx Z h0 ad0 cA_ad0 (.object "java/lang/Object") (17 : Int32) [(.ref ad1), (.ref ad2), .null, .null, .null, .null, .null, .null, .null, .null, .null, .null, .null, .null, .null, .null, .null] .null "[Ljava/lang/Object;") (A_ad1 : Arx Z h0 ad1 cA_ad1 .long (2 : Int32) [(.long x0), (.long x1)] (.long (0 : Int64)) "[J") (A_ad2 : Arx Z h0 ad2 cA_ad2 .long (2 : Int32) [(.long x2), (.long x1)] (.long (0 : Int64)) "[J") (OV_ad0 : Ovr Z cA_ad0 "java/lang/Object") (ne_ad0_ad1 : ad0 ≠ ad1) (ne_ad0_ad2 : ad0 ≠ ad2) (ne_ad1_ad2 : ad1 ≠ ad2) (g_ad0 : Z.heap.size ≤ ad0) (g_ad1 : Z.heap.size ≤ ad1) (g_ad2 : Z.heap.size ≤ ad2) (OL : Old Z Z.heap.size h0) :
    Met l Z (⟨"java/util/ArrayDeque", "elementAt", "([Ljava/lang/Object;I)Ljava/lang/Object;"⟩ : MethodName) jdk_21_method_10_code 2 (some (.object "java/lang/Object")) ({ frames := 0, cells := 0, slots := 0, locals := 0 } : Room) #[(.ref ad0), (.int (0 : Int32))] h0 (fun v h' => (v = some (.ref ad1) ∧ h0 = h')) := by
  refine met_of (Ls := #[.val (.ref ad0), .val (.int (0 : Int32))]) (plainFor_of_name pn_ra17) (fun m => by first | (simp [entryFrame, mkF, argsToLocals, Value.category]; done) | rfl) (fun p e s m below meth c cx => ?_)
  have KK := Keep.refl h0 []
  refine g_aloadN cx d13_0 rfl rfl ?_
  refine g_iloadN cx d13_1 rfl ?_
  refine g_aaload cx d13_2 A_ad0.1 rfl ⟨by decide, by decide⟩ (v := (.ref ad1)) rfl ?_
  refine g_retA cx d13_3 (t := (.object "java/lang/Object")) rfl rfl rfl rfl (by decide) (by decide) ?_
  exact ⟨rfl, rfl⟩
theorem pd_5 : parseMethodDescriptor "([Ljava/lang/Object;I)Ljava/lang/Object;" = some ⟨[(.array (.object "java/lang/Object")), .int], some (.object "java/lang/Object")⟩ := by decide +kernel
theorem d12_12 : Dc jdk_21_method_20_code 12 (.invokestatic 103) 3 15 := ⟨by decide +kernel, rfl⟩
theorem d12_15 : Dc jdk_21_method_20_code 15 (.astore_n 3) 1 16 := ⟨by decide +kernel, rfl⟩
theorem d12_16 : Dc jdk_21_method_20_code 16 (.aload_n 3) 1 17 := ⟨by decide +kernel, rfl⟩
theorem d12_17 : Bi jdk_21_method_20_code 17 (Instr.ifnull) 34 20 := ⟨17, by decide +kernel, by decide, by decide, rfl⟩
theorem d12_20 : Dc jdk_21_method_20_code 20 (.aload_n 1) 1 21 := ⟨by decide +kernel, rfl⟩
theorem d12_21 : Dc jdk_21_method_20_code 21 (.iload_n 2) 1 22 := ⟨by decide +kernel, rfl⟩
theorem d12_22 : Dc jdk_21_method_20_code 22 (.aconst_null) 1 23 := ⟨by decide +kernel, rfl⟩
theorem d12_23 : Dc jdk_21_method_20_code 23 (.aastore) 1 24 := ⟨by decide +kernel, rfl⟩
theorem d12_24 : Dc jdk_21_method_20_code 24 (.aload_n 0) 1 25 := ⟨by decide +kernel, rfl⟩
theorem d12_25 : Dc jdk_21_method_20_code 25 (.iload_n 2) 1 26 := ⟨by decide +kernel, rfl⟩
theorem d12_26 : Dc jdk_21_method_20_code 26 (.aload_n 1) 1 27 := ⟨by decide +kernel, rfl⟩
theorem d12_27 : Dc jdk_21_method_20_code 27 (.arraylength) 1 28 := ⟨by decide +kernel, rfl⟩
theorem d12_28 : Dc jdk_21_method_20_code 28 (.invokestatic 74) 3 31 := ⟨by decide +kernel, rfl⟩
theorem d12_31 : Dc jdk_21_method_20_code 31 (.putfield 24) 3 34 := ⟨by decide +kernel, rfl⟩
theorem d12_34 : Dc jdk_21_method_20_code 34 (.aload_n 3) 1 35 := ⟨by decide +kernel, rfl⟩
theorem d12_35 : Dc jdk_21_method_20_code 35 (.areturn) 1 36 := ⟨by decide +kernel, rfl⟩
theorem pn_ra16 : plainName "java/util/ArrayDeque" = true := by first | (simp [plainName, overriddenIn]; done) | decide +kernel
set_option maxRecDepth 65536 in
set_option maxHeartbeats 40000000 in
theorem ra16 (l : Launch) (Z : State) (a0 : Array Value) (hw : ∀ d ∈ tables_1, d.before a0 Z = true)  (ad0 ad1 ad2 ad3 : Addr) (x0 : Int64) (x1 : Int64) (x2 : Int64) (cA_ad1 : ClassId) (cA_ad2 : ClassId) (cA_ad3 : ClassId) (h0 : Heap) (O_ad0 : ObD Z h0 ad0 (.ref ad1) (.int (0 : Int32)) (.int (2 : Int32))) (A_ad1 : Arx Z h0 ad1 cA_ad1 (.object "java/lang/Object") (17 : Int32) [(.ref ad2), (.ref ad3), .null, .null, .null, .null, .null, .null, .null, .null, .null, .null, .null, .null, .null, .null, .null] .null "[Ljava/lang/Object;") (A_ad2 : Arx Z h0 ad2 cA_ad2 .long (2 : Int32) [(.long x0), (.long x1)] (.long (0 : Int64)) "[J") (A_ad3 : Arx Z h0 ad3 cA_ad3 .long (2 : Int32) [(.long x2), (.long x1)] (.long (0 : Int64)) "[J") (OV_ad1 : Ovr Z cA_ad1 "java/lang/Object") (ne_ad0_ad1 : ad0 ≠ ad1) (ne_ad0_ad2 : ad0 ≠ ad2) (ne_ad1_ad2 : ad1 ≠ ad2) (ne_ad0_ad3 : ad0 ≠ ad3) (ne_ad1_ad3 : ad1 ≠ ad3) (ne_ad2_ad3 : ad2 ≠ ad3) (g_ad0 : Z.heap.size ≤ ad0) (g_ad1 : Z.heap.size ≤ ad1) (g_ad2 : Z.heap.size ≤ ad2) (g_ad3 : Z.heap.size ≤ ad3) (OL : Old Z Z.heap.size h0) :
    Met l Z (⟨"java/util/ArrayDeque", "pollFirst", "()Ljava/lang/Object;"⟩ : MethodName) jdk_21_method_20_code 4 (some (.object "java/lang/Object")) ({ frames := 1, cells := 0, slots := 0, locals := 14 } : Room) #[(.ref ad0)] h0 (fun v h' => (v = some (.ref ad2) ∧ Keep h0 h' [ad0, ad1] ∧ ObD Z h' ad0 (.ref ad1) (.int (1 : Int32)) (.int (2 : Int32)) ∧ Arx Z h' ad1 cA_ad1 (.object "java/lang/Object") (17 : Int32) [.null, (.ref ad3), .null, .null, .null, .null, .null, .null, .null, .null, .null, .null, .null, .null, .null, .null, .null] .null "[Ljava/lang/Object;")) := by
  refine met_of (Ls := #[.val (.ref ad0), .unset, .unset, .unset]) (plainFor_of_name pn_ra16) (fun m => by first | (simp [entryFrame, mkF, argsToLocals, Value.category]; done) | rfl) (fun p e s m below meth c cx => ?_)
  have KK := Keep.refl h0 [ad0, ad1]
  refine g_aloadN cx d12_0 rfl rfl ?_
  refine g_getF cx d12_1 (host := "") (Or.inl (hw _ (List.mem_of_getElem? (i := 25) rfl))) Via.refl O_ad0.2.1 ?_
  refine g_dup cx d12_4 rfl ?_
  refine g_astoreN cx d12_5 rfl (Ls' := #[.val (.ref ad0), .val (.ref ad1), .unset, .unset]) rfl ?_
  refine g_aloadN cx d12_6 rfl rfl ?_
  refine g_getF cx d12_7 (host := "") (Or.inl (hw _ (List.mem_of_getElem? (i := 48) rfl))) Via.refl O_ad0.2.2.1 ?_
  refine g_dup cx d12_10 rfl ?_
  refine g_istoreN cx d12_11 (Ls' := #[.val (.ref ad0), .val (.ref ad1), .val (.int (0 : Int32)), .unset]) rfl ?_
  refine g_static cx (y := (⟨"java/util/ArrayDeque", "elementAt", "([Ljava/lang/Object;I)Ljava/lang/Object;"⟩ : MethodName)) d12_12 (hw _ (List.mem_of_getElem? (i := 85) rfl)) (hw _ (List.mem_of_getElem? (i := 86) rfl)) (hw _ (List.mem_of_getElem? (i := 12) rfl)) (hw _ (List.mem_of_getElem? (i := 87) rfl)) (by decide) (bytes := jdk_21_method_10_code) (maxL' := 2) (M := (ra17 l Z a0 hw  ad1 ad2 ad3 x0 x1 x2 cA_ad1 cA_ad2 cA_ad3 _ A_ad1 A_ad2 A_ad3 OV_ad1 ne_ad1_ad2 ne_ad1_ad3 ne_ad2_ad3 g_ad1 g_ad2 g_ad3 OL)) rfl (lenOf pd_5 rfl) (by decide) (W := 0) (Nat.le_of_eq rfl) (by decide) (k' := 0) (n' := 0) rfl rfl (by decide) (by decide) (argsL := [(.ref ad1), (.int (0 : Int32))]) (rest := []) rfl (fun v3 h2 q4 => ?_)
  obtain ⟨rfl, rfl⟩ := q4
  refine G.cast (st' := [(.ref ad2)]) ?_ rfl
  refine g_astoreN cx d12_15 rfl (Ls' := #[.val (.ref ad0), .val (.ref ad1), .val (.int (0 : Int32)), .val (.ref ad2)]) rfl ?_
  refine g_aloadN cx d12_16 rfl rfl ?_
  refine g_ifnull_ref cx d12_17 ?_
  refine g_aloadN cx d12_20 rfl rfl ?_
  refine g_iloadN cx d12_21 rfl ?_
  refine g_aconst_null cx d12_22 ?_
  refine g_aastore cx d12_23 A_ad1 rfl rfl (Or.inl rfl) ⟨by decide, by decide⟩ (Nat.le_of_ble_eq_true rfl) g_ad1 (fun h5 W6 AA7 => ?_)
  have O_ad0 := O_ad0.oth W6 ne_ad0_ad1
  have A_ad1 : Arx Z h5 ad1 cA_ad1 (.object "java/lang/Object") (17 : Int32) [.null, (.ref ad3), .null, .null, .null, .null, .null, .null, .null, .null, .null, .null, .null, .null, .null, .null, .null] .null "[Ljava/lang/Object;" := AA7
  have A_ad2 := A_ad2.other W6 (Ne.symm ne_ad1_ad2)
  have A_ad3 := A_ad3.other W6 (Ne.symm ne_ad1_ad3)
  have OL := OL.wr W6 g_ad1
  have KK := KK.wr W6 (Or.inl (List.mem_of_getElem? (i := 1) rfl))
  refine g_aloadN cx d12_24 rfl rfl ?_
  refine g_iloadN cx d12_25 rfl ?_
  refine g_aloadN cx d12_26 rfl rfl ?_
  refine g_arraylength cx d12_27 A_ad1.1 ?_
  refine g_static cx (y := (⟨"java/util/ArrayDeque", "inc", "(II)I"⟩ : MethodName)) d12_28 (hw _ (List.mem_of_getElem? (i := 61) rfl)) (hw _ (List.mem_of_getElem? (i := 62) rfl)) (hw _ (List.mem_of_getElem? (i := 12) rfl)) (hw _ (List.mem_of_getElem? (i := 63) rfl)) (by decide) (bytes := jdk_21_method_6_code) (maxL' := 2) (M := (ra7 l Z a0 hw   _  OL)) rfl (lenOf pd_2 rfl) (by decide) (W := 1) (Nat.le_of_eq rfl) (by decide) (k' := 0) (n' := 0) rfl rfl (by decide) (by decide) (argsL := [(.int (0 : Int32)), (.int (17 : Int32))]) (rest := [(.ref ad0)]) rfl (fun v10 h9 q11 => ?_)
  obtain ⟨rfl, rfl⟩ := q11
  refine G.cast (st' := [(.int (1 : Int32)), (.ref ad0)]) ?_ rfl
  refine g_putF cx d12_31 (host := "") (Or.inl (hw _ (List.mem_of_getElem? (i := 48) rfl))) Via.refl O_ad0.2.2.1 O_ad0.1 (Or.inl (hw _ (List.mem_of_getElem? (i := 49) rfl))) (hw _ (List.mem_of_getElem? (i := 11) rfl)) (ty := .int) (by decide) rfl rfl g_ad0 (fun h12 W13 => ?_)
  have O_ad0 := O_ad0.put2 hw W13
  have A_ad1 := A_ad1.other W13 (Ne.symm ne_ad0_ad1)
  have A_ad2 := A_ad2.other W13 (Ne.symm ne_ad0_ad2)
  have A_ad3 := A_ad3.other W13 (Ne.symm ne_ad0_ad3)
  have OL := OL.wr W13 g_ad0
  have KK := KK.wr W13 (Or.inl (List.mem_of_getElem? (i := 0) rfl))
  refine g_aloadN cx d12_34 rfl rfl ?_
  refine g_retA cx d12_35 (t := (.object "java/lang/Object")) rfl rfl rfl rfl (by decide) (by decide) ?_
  exact ⟨rfl, KK, O_ad0, A_ad1⟩
theorem pd_6 : parseMethodDescriptor "()Ljava/lang/Object;" = some ⟨[], some (.object "java/lang/Object")⟩ := by decide +kernel
theorem d11_1 : Dc jdk_21_method_18_code 1 (.invokevirtual 93) 3 4 := ⟨by decide +kernel, rfl⟩
theorem d11_4 : Dc jdk_21_method_18_code 4 (.astore_n 1) 1 5 := ⟨by decide +kernel, rfl⟩
theorem d11_5 : Dc jdk_21_method_18_code 5 (.aload_n 1) 1 6 := ⟨by decide +kernel, rfl⟩
theorem d11_6 : Bi jdk_21_method_18_code 6 (Instr.ifnonnull) 17 9 := ⟨11, by decide +kernel, by decide, by decide, rfl⟩
theorem d11_17 : Dc jdk_21_method_18_code 17 (.aload_n 1) 1 18 := ⟨by decide +kernel, rfl⟩
theorem d11_18 : Dc jdk_21_method_18_code 18 (.areturn) 1 19 := ⟨by decide +kernel, rfl⟩
theorem pn_ra15 : plainName "java/util/ArrayDeque" = true := by first | (simp [plainName, overriddenIn]; done) | decide +kernel
set_option maxRecDepth 65536 in
set_option maxHeartbeats 40000000 in
theorem ra15 (l : Launch) (Z : State) (a0 : Array Value) (hw : ∀ d ∈ tables_1, d.before a0 Z = true)  (ad0 ad1 ad2 ad3 : Addr) (x0 : Int64) (x1 : Int64) (x2 : Int64) (cA_ad1 : ClassId) (cA_ad2 : ClassId) (cA_ad3 : ClassId) (h0 : Heap) (O_ad0 : ObD Z h0 ad0 (.ref ad1) (.int (0 : Int32)) (.int (2 : Int32))) (A_ad1 : Arx Z h0 ad1 cA_ad1 (.object "java/lang/Object") (17 : Int32) [(.ref ad2), (.ref ad3), .null, .null, .null, .null, .null, .null, .null, .null, .null, .null, .null, .null, .null, .null, .null] .null "[Ljava/lang/Object;") (A_ad2 : Arx Z h0 ad2 cA_ad2 .long (2 : Int32) [(.long x0), (.long x1)] (.long (0 : Int64)) "[J") (A_ad3 : Arx Z h0 ad3 cA_ad3 .long (2 : Int32) [(.long x2), (.long x1)] (.long (0 : Int64)) "[J") (OV_ad1 : Ovr Z cA_ad1 "java/lang/Object") (ne_ad0_ad1 : ad0 ≠ ad1) (ne_ad0_ad2 : ad0 ≠ ad2) (ne_ad1_ad2 : ad1 ≠ ad2) (ne_ad0_ad3 : ad0 ≠ ad3) (ne_ad1_ad3 : ad1 ≠ ad3) (ne_ad2_ad3 : ad2 ≠ ad3) (g_ad0 : Z.heap.size ≤ ad0) (g_ad1 : Z.heap.size ≤ ad1) (g_ad2 : Z.heap.size ≤ ad2) (g_ad3 : Z.heap.size ≤ ad3) (OL : Old Z Z.heap.size h0) :
    Met l Z (⟨"java/util/ArrayDeque", "removeFirst", "()Ljava/lang/Object;"⟩ : MethodName) jdk_21_method_18_code 2 (some (.object "java/lang/Object")) ({ frames := 2, cells := 0, slots := 0, locals := 29 } : Room) #[(.ref ad0)] h0 (fun v h' => (v = some (.ref ad2) ∧ Keep h0 h' [ad0, ad1] ∧ ObD Z h' ad0 (.ref ad1) (.int (1 : Int32)) (.int (2 : Int32)) ∧ Arx Z h' ad1 cA_ad1 (.object "java/lang/Object") (17 : Int32) [.null, (.ref ad3), .null, .null, .null, .null, .null, .null, .null, .null, .null, .null, .null, .null, .null, .null, .null] .null "[Ljava/lang/Object;")) := by
  refine met_of (Ls := #[.val (.ref ad0), .unset]) (plainFor_of_name pn_ra15) (fun m => by first | (simp [entryFrame, mkF, argsToLocals, Value.category]; done) | rfl) (fun p e s m below meth c cx => ?_)
  have KK := Keep.refl h0 [ad0, ad1]
  refine g_aloadN cx d11_0 rfl rfl ?_
  refine g_virtual cx (y := (⟨"java/util/ArrayDeque", "pollFirst", "()Ljava/lang/Object;"⟩ : MethodName)) (z := (⟨"java/util/ArrayDeque", "pollFirst", "()Ljava/lang/Object;"⟩ : MethodName)) (a := ad0) d11_1 (hw _ (List.mem_of_getElem? (i := 80) rfl)) (hw _ (List.mem_of_getElem? (i := 81) rfl)) (hw _ (List.mem_of_getElem? (i := 12) rfl)) (hw _ (List.mem_of_getElem? (i := 84) rfl)) (hw _ (List.mem_of_getElem? (i := 83) rfl)) (hw _ (List.mem_of_getElem? (i := 82) rfl)) rfl (by decide) O_ad0.1 (bytes := jdk_21_method_20_code) (maxL' := 4) (M := (ra16 l Z a0 hw  ad0 ad1 ad2 ad3 x0 x1 x2 cA_ad1 cA_ad2 cA_ad3 _ O_ad0 A_ad1 A_ad2 A_ad3 OV_ad1 ne_ad0_ad1 ne_ad0_ad2 ne_ad1_ad2 ne_ad0_ad3 ne_ad1_ad3 ne_ad2_ad3 g_ad0 g_ad1 g_ad2 g_ad3 OL)) rfl (lenOf pd_6 rfl) (by decide) (W := 0) (Nat.le_of_eq rfl) (by decide) (k' := 0) (n' := 0) rfl rfl (by decide) (by decide) (argsL := []) (rest := []) rfl (fun v3 h2 q4 => ?_)
  obtain ⟨rfl, K1, O_ad0, A_ad1⟩ := q4
  have A_ad2 := A_ad2.keep K1 (ninS (Ne.symm ne_ad0_ad2) (ninS (Ne.symm ne_ad1_ad2) nin0))
  have A_ad3 := A_ad3.keep K1 (ninS (Ne.symm ne_ad0_ad3) (ninS (Ne.symm ne_ad1_ad3) nin0))
  have OL := OL.keep K1 (allS g_ad0 (allS g_ad1 all0))
  have KK := KK.trans K1 (allS (P := fun z => z ∈ _ ∨ _ ≤ z) (Or.inl (List.mem_of_getElem? (i := 0) rfl)) (allS (P := fun z => z ∈ _ ∨ _ ≤ z) (Or.inl (List.mem_of_getElem? (i := 1) rfl)) all0))
  refine G.cast (st' := [(.ref ad2)]) ?_ rfl
  refine g_astoreN cx d11_4 rfl (Ls' := #[.val (.ref ad0), .val (.ref ad2)]) rfl ?_
  refine g_aloadN cx d11_5 rfl rfl ?_
  refine g_ifnonnull_ref cx d11_6 ?_
  refine g_aloadN cx d11_17 rfl rfl ?_
  refine g_retA cx d11_18 (t := (.object "java/lang/Object")) rfl rfl rfl rfl (by decide) (by decide) ?_
  exact ⟨rfl, KK, O_ad0, A_ad1⟩
theorem d10_69 : Dc prog_54_method_3_code 69 (.invokevirtual 49) 3 72 := ⟨by decide +kernel, rfl⟩
theorem d10_72 : Dc prog_54_method_3_code 72 (.checkcast 53) 3 75 := ⟨by decide +kernel, rfl⟩
theorem d10_75 : Dc prog_54_method_3_code 75 (.astore 9) 2 77 := ⟨by decide +kernel, rfl⟩
theorem d10_77 : Dc prog_54_method_3_code 77 (.lload 5) 2 79 := ⟨by decide +kernel, rfl⟩
theorem d10_79 : Dc prog_54_method_3_code 79 (.aload 9) 2 81 := ⟨by decide +kernel, rfl⟩
theorem d10_81 : Dc prog_54_method_3_code 81 (.iconst 0) 1 82 := ⟨by decide +kernel, rfl⟩
theorem d10_82 : Dc prog_54_method_3_code 82 (.laload) 1 83 := ⟨by decide +kernel, rfl⟩
theorem d10_83 : Dc prog_54_method_3_code 83 (.ladd) 1 84 := ⟨by decide +kernel, rfl⟩
theorem d10_84 : Dc prog_54_method_3_code 84 (.lstore 5) 2 86 := ⟨by decide +kernel, rfl⟩
theorem d10_86 : Dc prog_54_method_3_code 86 (.aload 9) 2 88 := ⟨by decide +kernel, rfl⟩
theorem d10_88 : Dc prog_54_method_3_code 88 (.iconst 1) 1 89 := ⟨by decide +kernel, rfl⟩
theorem d10_89 : Dc prog_54_method_3_code 89 (.laload) 1 90 := ⟨by decide +kernel, rfl⟩
theorem d10_90 : Dc prog_54_method_3_code 90 (.lstore 7) 2 92 := ⟨by decide +kernel, rfl⟩
theorem d10_92 : Dc prog_54_method_3_code 92 (.aload_n 0) 1 93 := ⟨by decide +kernel, rfl⟩
theorem d10_93 : Dc prog_54_method_3_code 93 (.dup) 1 94 := ⟨by decide +kernel, rfl⟩
theorem d10_94 : Dc prog_54_method_3_code 94 (.getfield 37) 3 97 := ⟨by decide +kernel, rfl⟩
theorem d10_97 : Dc prog_54_method_3_code 97 (.lconst 1) 1 98 := ⟨by decide +kernel, rfl⟩
theorem d10_98 : Dc prog_54_method_3_code 98 (.ladd) 1 99 := ⟨by decide +kernel, rfl⟩
theorem d10_99 : Dc prog_54_method_3_code 99 (.putfield 37) 3 102 := ⟨by decide +kernel, rfl⟩
theorem d10_102 : Bi prog_54_method_3_code 102 (Instr.goto) 56 105 := ⟨(-46), by decide +kernel, by decide, by decide, rfl⟩
theorem d10_105 : Dc prog_54_method_3_code 105 (.aload_n 0) 1 106 := ⟨by decide +kernel, rfl⟩
theorem d10_106 : Dc prog_54_method_3_code 106 (.dup) 1 107 := ⟨by decide +kernel, rfl⟩
theorem d10_107 : Dc prog_54_method_3_code 107 (.getfield 31) 3 110 := ⟨by decide +kernel, rfl⟩
theorem d10_110 : Dc prog_54_method_3_code 110 (.lload 5) 2 112 := ⟨by decide +kernel, rfl⟩
theorem d10_112 : Dc prog_54_method_3_code 112 (.lsub) 1 113 := ⟨by decide +kernel, rfl⟩
theorem d10_113 : Dc prog_54_method_3_code 113 (.putfield 31) 3 116 := ⟨by decide +kernel, rfl⟩
theorem d10_116 : Dc prog_54_method_3_code 116 (.aload_n 0) 1 117 := ⟨by decide +kernel, rfl⟩
theorem d10_117 : Dc prog_54_method_3_code 117 (.new 55) 3 120 := ⟨by decide +kernel, rfl⟩
theorem d10_120 : Dc prog_54_method_3_code 120 (.dup) 1 121 := ⟨by decide +kernel, rfl⟩
theorem d10_121 : Dc prog_54_method_3_code 121 (.lload_n 3) 1 122 := ⟨by decide +kernel, rfl⟩
theorem d10_122 : Dc prog_54_method_3_code 122 (.lload 5) 2 124 := ⟨by decide +kernel, rfl⟩
theorem d10_124 : Dc prog_54_method_3_code 124 (.lconst 1) 1 125 := ⟨by decide +kernel, rfl⟩
theorem d10_125 : Dc prog_54_method_3_code 125 (.lload_n 3) 1 126 := ⟨by decide +kernel, rfl⟩
theorem d10_126 : Dc prog_54_method_3_code 126 (.aload_n 0) 1 127 := ⟨by decide +kernel, rfl⟩
theorem d10_127 : Dc prog_54_method_3_code 127 (.getfield 23) 3 130 := ⟨by decide +kernel, rfl⟩
theorem d10_130 : Dc prog_54_method_3_code 130 (.lsub) 1 131 := ⟨by decide +kernel, rfl⟩
theorem pd_7 : parseMethodDescriptor "(JJ)J" = some ⟨[.long, .long], some .long⟩ := by decide +kernel
theorem d10_131 : Dc prog_54_method_3_code 131 (.invokestatic 57) 3 134 := ⟨by decide +kernel, rfl⟩
theorem d10_134 : Dc prog_54_method_3_code 134 (.lload_n 3) 1 135 := ⟨by decide +kernel, rfl⟩
theorem d10_135 : Dc prog_54_method_3_code 135 (.lload 7) 2 137 := ⟨by decide +kernel, rfl⟩
theorem d10_137 : Dc prog_54_method_3_code 137 (.lsub) 1 138 := ⟨by decide +kernel, rfl⟩
theorem d15_0 : Dc prog_55_method_1_code 0 (.aload_n 0) 1 1 := ⟨by decide +kernel, rfl⟩
theorem d15_1 : Dc prog_55_method_1_code 1 (.invokespecial 1) 3 4 := ⟨by decide +kernel, rfl⟩
theorem d15_4 : Dc prog_55_method_1_code 4 (.aload_n 0) 1 5 := ⟨by decide +kernel, rfl⟩
theorem d15_5 : Dc prog_55_method_1_code 5 (.lload_n 1) 1 6 := ⟨by decide +kernel, rfl⟩
theorem d15_6 : Dc prog_55_method_1_code 6 (.putfield 7) 3 9 := ⟨by decide +kernel, rfl⟩
theorem d15_9 : Dc prog_55_method_1_code 9 (.aload_n 0) 1 10 := ⟨by decide +kernel, rfl⟩
theorem d15_10 : Dc prog_55_method_1_code 10 (.lload_n 3) 1 11 := ⟨by decide +kernel, rfl⟩
theorem d15_11 : Dc prog_55_method_1_code 11 (.putfield 13) 3 14 := ⟨by decide +kernel, rfl⟩
theorem d15_14 : Dc prog_55_method_1_code 14 (.aload_n 0) 1 15 := ⟨by decide +kernel, rfl⟩
theorem d15_15 : Dc prog_55_method_1_code 15 (.lload 5) 2 17 := ⟨by decide +kernel, rfl⟩
theorem d15_17 : Dc prog_55_method_1_code 17 (.putfield 16) 3 20 := ⟨by decide +kernel, rfl⟩
theorem d15_20 : Dc prog_55_method_1_code 20 (.aload_n 0) 1 21 := ⟨by decide +kernel, rfl⟩
theorem d15_21 : Dc prog_55_method_1_code 21 (.lload 7) 2 23 := ⟨by decide +kernel, rfl⟩
theorem d15_23 : Dc prog_55_method_1_code 23 (.putfield 19) 3 26 := ⟨by decide +kernel, rfl⟩
theorem d15_26 : Dc prog_55_method_1_code 26 (.return_) 1 27 := ⟨by decide +kernel, rfl⟩
theorem pn_ra18 : plainName "com/example/thalweg/thalweg/node/Pace$Sample" = true := by first | (simp [plainName, overriddenIn]; done) | decide +kernel
set_option maxRecDepth 65536 in
set_option maxHeartbeats 40000000 in
theorem ra18 (l : Launch) (Z : State) (a0 : Array Value) (hw : ∀ d ∈ tables_1, d.before a0 Z = true)  (ad0 : Addr) (x0 : Int64) (x1 : Int64) (x2 : Int64) (x3 : Int64) (h0 : Heap) (O_ad0 : ObS Z h0 ad0 (.long (0 : Int64)) (.long (0 : Int64)) (.long (0 : Int64)) (.long (0 : Int64))) (g_ad0 : Z.heap.size ≤ ad0) (OL : Old Z Z.heap.size h0) :
    Met l Z (⟨"com/example/thalweg/thalweg/node/Pace$Sample", "<init>", "(JJJJ)V"⟩ : MethodName) prog_55_method_1_code 9 none ({ frames := 2, cells := 0, slots := 0, locals := 24 } : Room) #[(.ref ad0), (.long x0), (.long x1), (.long x2), (.long x3)] h0 (fun v h' => (v = none ∧ Keep h0 h' [ad0] ∧ ObS Z h' ad0 (.long x0) (.long x1) (.long x2) (.long x3))) := by
  refine met_of (Ls := #[.val (.ref ad0), .val (.long x0), .second, .val (.long x1), .second, .val (.long x2), .second, .val (.long x3), .second]) (plainFor_of_name pn_ra18) (fun m => by first | (simp [entryFrame, mkF, argsToLocals, Value.category]; done) | rfl) (fun p e s m below meth c cx => ?_)
  have KK := Keep.refl h0 [ad0]
  refine g_aloadN cx d15_0 rfl rfl ?_
  refine g_special cx (y := (⟨"java/lang/Record", "<init>", "()V"⟩ : MethodName)) (a := ad0) d15_1 rfl rfl (hw _ (List.mem_of_getElem? (i := 100) rfl)) (hw _ (List.mem_of_getElem? (i := 101) rfl)) (hw _ (List.mem_of_getElem? (i := 103) rfl)) (hw _ (List.mem_of_getElem? (i := 104) rfl)) (by decide) (bytes := jdk_30_method_1_code) (maxL' := 1) (M := (rm1 l Z a0 hw ad0 _)) rfl (lenOf pd_0 rfl) (by decide) (W := 0) (Nat.le_of_eq rfl) (by decide) (k' := 0) (n' := 0) rfl rfl (by decide) (by decide) (argsL := []) (rest := []) rfl (fun v2 h1 q3 => ?_)
  obtain ⟨rfl, rfl⟩ := q3
  refine G.cast (st' := []) ?_ rfl
  refine g_aloadN cx d15_4 rfl rfl ?_
  refine g_lloadN cx d15_5 rfl ?_
  refine g_putF cx d15_6 (host := "") (Or.inl (hw _ (List.mem_of_getElem? (i := 106) rfl))) Via.refl O_ad0.2.1 O_ad0.1 (Or.inr ⟨(hw _ (List.mem_of_getElem? (i := 107) rfl)), rfl, rfl⟩) (hw _ (List.mem_of_getElem? (i := 91) rfl)) (ty := .long) (by decide) rfl rfl g_ad0 (fun h4 W5 => ?_)
  have O_ad0 := O_ad0.put1 hw W5
  have OL := OL.wr W5 g_ad0
  have KK := KK.wr W5 (Or.inl (List.mem_of_getElem? (i := 0) rfl))
  refine g_aloadN cx d15_9 rfl rfl ?_
  refine g_lloadN cx d15_10 rfl ?_
  refine g_putF cx d15_11 (host := "") (Or.inl (hw _ (List.mem_of_getElem? (i := 108) rfl))) Via.refl O_ad0.2.2.1 O_ad0.1 (Or.inr ⟨(hw _ (List.mem_of_getElem? (i := 109) rfl)), rfl, rfl⟩) (hw _ (List.mem_of_getElem? (i := 91) rfl)) (ty := .long) (by decide) rfl rfl g_ad0 (fun h6 W7 => ?_)
  have O_ad0 := O_ad0.put2 hw W7
  have OL := OL.wr W7 g_ad0
  have KK := KK.wr W7 (Or.inl (List.mem_of_getElem? (i := 0) rfl))
  refine g_aloadN cx d15_14 rfl rfl ?_
  refine g_lload cx d15_15 rfl ?_
  refine g_putF cx d15_17 (host := "") (Or.inl (hw _ (List.mem_of_getElem? (i := 110) rfl))) Via.refl O_ad0.2.2.2.1 O_ad0.1 (Or.inr ⟨(hw _ (List.mem_of_getElem? (i := 111) rfl)), rfl, rfl⟩) (hw _ (List.mem_of_getElem? (i := 91) rfl)) (ty := .long) (by decide) rfl rfl g_ad0 (fun h8 W9 => ?_)
  have O_ad0 := O_ad0.put3 hw W9
  have OL := OL.wr W9 g_ad0
  have KK := KK.wr W9 (Or.inl (List.mem_of_getElem? (i := 0) rfl))
  refine g_aloadN cx d15_20 rfl rfl ?_
  refine g_lload cx d15_21 rfl ?_
  refine g_putF cx d15_23 (host := "") (Or.inl (hw _ (List.mem_of_getElem? (i := 112) rfl))) Via.refl O_ad0.2.2.2.2 O_ad0.1 (Or.inr ⟨(hw _ (List.mem_of_getElem? (i := 113) rfl)), rfl, rfl⟩) (hw _ (List.mem_of_getElem? (i := 91) rfl)) (ty := .long) (by decide) rfl rfl g_ad0 (fun h10 W11 => ?_)
  have O_ad0 := O_ad0.put4 hw W11
  have OL := OL.wr W11 g_ad0
  have KK := KK.wr W11 (Or.inl (List.mem_of_getElem? (i := 0) rfl))
  refine g_retV cx d15_26 rfl (by decide) (by decide) ?_
  exact ⟨rfl, KK, O_ad0⟩
theorem pd_8 : parseMethodDescriptor "(JJJJ)V" = some ⟨[.long, .long, .long, .long], none⟩ := by decide +kernel
theorem d10_138 : Dc prog_54_method_3_code 138 (.invokespecial 63) 3 141 := ⟨by decide +kernel, rfl⟩
theorem d17_0 : Dc prog_54_method_9_code 0 (.aload_n 0) 1 1 := ⟨by decide +kernel, rfl⟩
theorem d17_1 : Dc prog_54_method_9_code 1 (.getfield 16) 3 4 := ⟨by decide +kernel, rfl⟩
theorem d17_4 : Dc prog_54_method_9_code 4 (.aload_n 1) 1 5 := ⟨by decide +kernel, rfl⟩
theorem pn_ra20 : plainName "java/util/ArrayDeque" = true := by first | (simp [plainName, overriddenIn]; done) | decide +kernel
set_option maxRecDepth 65536 in
set_option maxHeartbeats 40000000 in
theorem ra20 (l : Launch) (Z : State) (a0 : Array Value) (hw : ∀ d ∈ tables_1, d.before a0 Z = true)  (ad0 ad1 ad2 : Addr) (x0 : Int64) (x1 : Int64) (x2 : Int64) (x3 : Int64) (cA_ad1 : ClassId) (h0 : Heap) (O_ad0 : ObD Z h0 ad0 (.ref ad1) (.int (0 : Int32)) (.int (0 : Int32))) (O_ad2 : ObS Z h0 ad2 (.long x0) (.long x1) (.long x2) (.long x3)) (A_ad1 : Arx Z h0 ad1 cA_ad1 (.object "java/lang/Object") (17 : Int32) [.null, .null, .null, .null, .null, .null, .null, .null, .null, .null, .null, .null, .null, .null, .null, .null, .null] .null "[Ljava/lang/Object;") (OV_ad1 : Ovr Z cA_ad1 "java/lang/Object") (ne_ad0_ad1 : ad0 ≠ ad1) (ne_ad0_ad2 : ad0 ≠ ad2) (ne_ad1_ad2 : ad1 ≠ ad2) (g_ad0 : Z.heap.size ≤ ad0) (g_ad1 : Z.heap.size ≤ ad1) (g_ad2 : Z.heap.size ≤ ad2) (OL : Old Z Z.heap.size h0) :
    Met l Z (⟨"java/util/ArrayDeque", "addLast", "(Ljava/lang/Object;)V"⟩ : MethodName) jdk_21_method_13_code 3 none ({ frames := 1, cells := 0, slots := 0, locals := 15 } : Room) #[(.ref ad0), (.ref ad2)] h0 (fun v h' => (v = none ∧ Keep h0 h' [ad0, ad1] ∧ ObD Z h' ad0 (.ref ad1) (.int (0 : Int32)) (.int (1 : Int32)) ∧ Arx Z h' ad1 cA_ad1 (.object "java/lang/Object") (17 : Int32) [(.ref ad2), .null, .null, .null, .null, .null, .null, .null, .null, .null, .null, .null, .null, .null, .null, .null, .null] .null "[Ljava/lang/Object;")) := by
  refine met_of (Ls := #[.val (.ref ad0), .val (.ref ad2), .unset]) (plainFor_of_name pn_ra20) (fun m => by first | (simp [entryFrame, mkF, argsToLocals, Value.category]; done) | rfl) (fun p e s m below meth c cx => ?_)
  have KK := Keep.refl h0 [ad0, ad1]
  refine g_aloadN cx d8_0 rfl rfl ?_
  refine g_ifnonnull_ref cx d8_1 ?_
  refine g_aloadN cx d8_12 rfl rfl ?_
  refine g_getF cx d8_13 (host := "") (Or.inl (hw _ (List.mem_of_getElem? (i := 25) rfl))) Via.refl O_ad0.2.1 ?_
  refine g_astoreN cx d8_16 rfl (Ls' := #[.val (.ref ad0), .val (.ref ad2), .val (.ref ad1)]) rfl ?_
  refine g_aloadN cx d8_17 rfl rfl ?_
  refine g_aloadN cx d8_18 rfl rfl ?_
  refine g_getF cx d8_19 (host := "") (Or.inl (hw _ (List.mem_of_getElem? (i := 50) rfl))) Via.refl O_ad0.2.2.2 ?_
  refine g_aloadN cx d8_22 rfl rfl ?_
  refine g_aastore cx d8_23 A_ad1 rfl rfl (sto_of A_ad1 OV_ad1 (Ins.of_exa O_ad2.1 (hw _ (List.mem_of_getElem? (i := 118) rfl)))) ⟨by decide, by decide⟩ (Nat.le_of_ble_eq_true rfl) g_ad1 (fun h1 W2 AA3 => ?_)
  have O_ad0 := O_ad0.oth W2 ne_ad0_ad1
  have O_ad2 := O_ad2.oth W2 (Ne.symm ne_ad1_ad2)
  have A_ad1 : Arx Z h1 ad1 cA_ad1 (.object "java/lang/Object") (17 : Int32) [(.ref ad2), .null, .null, .null, .null, .null, .null, .null, .null, .null, .null, .null, .null, .null, .null, .null, .null] .null "[Ljava/lang/Object;" := AA3
  have OL := OL.wr W2 g_ad1
  have KK := KK.wr W2 (Or.inl (List.mem_of_getElem? (i := 1) rfl))
  refine g_aloadN cx d8_24 rfl rfl ?_
  refine g_getF cx d8_25 (host := "") (Or.inl (hw _ (List.mem_of_getElem? (i := 48) rfl))) Via.refl O_ad0.2.2.1 ?_
  refine g_aloadN cx d8_28 rfl rfl ?_
  refine g_aloadN cx d8_29 rfl rfl ?_
  refine g_getF cx d8_30 (host := "") (Or.inl (hw _ (List.mem_of_getElem? (i := 50) rfl))) Via.refl O_ad0.2.2.2 ?_
  refine g_aloadN cx d8_33 rfl rfl ?_
  refine g_arraylength cx d8_34 A_ad1.1 ?_
  refine g_static cx (y := (⟨"java/util/ArrayDeque", "inc", "(II)I"⟩ : MethodName)) d8_35 (hw _ (List.mem_of_getElem? (i := 61) rfl)) (hw _ (List.mem_of_getElem? (i := 62) rfl)) (hw _ (List.mem_of_getElem? (i := 12) rfl)) (hw _ (List.mem_of_getElem? (i := 63) rfl)) (by decide) (bytes := jdk_21_method_6_code) (maxL' := 2) (M := (ra7 l Z a0 hw   _  OL)) rfl (lenOf pd_2 rfl) (by decide) (W := 2) (Nat.le_of_eq rfl) (by decide) (k' := 0) (n' := 0) rfl rfl (by decide) (by decide) (argsL := [(.int (0 : Int32)), (.int (17 : Int32))]) (rest := [(.ref ad0), (.int (0 : Int32))]) rfl (fun v6 h5 q7 => ?_)
  obtain ⟨rfl, rfl⟩ := q7
  refine G.cast (st' := [(.int (1 : Int32)), (.ref ad0), (.int (0 : Int32))]) ?_ rfl
  refine g_dup_x1 cx d8_38 rfl rfl ?_
  refine g_putF cx d8_39 (host := "") (Or.inl (hw _ (List.mem_of_getElem? (i := 50) rfl))) Via.refl O_ad0.2.2.2 O_ad0.1 (Or.inl (hw _ (List.mem_of_getElem? (i := 51) rfl))) (hw _ (List.mem_of_getElem? (i := 11) rfl)) (ty := .int) (by decide) rfl rfl g_ad0 (fun h8 W9 => ?_)
  have O_ad0 := O_ad0.put3 hw W9
  have O_ad2 := O_ad2.oth W9 (Ne.symm ne_ad0_ad2)
  have A_ad1 := A_ad1.other W9 (Ne.symm ne_ad0_ad1)
  have OL := OL.wr W9 g_ad0
  have KK := KK.wr W9 (Or.inl (List.mem_of_getElem? (i := 0) rfl))
  refine g_icmp_ne cx d8_42 (fun hc42 => ?_) (fun q => absurd q (fun q => by revert q; decide))
  refine g_retV cx d8_50 rfl (by decide) (by decide) ?_
  exact ⟨rfl, KK, O_ad0, A_ad1⟩
theorem d17_5 : Dc prog_54_method_9_code 5 (.invokevirtual 27) 3 8 := ⟨by decide +kernel, rfl⟩
theorem d17_8 : Dc prog_54_method_9_code 8 (.aload_n 0) 1 9 := ⟨by decide +kernel, rfl⟩
theorem d17_9 : Dc prog_54_method_9_code 9 (.dup) 1 10 := ⟨by decide +kernel, rfl⟩
theorem d17_10 : Dc prog_54_method_9_code 10 (.getfield 76) 3 13 := ⟨by decide +kernel, rfl⟩
theorem d17_13 : Dc prog_54_method_9_code 13 (.aload_n 1) 1 14 := ⟨by decide +kernel, rfl⟩
theorem d18_0 : Dc prog_55_method_6_code 0 (.aload_n 0) 1 1 := ⟨by decide +kernel, rfl⟩
theorem d18_1 : Dc prog_55_method_6_code 1 (.getfield 13) 3 4 := ⟨by decide +kernel, rfl⟩
theorem d18_4 : Dc prog_55_method_6_code 4 (.lreturn) 1 5 := ⟨by decide +kernel, rfl⟩
theorem pn_ra21 : plainName "com/example/thalweg/thalweg/node/Pace$Sample" = true := by first | (simp [plainName, overriddenIn]; done) | decide +kernel
set_option maxRecDepth 65536 in
set_option maxHeartbeats 40000000 in
theorem ra21 (l : Launch) (Z : State) (a0 : Array Value) (hw : ∀ d ∈ tables_1, d.before a0 Z = true)  (ad0 : Addr) (x0 : Int64) (x1 : Int64) (x2 : Int64) (x3 : Int64) (h0 : Heap) (O_ad0 : ObS Z h0 ad0 (.long x0) (.long x1) (.long x2) (.long x3)) (g_ad0 : Z.heap.size ≤ ad0) (OL : Old Z Z.heap.size h0) :
    Met l Z (⟨"com/example/thalweg/thalweg/node/Pace$Sample", "bytes", "()J"⟩ : MethodName) prog_55_method_6_code 1 (some .long) ({ frames := 0, cells := 0, slots := 0, locals := 0 } : Room) #[(.ref ad0)] h0 (fun v h' => (v = some (.long x1) ∧ h0 = h')) := by
  refine met_of (Ls := #[.val (.ref ad0)]) (plainFor_of_name pn_ra21) (fun m => by first | (simp [entryFrame, mkF, argsToLocals, Value.category]; done) | rfl) (fun p e s m below meth c cx => ?_)
  have KK := Keep.refl h0 []
  refine g_aloadN cx d18_0 rfl rfl ?_
  refine g_getF cx d18_1 (host := "") (Or.inl (hw _ (List.mem_of_getElem? (i := 108) rfl))) Via.refl O_ad0.2.2.1 ?_
  refine g_retJ cx d18_4 rfl (by decide) (by decide) ?_
  exact ⟨rfl, rfl⟩
theorem pd_9 : parseMethodDescriptor "()J" = some ⟨[], some .long⟩ := by decide +kernel
theorem d17_14 : Dc prog_54_method_9_code 14 (.invokevirtual 124) 3 17 := ⟨by decide +kernel, rfl⟩
theorem d17_17 : Dc prog_54_method_9_code 17 (.ladd) 1 18 := ⟨by decide +kernel, rfl⟩
theorem d17_18 : Dc prog_54_method_9_code 18 (.putfield 76) 3 21 := ⟨by decide +kernel, rfl⟩
theorem d17_21 : Dc prog_54_method_9_code 21 (.aload_n 0) 1 22 := ⟨by decide +kernel, rfl⟩
theorem d17_22 : Dc prog_54_method_9_code 22 (.dup) 1 23 := ⟨by decide +kernel, rfl⟩
theorem d17_23 : Dc prog_54_method_9_code 23 (.getfield 82) 3 26 := ⟨by decide +kernel, rfl⟩
theorem d17_26 : Dc prog_54_method_9_code 26 (.aload_n 1) 1 27 := ⟨by decide +kernel, rfl⟩
theorem d19_0 : Dc prog_55_method_7_code 0 (.aload_n 0) 1 1 := ⟨by decide +kernel, rfl⟩
theorem d19_1 : Dc prog_55_method_7_code 1 (.getfield 16) 3 4 := ⟨by decide +kernel, rfl⟩
theorem d19_4 : Dc prog_55_method_7_code 4 (.lreturn) 1 5 := ⟨by decide +kernel, rfl⟩
theorem pn_ra22 : plainName "com/example/thalweg/thalweg/node/Pace$Sample" = true := by first | (simp [plainName, overriddenIn]; done) | decide +kernel
set_option maxRecDepth 65536 in
set_option maxHeartbeats 40000000 in
theorem ra22 (l : Launch) (Z : State) (a0 : Array Value) (hw : ∀ d ∈ tables_1, d.before a0 Z = true)  (ad0 : Addr) (x0 : Int64) (x1 : Int64) (x2 : Int64) (x3 : Int64) (h0 : Heap) (O_ad0 : ObS Z h0 ad0 (.long x0) (.long x1) (.long x2) (.long x3)) (g_ad0 : Z.heap.size ≤ ad0) (OL : Old Z Z.heap.size h0) :
    Met l Z (⟨"com/example/thalweg/thalweg/node/Pace$Sample", "busyNs", "()J"⟩ : MethodName) prog_55_method_7_code 1 (some .long) ({ frames := 0, cells := 0, slots := 0, locals := 0 } : Room) #[(.ref ad0)] h0 (fun v h' => (v = some (.long x2) ∧ h0 = h')) := by
  refine met_of (Ls := #[.val (.ref ad0)]) (plainFor_of_name pn_ra22) (fun m => by first | (simp [entryFrame, mkF, argsToLocals, Value.category]; done) | rfl) (fun p e s m below meth c cx => ?_)
  have KK := Keep.refl h0 []
  refine g_aloadN cx d19_0 rfl rfl ?_
  refine g_getF cx d19_1 (host := "") (Or.inl (hw _ (List.mem_of_getElem? (i := 110) rfl))) Via.refl O_ad0.2.2.2.1 ?_
  refine g_retJ cx d19_4 rfl (by decide) (by decide) ?_
  exact ⟨rfl, rfl⟩
theorem d17_27 : Dc prog_54_method_9_code 27 (.invokevirtual 127) 3 30 := ⟨by decide +kernel, rfl⟩
theorem d17_30 : Dc prog_54_method_9_code 30 (.ladd) 1 31 := ⟨by decide +kernel, rfl⟩
theorem d17_31 : Dc prog_54_method_9_code 31 (.putfield 82) 3 34 := ⟨by decide +kernel, rfl⟩
theorem d17_34 : Dc prog_54_method_9_code 34 (.aload_n 0) 1 35 := ⟨by decide +kernel, rfl⟩
theorem d17_35 : Dc prog_54_method_9_code 35 (.getfield 16) 3 38 := ⟨by decide +kernel, rfl⟩
theorem d20_0 : Dc jdk_21_method_37_code 0 (.aload_n 0) 1 1 := ⟨by decide +kernel, rfl⟩
theorem d20_1 : Dc jdk_21_method_37_code 1 (.getfield 20) 3 4 := ⟨by decide +kernel, rfl⟩
theorem d20_4 : Dc jdk_21_method_37_code 4 (.aload_n 0) 1 5 := ⟨by decide +kernel, rfl⟩
theorem d20_5 : Dc jdk_21_method_37_code 5 (.getfield 24) 3 8 := ⟨by decide +kernel, rfl⟩
theorem d20_8 : Dc jdk_21_method_37_code 8 (.aload_n 0) 1 9 := ⟨by decide +kernel, rfl⟩
theorem d20_9 : Dc jdk_21_method_37_code 9 (.getfield 3) 3 12 := ⟨by decide +kernel, rfl⟩
theorem d20_12 : Dc jdk_21_method_37_code 12 (.arraylength) 1 13 := ⟨by decide +kernel, rfl⟩
theorem d21_0 : Dc jdk_21_method_9_code 0 (.iload_n 0) 1 1 := ⟨by decide +kernel, rfl⟩
theorem d21_1 : Dc jdk_21_method_9_code 1 (.iload_n 1) 1 2 := ⟨by decide +kernel, rfl⟩
theorem d21_2 : Dc jdk_21_method_9_code 2 (.isub) 1 3 := ⟨by decide +kernel, rfl⟩
theorem d21_3 : Dc jdk_21_method_9_code 3 (.dup) 1 4 := ⟨by decide +kernel, rfl⟩
theorem d21_4 : Dc jdk_21_method_9_code 4 (.istore_n 0) 1 5 := ⟨by decide +kernel, rfl⟩
theorem d21_5 : Bi jdk_21_method_9_code 5 (Instr.ifCond .ge) 12 8 := ⟨7, by decide +kernel, by decide, by decide, rfl⟩
theorem d21_12 : Dc jdk_21_method_9_code 12 (.iload_n 0) 1 13 := ⟨by decide +kernel, rfl⟩
theorem d21_13 : Dc jdk_21_method_9_code 13 (.ireturn) 1 14 := ⟨by decide +kernel, rfl⟩
theorem pn_ra24 : plainName "java/util/ArrayDeque" = true := by first | (simp [plainName, overriddenIn]; done) | decide +kernel
set_option maxRecDepth 65536 in
set_option maxHeartbeats 40000000 in
theorem ra24 (l : Launch) (Z : State) (a0 : Array Value) (hw : ∀ d ∈ tables_1, d.before a0 Z = true)  (h0 : Heap) (OL : Old Z Z.heap.size h0) :
    Met l Z (⟨"java/util/ArrayDeque", "sub", "(III)I"⟩ : MethodName) jdk_21_method_9_code 3 (some .int) ({ frames := 0, cells := 0, slots := 0, locals := 0 } : Room) #[(.int (1 : Int32)), (.int (0 : Int32)), (.int (17 : Int32))] h0 (fun v h' => (v = some (.int (1 : Int32)) ∧ h0 = h')) := by
  refine met_of (Ls := #[.val (.int (1 : Int32)), .val (.int (0 : Int32)), .val (.int (17 : Int32))]) (plainFor_of_name pn_ra24) (fun m => by first | (simp [entryFrame, mkF, argsToLocals, Value.category]; done) | rfl) (fun p e s m below meth c cx => ?_)
  have KK := Keep.refl h0 []
  refine g_iloadN cx d21_0 rfl ?_
  refine g_iloadN cx d21_1 rfl ?_
  refine g_isub cx d21_2 ?_
  refine G.cast (st' := [(.int (1 : Int32))]) ?_ rfl
  refine g_dup cx d21_3 rfl ?_
  refine g_istoreN cx d21_4 (Ls' := #[.val (.int (1 : Int32)), .val (.int (0 : Int32)), .val (.int (17 : Int32))]) rfl ?_
  refine g_if_ge cx d21_5 (fun hc5 => ?_) (fun q => absurd q (fun q => by revert q; decide))
  refine g_iloadN cx d21_12 rfl ?_
  refine g_retI cx d21_13 rfl (by decide) (by decide) ?_
  exact ⟨rfl, rfl⟩
theorem pd_10 : parseMethodDescriptor "(III)I" = some ⟨[.int, .int, .int], some .int⟩ := by decide +kernel
theorem d20_13 : Dc jdk_21_method_37_code 13 (.invokestatic 127) 3 16 := ⟨by decide +kernel, rfl⟩
theorem d20_16 : Dc jdk_21_method_37_code 16 (.ireturn) 1 17 := ⟨by decide +kernel, rfl⟩
theorem pn_ra23 : plainName "java/util/ArrayDeque" = true := by first | (simp [plainName, overriddenIn]; done) | decide +kernel
set_option maxRecDepth 65536 in
set_option maxHeartbeats 40000000 in
theorem ra23 (l : Launch) (Z : State) (a0 : Array Value) (hw : ∀ d ∈ tables_1, d.before a0 Z = true)  (ad0 ad1 ad2 : Addr) (x0 : Int64) (x1 : Int64) (x2 : Int64) (x3 : Int64) (cA_ad1 : ClassId) (h0 : Heap) (O_ad0 : ObD Z h0 ad0 (.ref ad1) (.int (0 : Int32)) (.int (1 : Int32))) (O_ad2 : ObS Z h0 ad2 (.long x0) (.long x1) (.long x2) (.long x3)) (A_ad1 : Arx Z h0 ad1 cA_ad1 (.object "java/lang/Object") (17 : Int32) [(.ref ad2), .null, .null, .null, .null, .null, .null, .null, .null, .null, .null, .null, .null, .null, .null, .null, .null] .null "[Ljava/lang/Object;") (OV_ad1 : Ovr Z cA_ad1 "java/lang/Object") (ne_ad0_ad1 : ad0 ≠ ad1) (ne_ad0_ad2 : ad0 ≠ ad2) (ne_ad1_ad2 : ad1 ≠ ad2) (g_ad0 : Z.heap.size ≤ ad0) (g_ad1 : Z.heap.size ≤ ad1) (g_ad2 : Z.heap.size ≤ ad2) (OL : Old Z Z.heap.size h0) :
    Met l Z (⟨"java/util/ArrayDeque", "size", "()I"⟩ : MethodName) jdk_21_method_37_code 1 (some .int) ({ frames := 1, cells := 0, slots := 0, locals := 14 } : Room) #[(.ref ad0)] h0 (fun v h' => (v = some (.int (1 : Int32)) ∧ h0 = h')) := by
  refine met_of (Ls := #[.val (.ref ad0)]) (plainFor_of_name pn_ra23) (fun m => by first | (simp [entryFrame, mkF, argsToLocals, Value.category]; done) | rfl) (fun p e s m below meth c cx => ?_)
  have KK := Keep.refl h0 []
  refine g_aloadN cx d20_0 rfl rfl ?_
  refine g_getF cx d20_1 (host := "") (Or.inl (hw _ (List.mem_of_getElem? (i := 50) rfl))) Via.refl O_ad0.2.2.2 ?_
  refine g_aloadN cx d20_4 rfl rfl ?_
  refine g_getF cx d20_5 (host := "") (Or.inl (hw _ (List.mem_of_getElem? (i := 48) rfl))) Via.refl O_ad0.2.2.1 ?_
  refine g_aloadN cx d20_8 rfl rfl ?_
  refine g_getF cx d20_9 (host := "") (Or.inl (hw _ (List.mem_of_getElem? (i := 25) rfl))) Via.refl O_ad0.2.1 ?_
  refine g_arraylength cx d20_12 A_ad1.1 ?_
  refine g_static cx (y := (⟨"java/util/ArrayDeque", "sub", "(III)I"⟩ : MethodName)) d20_13 (hw _ (List.mem_of_getElem? (i := 136) rfl)) (hw _ (List.mem_of_getElem? (i := 137) rfl)) (hw _ (List.mem_of_getElem? (i := 12) rfl)) (hw _ (List.mem_of_getElem? (i := 138) rfl)) (by decide) (bytes := jdk_21_method_9_code) (maxL' := 3) (M := (ra24 l Z a0 hw   _  OL)) rfl (lenOf pd_10 rfl) (by decide) (W := 0) (Nat.le_of_eq rfl) (by decide) (k' := 0) (n' := 0) rfl rfl (by decide) (by decide) (argsL := [(.int (1 : Int32)), (.int (0 : Int32)), (.int (17 : Int32))]) (rest := []) rfl (fun v3 h2 q4 => ?_)
  obtain ⟨rfl, rfl⟩ := q4
  refine G.cast (st' := [(.int (1 : Int32))]) ?_ rfl
  refine g_retI cx d20_16 rfl (by decide) (by decide) ?_
  exact ⟨rfl, rfl⟩
theorem pd_11 : parseMethodDescriptor "()I" = some ⟨[], some .int⟩ := by decide +kernel
theorem d17_38 : Dc prog_54_method_9_code 38 (.invokevirtual 72) 3 41 := ⟨by decide +kernel, rfl⟩
theorem d17_41 : Dc prog_54_method_9_code 41 (.iconst 1) 1 42 := ⟨by decide +kernel, rfl⟩
theorem d17_42 : Bi prog_54_method_9_code 42 (Instr.if_icmp .le) 110 45 := ⟨68, by decide +kernel, by decide, by decide, rfl⟩
theorem d17_110 : Dc prog_54_method_9_code 110 (.return_) 1 111 := ⟨by decide +kernel, rfl⟩
theorem pn_ra19 : plainName "com/example/thalweg/thalweg/node/Pace" = true := by first | (simp [plainName, overriddenIn]; done) | decide +kernel
set_option maxRecDepth 65536 in
set_option maxHeartbeats 40000000 in
theorem ra19 (l : Launch) (Z : State) (a0 : Array Value) (hw : ∀ d ∈ tables_1, d.before a0 Z = true)  (ad0 ad1 ad2 ad3 ad4 ad5 ad6 : Addr) (x0 : Int64) (x1 : Int64) (x2 : Int64) (x3 : Int64) (x4 : Int64) (x5 : Int64) (x6 : Int64) (cA_ad2 : ClassId) (cA_ad3 : ClassId) (cA_ad5 : ClassId) (h0 : Heap) (O_ad0 : ObP Z h0 ad0 (.ref ad1) (.ref ad4) (.long (0 : Int64)) (.long x1) (.long x2) (.long (2 : Int64)) (.long (1 : Int64)) (.long (0 : Int64))) (O_ad1 : ObD Z h0 ad1 (.ref ad2) (.int (1 : Int32)) (.int (2 : Int32))) (O_ad4 : ObD Z h0 ad4 (.ref ad5) (.int (0 : Int32)) (.int (0 : Int32))) (O_ad6 : ObS Z h0 ad6 (.long x3) (.long x4) (.long x5) (.long x6)) (A_ad2 : Arx Z h0 ad2 cA_ad2 (.object "java/lang/Object") (17 : Int32) [.null, (.ref ad3), .null, .null, .null, .null, .null, .null, .null, .null, .null, .null, .null, .null, .null, .null, .null] .null "[Ljava/lang/Object;") (A_ad3 : Arx Z h0 ad3 cA_ad3 .long (2 : Int32) [(.long x0), (.long x1)] (.long (0 : Int64)) "[J") (A_ad5 : Arx Z h0 ad5 cA_ad5 (.object "java/lang/Object") (17 : Int32) [.null, .null, .null, .null, .null, .null, .null, .null, .null, .null, .null, .null, .null, .null, .null, .null, .null] .null "[Ljava/lang/Object;") (OV_ad2 : Ovr Z cA_ad2 "java/lang/Object") (OV_ad5 : Ovr Z cA_ad5 "java/lang/Object") (ne_ad0_ad1 : ad0 ≠ ad1) (ne_ad0_ad2 : ad0 ≠ ad2) (ne_ad1_ad2 : ad1 ≠ ad2) (ne_ad0_ad3 : ad0 ≠ ad3) (ne_ad1_ad3 : ad1 ≠ ad3) (ne_ad2_ad3 : ad2 ≠ ad3) (ne_ad0_ad4 : ad0 ≠ ad4) (ne_ad1_ad4 : ad1 ≠ ad4) (ne_ad2_ad4 : ad2 ≠ ad4) (ne_ad3_ad4 : ad3 ≠ ad4) (ne_ad0_ad5 : ad0 ≠ ad5) (ne_ad1_ad5 : ad1 ≠ ad5) (ne_ad2_ad5 : ad2 ≠ ad5) (ne_ad3_ad5 : ad3 ≠ ad5) (ne_ad4_ad5 : ad4 ≠ ad5) (ne_ad0_ad6 : ad0 ≠ ad6) (ne_ad1_ad6 : ad1 ≠ ad6) (ne_ad2_ad6 : ad2 ≠ ad6) (ne_ad3_ad6 : ad3 ≠ ad6) (ne_ad4_ad6 : ad4 ≠ ad6) (ne_ad5_ad6 : ad5 ≠ ad6) (g_ad0 : Z.heap.size ≤ ad0) (g_ad1 : Z.heap.size ≤ ad1) (g_ad2 : Z.heap.size ≤ ad2) (g_ad3 : Z.heap.size ≤ ad3) (g_ad4 : Z.heap.size ≤ ad4) (g_ad5 : Z.heap.size ≤ ad5) (g_ad6 : Z.heap.size ≤ ad6) (OL : Old Z Z.heap.size h0) :
    Met l Z (⟨"com/example/thalweg/thalweg/node/Pace", "addSample", "(Lcom/example/thalweg/thalweg/node/Pace$Sample;)V"⟩ : MethodName) prog_54_method_9_code 3 none ({ frames := 2, cells := 0, slots := 0, locals := 29 } : Room) #[(.ref ad0), (.ref ad6)] h0 (fun v h' => (v = none ∧ Keep h0 h' [ad0, ad4, ad5] ∧ ObP Z h' ad0 (.ref ad1) (.ref ad4) (.long x4) (.long x1) (.long x2) (.long (2 : Int64)) (.long (1 : Int64)) (.long x5) ∧ ObD Z h' ad4 (.ref ad5) (.int (0 : Int32)) (.int (1 : Int32)) ∧ Arx Z h' ad5 cA_ad5 (.object "java/lang/Object") (17 : Int32) [(.ref ad6), .null, .null, .null, .null, .null, .null, .null, .null, .null, .null, .null, .null, .null, .null, .null, .null] .null "[Ljava/lang/Object;")) := by
  refine met_of (Ls := #[.val (.ref ad0), .val (.ref ad6), .unset]) (plainFor_of_name pn_ra19) (fun m => by first | (simp [entryFrame, mkF, argsToLocals, Value.category]; done) | rfl) (fun p e s m below meth c cx => ?_)
  have KK := Keep.refl h0 [ad0, ad4, ad5]
  refine g_aloadN cx d17_0 rfl rfl ?_
  refine g_getF cx d17_1 (host := "") (Or.inl (hw _ (List.mem_of_getElem? (i := 29) rfl))) Via.refl O_ad0.2.2.1 ?_
  refine g_aloadN cx d17_4 rfl rfl ?_
  refine g_virtual cx (y := (⟨"java/util/ArrayDeque", "addLast", "(Ljava/lang/Object;)V"⟩ : MethodName)) (z := (⟨"java/util/ArrayDeque", "addLast", "(Ljava/lang/Object;)V"⟩ : MethodName)) (a := ad4) d17_5 (hw _ (List.mem_of_getElem? (i := 55) rfl)) (hw _ (List.mem_of_getElem? (i := 56) rfl)) (hw _ (List.mem_of_getElem? (i := 12) rfl)) (hw _ (List.mem_of_getElem? (i := 59) rfl)) (hw _ (List.mem_of_getElem? (i := 58) rfl)) (hw _ (List.mem_of_getElem? (i := 57) rfl)) rfl (by decide) O_ad4.1 (bytes := jdk_21_method_13_code) (maxL' := 3) (M := (ra20 l Z a0 hw  ad4 ad5 ad6 x3 x4 x5 x6 cA_ad5 _ O_ad4 O_ad6 A_ad5 OV_ad5 ne_ad4_ad5 ne_ad4_ad6 ne_ad5_ad6 g_ad4 g_ad5 g_ad6 OL)) rfl (lenOf pd_3 rfl) (by decide) (W := 0) (Nat.le_of_eq rfl) (by decide) (k' := 0) (n' := 0) rfl rfl (by decide) (by decide) (argsL := [(.ref ad6)]) (rest := []) rfl (fun v3 h2 q4 => ?_)
  obtain ⟨rfl, K1, O_ad4, A_ad5⟩ := q4
  have O_ad0 := O_ad0.keep K1 (ninS ne_ad0_ad4 (ninS ne_ad0_ad5 nin0))
  have O_ad1 := O_ad1.keep K1 (ninS ne_ad1_ad4 (ninS ne_ad1_ad5 nin0))
  have O_ad6 := O_ad6.keep K1 (ninS (Ne.symm ne_ad4_ad6) (ninS (Ne.symm ne_ad5_ad6) nin0))
  have A_ad2 := A_ad2.keep K1 (ninS ne_ad2_ad4 (ninS ne_ad2_ad5 nin0))
  have A_ad3 := A_ad3.keep K1 (ninS ne_ad3_ad4 (ninS ne_ad3_ad5 nin0))
  have OL := OL.keep K1 (allS g_ad4 (allS g_ad5 all0))
  have KK := KK.trans K1 (allS (P := fun z => z ∈ _ ∨ _ ≤ z) (Or.inl (List.mem_of_getElem? (i := 1) rfl)) (allS (P := fun z => z ∈ _ ∨ _ ≤ z) (Or.inl (List.mem_of_getElem? (i := 2) rfl)) all0))
  refine G.cast (st' := []) ?_ rfl
  refine g_aloadN cx d17_8 rfl rfl ?_
  refine g_dup cx d17_9 rfl ?_
  refine g_getF cx d17_10 (host := "") (Or.inl (hw _ (List.mem_of_getElem? (i := 36) rfl))) Via.refl O_ad0.2.2.2.1 ?_
  refine g_aloadN cx d17_13 rfl rfl ?_
  refine g_virtual cx (y := (⟨"com/example/thalweg/thalweg/node/Pace$Sample", "bytes", "()J"⟩ : MethodName)) (z := (⟨"com/example/thalweg/thalweg/node/Pace$Sample", "bytes", "()J"⟩ : MethodName)) (a := ad6) d17_14 (hw _ (List.mem_of_getElem? (i := 119) rfl)) (hw _ (List.mem_of_getElem? (i := 120) rfl)) (hw _ (List.mem_of_getElem? (i := 92) rfl)) (hw _ (List.mem_of_getElem? (i := 123) rfl)) (hw _ (List.mem_of_getElem? (i := 122) rfl)) (hw _ (List.mem_of_getElem? (i := 121) rfl)) rfl (by decide) O_ad6.1 (bytes := prog_55_method_6_code) (maxL' := 1) (M := (ra21 l Z a0 hw  ad6 x3 x4 x5 x6 _ O_ad6 g_ad6 OL)) rfl (lenOf pd_9 rfl) (by decide) (W := 3) (Nat.le_of_eq rfl) (by decide) (k' := 0) (n' := 0) rfl rfl (by decide) (by decide) (argsL := []) (rest := [(.long (0 : Int64)), (.ref ad0)]) rfl (fun v7 h6 q8 => ?_)
  obtain ⟨rfl, rfl⟩ := q8
  refine G.cast (st' := [(.long x4), (.long (0 : Int64)), (.ref ad0)]) ?_ rfl
  refine g_ladd cx d17_17 ?_
  rw [Int64.zero_add]
  refine g_putF cx d17_18 (host := "") (Or.inl (hw _ (List.mem_of_getElem? (i := 36) rfl))) Via.refl O_ad0.2.2.2.1 O_ad0.1 (Or.inl (hw _ (List.mem_of_getElem? (i := 37) rfl))) (hw _ (List.mem_of_getElem? (i := 2) rfl)) (ty := .long) (by decide) rfl rfl g_ad0 (fun h9 W10 => ?_)
  have O_ad0 := O_ad0.put3 hw W10
  have O_ad1 := O_ad1.oth W10 (Ne.symm ne_ad0_ad1)
  have O_ad4 := O_ad4.oth W10 (Ne.symm ne_ad0_ad4)
  have O_ad6 := O_ad6.oth W10 (Ne.symm ne_ad0_ad6)
  have A_ad2 := A_ad2.other W10 (Ne.symm ne_ad0_ad2)
  have A_ad3 := A_ad3.other W10 (Ne.symm ne_ad0_ad3)
  have A_ad5 := A_ad5.other W10 (Ne.symm ne_ad0_ad5)
  have OL := OL.wr W10 g_ad0
  have KK := KK.wr W10 (Or.inl (List.mem_of_getElem? (i := 0) rfl))
  refine g_aloadN cx d17_21 rfl rfl ?_
  refine g_dup cx d17_22 rfl ?_
  refine g_getF cx d17_23 (host := "") (Or.inl (hw _ (List.mem_of_getElem? (i := 124) rfl))) Via.refl O_ad0.2.2.2.2.2.2.2.2 ?_
  refine g_aloadN cx d17_26 rfl rfl ?_
  refine g_virtual cx (y := (⟨"com/example/thalweg/thalweg/node/Pace$Sample", "busyNs", "()J"⟩ : MethodName)) (z := (⟨"com/example/thalweg/thalweg/node/Pace$Sample", "busyNs", "()J"⟩ : MethodName)) (a := ad6) d17_27 (hw _ (List.mem_of_getElem? (i := 126) rfl)) (hw _ (List.mem_of_getElem? (i := 127) rfl)) (hw _ (List.mem_of_getElem? (i := 92) rfl)) (hw _ (List.mem_of_getElem? (i := 130) rfl)) (hw _ (List.mem_of_getElem? (i := 129) rfl)) (hw _ (List.mem_of_getElem? (i := 128) rfl)) rfl (by decide) O_ad6.1 (bytes := prog_55_method_7_code) (maxL' := 1) (M := (ra22 l Z a0 hw  ad6 x3 x4 x5 x6 _ O_ad6 g_ad6 OL)) rfl (lenOf pd_9 rfl) (by decide) (W := 3) (Nat.le_of_eq rfl) (by decide) (k' := 0) (n' := 0) rfl rfl (by decide) (by decide) (argsL := []) (rest := [(.long (0 : Int64)), (.ref ad0)]) rfl (fun v13 h12 q14 => ?_)
  obtain ⟨rfl, rfl⟩ := q14
  refine G.cast (st' := [(.long x5), (.long (0 : Int64)), (.ref ad0)]) ?_ rfl
  refine g_ladd cx d17_30 ?_
  rw [Int64.zero_add]
  refine g_putF cx d17_31 (host := "") (Or.inl (hw _ (List.mem_of_getElem? (i := 124) rfl))) Via.refl O_ad0.2.2.2.2.2.2.2.2 O_ad0.1 (Or.inl (hw _ (List.mem_of_getElem? (i := 125) rfl))) (hw _ (List.mem_of_getElem? (i := 2) rfl)) (ty := .long) (by decide) rfl rfl g_ad0 (fun h15 W16 => ?_)
  have O_ad0 := O_ad0.put8 hw W16
  have O_ad1 := O_ad1.oth W16 (Ne.symm ne_ad0_ad1)
  have O_ad4 := O_ad4.oth W16 (Ne.symm ne_ad0_ad4)
  have O_ad6 := O_ad6.oth W16 (Ne.symm ne_ad0_ad6)
  have A_ad2 := A_ad2.other W16 (Ne.symm ne_ad0_ad2)
  have A_ad3 := A_ad3.other W16 (Ne.symm ne_ad0_ad3)
  have A_ad5 := A_ad5.other W16 (Ne.symm ne_ad0_ad5)
  have OL := OL.wr W16 g_ad0
  have KK := KK.wr W16 (Or.inl (List.mem_of_getElem? (i := 0) rfl))
  refine g_aloadN cx d17_34 rfl rfl ?_
  refine g_getF cx d17_35 (host := "") (Or.inl (hw _ (List.mem_of_getElem? (i := 29) rfl))) Via.refl O_ad0.2.2.1 ?_
  refine g_virtual cx (y := (⟨"java/util/ArrayDeque", "size", "()I"⟩ : MethodName)) (z := (⟨"java/util/ArrayDeque", "size", "()I"⟩ : MethodName)) (a := ad4) d17_38 (hw _ (List.mem_of_getElem? (i := 131) rfl)) (hw _ (List.mem_of_getElem? (i := 132) rfl)) (hw _ (List.mem_of_getElem? (i := 12) rfl)) (hw _ (List.mem_of_getElem? (i := 135) rfl)) (hw _ (List.mem_of_getElem? (i := 134) rfl)) (hw _ (List.mem_of_getElem? (i := 133) rfl)) rfl (by decide) O_ad4.1 (bytes := jdk_21_method_37_code) (maxL' := 1) (M := (ra23 l Z a0 hw  ad4 ad5 ad6 x3 x4 x5 x6 cA_ad5 _ O_ad4 O_ad6 A_ad5 OV_ad5 ne_ad4_ad5 ne_ad4_ad6 ne_ad5_ad6 g_ad4 g_ad5 g_ad6 OL)) rfl (lenOf pd_11 rfl) (by decide) (W := 0) (Nat.le_of_eq rfl) (by decide) (k' := 0) (n' := 0) rfl rfl (by decide) (by decide) (argsL := []) (rest := []) rfl (fun v19 h18 q20 => ?_)
  obtain ⟨rfl, rfl⟩ := q20
  refine G.cast (st' := [(.int (1 : Int32))]) ?_ rfl
  refine g_iconst cx d17_41 (v := (1 : Int32)) rfl ?_
  refine g_icmp_le cx d17_42 (fun hc42 => ?_) (fun q => absurd q (fun q => by revert q; decide))
  refine g_retV cx d17_110 rfl (by decide) (by decide) ?_
  exact ⟨rfl, KK, O_ad0, O_ad4, A_ad5⟩
theorem pd_12 : parseMethodDescriptor "(Lcom/example/thalweg/thalweg/node/Pace$Sample;)V" = some ⟨[(.object "com/example/thalweg/thalweg/node/Pace$Sample")], none⟩ := by decide +kernel
theorem d10_141 : Dc prog_54_method_3_code 141 (.invokevirtual 66) 3 144 := ⟨by decide +kernel, rfl⟩
theorem d10_144 : Dc prog_54_method_3_code 144 (.aload_n 0) 1 145 := ⟨by decide +kernel, rfl⟩
theorem d10_145 : Dc prog_54_method_3_code 145 (.lload_n 3) 1 146 := ⟨by decide +kernel, rfl⟩
theorem d10_146 : Dc prog_54_method_3_code 146 (.putfield 23) 3 149 := ⟨by decide +kernel, rfl⟩
theorem d10_149 : Dc prog_54_method_3_code 149 (.return_) 1 150 := ⟨by decide +kernel, rfl⟩
theorem pn_ra14 : plainName "com/example/thalweg/thalweg/node/Pace" = true := by first | (simp [plainName, overriddenIn]; done) | decide +kernel
set_option maxRecDepth 65536 in
set_option maxHeartbeats 40000000 in
theorem ra14 (l : Launch) (Z : State) (a0 : Array Value) (hw : ∀ d ∈ tables_1, d.before a0 Z = true)  (ad0 ad1 ad2 ad3 ad4 ad5 ad6 : Addr) (x0 : Int64) (x1 : Int64) (x2 : Int64) (x3 : Int64) (x4 : Int64) (cA_ad2 : ClassId) (cA_ad3 : ClassId) (cA_ad4 : ClassId) (cA_ad6 : ClassId) (h0 : Heap) (O_ad0 : ObP Z h0 ad0 (.ref ad1) (.ref ad5) (.long (0 : Int64)) (.long x1) (.long x3) (.long (2 : Int64)) (.long (0 : Int64)) (.long (0 : Int64))) (O_ad1 : ObD Z h0 ad1 (.ref ad2) (.int (0 : Int32)) (.int (2 : Int32))) (O_ad5 : ObD Z h0 ad5 (.ref ad6) (.int (0 : Int32)) (.int (0 : Int32))) (A_ad2 : Arx Z h0 ad2 cA_ad2 (.object "java/lang/Object") (17 : Int32) [(.ref ad3), (.ref ad4), .null, .null, .null, .null, .null, .null, .null, .null, .null, .null, .null, .null, .null, .null, .null] .null "[Ljava/lang/Object;") (A_ad3 : Arx Z h0 ad3 cA_ad3 .long (2 : Int32) [(.long x0), (.long x1)] (.long (0 : Int64)) "[J") (A_ad4 : Arx Z h0 ad4 cA_ad4 .long (2 : Int32) [(.long x2), (.long x1)] (.long (0 : Int64)) "[J") (A_ad6 : Arx Z h0 ad6 cA_ad6 (.object "java/lang/Object") (17 : Int32) [.null, .null, .null, .null, .null, .null, .null, .null, .null, .null, .null, .null, .null, .null, .null, .null, .null] .null "[Ljava/lang/Object;") (OV_ad2 : Ovr Z cA_ad2 "java/lang/Object") (OV_ad6 : Ovr Z cA_ad6 "java/lang/Object") (ne_ad0_ad1 : ad0 ≠ ad1) (ne_ad0_ad2 : ad0 ≠ ad2) (ne_ad1_ad2 : ad1 ≠ ad2) (ne_ad0_ad3 : ad0 ≠ ad3) (ne_ad1_ad3 : ad1 ≠ ad3) (ne_ad2_ad3 : ad2 ≠ ad3) (ne_ad0_ad4 : ad0 ≠ ad4) (ne_ad1_ad4 : ad1 ≠ ad4) (ne_ad2_ad4 : ad2 ≠ ad4) (ne_ad3_ad4 : ad3 ≠ ad4) (ne_ad0_ad5 : ad0 ≠ ad5) (ne_ad1_ad5 : ad1 ≠ ad5) (ne_ad2_ad5 : ad2 ≠ ad5) (ne_ad3_ad5 : ad3 ≠ ad5) (ne_ad4_ad5 : ad4 ≠ ad5) (ne_ad0_ad6 : ad0 ≠ ad6) (ne_ad1_ad6 : ad1 ≠ ad6) (ne_ad2_ad6 : ad2 ≠ ad6) (ne_ad3_ad6 : ad3 ≠ ad6) (ne_ad4_ad6 : ad4 ≠ ad6) (ne_ad5_ad6 : ad5 ≠ ad6) (g_ad0 : Z.heap.size ≤ ad0) (g_ad1 : Z.heap.size ≤ ad1) (g_ad2 : Z.heap.size ≤ ad2) (g_ad3 : Z.heap.size ≤ ad3) (g_ad4 : Z.heap.size ≤ ad4) (g_ad5 : Z.heap.size ≤ ad5) (g_ad6 : Z.heap.size ≤ ad6) (OL : Old Z Z.heap.size h0) :
    Met l Z (⟨"com/example/thalweg/thalweg/node/Pace", "taken", "(JJ)V"⟩ : MethodName) prog_54_method_3_code 10 none ({ frames := 3, cells := 1, slots := 4, locals := 46 } : Room) #[(.ref ad0), (.long (1 : Int64)), (.long x4)] h0 (fun v h' => (∃ (b10 : Addr) , v = none ∧ Keep h0 h' [ad0, ad1, ad2, ad5, ad6] ∧ h0.size ≤ b10 ∧ ObS Z h' b10 (.long x4) (.long x0) (.long (own_max (1 : Int64) (x4 - x1))) (.long (x4 - x1)) ∧ ObP Z h' ad0 (.ref ad1) (.ref ad5) (.long x0) (.long x4) (.long (x3 - x0)) (.long (2 : Int64)) (.long (1 : Int64)) (.long (own_max (1 : Int64) (x4 - x1))) ∧ ObD Z h' ad1 (.ref ad2) (.int (1 : Int32)) (.int (2 : Int32)) ∧ Arx Z h' ad2 cA_ad2 (.object "java/lang/Object") (17 : Int32) [.null, (.ref ad4), .null, .null, .null, .null, .null, .null, .null, .null, .null, .null, .null, .null, .null, .null, .null] .null "[Ljava/lang/Object;" ∧ ObD Z h' ad5 (.ref ad6) (.int (0 : Int32)) (.int (1 : Int32)) ∧ Arx Z h' ad6 cA_ad6 (.object "java/lang/Object") (17 : Int32) [(.ref b10), .null, .null, .null, .null, .null, .null, .null, .null, .null, .null, .null, .null, .null, .null, .null, .null] .null "[Ljava/lang/Object;")) := by
  refine met_of (Ls := #[.val (.ref ad0), .val (.long (1 : Int64)), .second, .val (.long x4), .second, .unset, .unset, .unset, .unset, .unset]) (plainFor_of_name pn_ra14) (fun m => by first | (simp [entryFrame, mkF, argsToLocals, Value.category]; done) | rfl) (fun p e s m below meth c cx => ?_)
  have KK := Keep.refl h0 [ad0, ad1, ad2, ad5, ad6]
  refine g_lloadN cx d10_0 rfl ?_
  refine g_aloadN cx d10_1 rfl rfl ?_
  refine g_getF cx d10_2 (host := "") (Or.inl (hw _ (List.mem_of_getElem? (i := 73) rfl))) Via.refl O_ad0.2.2.2.2.2.2.2.1 ?_
  refine g_lif_lt cx d10_5 d10_6 (fun q => absurd q (fun q => by revert q; decide)) (fun hc6 => ?_)
  refine g_lloadN cx d10_9 rfl ?_
  refine g_aloadN cx d10_10 rfl rfl ?_
  refine g_getF cx d10_11 (host := "") (Or.inl (hw _ (List.mem_of_getElem? (i := 66) rfl))) Via.refl O_ad0.2.2.2.2.2.2.1 ?_
  refine g_lif_le cx d10_14 d10_15 (fun hc15 => ?_) (fun q => absurd q (fun q => by revert q; decide))
  refine g_lloadN cx d10_40 rfl ?_
  refine g_aloadN cx d10_41 rfl rfl ?_
  refine g_getF cx d10_42 (host := "") (Or.inl (hw _ (List.mem_of_getElem? (i := 73) rfl))) Via.refl O_ad0.2.2.2.2.2.2.2.1 ?_
  refine g_lif_ne cx d10_45 d10_46 (fun hc46 => ?_) (fun q => absurd q (fun q => by revert q; decide))
  refine g_lconst cx d10_50 (v := (0 : Int64)) rfl ?_
  refine g_lstore cx d10_51 (Ls' := #[.val (.ref ad0), .val (.long (1 : Int64)), .second, .val (.long x4), .second, .val (.long (0 : Int64)), .second, .unset, .unset, .unset]) rfl ?_
  refine g_lconst cx d10_53 (v := (0 : Int64)) rfl ?_
  refine g_lstore cx d10_54 (Ls' := #[.val (.ref ad0), .val (.long (1 : Int64)), .second, .val (.long x4), .second, .val (.long (0 : Int64)), .second, .val (.long (0 : Int64)), .second, .unset]) rfl ?_
  refine g_aloadN cx d10_56 rfl rfl ?_
  refine g_getF cx d10_57 (host := "") (Or.inl (hw _ (List.mem_of_getElem? (i := 73) rfl))) Via.refl O_ad0.2.2.2.2.2.2.2.1 ?_
  refine g_lloadN cx d10_60 rfl ?_
  refine g_lif_ge cx d10_61 d10_62 (fun q => absurd q (fun q => by revert q; decide)) (fun hc62 => ?_)
  refine g_aloadN cx d10_65 rfl rfl ?_
  refine g_getF cx d10_66 (host := "") (Or.inl (hw _ (List.mem_of_getElem? (i := 27) rfl))) Via.refl O_ad0.2.1 ?_
  refine g_virtual cx (y := (⟨"java/util/ArrayDeque", "removeFirst", "()Ljava/lang/Object;"⟩ : MethodName)) (z := (⟨"java/util/ArrayDeque", "removeFirst", "()Ljava/lang/Object;"⟩ : MethodName)) (a := ad1) d10_69 (hw _ (List.mem_of_getElem? (i := 75) rfl)) (hw _ (List.mem_of_getElem? (i := 76) rfl)) (hw _ (List.mem_of_getElem? (i := 12) rfl)) (hw _ (List.mem_of_getElem? (i := 79) rfl)) (hw _ (List.mem_of_getElem? (i := 78) rfl)) (hw _ (List.mem_of_getElem? (i := 77) rfl)) rfl (by decide) O_ad1.1 (bytes := jdk_21_method_18_code) (maxL' := 2) (M := (ra15 l Z a0 hw  ad1 ad2 ad3 ad4 x0 x1 x2 cA_ad2 cA_ad3 cA_ad4 _ O_ad1 A_ad2 A_ad3 A_ad4 OV_ad2 ne_ad1_ad2 ne_ad1_ad3 ne_ad2_ad3 ne_ad1_ad4 ne_ad2_ad4 ne_ad3_ad4 g_ad1 g_ad2 g_ad3 g_ad4 OL)) rfl (lenOf pd_6 rfl) (by decide) (W := 0) (Nat.le_of_eq rfl) (by decide) (k' := 0) (n' := 0) rfl rfl (by decide) (by decide) (argsL := []) (rest := []) rfl (fun v3 h2 q4 => ?_)
  obtain ⟨rfl, K1, O_ad1, A_ad2⟩ := q4
  have O_ad0 := O_ad0.keep K1 (ninS ne_ad0_ad1 (ninS ne_ad0_ad2 nin0))
  have O_ad5 := O_ad5.keep K1 (ninS (Ne.symm ne_ad1_ad5) (ninS (Ne.symm ne_ad2_ad5) nin0))
  have A_ad3 := A_ad3.keep K1 (ninS (Ne.symm ne_ad1_ad3) (ninS (Ne.symm ne_ad2_ad3) nin0))
  have A_ad4 := A_ad4.keep K1 (ninS (Ne.symm ne_ad1_ad4) (ninS (Ne.symm ne_ad2_ad4) nin0))
  have A_ad6 := A_ad6.keep K1 (ninS (Ne.symm ne_ad1_ad6) (ninS (Ne.symm ne_ad2_ad6) nin0))
  have OL := OL.keep K1 (allS g_ad1 (allS g_ad2 all0))
  have KK := KK.trans K1 (allS (P := fun z => z ∈ _ ∨ _ ≤ z) (Or.inl (List.mem_of_getElem? (i := 1) rfl)) (allS (P := fun z => z ∈ _ ∨ _ ≤ z) (Or.inl (List.mem_of_getElem? (i := 2) rfl)) all0))
  refine G.cast (st' := [(.ref ad3)]) ?_ rfl
  refine g_checkcast cx d10_72 (hw _ (List.mem_of_getElem? (i := 88) rfl)) (Ins.self A_ad3.2) ?_
  refine g_astore cx d10_75 rfl (Ls' := #[.val (.ref ad0), .val (.long (1 : Int64)), .second, .val (.long x4), .second, .val (.long (0 : Int64)), .second, .val (.long (0 : Int64)), .second, .val (.ref ad3)]) rfl ?_
  refine g_lload cx d10_77 rfl ?_
  refine g_aload cx d10_79 rfl rfl ?_
  refine g_iconst cx d10_81 (v := (0 : Int32)) rfl ?_
  refine g_laload cx d10_82 A_ad3.1 ⟨by decide, by decide⟩ (v := (.long x0)) rfl ?_
  refine g_ladd cx d10_83 ?_
  rw [Int64.zero_add]
  refine g_lstore cx d10_84 (Ls' := #[.val (.ref ad0), .val (.long (1 : Int64)), .second, .val (.long x4), .second, .val (.long x0), .second, .val (.long (0 : Int64)), .second, .val (.ref ad3)]) rfl ?_
  refine g_aload cx d10_86 rfl rfl ?_
  refine g_iconst cx d10_88 (v := (1 : Int32)) rfl ?_
  refine g_laload cx d10_89 A_ad3.1 ⟨by decide, by decide⟩ (v := (.long x1)) rfl ?_
  refine g_lstore cx d10_90 (Ls' := #[.val (.ref ad0), .val (.long (1 : Int64)), .second, .val (.long x4), .second, .val (.long x0), .second, .val (.long x1), .second, .val (.ref ad3)]) rfl ?_
  refine g_aloadN cx d10_92 rfl rfl ?_
  refine g_dup cx d10_93 rfl ?_
  refine g_getF cx d10_94 (host := "") (Or.inl (hw _ (List.mem_of_getElem? (i := 73) rfl))) Via.refl O_ad0.2.2.2.2.2.2.2.1 ?_
  refine g_lconst cx d10_97 (v := (1 : Int64)) rfl ?_
  refine g_ladd cx d10_98 ?_
  refine G.cast (st' := [(.long (1 : Int64)), (.ref ad0)]) ?_ rfl
  refine g_putF cx d10_99 (host := "") (Or.inl (hw _ (List.mem_of_getElem? (i := 73) rfl))) Via.refl O_ad0.2.2.2.2.2.2.2.1 O_ad0.1 (Or.inl (hw _ (List.mem_of_getElem? (i := 74) rfl))) (hw _ (List.mem_of_getElem? (i := 2) rfl)) (ty := .long) (by decide) rfl rfl g_ad0 (fun h5 W6 => ?_)
  have O_ad0 := O_ad0.put7 hw W6
  have O_ad1 := O_ad1.oth W6 (Ne.symm ne_ad0_ad1)
  have O_ad5 := O_ad5.oth W6 (Ne.symm ne_ad0_ad5)
  have A_ad2 := A_ad2.other W6 (Ne.symm ne_ad0_ad2)
  have A_ad3 := A_ad3.other W6 (Ne.symm ne_ad0_ad3)
  have A_ad4 := A_ad4.other W6 (Ne.symm ne_ad0_ad4)
  have A_ad6 := A_ad6.other W6 (Ne.symm ne_ad0_ad6)
  have OL := OL.wr W6 g_ad0
  have KK := KK.wr W6 (Or.inl (List.mem_of_getElem? (i := 0) rfl))
  refine g_goto cx d10_102 ?_
  refine g_aloadN cx d10_56 rfl rfl ?_
  refine g_getF cx d10_57 (host := "") (Or.inl (hw _ (List.mem_of_getElem? (i := 73) rfl))) Via.refl O_ad0.2.2.2.2.2.2.2.1 ?_
  refine g_lloadN cx d10_60 rfl ?_
  refine g_lif_ge cx d10_61 d10_62 (fun hc62x => ?_) (fun q => absurd q (fun q => by revert q; decide))
  refine g_aloadN cx d10_105 rfl rfl ?_
  refine g_dup cx d10_106 rfl ?_
  refine g_getF cx d10_107 (host := "") (Or.inl (hw _ (List.mem_of_getElem? (i := 64) rfl))) Via.refl O_ad0.2.2.2.2.2.1 ?_
  refine g_lload cx d10_110 rfl ?_
  refine g_lsub cx d10_112 ?_
  refine g_putF cx d10_113 (host := "") (Or.inl (hw _ (List.mem_of_getElem? (i := 64) rfl))) Via.refl O_ad0.2.2.2.2.2.1 O_ad0.1 (Or.inl (hw _ (List.mem_of_getElem? (i := 65) rfl))) (hw _ (List.mem_of_getElem? (i := 2) rfl)) (ty := .long) (by decide) rfl rfl g_ad0 (fun h7 W8 => ?_)
  have O_ad0 := O_ad0.put5 hw W8
  have O_ad1 := O_ad1.oth W8 (Ne.symm ne_ad0_ad1)
  have O_ad5 := O_ad5.oth W8 (Ne.symm ne_ad0_ad5)
  have A_ad2 := A_ad2.other W8 (Ne.symm ne_ad0_ad2)
  have A_ad3 := A_ad3.other W8 (Ne.symm ne_ad0_ad3)
  have A_ad4 := A_ad4.other W8 (Ne.symm ne_ad0_ad4)
  have A_ad6 := A_ad6.other W8 (Ne.symm ne_ad0_ad6)
  have OL := OL.wr W8 g_ad0
  have KK := KK.wr W8 (Or.inl (List.mem_of_getElem? (i := 0) rfl))
  refine g_aloadN cx d10_116 rfl rfl ?_
  refine g_new cx d10_117 (hw _ (List.mem_of_getElem? (i := 90) rfl)) (hw _ (List.mem_of_getElem? (i := 91) rfl)) (hw _ (List.mem_of_getElem? (i := 92) rfl)) (k' := 1) (n' := 4) rfl rfl (by decide) (by decide) (fun h9 b10 gb11 E12 X13 D14 => ?_)
  have ne_ad0_b10 : ad0 ≠ b10 := Nat.ne_of_lt (by rw [gb11]; exact O_ad0.lt)
  have ne_ad1_b10 : ad1 ≠ b10 := Nat.ne_of_lt (by rw [gb11]; exact O_ad1.lt)
  have ne_ad5_b10 : ad5 ≠ b10 := Nat.ne_of_lt (by rw [gb11]; exact O_ad5.lt)
  have ne_ad2_b10 : ad2 ≠ b10 := Nat.ne_of_lt (by rw [gb11]; exact A_ad2.lt)
  have ne_ad3_b10 : ad3 ≠ b10 := Nat.ne_of_lt (by rw [gb11]; exact A_ad3.lt)
  have ne_ad4_b10 : ad4 ≠ b10 := Nat.ne_of_lt (by rw [gb11]; exact A_ad4.lt)
  have ne_ad6_b10 : ad6 ≠ b10 := Nat.ne_of_lt (by rw [gb11]; exact A_ad6.lt)
  have g_b10 : Z.heap.size ≤ b10 := by rw [gb11]; exact OL.2.1
  have sz_b10 := (by rw [gb11]; exact KK.1 : h0.size ≤ b10)
  have O_ad0 := O_ad0.ext E12
  have O_ad1 := O_ad1.ext E12
  have O_ad5 := O_ad5.ext E12
  have A_ad2 := A_ad2.ext E12
  have A_ad3 := A_ad3.ext E12
  have A_ad4 := A_ad4.ext E12
  have A_ad6 := A_ad6.ext E12
  have OL := OL.ext E12
  have KK := KK.ext E12
  have O_b10 := ObS.new hw X13 D14
  refine g_dup cx d10_120 rfl ?_
  refine g_lloadN cx d10_121 rfl ?_
  refine g_lload cx d10_122 rfl ?_
  refine g_lconst cx d10_124 (v := (1 : Int64)) rfl ?_
  refine g_lloadN cx d10_125 rfl ?_
  refine g_aloadN cx d10_126 rfl rfl ?_
  refine g_getF cx d10_127 (host := "") (Or.inl (hw _ (List.mem_of_getElem? (i := 52) rfl))) Via.refl O_ad0.2.2.2.2.1 ?_
  refine g_lsub cx d10_130 ?_
  refine g_static cx (y := (⟨"java/lang/Math", "max", "(JJ)J"⟩ : MethodName)) d10_131 (hw _ (List.mem_of_getElem? (i := 93) rfl)) (hw _ (List.mem_of_getElem? (i := 94) rfl)) (hw _ (List.mem_of_getElem? (i := 95) rfl)) (hw _ (List.mem_of_getElem? (i := 96) rfl)) (by decide) (bytes := jdk_29_method_66_code) (maxL' := 4) (M := (rm3 l Z a0 hw _ _ _)) rfl (lenOf pd_7 rfl) (by decide) (W := 7) (Nat.le_of_eq rfl) (by decide) (k' := 1) (n' := 4) rfl rfl (by decide) (by decide) (argsL := [(.long (1 : Int64)), (.long (x4 - x1))]) (rest := [(.long x0), (.long x4), (.ref b10), (.ref b10), (.ref ad0)]) rfl (fun v16 h15 q17 => ?_)
  obtain ⟨rfl, rfl⟩ := q17
  refine G.cast (st' := [(.long (own_max (1 : Int64) (x4 - x1))), (.long x0), (.long x4), (.ref b10), (.ref b10), (.ref ad0)]) ?_ rfl
  refine g_lloadN cx d10_134 rfl ?_
  refine g_lload cx d10_135 rfl ?_
  refine g_lsub cx d10_137 ?_
  refine g_specialRef cx (y := (⟨"com/example/thalweg/thalweg/node/Pace$Sample", "<init>", "(JJJJ)V"⟩ : MethodName)) (a := b10) d10_138 rfl rfl (hw _ (List.mem_of_getElem? (i := 97) rfl)) (hw _ (List.mem_of_getElem? (i := 98) rfl)) (hw _ (List.mem_of_getElem? (i := 92) rfl)) (hw _ (List.mem_of_getElem? (i := 99) rfl)) (by decide) (bytes := prog_55_method_1_code) (maxL' := 9) (M := (ra18 l Z a0 hw  b10 x4 x0 (own_max (1 : Int64) (x4 - x1)) (x4 - x1) _ O_b10 g_b10 OL)) rfl (lenOf pd_8 rfl) (by decide) (W := 2) (Nat.le_of_eq rfl) (by decide) (k' := 1) (n' := 4) rfl rfl (by decide) (by decide) (argsL := [(.long x4), (.long x0), (.long (own_max (1 : Int64) (x4 - x1))), (.long (x4 - x1))]) (rest := [(.ref b10), (.ref ad0)]) rfl (fun v20 h19 q21 => ?_)
  obtain ⟨rfl, K18, O_b10⟩ := q21
  have O_ad0 := O_ad0.keep K18 (ninS ne_ad0_b10 nin0)
  have O_ad1 := O_ad1.keep K18 (ninS ne_ad1_b10 nin0)
  have O_ad5 := O_ad5.keep K18 (ninS ne_ad5_b10 nin0)
  have A_ad2 := A_ad2.keep K18 (ninS ne_ad2_b10 nin0)
  have A_ad3 := A_ad3.keep K18 (ninS ne_ad3_b10 nin0)
  have A_ad4 := A_ad4.keep K18 (ninS ne_ad4_b10 nin0)
  have A_ad6 := A_ad6.keep K18 (ninS ne_ad6_b10 nin0)
  have OL := OL.keep K18 (allS g_b10 all0)
  have KK := KK.trans K18 (allS (P := fun z => z ∈ _ ∨ _ ≤ z) (Or.inr sz_b10) all0)
  refine G.cast (st' := [(.ref b10), (.ref ad0)]) ?_ rfl
  refine g_private cx (y := (⟨"com/example/thalweg/thalweg/node/Pace", "addSample", "(Lcom/example/thalweg/thalweg/node/Pace$Sample;)V"⟩ : MethodName)) (a := ad0) d10_141 (hw _ (List.mem_of_getElem? (i := 114) rfl)) (hw _ (List.mem_of_getElem? (i := 115) rfl)) (hw _ (List.mem_of_getElem? (i := 3) rfl)) (hw _ (List.mem_of_getElem? (i := 117) rfl)) (own_selpriv (hw _ (List.mem_of_getElem? (i := 2) rfl)) (hw _ (List.mem_of_getElem? (i := 116) rfl)) (hw _ (List.mem_of_getElem? (i := 115) rfl)) (by decide)) (hw _ (List.mem_of_getElem? (i := 116) rfl)) (by decide) O_ad0.1 (bytes := prog_54_method_9_code) (maxL' := 3) (M := (ra19 l Z a0 hw  ad0 ad1 ad2 ad4 ad5 ad6 b10 x2 x1 (x3 - x0) x4 x0 (own_max (1 : Int64) (x4 - x1)) (x4 - x1) cA_ad2 cA_ad4 cA_ad6 _ O_ad0 O_ad1 O_ad5 O_b10 A_ad2 A_ad4 A_ad6 OV_ad2 OV_ad6 ne_ad0_ad1 ne_ad0_ad2 ne_ad1_ad2 ne_ad0_ad4 ne_ad1_ad4 ne_ad2_ad4 ne_ad0_ad5 ne_ad1_ad5 ne_ad2_ad5 ne_ad4_ad5 ne_ad0_ad6 ne_ad1_ad6 ne_ad2_ad6 ne_ad4_ad6 ne_ad5_ad6 ne_ad0_b10 ne_ad1_b10 ne_ad2_b10 ne_ad4_b10 ne_ad5_b10 ne_ad6_b10 g_ad0 g_ad1 g_ad2 g_ad4 g_ad5 g_ad6 g_b10 OL)) rfl (lenOf pd_12 rfl) (by decide) (W := 0) (Nat.le_of_eq rfl) (by decide) (k' := 1) (n' := 4) rfl rfl (by decide) (by decide) (argsL := [(.ref b10)]) (rest := []) rfl (fun v24 h23 q25 => ?_)
  obtain ⟨rfl, K22, O_ad0, O_ad5, A_ad6⟩ := q25
  have O_ad1 := O_ad1.keep K22 (ninS (Ne.symm ne_ad0_ad1) (ninS ne_ad1_ad5 (ninS ne_ad1_ad6 nin0)))
  have O_b10 := O_b10.keep K22 (ninS (Ne.symm ne_ad0_b10) (ninS (Ne.symm ne_ad5_b10) (ninS (Ne.symm ne_ad6_b10) nin0)))
  have A_ad2 := A_ad2.keep K22 (ninS (Ne.symm ne_ad0_ad2) (ninS ne_ad2_ad5 (ninS ne_ad2_ad6 nin0)))
  have A_ad3 := A_ad3.keep K22 (ninS (Ne.symm ne_ad0_ad3) (ninS ne_ad3_ad5 (ninS ne_ad3_ad6 nin0)))
  have A_ad4 := A_ad4.keep K22 (ninS (Ne.symm ne_ad0_ad4) (ninS ne_ad4_ad5 (ninS ne_ad4_ad6 nin0)))
  have OL := OL.keep K22 (allS g_ad0 (allS g_ad5 (allS g_ad6 all0)))
  have KK := KK.trans K22 (allS (P := fun z => z ∈ _ ∨ _ ≤ z) (Or.inl (List.mem_of_getElem? (i := 0) rfl)) (allS (P := fun z => z ∈ _ ∨ _ ≤ z) (Or.inl (List.mem_of_getElem? (i := 3) rfl)) (allS (P := fun z => z ∈ _ ∨ _ ≤ z) (Or.inl (List.mem_of_getElem? (i := 4) rfl)) all0)))
  refine G.cast (st' := []) ?_ rfl
  refine g_aloadN cx d10_144 rfl rfl ?_
  refine g_lloadN cx d10_145 rfl ?_
  refine g_putF cx d10_146 (host := "") (Or.inl (hw _ (List.mem_of_getElem? (i := 52) rfl))) Via.refl O_ad0.2.2.2.2.1 O_ad0.1 (Or.inl (hw _ (List.mem_of_getElem? (i := 53) rfl))) (hw _ (List.mem_of_getElem? (i := 2) rfl)) (ty := .long) (by decide) rfl rfl g_ad0 (fun h26 W27 => ?_)
  have O_ad0 := O_ad0.put4 hw W27
  have O_ad1 := O_ad1.oth W27 (Ne.symm ne_ad0_ad1)
  have O_ad5 := O_ad5.oth W27 (Ne.symm ne_ad0_ad5)
  have O_b10 := O_b10.oth W27 (Ne.symm ne_ad0_b10)
  have A_ad2 := A_ad2.other W27 (Ne.symm ne_ad0_ad2)
  have A_ad3 := A_ad3.other W27 (Ne.symm ne_ad0_ad3)
  have A_ad4 := A_ad4.other W27 (Ne.symm ne_ad0_ad4)
  have A_ad6 := A_ad6.other W27 (Ne.symm ne_ad0_ad6)
  have OL := OL.wr W27 g_ad0
  have KK := KK.wr W27 (Or.inl (List.mem_of_getElem? (i := 0) rfl))
  refine g_retV cx d10_149 rfl (by decide) (by decide) ?_
  exact ⟨b10, rfl, KK, sz_b10, O_b10, O_ad0, O_ad1, A_ad2, O_ad5, A_ad6⟩
theorem d5_9 : Dc prog_54_method_5_code 9 (.iconst 1) 1 10 := ⟨by decide +kernel, rfl⟩
theorem d5_10 : Bi prog_54_method_5_code 10 (Instr.goto) 14 13 := ⟨4, by decide +kernel, by decide, by decide, rfl⟩
theorem pn_ra25 : plainName "com/example/thalweg/thalweg/node/Pace" = true := by first | (simp [plainName, overriddenIn]; done) | decide +kernel
set_option maxRecDepth 65536 in
set_option maxHeartbeats 40000000 in
theorem ra25 (l : Launch) (Z : State) (a0 : Array Value) (hw : ∀ d ∈ tables_1, d.before a0 Z = true)  (ad0 ad1 ad2 ad3 ad4 ad5 ad6 : Addr) (x0 : Int64) (x1 : Int64) (x2 : Int64) (x3 : Int64) (x4 : Int64) (x5 : Int64) (x6 : Int64) (cA_ad2 : ClassId) (cA_ad3 : ClassId) (cA_ad5 : ClassId) (h0 : Heap) (O_ad0 : ObP Z h0 ad0 (.ref ad1) (.ref ad4) (.long x3) (.long x2) (.long x6) (.long (2 : Int64)) (.long (1 : Int64)) (.long x4)) (O_ad1 : ObD Z h0 ad1 (.ref ad2) (.int (1 : Int32)) (.int (2 : Int32))) (O_ad4 : ObD Z h0 ad4 (.ref ad5) (.int (0 : Int32)) (.int (1 : Int32))) (O_ad6 : ObS Z h0 ad6 (.long x2) (.long x3) (.long x4) (.long x5)) (A_ad2 : Arx Z h0 ad2 cA_ad2 (.object "java/lang/Object") (17 : Int32) [.null, (.ref ad3), .null, .null, .null, .null, .null, .null, .null, .null, .null, .null, .null, .null, .null, .null, .null] .null "[Ljava/lang/Object;") (A_ad3 : Arx Z h0 ad3 cA_ad3 .long (2 : Int32) [(.long x0), (.long x1)] (.long (0 : Int64)) "[J") (A_ad5 : Arx Z h0 ad5 cA_ad5 (.object "java/lang/Object") (17 : Int32) [(.ref ad6), .null, .null, .null, .null, .null, .null, .null, .null, .null, .null, .null, .null, .null, .null, .null, .null] .null "[Ljava/lang/Object;") (OV_ad2 : Ovr Z cA_ad2 "java/lang/Object") (OV_ad5 : Ovr Z cA_ad5 "java/lang/Object") (ne_ad0_ad1 : ad0 ≠ ad1) (ne_ad0_ad2 : ad0 ≠ ad2) (ne_ad1_ad2 : ad1 ≠ ad2) (ne_ad0_ad3 : ad0 ≠ ad3) (ne_ad1_ad3 : ad1 ≠ ad3) (ne_ad2_ad3 : ad2 ≠ ad3) (ne_ad0_ad4 : ad0 ≠ ad4) (ne_ad1_ad4 : ad1 ≠ ad4) (ne_ad2_ad4 : ad2 ≠ ad4) (ne_ad3_ad4 : ad3 ≠ ad4) (ne_ad0_ad5 : ad0 ≠ ad5) (ne_ad1_ad5 : ad1 ≠ ad5) (ne_ad2_ad5 : ad2 ≠ ad5) (ne_ad3_ad5 : ad3 ≠ ad5) (ne_ad4_ad5 : ad4 ≠ ad5) (ne_ad0_ad6 : ad0 ≠ ad6) (ne_ad1_ad6 : ad1 ≠ ad6) (ne_ad2_ad6 : ad2 ≠ ad6) (ne_ad3_ad6 : ad3 ≠ ad6) (ne_ad4_ad6 : ad4 ≠ ad6) (ne_ad5_ad6 : ad5 ≠ ad6) (g_ad0 : Z.heap.size ≤ ad0) (g_ad1 : Z.heap.size ≤ ad1) (g_ad2 : Z.heap.size ≤ ad2) (g_ad3 : Z.heap.size ≤ ad3) (g_ad4 : Z.heap.size ≤ ad4) (g_ad5 : Z.heap.size ≤ ad5) (g_ad6 : Z.heap.size ≤ ad6) (OL : Old Z Z.heap.size h0) :
    Met l Z (⟨"com/example/thalweg/thalweg/node/Pace", "known", "()Z"⟩ : MethodName) prog_54_method_5_code 1 (some .boolean) ({ frames := 0, cells := 0, slots := 0, locals := 0 } : Room) #[(.ref ad0)] h0 (fun v h' => (¬ ((0 : Int64) < x3) ∧ v = some (.int (0 : Int32)) ∧ h0 = h') ∨ ((0 : Int64) < x3 ∧ v = some (.int (1 : Int32)) ∧ h0 = h')) := by
  refine met_of (Ls := #[.val (.ref ad0)]) (plainFor_of_name pn_ra25) (fun m => by first | (simp [entryFrame, mkF, argsToLocals, Value.category]; done) | rfl) (fun p e s m below meth c cx => ?_)
  have KK := Keep.refl h0 []
  refine g_aloadN cx d5_0 rfl rfl ?_
  refine g_getF cx d5_1 (host := "") (Or.inl (hw _ (List.mem_of_getElem? (i := 36) rfl))) Via.refl O_ad0.2.2.2.1 ?_
  refine g_lconst cx d5_4 (v := (0 : Int64)) rfl ?_
  refine g_lif_le cx d5_5 d5_6 (fun hc6 => ?_) (fun hc6 => ?_)
  · refine g_iconst cx d5_13 (v := (0 : Int32)) rfl ?_
    refine g_retZ cx d5_14 rfl rfl (by decide) (by decide) ?_
    exact Or.inl ⟨hc6, rfl, rfl⟩
  · refine g_iconst cx d5_9 (v := (1 : Int32)) rfl ?_
    refine g_goto cx d5_10 ?_
    refine g_retZ cx d5_14 rfl rfl (by decide) (by decide) ?_
    exact Or.inr (⟨hc6, rfl, rfl⟩)
theorem d0_174 : Dc code 174 (.lload 6) 2 176 := ⟨by decide +kernel, rfl⟩
theorem d0_176 : Bi code 176 (Instr.goto) 180 179 := ⟨4, by decide +kernel, by decide, by decide, rfl⟩
theorem d0_220 : Dc code 220 (.iconst 1) 1 221 := ⟨by decide +kernel, rfl⟩
theorem d0_221 : Bi code 221 (Instr.goto) 225 224 := ⟨4, by decide +kernel, by decide, by decide, rfl⟩
theorem d0_277 : Dc code 277 (.lload 23) 2 279 := ⟨by decide +kernel, rfl⟩
theorem d0_279 : Bi code 279 (Instr.goto) 283 282 := ⟨4, by decide +kernel, by decide, by decide, rfl⟩
theorem d0_322 : Dc code 322 (.iconst 1) 1 323 := ⟨by decide +kernel, rfl⟩
theorem d0_323 : Bi code 323 (Instr.goto) 327 326 := ⟨4, by decide +kernel, by decide, by decide, rfl⟩
theorem pn_ra29 : plainName "java/util/ArrayDeque" = true := by first | (simp [plainName, overriddenIn]; done) | decide +kernel
set_option maxRecDepth 65536 in
set_option maxHeartbeats 40000000 in
theorem ra29 (l : Launch) (Z : State) (a0 : Array Value) (hw : ∀ d ∈ tables_1, d.before a0 Z = true)  (ad0 ad1 : Addr) (x0 : Int64) (x1 : Int64) (cA_ad0 : ClassId) (cA_ad1 : ClassId) (h0 : Heap) (A_ad0 : Arx Z h0 ad0 cA_ad0 (.object "java/lang/Object") (17 : Int32) [.null, (.ref ad1), .null, .null, .null, .null, .null, .null, .null, .null, .null, .null, .null, .null, .null, .null, .null] .null "[Ljava/lang/Object;") (A_ad1 : Arx Z h0 ad1 cA_ad1 .long (2 : Int32) [(.long x0), (.long x1)] (.long (0 : Int64)) "[J") (OV_ad0 : Ovr Z cA_ad0 "java/lang/Object") (ne_ad0_ad1 : ad0 ≠ ad1) (g_ad0 : Z.heap.size ≤ ad0) (g_ad1 : Z.heap.size ≤ ad1) (OL : Old Z Z.heap.size h0) :
    Met l Z (⟨"java/util/ArrayDeque", "elementAt", "([Ljava/lang/Object;I)Ljava/lang/Object;"⟩ : MethodName) jdk_21_method_10_code 2 (some (.object "java/lang/Object")) ({ frames := 0, cells := 0, slots := 0, locals := 0 } : Room) #[(.ref ad0), (.int (1 : Int32))] h0 (fun v h' => (v = some (.ref ad1) ∧ h0 = h')) := by
  refine met_of (Ls := #[.val (.ref ad0), .val (.int (1 : Int32))]) (plainFor_of_name pn_ra29) (fun m => by first | (simp [entryFrame, mkF, argsToLocals, Value.category]; done) | rfl) (fun p e s m below meth c cx => ?_)
  have KK := Keep.refl h0 []
  refine g_aloadN cx d13_0 rfl rfl ?_
  refine g_iloadN cx d13_1 rfl ?_
  refine g_aaload cx d13_2 A_ad0.1 rfl ⟨by decide, by decide⟩ (v := (.ref ad1)) rfl ?_
  refine g_retA cx d13_3 (t := (.object "java/lang/Object")) rfl rfl rfl rfl (by decide) (by decide) ?_
  exact ⟨rfl, rfl⟩
theorem pn_ra28 : plainName "java/util/ArrayDeque" = true := by first | (simp [plainName, overriddenIn]; done) | decide +kernel
set_option maxRecDepth 65536 in
set_option maxHeartbeats 40000000 in
theorem ra28 (l : Launch) (Z : State) (a0 : Array Value) (hw : ∀ d ∈ tables_1, d.before a0 Z = true)  (ad0 ad1 ad2 : Addr) (x0 : Int64) (x1 : Int64) (cA_ad1 : ClassId) (cA_ad2 : ClassId) (h0 : Heap) (O_ad0 : ObD Z h0 ad0 (.ref ad1) (.int (1 : Int32)) (.int (2 : Int32))) (A_ad1 : Arx Z h0 ad1 cA_ad1 (.object "java/lang/Object") (17 : Int32) [.null, (.ref ad2), .null, .null, .null, .null, .null, .null, .null, .null, .null, .null, .null, .null, .null, .null, .null] .null "[Ljava/lang/Object;") (A_ad2 : Arx Z h0 ad2 cA_ad2 .long (2 : Int32) [(.long x0), (.long x1)] (.long (0 : Int64)) "[J") (OV_ad1 : Ovr Z cA_ad1 "java/lang/Object") (ne_ad0_ad1 : ad0 ≠ ad1) (ne_ad0_ad2 : ad0 ≠ ad2) (ne_ad1_ad2 : ad1 ≠ ad2) (g_ad0 : Z.heap.size ≤ ad0) (g_ad1 : Z.heap.size ≤ ad1) (g_ad2 : Z.heap.size ≤ ad2) (OL : Old Z Z.heap.size h0) :
    Met l Z (⟨"java/util/ArrayDeque", "pollFirst", "()Ljava/lang/Object;"⟩ : MethodName) jdk_21_method_20_code 4 (some (.object "java/lang/Object")) ({ frames := 1, cells := 0, slots := 0, locals := 14 } : Room) #[(.ref ad0)] h0 (fun v h' => (v = some (.ref ad2) ∧ Keep h0 h' [ad0, ad1] ∧ ObD Z h' ad0 (.ref ad1) (.int (2 : Int32)) (.int (2 : Int32)) ∧ Arx Z h' ad1 cA_ad1 (.object "java/lang/Object") (17 : Int32) [.null, .null, .null, .null, .null, .null, .null, .null, .null, .null, .null, .null, .null, .null, .null, .null, .null] .null "[Ljava/lang/Object;")) := by
  refine met_of (Ls := #[.val (.ref ad0), .unset, .unset, .unset]) (plainFor_of_name pn_ra28) (fun m => by first | (simp [entryFrame, mkF, argsToLocals, Value.category]; done) | rfl) (fun p e s m below meth c cx => ?_)
  have KK := Keep.refl h0 [ad0, ad1]
  refine g_aloadN cx d12_0 rfl rfl ?_
  refine g_getF cx d12_1 (host := "") (Or.inl (hw _ (List.mem_of_getElem? (i := 25) rfl))) Via.refl O_ad0.2.1 ?_
  refine g_dup cx d12_4 rfl ?_
  refine g_astoreN cx d12_5 rfl (Ls' := #[.val (.ref ad0), .val (.ref ad1), .unset, .unset]) rfl ?_
  refine g_aloadN cx d12_6 rfl rfl ?_
  refine g_getF cx d12_7 (host := "") (Or.inl (hw _ (List.mem_of_getElem? (i := 48) rfl))) Via.refl O_ad0.2.2.1 ?_
  refine g_dup cx d12_10 rfl ?_
  refine g_istoreN cx d12_11 (Ls' := #[.val (.ref ad0), .val (.ref ad1), .val (.int (1 : Int32)), .unset]) rfl ?_
  refine g_static cx (y := (⟨"java/util/ArrayDeque", "elementAt", "([Ljava/lang/Object;I)Ljava/lang/Object;"⟩ : MethodName)) d12_12 (hw _ (List.mem_of_getElem? (i := 85) rfl)) (hw _ (List.mem_of_getElem? (i := 86) rfl)) (hw _ (List.mem_of_getElem? (i := 12) rfl)) (hw _ (List.mem_of_getElem? (i := 87) rfl)) (by decide) (bytes := jdk_21_method_10_code) (maxL' := 2) (M := (ra29 l Z a0 hw  ad1 ad2 x0 x1 cA_ad1 cA_ad2 _ A_ad1 A_ad2 OV_ad1 ne_ad1_ad2 g_ad1 g_ad2 OL)) rfl (lenOf pd_5 rfl) (by decide) (W := 0) (Nat.le_of_eq rfl) (by decide) (k' := 0) (n' := 0) rfl rfl (by decide) (by decide) (argsL := [(.ref ad1), (.int (1 : Int32))]) (rest := []) rfl (fun v3 h2 q4 => ?_)
  obtain ⟨rfl, rfl⟩ := q4
  refine G.cast (st' := [(.ref ad2)]) ?_ rfl
  refine g_astoreN cx d12_15 rfl (Ls' := #[.val (.ref ad0), .val (.ref ad1), .val (.int (1 : Int32)), .val (.ref ad2)]) rfl ?_
  refine g_aloadN cx d12_16 rfl rfl ?_
  refine g_ifnull_ref cx d12_17 ?_
  refine g_aloadN cx d12_20 rfl rfl ?_
  refine g_iloadN cx d12_21 rfl ?_
  refine g_aconst_null cx d12_22 ?_
  refine g_aastore cx d12_23 A_ad1 rfl rfl (Or.inl rfl) ⟨by decide, by decide⟩ (Nat.le_of_ble_eq_true rfl) g_ad1 (fun h5 W6 AA7 => ?_)
  have O_ad0 := O_ad0.oth W6 ne_ad0_ad1
  have A_ad1 : Arx Z h5 ad1 cA_ad1 (.object "java/lang/Object") (17 : Int32) [.null, .null, .null, .null, .null, .null, .null, .null, .null, .null, .null, .null, .null, .null, .null, .null, .null] .null "[Ljava/lang/Object;" := AA7
  have A_ad2 := A_ad2.other W6 (Ne.symm ne_ad1_ad2)
  have OL := OL.wr W6 g_ad1
  have KK := KK.wr W6 (Or.inl (List.mem_of_getElem? (i := 1) rfl))
  refine g_aloadN cx d12_24 rfl rfl ?_
  refine g_iloadN cx d12_25 rfl ?_
  refine g_aloadN cx d12_26 rfl rfl ?_
  refine g_arraylength cx d12_27 A_ad1.1 ?_
  refine g_static cx (y := (⟨"java/util/ArrayDeque", "inc", "(II)I"⟩ : MethodName)) d12_28 (hw _ (List.mem_of_getElem? (i := 61) rfl)) (hw _ (List.mem_of_getElem? (i := 62) rfl)) (hw _ (List.mem_of_getElem? (i := 12) rfl)) (hw _ (List.mem_of_getElem? (i := 63) rfl)) (by decide) (bytes := jdk_21_method_6_code) (maxL' := 2) (M := (ra11 l Z a0 hw   _  OL)) rfl (lenOf pd_2 rfl) (by decide) (W := 1) (Nat.le_of_eq rfl) (by decide) (k' := 0) (n' := 0) rfl rfl (by decide) (by decide) (argsL := [(.int (1 : Int32)), (.int (17 : Int32))]) (rest := [(.ref ad0)]) rfl (fun v10 h9 q11 => ?_)
  obtain ⟨rfl, rfl⟩ := q11
  refine G.cast (st' := [(.int (2 : Int32)), (.ref ad0)]) ?_ rfl
  refine g_putF cx d12_31 (host := "") (Or.inl (hw _ (List.mem_of_getElem? (i := 48) rfl))) Via.refl O_ad0.2.2.1 O_ad0.1 (Or.inl (hw _ (List.mem_of_getElem? (i := 49) rfl))) (hw _ (List.mem_of_getElem? (i := 11) rfl)) (ty := .int) (by decide) rfl rfl g_ad0 (fun h12 W13 => ?_)
  have O_ad0 := O_ad0.put2 hw W13
  have A_ad1 := A_ad1.other W13 (Ne.symm ne_ad0_ad1)
  have A_ad2 := A_ad2.other W13 (Ne.symm ne_ad0_ad2)
  have OL := OL.wr W13 g_ad0
  have KK := KK.wr W13 (Or.inl (List.mem_of_getElem? (i := 0) rfl))
  refine g_aloadN cx d12_34 rfl rfl ?_
  refine g_retA cx d12_35 (t := (.object "java/lang/Object")) rfl rfl rfl rfl (by decide) (by decide) ?_
  exact ⟨rfl, KK, O_ad0, A_ad1⟩
theorem pn_ra27 : plainName "java/util/ArrayDeque" = true := by first | (simp [plainName, overriddenIn]; done) | decide +kernel
set_option maxRecDepth 65536 in
set_option maxHeartbeats 40000000 in
theorem ra27 (l : Launch) (Z : State) (a0 : Array Value) (hw : ∀ d ∈ tables_1, d.before a0 Z = true)  (ad0 ad1 ad2 : Addr) (x0 : Int64) (x1 : Int64) (cA_ad1 : ClassId) (cA_ad2 : ClassId) (h0 : Heap) (O_ad0 : ObD Z h0 ad0 (.ref ad1) (.int (1 : Int32)) (.int (2 : Int32))) (A_ad1 : Arx Z h0 ad1 cA_ad1 (.object "java/lang/Object") (17 : Int32) [.null, (.ref ad2), .null, .null, .null, .null, .null, .null, .null, .null, .null, .null, .null, .null, .null, .null, .null] .null "[Ljava/lang/Object;") (A_ad2 : Arx Z h0 ad2 cA_ad2 .long (2 : Int32) [(.long x0), (.long x1)] (.long (0 : Int64)) "[J") (OV_ad1 : Ovr Z cA_ad1 "java/lang/Object") (ne_ad0_ad1 : ad0 ≠ ad1) (ne_ad0_ad2 : ad0 ≠ ad2) (ne_ad1_ad2 : ad1 ≠ ad2) (g_ad0 : Z.heap.size ≤ ad0) (g_ad1 : Z.heap.size ≤ ad1) (g_ad2 : Z.heap.size ≤ ad2) (OL : Old Z Z.heap.size h0) :
    Met l Z (⟨"java/util/ArrayDeque", "removeFirst", "()Ljava/lang/Object;"⟩ : MethodName) jdk_21_method_18_code 2 (some (.object "java/lang/Object")) ({ frames := 2, cells := 0, slots := 0, locals := 29 } : Room) #[(.ref ad0)] h0 (fun v h' => (v = some (.ref ad2) ∧ Keep h0 h' [ad0, ad1] ∧ ObD Z h' ad0 (.ref ad1) (.int (2 : Int32)) (.int (2 : Int32)) ∧ Arx Z h' ad1 cA_ad1 (.object "java/lang/Object") (17 : Int32) [.null, .null, .null, .null, .null, .null, .null, .null, .null, .null, .null, .null, .null, .null, .null, .null, .null] .null "[Ljava/lang/Object;")) := by
  refine met_of (Ls := #[.val (.ref ad0), .unset]) (plainFor_of_name pn_ra27) (fun m => by first | (simp [entryFrame, mkF, argsToLocals, Value.category]; done) | rfl) (fun p e s m below meth c cx => ?_)
  have KK := Keep.refl h0 [ad0, ad1]
  refine g_aloadN cx d11_0 rfl rfl ?_
  refine g_virtual cx (y := (⟨"java/util/ArrayDeque", "pollFirst", "()Ljava/lang/Object;"⟩ : MethodName)) (z := (⟨"java/util/ArrayDeque", "pollFirst", "()Ljava/lang/Object;"⟩ : MethodName)) (a := ad0) d11_1 (hw _ (List.mem_of_getElem? (i := 80) rfl)) (hw _ (List.mem_of_getElem? (i := 81) rfl)) (hw _ (List.mem_of_getElem? (i := 12) rfl)) (hw _ (List.mem_of_getElem? (i := 84) rfl)) (hw _ (List.mem_of_getElem? (i := 83) rfl)) (hw _ (List.mem_of_getElem? (i := 82) rfl)) rfl (by decide) O_ad0.1 (bytes := jdk_21_method_20_code) (maxL' := 4) (M := (ra28 l Z a0 hw  ad0 ad1 ad2 x0 x1 cA_ad1 cA_ad2 _ O_ad0 A_ad1 A_ad2 OV_ad1 ne_ad0_ad1 ne_ad0_ad2 ne_ad1_ad2 g_ad0 g_ad1 g_ad2 OL)) rfl (lenOf pd_6 rfl) (by decide) (W := 0) (Nat.le_of_eq rfl) (by decide) (k' := 0) (n' := 0) rfl rfl (by decide) (by decide) (argsL := []) (rest := []) rfl (fun v3 h2 q4 => ?_)
  obtain ⟨rfl, K1, O_ad0, A_ad1⟩ := q4
  have A_ad2 := A_ad2.keep K1 (ninS (Ne.symm ne_ad0_ad2) (ninS (Ne.symm ne_ad1_ad2) nin0))
  have OL := OL.keep K1 (allS g_ad0 (allS g_ad1 all0))
  have KK := KK.trans K1 (allS (P := fun z => z ∈ _ ∨ _ ≤ z) (Or.inl (List.mem_of_getElem? (i := 0) rfl)) (allS (P := fun z => z ∈ _ ∨ _ ≤ z) (Or.inl (List.mem_of_getElem? (i := 1) rfl)) all0))
  refine G.cast (st' := [(.ref ad2)]) ?_ rfl
  refine g_astoreN cx d11_4 rfl (Ls' := #[.val (.ref ad0), .val (.ref ad2)]) rfl ?_
  refine g_aloadN cx d11_5 rfl rfl ?_
  refine g_ifnonnull_ref cx d11_6 ?_
  refine g_aloadN cx d11_17 rfl rfl ?_
  refine g_retA cx d11_18 (t := (.object "java/lang/Object")) rfl rfl rfl rfl (by decide) (by decide) ?_
  exact ⟨rfl, KK, O_ad0, A_ad1⟩
theorem pn_ra30 : plainName "com/example/thalweg/thalweg/node/Pace" = true := by first | (simp [plainName, overriddenIn]; done) | decide +kernel
set_option maxRecDepth 65536 in
set_option maxHeartbeats 40000000 in
theorem ra30 (l : Launch) (Z : State) (a0 : Array Value) (hw : ∀ d ∈ tables_1, d.before a0 Z = true)  (ad0 ad1 ad2 ad3 ad4 ad5 : Addr) (x0 : Int64) (x1 : Int64) (x2 : Int64) (x3 : Int64) (x4 : Int64) (x5 : Int64) (cA_ad2 : ClassId) (cA_ad4 : ClassId) (h0 : Heap) (O_ad0 : ObP Z h0 ad0 (.ref ad1) (.ref ad3) (.long (0 : Int64)) (.long x0) (.long x1) (.long (2 : Int64)) (.long (2 : Int64)) (.long (0 : Int64))) (O_ad1 : ObD Z h0 ad1 (.ref ad2) (.int (2 : Int32)) (.int (2 : Int32))) (O_ad3 : ObD Z h0 ad3 (.ref ad4) (.int (0 : Int32)) (.int (0 : Int32))) (O_ad5 : ObS Z h0 ad5 (.long x2) (.long x3) (.long x4) (.long x5)) (A_ad2 : Arx Z h0 ad2 cA_ad2 (.object "java/lang/Object") (17 : Int32) [.null, .null, .null, .null, .null, .null, .null, .null, .null, .null, .null, .null, .null, .null, .null, .null, .null] .null "[Ljava/lang/Object;") (A_ad4 : Arx Z h0 ad4 cA_ad4 (.object "java/lang/Object") (17 : Int32) [.null, .null, .null, .null, .null, .null, .null, .null, .null, .null, .null, .null, .null, .null, .null, .null, .null] .null "[Ljava/lang/Object;") (OV_ad2 : Ovr Z cA_ad2 "java/lang/Object") (OV_ad4 : Ovr Z cA_ad4 "java/lang/Object") (ne_ad0_ad1 : ad0 ≠ ad1) (ne_ad0_ad2 : ad0 ≠ ad2) (ne_ad1_ad2 : ad1 ≠ ad2) (ne_ad0_ad3 : ad0 ≠ ad3) (ne_ad1_ad3 : ad1 ≠ ad3) (ne_ad2_ad3 : ad2 ≠ ad3) (ne_ad0_ad4 : ad0 ≠ ad4) (ne_ad1_ad4 : ad1 ≠ ad4) (ne_ad2_ad4 : ad2 ≠ ad4) (ne_ad3_ad4 : ad3 ≠ ad4) (ne_ad0_ad5 : ad0 ≠ ad5) (ne_ad1_ad5 : ad1 ≠ ad5) (ne_ad2_ad5 : ad2 ≠ ad5) (ne_ad3_ad5 : ad3 ≠ ad5) (ne_ad4_ad5 : ad4 ≠ ad5) (g_ad0 : Z.heap.size ≤ ad0) (g_ad1 : Z.heap.size ≤ ad1) (g_ad2 : Z.heap.size ≤ ad2) (g_ad3 : Z.heap.size ≤ ad3) (g_ad4 : Z.heap.size ≤ ad4) (g_ad5 : Z.heap.size ≤ ad5) (OL : Old Z Z.heap.size h0) :
    Met l Z (⟨"com/example/thalweg/thalweg/node/Pace", "addSample", "(Lcom/example/thalweg/thalweg/node/Pace$Sample;)V"⟩ : MethodName) prog_54_method_9_code 3 none ({ frames := 2, cells := 0, slots := 0, locals := 29 } : Room) #[(.ref ad0), (.ref ad5)] h0 (fun v h' => (v = none ∧ Keep h0 h' [ad0, ad3, ad4] ∧ ObP Z h' ad0 (.ref ad1) (.ref ad3) (.long x3) (.long x0) (.long x1) (.long (2 : Int64)) (.long (2 : Int64)) (.long x4) ∧ ObD Z h' ad3 (.ref ad4) (.int (0 : Int32)) (.int (1 : Int32)) ∧ Arx Z h' ad4 cA_ad4 (.object "java/lang/Object") (17 : Int32) [(.ref ad5), .null, .null, .null, .null, .null, .null, .null, .null, .null, .null, .null, .null, .null, .null, .null, .null] .null "[Ljava/lang/Object;")) := by
  refine met_of (Ls := #[.val (.ref ad0), .val (.ref ad5), .unset]) (plainFor_of_name pn_ra30) (fun m => by first | (simp [entryFrame, mkF, argsToLocals, Value.category]; done) | rfl) (fun p e s m below meth c cx => ?_)
  have KK := Keep.refl h0 [ad0, ad3, ad4]
  refine g_aloadN cx d17_0 rfl rfl ?_
  refine g_getF cx d17_1 (host := "") (Or.inl (hw _ (List.mem_of_getElem? (i := 29) rfl))) Via.refl O_ad0.2.2.1 ?_
  refine g_aloadN cx d17_4 rfl rfl ?_
  refine g_virtual cx (y := (⟨"java/util/ArrayDeque", "addLast", "(Ljava/lang/Object;)V"⟩ : MethodName)) (z := (⟨"java/util/ArrayDeque", "addLast", "(Ljava/lang/Object;)V"⟩ : MethodName)) (a := ad3) d17_5 (hw _ (List.mem_of_getElem? (i := 55) rfl)) (hw _ (List.mem_of_getElem? (i := 56) rfl)) (hw _ (List.mem_of_getElem? (i := 12) rfl)) (hw _ (List.mem_of_getElem? (i := 59) rfl)) (hw _ (List.mem_of_getElem? (i := 58) rfl)) (hw _ (List.mem_of_getElem? (i := 57) rfl)) rfl (by decide) O_ad3.1 (bytes := jdk_21_method_13_code) (maxL' := 3) (M := (ra20 l Z a0 hw  ad3 ad4 ad5 x2 x3 x4 x5 cA_ad4 _ O_ad3 O_ad5 A_ad4 OV_ad4 ne_ad3_ad4 ne_ad3_ad5 ne_ad4_ad5 g_ad3 g_ad4 g_ad5 OL)) rfl (lenOf pd_3 rfl) (by decide) (W := 0) (Nat.le_of_eq rfl) (by decide) (k' := 0) (n' := 0) rfl rfl (by decide) (by decide) (argsL := [(.ref ad5)]) (rest := []) rfl (fun v3 h2 q4 => ?_)
  obtain ⟨rfl, K1, O_ad3, A_ad4⟩ := q4
  have O_ad0 := O_ad0.keep K1 (ninS ne_ad0_ad3 (ninS ne_ad0_ad4 nin0))
  have O_ad1 := O_ad1.keep K1 (ninS ne_ad1_ad3 (ninS ne_ad1_ad4 nin0))
  have O_ad5 := O_ad5.keep K1 (ninS (Ne.symm ne_ad3_ad5) (ninS (Ne.symm ne_ad4_ad5) nin0))
  have A_ad2 := A_ad2.keep K1 (ninS ne_ad2_ad3 (ninS ne_ad2_ad4 nin0))
  have OL := OL.keep K1 (allS g_ad3 (allS g_ad4 all0))
  have KK := KK.trans K1 (allS (P := fun z => z ∈ _ ∨ _ ≤ z) (Or.inl (List.mem_of_getElem? (i := 1) rfl)) (allS (P := fun z => z ∈ _ ∨ _ ≤ z) (Or.inl (List.mem_of_getElem? (i := 2) rfl)) all0))
  refine G.cast (st' := []) ?_ rfl
  refine g_aloadN cx d17_8 rfl rfl ?_
  refine g_dup cx d17_9 rfl ?_
  refine g_getF cx d17_10 (host := "") (Or.inl (hw _ (List.mem_of_getElem? (i := 36) rfl))) Via.refl O_ad0.2.2.2.1 ?_
  refine g_aloadN cx d17_13 rfl rfl ?_
  refine g_virtual cx (y := (⟨"com/example/thalweg/thalweg/node/Pace$Sample", "bytes", "()J"⟩ : MethodName)) (z := (⟨"com/example/thalweg/thalweg/node/Pace$Sample", "bytes", "()J"⟩ : MethodName)) (a := ad5) d17_14 (hw _ (List.mem_of_getElem? (i := 119) rfl)) (hw _ (List.mem_of_getElem? (i := 120) rfl)) (hw _ (List.mem_of_getElem? (i := 92) rfl)) (hw _ (List.mem_of_getElem? (i := 123) rfl)) (hw _ (List.mem_of_getElem? (i := 122) rfl)) (hw _ (List.mem_of_getElem? (i := 121) rfl)) rfl (by decide) O_ad5.1 (bytes := prog_55_method_6_code) (maxL' := 1) (M := (ra21 l Z a0 hw  ad5 x2 x3 x4 x5 _ O_ad5 g_ad5 OL)) rfl (lenOf pd_9 rfl) (by decide) (W := 3) (Nat.le_of_eq rfl) (by decide) (k' := 0) (n' := 0) rfl rfl (by decide) (by decide) (argsL := []) (rest := [(.long (0 : Int64)), (.ref ad0)]) rfl (fun v7 h6 q8 => ?_)
  obtain ⟨rfl, rfl⟩ := q8
  refine G.cast (st' := [(.long x3), (.long (0 : Int64)), (.ref ad0)]) ?_ rfl
  refine g_ladd cx d17_17 ?_
  rw [Int64.zero_add]
  refine g_putF cx d17_18 (host := "") (Or.inl (hw _ (List.mem_of_getElem? (i := 36) rfl))) Via.refl O_ad0.2.2.2.1 O_ad0.1 (Or.inl (hw _ (List.mem_of_getElem? (i := 37) rfl))) (hw _ (List.mem_of_getElem? (i := 2) rfl)) (ty := .long) (by decide) rfl rfl g_ad0 (fun h9 W10 => ?_)
  have O_ad0 := O_ad0.put3 hw W10
  have O_ad1 := O_ad1.oth W10 (Ne.symm ne_ad0_ad1)
  have O_ad3 := O_ad3.oth W10 (Ne.symm ne_ad0_ad3)
  have O_ad5 := O_ad5.oth W10 (Ne.symm ne_ad0_ad5)
  have A_ad2 := A_ad2.other W10 (Ne.symm ne_ad0_ad2)
  have A_ad4 := A_ad4.other W10 (Ne.symm ne_ad0_ad4)
  have OL := OL.wr W10 g_ad0
  have KK := KK.wr W10 (Or.inl (List.mem_of_getElem? (i := 0) rfl))
  refine g_aloadN cx d17_21 rfl rfl ?_
  refine g_dup cx d17_22 rfl ?_
  refine g_getF cx d17_23 (host := "") (Or.inl (hw _ (List.mem_of_getElem? (i := 124) rfl))) Via.refl O_ad0.2.2.2.2.2.2.2.2 ?_
  refine g_aloadN cx d17_26 rfl rfl ?_
  refine g_virtual cx (y := (⟨"com/example/thalweg/thalweg/node/Pace$Sample", "busyNs", "()J"⟩ : MethodName)) (z := (⟨"com/example/thalweg/thalweg/node/Pace$Sample", "busyNs", "()J"⟩ : MethodName)) (a := ad5) d17_27 (hw _ (List.mem_of_getElem? (i := 126) rfl)) (hw _ (List.mem_of_getElem? (i := 127) rfl)) (hw _ (List.mem_of_getElem? (i := 92) rfl)) (hw _ (List.mem_of_getElem? (i := 130) rfl)) (hw _ (List.mem_of_getElem? (i := 129) rfl)) (hw _ (List.mem_of_getElem? (i := 128) rfl)) rfl (by decide) O_ad5.1 (bytes := prog_55_method_7_code) (maxL' := 1) (M := (ra22 l Z a0 hw  ad5 x2 x3 x4 x5 _ O_ad5 g_ad5 OL)) rfl (lenOf pd_9 rfl) (by decide) (W := 3) (Nat.le_of_eq rfl) (by decide) (k' := 0) (n' := 0) rfl rfl (by decide) (by decide) (argsL := []) (rest := [(.long (0 : Int64)), (.ref ad0)]) rfl (fun v13 h12 q14 => ?_)
  obtain ⟨rfl, rfl⟩ := q14
  refine G.cast (st' := [(.long x4), (.long (0 : Int64)), (.ref ad0)]) ?_ rfl
  refine g_ladd cx d17_30 ?_
  rw [Int64.zero_add]
  refine g_putF cx d17_31 (host := "") (Or.inl (hw _ (List.mem_of_getElem? (i := 124) rfl))) Via.refl O_ad0.2.2.2.2.2.2.2.2 O_ad0.1 (Or.inl (hw _ (List.mem_of_getElem? (i := 125) rfl))) (hw _ (List.mem_of_getElem? (i := 2) rfl)) (ty := .long) (by decide) rfl rfl g_ad0 (fun h15 W16 => ?_)
  have O_ad0 := O_ad0.put8 hw W16
  have O_ad1 := O_ad1.oth W16 (Ne.symm ne_ad0_ad1)
  have O_ad3 := O_ad3.oth W16 (Ne.symm ne_ad0_ad3)
  have O_ad5 := O_ad5.oth W16 (Ne.symm ne_ad0_ad5)
  have A_ad2 := A_ad2.other W16 (Ne.symm ne_ad0_ad2)
  have A_ad4 := A_ad4.other W16 (Ne.symm ne_ad0_ad4)
  have OL := OL.wr W16 g_ad0
  have KK := KK.wr W16 (Or.inl (List.mem_of_getElem? (i := 0) rfl))
  refine g_aloadN cx d17_34 rfl rfl ?_
  refine g_getF cx d17_35 (host := "") (Or.inl (hw _ (List.mem_of_getElem? (i := 29) rfl))) Via.refl O_ad0.2.2.1 ?_
  refine g_virtual cx (y := (⟨"java/util/ArrayDeque", "size", "()I"⟩ : MethodName)) (z := (⟨"java/util/ArrayDeque", "size", "()I"⟩ : MethodName)) (a := ad3) d17_38 (hw _ (List.mem_of_getElem? (i := 131) rfl)) (hw _ (List.mem_of_getElem? (i := 132) rfl)) (hw _ (List.mem_of_getElem? (i := 12) rfl)) (hw _ (List.mem_of_getElem? (i := 135) rfl)) (hw _ (List.mem_of_getElem? (i := 134) rfl)) (hw _ (List.mem_of_getElem? (i := 133) rfl)) rfl (by decide) O_ad3.1 (bytes := jdk_21_method_37_code) (maxL' := 1) (M := (ra23 l Z a0 hw  ad3 ad4 ad5 x2 x3 x4 x5 cA_ad4 _ O_ad3 O_ad5 A_ad4 OV_ad4 ne_ad3_ad4 ne_ad3_ad5 ne_ad4_ad5 g_ad3 g_ad4 g_ad5 OL)) rfl (lenOf pd_11 rfl) (by decide) (W := 0) (Nat.le_of_eq rfl) (by decide) (k' := 0) (n' := 0) rfl rfl (by decide) (by decide) (argsL := []) (rest := []) rfl (fun v19 h18 q20 => ?_)
  obtain ⟨rfl, rfl⟩ := q20
  refine G.cast (st' := [(.int (1 : Int32))]) ?_ rfl
  refine g_iconst cx d17_41 (v := (1 : Int32)) rfl ?_
  refine g_icmp_le cx d17_42 (fun hc42 => ?_) (fun q => absurd q (fun q => by revert q; decide))
  refine g_retV cx d17_110 rfl (by decide) (by decide) ?_
  exact ⟨rfl, KK, O_ad0, O_ad3, A_ad4⟩
theorem pn_ra26 : plainName "com/example/thalweg/thalweg/node/Pace" = true := by first | (simp [plainName, overriddenIn]; done) | decide +kernel
set_option maxRecDepth 65536 in
set_option maxHeartbeats 40000000 in
theorem ra26 (l : Launch) (Z : State) (a0 : Array Value) (hw : ∀ d ∈ tables_1, d.before a0 Z = true)  (ad0 ad1 ad2 ad3 ad4 ad5 ad6 : Addr) (x0 : Int64) (x1 : Int64) (x2 : Int64) (x3 : Int64) (x4 : Int64) (cA_ad2 : ClassId) (cA_ad3 : ClassId) (cA_ad4 : ClassId) (cA_ad6 : ClassId) (h0 : Heap) (O_ad0 : ObP Z h0 ad0 (.ref ad1) (.ref ad5) (.long (0 : Int64)) (.long x1) (.long x3) (.long (2 : Int64)) (.long (0 : Int64)) (.long (0 : Int64))) (O_ad1 : ObD Z h0 ad1 (.ref ad2) (.int (0 : Int32)) (.int (2 : Int32))) (O_ad5 : ObD Z h0 ad5 (.ref ad6) (.int (0 : Int32)) (.int (0 : Int32))) (A_ad2 : Arx Z h0 ad2 cA_ad2 (.object "java/lang/Object") (17 : Int32) [(.ref ad3), (.ref ad4), .null, .null, .null, .null, .null, .null, .null, .null, .null, .null, .null, .null, .null, .null, .null] .null "[Ljava/lang/Object;") (A_ad3 : Arx Z h0 ad3 cA_ad3 .long (2 : Int32) [(.long x0), (.long x1)] (.long (0 : Int64)) "[J") (A_ad4 : Arx Z h0 ad4 cA_ad4 .long (2 : Int32) [(.long x2), (.long x1)] (.long (0 : Int64)) "[J") (A_ad6 : Arx Z h0 ad6 cA_ad6 (.object "java/lang/Object") (17 : Int32) [.null, .null, .null, .null, .null, .null, .null, .null, .null, .null, .null, .null, .null, .null, .null, .null, .null] .null "[Ljava/lang/Object;") (OV_ad2 : Ovr Z cA_ad2 "java/lang/Object") (OV_ad6 : Ovr Z cA_ad6 "java/lang/Object") (ne_ad0_ad1 : ad0 ≠ ad1) (ne_ad0_ad2 : ad0 ≠ ad2) (ne_ad1_ad2 : ad1 ≠ ad2) (ne_ad0_ad3 : ad0 ≠ ad3) (ne_ad1_ad3 : ad1 ≠ ad3) (ne_ad2_ad3 : ad2 ≠ ad3) (ne_ad0_ad4 : ad0 ≠ ad4) (ne_ad1_ad4 : ad1 ≠ ad4) (ne_ad2_ad4 : ad2 ≠ ad4) (ne_ad3_ad4 : ad3 ≠ ad4) (ne_ad0_ad5 : ad0 ≠ ad5) (ne_ad1_ad5 : ad1 ≠ ad5) (ne_ad2_ad5 : ad2 ≠ ad5) (ne_ad3_ad5 : ad3 ≠ ad5) (ne_ad4_ad5 : ad4 ≠ ad5) (ne_ad0_ad6 : ad0 ≠ ad6) (ne_ad1_ad6 : ad1 ≠ ad6) (ne_ad2_ad6 : ad2 ≠ ad6) (ne_ad3_ad6 : ad3 ≠ ad6) (ne_ad4_ad6 : ad4 ≠ ad6) (ne_ad5_ad6 : ad5 ≠ ad6) (g_ad0 : Z.heap.size ≤ ad0) (g_ad1 : Z.heap.size ≤ ad1) (g_ad2 : Z.heap.size ≤ ad2) (g_ad3 : Z.heap.size ≤ ad3) (g_ad4 : Z.heap.size ≤ ad4) (g_ad5 : Z.heap.size ≤ ad5) (g_ad6 : Z.heap.size ≤ ad6) (OL : Old Z Z.heap.size h0) :
    Met l Z (⟨"com/example/thalweg/thalweg/node/Pace", "taken", "(JJ)V"⟩ : MethodName) prog_54_method_3_code 10 none ({ frames := 3, cells := 1, slots := 4, locals := 46 } : Room) #[(.ref ad0), (.long (2 : Int64)), (.long x4)] h0 (fun v h' => (∃ (b16 : Addr) , v = none ∧ Keep h0 h' [ad0, ad1, ad2, ad5, ad6] ∧ h0.size ≤ b16 ∧ ObS Z h' b16 (.long x4) (.long (x0 + x2)) (.long (own_max (1 : Int64) (x4 - x1))) (.long (x4 - x1)) ∧ ObP Z h' ad0 (.ref ad1) (.ref ad5) (.long (x0 + x2)) (.long x4) (.long (x3 - (x0 + x2))) (.long (2 : Int64)) (.long (2 : Int64)) (.long (own_max (1 : Int64) (x4 - x1))) ∧ ObD Z h' ad1 (.ref ad2) (.int (2 : Int32)) (.int (2 : Int32)) ∧ Arx Z h' ad2 cA_ad2 (.object "java/lang/Object") (17 : Int32) [.null, .null, .null, .null, .null, .null, .null, .null, .null, .null, .null, .null, .null, .null, .null, .null, .null] .null "[Ljava/lang/Object;" ∧ ObD Z h' ad5 (.ref ad6) (.int (0 : Int32)) (.int (1 : Int32)) ∧ Arx Z h' ad6 cA_ad6 (.object "java/lang/Object") (17 : Int32) [(.ref b16), .null, .null, .null, .null, .null, .null, .null, .null, .null, .null, .null, .null, .null, .null, .null, .null] .null "[Ljava/lang/Object;")) := by
  refine met_of (Ls := #[.val (.ref ad0), .val (.long (2 : Int64)), .second, .val (.long x4), .second, .unset, .unset, .unset, .unset, .unset]) (plainFor_of_name pn_ra26) (fun m => by first | (simp [entryFrame, mkF, argsToLocals, Value.category]; done) | rfl) (fun p e s m below meth c cx => ?_)
  have KK := Keep.refl h0 [ad0, ad1, ad2, ad5, ad6]
  refine g_lloadN cx d10_0 rfl ?_
  refine g_aloadN cx d10_1 rfl rfl ?_
  refine g_getF cx d10_2 (host := "") (Or.inl (hw _ (List.mem_of_getElem? (i := 73) rfl))) Via.refl O_ad0.2.2.2.2.2.2.2.1 ?_
  refine g_lif_lt cx d10_5 d10_6 (fun q => absurd q (fun q => by revert q; decide)) (fun hc6 => ?_)
  refine g_lloadN cx d10_9 rfl ?_
  refine g_aloadN cx d10_10 rfl rfl ?_
  refine g_getF cx d10_11 (host := "") (Or.inl (hw _ (List.mem_of_getElem? (i := 66) rfl))) Via.refl O_ad0.2.2.2.2.2.2.1 ?_
  refine g_lif_le cx d10_14 d10_15 (fun hc15 => ?_) (fun q => absurd q (fun q => by revert q; decide))
  refine g_lloadN cx d10_40 rfl ?_
  refine g_aloadN cx d10_41 rfl rfl ?_
  refine g_getF cx d10_42 (host := "") (Or.inl (hw _ (List.mem_of_getElem? (i := 73) rfl))) Via.refl O_ad0.2.2.2.2.2.2.2.1 ?_
  refine g_lif_ne cx d10_45 d10_46 (fun hc46 => ?_) (fun q => absurd q (fun q => by revert q; decide))
  refine g_lconst cx d10_50 (v := (0 : Int64)) rfl ?_
  refine g_lstore cx d10_51 (Ls' := #[.val (.ref ad0), .val (.long (2 : Int64)), .second, .val (.long x4), .second, .val (.long (0 : Int64)), .second, .unset, .unset, .unset]) rfl ?_
  refine g_lconst cx d10_53 (v := (0 : Int64)) rfl ?_
  refine g_lstore cx d10_54 (Ls' := #[.val (.ref ad0), .val (.long (2 : Int64)), .second, .val (.long x4), .second, .val (.long (0 : Int64)), .second, .val (.long (0 : Int64)), .second, .unset]) rfl ?_
  refine g_aloadN cx d10_56 rfl rfl ?_
  refine g_getF cx d10_57 (host := "") (Or.inl (hw _ (List.mem_of_getElem? (i := 73) rfl))) Via.refl O_ad0.2.2.2.2.2.2.2.1 ?_
  refine g_lloadN cx d10_60 rfl ?_
  refine g_lif_ge cx d10_61 d10_62 (fun q => absurd q (fun q => by revert q; decide)) (fun hc62 => ?_)
  refine g_aloadN cx d10_65 rfl rfl ?_
  refine g_getF cx d10_66 (host := "") (Or.inl (hw _ (List.mem_of_getElem? (i := 27) rfl))) Via.refl O_ad0.2.1 ?_
  refine g_virtual cx (y := (⟨"java/util/ArrayDeque", "removeFirst", "()Ljava/lang/Object;"⟩ : MethodName)) (z := (⟨"java/util/ArrayDeque", "removeFirst", "()Ljava/lang/Object;"⟩ : MethodName)) (a := ad1) d10_69 (hw _ (List.mem_of_getElem? (i := 75) rfl)) (hw _ (List.mem_of_getElem? (i := 76) rfl)) (hw _ (List.mem_of_getElem? (i := 12) rfl)) (hw _ (List.mem_of_getElem? (i := 79) rfl)) (hw _ (List.mem_of_getElem? (i := 78) rfl)) (hw _ (List.mem_of_getElem? (i := 77) rfl)) rfl (by decide) O_ad1.1 (bytes := jdk_21_method_18_code) (maxL' := 2) (M := (ra15 l Z a0 hw  ad1 ad2 ad3 ad4 x0 x1 x2 cA_ad2 cA_ad3 cA_ad4 _ O_ad1 A_ad2 A_ad3 A_ad4 OV_ad2 ne_ad1_ad2 ne_ad1_ad3 ne_ad2_ad3 ne_ad1_ad4 ne_ad2_ad4 ne_ad3_ad4 g_ad1 g_ad2 g_ad3 g_ad4 OL)) rfl (lenOf pd_6 rfl) (by decide) (W := 0) (Nat.le_of_eq rfl) (by decide) (k' := 0) (n' := 0) rfl rfl (by decide) (by decide) (argsL := []) (rest := []) rfl (fun v3 h2 q4 => ?_)
  obtain ⟨rfl, K1, O_ad1, A_ad2⟩ := q4
  have O_ad0 := O_ad0.keep K1 (ninS ne_ad0_ad1 (ninS ne_ad0_ad2 nin0))
  have O_ad5 := O_ad5.keep K1 (ninS (Ne.symm ne_ad1_ad5) (ninS (Ne.symm ne_ad2_ad5) nin0))
  have A_ad3 := A_ad3.keep K1 (ninS (Ne.symm ne_ad1_ad3) (ninS (Ne.symm ne_ad2_ad3) nin0))
  have A_ad4 := A_ad4.keep K1 (ninS (Ne.symm ne_ad1_ad4) (ninS (Ne.symm ne_ad2_ad4) nin0))
  have A_ad6 := A_ad6.keep K1 (ninS (Ne.symm ne_ad1_ad6) (ninS (Ne.symm ne_ad2_ad6) nin0))
  have OL := OL.keep K1 (allS g_ad1 (allS g_ad2 all0))
  have KK := KK.trans K1 (allS (P := fun z => z ∈ _ ∨ _ ≤ z) (Or.inl (List.mem_of_getElem? (i := 1) rfl)) (allS (P := fun z => z ∈ _ ∨ _ ≤ z) (Or.inl (List.mem_of_getElem? (i := 2) rfl)) all0))
  refine G.cast (st' := [(.ref ad3)]) ?_ rfl
  refine g_checkcast cx d10_72 (hw _ (List.mem_of_getElem? (i := 88) rfl)) (Ins.self A_ad3.2) ?_
  refine g_astore cx d10_75 rfl (Ls' := #[.val (.ref ad0), .val (.long (2 : Int64)), .second, .val (.long x4), .second, .val (.long (0 : Int64)), .second, .val (.long (0 : Int64)), .second, .val (.ref ad3)]) rfl ?_
  refine g_lload cx d10_77 rfl ?_
  refine g_aload cx d10_79 rfl rfl ?_
  refine g_iconst cx d10_81 (v := (0 : Int32)) rfl ?_
  refine g_laload cx d10_82 A_ad3.1 ⟨by decide, by decide⟩ (v := (.long x0)) rfl ?_
  refine g_ladd cx d10_83 ?_
  rw [Int64.zero_add]
  refine g_lstore cx d10_84 (Ls' := #[.val (.ref ad0), .val (.long (2 : Int64)), .second, .val (.long x4), .second, .val (.long x0), .second, .val (.long (0 : Int64)), .second, .val (.ref ad3)]) rfl ?_
  refine g_aload cx d10_86 rfl rfl ?_
  refine g_iconst cx d10_88 (v := (1 : Int32)) rfl ?_
  refine g_laload cx d10_89 A_ad3.1 ⟨by decide, by decide⟩ (v := (.long x1)) rfl ?_
  refine g_lstore cx d10_90 (Ls' := #[.val (.ref ad0), .val (.long (2 : Int64)), .second, .val (.long x4), .second, .val (.long x0), .second, .val (.long x1), .second, .val (.ref ad3)]) rfl ?_
  refine g_aloadN cx d10_92 rfl rfl ?_
  refine g_dup cx d10_93 rfl ?_
  refine g_getF cx d10_94 (host := "") (Or.inl (hw _ (List.mem_of_getElem? (i := 73) rfl))) Via.refl O_ad0.2.2.2.2.2.2.2.1 ?_
  refine g_lconst cx d10_97 (v := (1 : Int64)) rfl ?_
  refine g_ladd cx d10_98 ?_
  refine G.cast (st' := [(.long (1 : Int64)), (.ref ad0)]) ?_ rfl
  refine g_putF cx d10_99 (host := "") (Or.inl (hw _ (List.mem_of_getElem? (i := 73) rfl))) Via.refl O_ad0.2.2.2.2.2.2.2.1 O_ad0.1 (Or.inl (hw _ (List.mem_of_getElem? (i := 74) rfl))) (hw _ (List.mem_of_getElem? (i := 2) rfl)) (ty := .long) (by decide) rfl rfl g_ad0 (fun h5 W6 => ?_)
  have O_ad0 := O_ad0.put7 hw W6
  have O_ad1 := O_ad1.oth W6 (Ne.symm ne_ad0_ad1)
  have O_ad5 := O_ad5.oth W6 (Ne.symm ne_ad0_ad5)
  have A_ad2 := A_ad2.other W6 (Ne.symm ne_ad0_ad2)
  have A_ad3 := A_ad3.other W6 (Ne.symm ne_ad0_ad3)
  have A_ad4 := A_ad4.other W6 (Ne.symm ne_ad0_ad4)
  have A_ad6 := A_ad6.other W6 (Ne.symm ne_ad0_ad6)
  have OL := OL.wr W6 g_ad0
  have KK := KK.wr W6 (Or.inl (List.mem_of_getElem? (i := 0) rfl))
  refine g_goto cx d10_102 ?_
  refine g_aloadN cx d10_56 rfl rfl ?_
  refine g_getF cx d10_57 (host := "") (Or.inl (hw _ (List.mem_of_getElem? (i := 73) rfl))) Via.refl O_ad0.2.2.2.2.2.2.2.1 ?_
  refine g_lloadN cx d10_60 rfl ?_
  refine g_lif_ge cx d10_61 d10_62 (fun q => absurd q (fun q => by revert q; decide)) (fun hc62x => ?_)
  refine g_aloadN cx d10_65 rfl rfl ?_
  refine g_getF cx d10_66 (host := "") (Or.inl (hw _ (List.mem_of_getElem? (i := 27) rfl))) Via.refl O_ad0.2.1 ?_
  refine g_virtual cx (y := (⟨"java/util/ArrayDeque", "removeFirst", "()Ljava/lang/Object;"⟩ : MethodName)) (z := (⟨"java/util/ArrayDeque", "removeFirst", "()Ljava/lang/Object;"⟩ : MethodName)) (a := ad1) d10_69 (hw _ (List.mem_of_getElem? (i := 75) rfl)) (hw _ (List.mem_of_getElem? (i := 76) rfl)) (hw _ (List.mem_of_getElem? (i := 12) rfl)) (hw _ (List.mem_of_getElem? (i := 79) rfl)) (hw _ (List.mem_of_getElem? (i := 78) rfl)) (hw _ (List.mem_of_getElem? (i := 77) rfl)) rfl (by decide) O_ad1.1 (bytes := jdk_21_method_18_code) (maxL' := 2) (M := (ra27 l Z a0 hw  ad1 ad2 ad4 x2 x1 cA_ad2 cA_ad4 _ O_ad1 A_ad2 A_ad4 OV_ad2 ne_ad1_ad2 ne_ad1_ad4 ne_ad2_ad4 g_ad1 g_ad2 g_ad4 OL)) rfl (lenOf pd_6 rfl) (by decide) (W := 0) (Nat.le_of_eq rfl) (by decide) (k' := 0) (n' := 0) rfl rfl (by decide) (by decide) (argsL := []) (rest := []) rfl (fun v9 h8 q10 => ?_)
  obtain ⟨rfl, K7, O_ad1, A_ad2⟩ := q10
  have O_ad0 := O_ad0.keep K7 (ninS ne_ad0_ad1 (ninS ne_ad0_ad2 nin0))
  have O_ad5 := O_ad5.keep K7 (ninS (Ne.symm ne_ad1_ad5) (ninS (Ne.symm ne_ad2_ad5) nin0))
  have A_ad3 := A_ad3.keep K7 (ninS (Ne.symm ne_ad1_ad3) (ninS (Ne.symm ne_ad2_ad3) nin0))
  have A_ad4 := A_ad4.keep K7 (ninS (Ne.symm ne_ad1_ad4) (ninS (Ne.symm ne_ad2_ad4) nin0))
  have A_ad6 := A_ad6.keep K7 (ninS (Ne.symm ne_ad1_ad6) (ninS (Ne.symm ne_ad2_ad6) nin0))
  have OL := OL.keep K7 (allS g_ad1 (allS g_ad2 all0))
  have KK := KK.trans K7 (allS (P := fun z => z ∈ _ ∨ _ ≤ z) (Or.inl (List.mem_of_getElem? (i := 1) rfl)) (allS (P := fun z => z ∈ _ ∨ _ ≤ z) (Or.inl (List.mem_of_getElem? (i := 2) rfl)) all0))
  refine G.cast (st' := [(.ref ad4)]) ?_ rfl
  refine g_checkcast cx d10_72 (hw _ (List.mem_of_getElem? (i := 88) rfl)) (Ins.self A_ad4.2) ?_
  refine g_astore cx d10_75 rfl (Ls' := #[.val (.ref ad0), .val (.long (2 : Int64)), .second, .val (.long x4), .second, .val (.long x0), .second, .val (.long x1), .second, .val (.ref ad4)]) rfl ?_
  refine g_lload cx d10_77 rfl ?_
  refine g_aload cx d10_79 rfl rfl ?_
  refine g_iconst cx d10_81 (v := (0 : Int32)) rfl ?_
  refine g_laload cx d10_82 A_ad4.1 ⟨by decide, by decide⟩ (v := (.long x2)) rfl ?_
  refine g_ladd cx d10_83 ?_
  refine g_lstore cx d10_84 (Ls' := #[.val (.ref ad0), .val (.long (2 : Int64)), .second, .val (.long x4), .second, .val (.long (x0 + x2)), .second, .val (.long x1), .second, .val (.ref ad4)]) rfl ?_
  refine g_aload cx d10_86 rfl rfl ?_
  refine g_iconst cx d10_88 (v := (1 : Int32)) rfl ?_
  refine g_laload cx d10_89 A_ad4.1 ⟨by decide, by decide⟩ (v := (.long x1)) rfl ?_
  refine g_lstore cx d10_90 (Ls' := #[.val (.ref ad0), .val (.long (2 : Int64)), .second, .val (.long x4), .second, .val (.long (x0 + x2)), .second, .val (.long x1), .second, .val (.ref ad4)]) rfl ?_
  refine g_aloadN cx d10_92 rfl rfl ?_
  refine g_dup cx d10_93 rfl ?_
  refine g_getF cx d10_94 (host := "") (Or.inl (hw _ (List.mem_of_getElem? (i := 73) rfl))) Via.refl O_ad0.2.2.2.2.2.2.2.1 ?_
  refine g_lconst cx d10_97 (v := (1 : Int64)) rfl ?_
  refine g_ladd cx d10_98 ?_
  refine G.cast (st' := [(.long (2 : Int64)), (.ref ad0)]) ?_ rfl
  refine g_putF cx d10_99 (host := "") (Or.inl (hw _ (List.mem_of_getElem? (i := 73) rfl))) Via.refl O_ad0.2.2.2.2.2.2.2.1 O_ad0.1 (Or.inl (hw _ (List.mem_of_getElem? (i := 74) rfl))) (hw _ (List.mem_of_getElem? (i := 2) rfl)) (ty := .long) (by decide) rfl rfl g_ad0 (fun h11 W12 => ?_)
  have O_ad0 := O_ad0.put7 hw W12
  have O_ad1 := O_ad1.oth W12 (Ne.symm ne_ad0_ad1)
  have O_ad5 := O_ad5.oth W12 (Ne.symm ne_ad0_ad5)
  have A_ad2 := A_ad2.other W12 (Ne.symm ne_ad0_ad2)
  have A_ad3 := A_ad3.other W12 (Ne.symm ne_ad0_ad3)
  have A_ad4 := A_ad4.other W12 (Ne.symm ne_ad0_ad4)
  have A_ad6 := A_ad6.other W12 (Ne.symm ne_ad0_ad6)
  have OL := OL.wr W12 g_ad0
  have KK := KK.wr W12 (Or.inl (List.mem_of_getElem? (i := 0) rfl))
  refine g_goto cx d10_102 ?_
  refine g_aloadN cx d10_56 rfl rfl ?_
  refine g_getF cx d10_57 (host := "") (Or.inl (hw _ (List.mem_of_getElem? (i := 73) rfl))) Via.refl O_ad0.2.2.2.2.2.2.2.1 ?_
  refine g_lloadN cx d10_60 rfl ?_
  refine g_lif_ge cx d10_61 d10_62 (fun hc62xx => ?_) (fun q => absurd q (fun q => by revert q; decide))
  refine g_aloadN cx d10_105 rfl rfl ?_
  refine g_dup cx d10_106 rfl ?_
  refine g_getF cx d10_107 (host := "") (Or.inl (hw _ (List.mem_of_getElem? (i := 64) rfl))) Via.refl O_ad0.2.2.2.2.2.1 ?_
  refine g_lload cx d10_110 rfl ?_
  refine g_lsub cx d10_112 ?_
  refine g_putF cx d10_113 (host := "") (Or.inl (hw _ (List.mem_of_getElem? (i := 64) rfl))) Via.refl O_ad0.2.2.2.2.2.1 O_ad0.1 (Or.inl (hw _ (List.mem_of_getElem? (i := 65) rfl))) (hw _ (List.mem_of_getElem? (i := 2) rfl)) (ty := .long) (by decide) rfl rfl g_ad0 (fun h13 W14 => ?_)
  have O_ad0 := O_ad0.put5 hw W14
  have O_ad1 := O_ad1.oth W14 (Ne.symm ne_ad0_ad1)
  have O_ad5 := O_ad5.oth W14 (Ne.symm ne_ad0_ad5)
  have A_ad2 := A_ad2.other W14 (Ne.symm ne_ad0_ad2)
  have A_ad3 := A_ad3.other W14 (Ne.symm ne_ad0_ad3)
  have A_ad4 := A_ad4.other W14 (Ne.symm ne_ad0_ad4)
  have A_ad6 := A_ad6.other W14 (Ne.symm ne_ad0_ad6)
  have OL := OL.wr W14 g_ad0
  have KK := KK.wr W14 (Or.inl (List.mem_of_getElem? (i := 0) rfl))
  refine g_aloadN cx d10_116 rfl rfl ?_
  refine g_new cx d10_117 (hw _ (List.mem_of_getElem? (i := 90) rfl)) (hw _ (List.mem_of_getElem? (i := 91) rfl)) (hw _ (List.mem_of_getElem? (i := 92) rfl)) (k' := 1) (n' := 4) rfl rfl (by decide) (by decide) (fun h15 b16 gb17 E18 X19 D20 => ?_)
  have ne_ad0_b16 : ad0 ≠ b16 := Nat.ne_of_lt (by rw [gb17]; exact O_ad0.lt)
  have ne_ad1_b16 : ad1 ≠ b16 := Nat.ne_of_lt (by rw [gb17]; exact O_ad1.lt)
  have ne_ad5_b16 : ad5 ≠ b16 := Nat.ne_of_lt (by rw [gb17]; exact O_ad5.lt)
  have ne_ad2_b16 : ad2 ≠ b16 := Nat.ne_of_lt (by rw [gb17]; exact A_ad2.lt)
  have ne_ad3_b16 : ad3 ≠ b16 := Nat.ne_of_lt (by rw [gb17]; exact A_ad3.lt)
  have ne_ad4_b16 : ad4 ≠ b16 := Nat.ne_of_lt (by rw [gb17]; exact A_ad4.lt)
  have ne_ad6_b16 : ad6 ≠ b16 := Nat.ne_of_lt (by rw [gb17]; exact A_ad6.lt)
  have g_b16 : Z.heap.size ≤ b16 := by rw [gb17]; exact OL.2.1
  have sz_b16 := (by rw [gb17]; exact KK.1 : h0.size ≤ b16)
  have O_ad0 := O_ad0.ext E18
  have O_ad1 := O_ad1.ext E18
  have O_ad5 := O_ad5.ext E18
  have A_ad2 := A_ad2.ext E18
  have A_ad3 := A_ad3.ext E18
  have A_ad4 := A_ad4.ext E18
  have A_ad6 := A_ad6.ext E18
  have OL := OL.ext E18
  have KK := KK.ext E18
  have O_b16 := ObS.new hw X19 D20
  refine g_dup cx d10_120 rfl ?_
  refine g_lloadN cx d10_121 rfl ?_
  refine g_lload cx d10_122 rfl ?_
  refine g_lconst cx d10_124 (v := (1 : Int64)) rfl ?_
  refine g_lloadN cx d10_125 rfl ?_
  refine g_aloadN cx d10_126 rfl rfl ?_
  refine g_getF cx d10_127 (host := "") (Or.inl (hw _ (List.mem_of_getElem? (i := 52) rfl))) Via.refl O_ad0.2.2.2.2.1 ?_
  refine g_lsub cx d10_130 ?_
  refine g_static cx (y := (⟨"java/lang/Math", "max", "(JJ)J"⟩ : MethodName)) d10_131 (hw _ (List.mem_of_getElem? (i := 93) rfl)) (hw _ (List.mem_of_getElem? (i := 94) rfl)) (hw _ (List.mem_of_getElem? (i := 95) rfl)) (hw _ (List.mem_of_getElem? (i := 96) rfl)) (by decide) (bytes := jdk_29_method_66_code) (maxL' := 4) (M := (rm3 l Z a0 hw _ _ _)) rfl (lenOf pd_7 rfl) (by decide) (W := 7) (Nat.le_of_eq rfl) (by decide) (k' := 1) (n' := 4) rfl rfl (by decide) (by decide) (argsL := [(.long (1 : Int64)), (.long (x4 - x1))]) (rest := [(.long (x0 + x2)), (.long x4), (.ref b16), (.ref b16), (.ref ad0)]) rfl (fun v22 h21 q23 => ?_)
  obtain ⟨rfl, rfl⟩ := q23
  refine G.cast (st' := [(.long (own_max (1 : Int64) (x4 - x1))), (.long (x0 + x2)), (.long x4), (.ref b16), (.ref b16), (.ref ad0)]) ?_ rfl
  refine g_lloadN cx d10_134 rfl ?_
  refine g_lload cx d10_135 rfl ?_
  refine g_lsub cx d10_137 ?_
  refine g_specialRef cx (y := (⟨"com/example/thalweg/thalweg/node/Pace$Sample", "<init>", "(JJJJ)V"⟩ : MethodName)) (a := b16) d10_138 rfl rfl (hw _ (List.mem_of_getElem? (i := 97) rfl)) (hw _ (List.mem_of_getElem? (i := 98) rfl)) (hw _ (List.mem_of_getElem? (i := 92) rfl)) (hw _ (List.mem_of_getElem? (i := 99) rfl)) (by decide) (bytes := prog_55_method_1_code) (maxL' := 9) (M := (ra18 l Z a0 hw  b16 x4 (x0 + x2) (own_max (1 : Int64) (x4 - x1)) (x4 - x1) _ O_b16 g_b16 OL)) rfl (lenOf pd_8 rfl) (by decide) (W := 2) (Nat.le_of_eq rfl) (by decide) (k' := 1) (n' := 4) rfl rfl (by decide) (by decide) (argsL := [(.long x4), (.long (x0 + x2)), (.long (own_max (1 : Int64) (x4 - x1))), (.long (x4 - x1))]) (rest := [(.ref b16), (.ref ad0)]) rfl (fun v26 h25 q27 => ?_)
  obtain ⟨rfl, K24, O_b16⟩ := q27
  have O_ad0 := O_ad0.keep K24 (ninS ne_ad0_b16 nin0)
  have O_ad1 := O_ad1.keep K24 (ninS ne_ad1_b16 nin0)
  have O_ad5 := O_ad5.keep K24 (ninS ne_ad5_b16 nin0)
  have A_ad2 := A_ad2.keep K24 (ninS ne_ad2_b16 nin0)
  have A_ad3 := A_ad3.keep K24 (ninS ne_ad3_b16 nin0)
  have A_ad4 := A_ad4.keep K24 (ninS ne_ad4_b16 nin0)
  have A_ad6 := A_ad6.keep K24 (ninS ne_ad6_b16 nin0)
  have OL := OL.keep K24 (allS g_b16 all0)
  have KK := KK.trans K24 (allS (P := fun z => z ∈ _ ∨ _ ≤ z) (Or.inr sz_b16) all0)
  refine G.cast (st' := [(.ref b16), (.ref ad0)]) ?_ rfl
  refine g_private cx (y := (⟨"com/example/thalweg/thalweg/node/Pace", "addSample", "(Lcom/example/thalweg/thalweg/node/Pace$Sample;)V"⟩ : MethodName)) (a := ad0) d10_141 (hw _ (List.mem_of_getElem? (i := 114) rfl)) (hw _ (List.mem_of_getElem? (i := 115) rfl)) (hw _ (List.mem_of_getElem? (i := 3) rfl)) (hw _ (List.mem_of_getElem? (i := 117) rfl)) (own_selpriv (hw _ (List.mem_of_getElem? (i := 2) rfl)) (hw _ (List.mem_of_getElem? (i := 116) rfl)) (hw _ (List.mem_of_getElem? (i := 115) rfl)) (by decide)) (hw _ (List.mem_of_getElem? (i := 116) rfl)) (by decide) O_ad0.1 (bytes := prog_54_method_9_code) (maxL' := 3) (M := (ra30 l Z a0 hw  ad0 ad1 ad2 ad5 ad6 b16 x1 (x3 - (x0 + x2)) x4 (x0 + x2) (own_max (1 : Int64) (x4 - x1)) (x4 - x1) cA_ad2 cA_ad6 _ O_ad0 O_ad1 O_ad5 O_b16 A_ad2 A_ad6 OV_ad2 OV_ad6 ne_ad0_ad1 ne_ad0_ad2 ne_ad1_ad2 ne_ad0_ad5 ne_ad1_ad5 ne_ad2_ad5 ne_ad0_ad6 ne_ad1_ad6 ne_ad2_ad6 ne_ad5_ad6 ne_ad0_b16 ne_ad1_b16 ne_ad2_b16 ne_ad5_b16 ne_ad6_b16 g_ad0 g_ad1 g_ad2 g_ad5 g_ad6 g_b16 OL)) rfl (lenOf pd_12 rfl) (by decide) (W := 0) (Nat.le_of_eq rfl) (by decide) (k' := 1) (n' := 4) rfl rfl (by decide) (by decide) (argsL := [(.ref b16)]) (rest := []) rfl (fun v30 h29 q31 => ?_)
  obtain ⟨rfl, K28, O_ad0, O_ad5, A_ad6⟩ := q31
  have O_ad1 := O_ad1.keep K28 (ninS (Ne.symm ne_ad0_ad1) (ninS ne_ad1_ad5 (ninS ne_ad1_ad6 nin0)))
  have O_b16 := O_b16.keep K28 (ninS (Ne.symm ne_ad0_b16) (ninS (Ne.symm ne_ad5_b16) (ninS (Ne.symm ne_ad6_b16) nin0)))
  have A_ad2 := A_ad2.keep K28 (ninS (Ne.symm ne_ad0_ad2) (ninS ne_ad2_ad5 (ninS ne_ad2_ad6 nin0)))
  have A_ad3 := A_ad3.keep K28 (ninS (Ne.symm ne_ad0_ad3) (ninS ne_ad3_ad5 (ninS ne_ad3_ad6 nin0)))
  have A_ad4 := A_ad4.keep K28 (ninS (Ne.symm ne_ad0_ad4) (ninS ne_ad4_ad5 (ninS ne_ad4_ad6 nin0)))
  have OL := OL.keep K28 (allS g_ad0 (allS g_ad5 (allS g_ad6 all0)))
  have KK := KK.trans K28 (allS (P := fun z => z ∈ _ ∨ _ ≤ z) (Or.inl (List.mem_of_getElem? (i := 0) rfl)) (allS (P := fun z => z ∈ _ ∨ _ ≤ z) (Or.inl (List.mem_of_getElem? (i := 3) rfl)) (allS (P := fun z => z ∈ _ ∨ _ ≤ z) (Or.inl (List.mem_of_getElem? (i := 4) rfl)) all0)))
  refine G.cast (st' := []) ?_ rfl
  refine g_aloadN cx d10_144 rfl rfl ?_
  refine g_lloadN cx d10_145 rfl ?_
  refine g_putF cx d10_146 (host := "") (Or.inl (hw _ (List.mem_of_getElem? (i := 52) rfl))) Via.refl O_ad0.2.2.2.2.1 O_ad0.1 (Or.inl (hw _ (List.mem_of_getElem? (i := 53) rfl))) (hw _ (List.mem_of_getElem? (i := 2) rfl)) (ty := .long) (by decide) rfl rfl g_ad0 (fun h32 W33 => ?_)
  have O_ad0 := O_ad0.put4 hw W33
  have O_ad1 := O_ad1.oth W33 (Ne.symm ne_ad0_ad1)
  have O_ad5 := O_ad5.oth W33 (Ne.symm ne_ad0_ad5)
  have O_b16 := O_b16.oth W33 (Ne.symm ne_ad0_b16)
  have A_ad2 := A_ad2.other W33 (Ne.symm ne_ad0_ad2)
  have A_ad3 := A_ad3.other W33 (Ne.symm ne_ad0_ad3)
  have A_ad4 := A_ad4.other W33 (Ne.symm ne_ad0_ad4)
  have A_ad6 := A_ad6.other W33 (Ne.symm ne_ad0_ad6)
  have OL := OL.wr W33 g_ad0
  have KK := KK.wr W33 (Or.inl (List.mem_of_getElem? (i := 0) rfl))
  refine g_retV cx d10_149 rfl (by decide) (by decide) ?_
  exact ⟨b16, rfl, KK, sz_b16, O_b16, O_ad0, O_ad1, A_ad2, O_ad5, A_ad6⟩
theorem pn_ra31 : plainName "com/example/thalweg/thalweg/node/Pace" = true := by first | (simp [plainName, overriddenIn]; done) | decide +kernel
set_option maxRecDepth 65536 in
set_option maxHeartbeats 40000000 in
theorem ra31 (l : Launch) (Z : State) (a0 : Array Value) (hw : ∀ d ∈ tables_1, d.before a0 Z = true)  (ad0 ad1 ad2 ad3 ad4 ad5 : Addr) (x0 : Int64) (x1 : Int64) (x2 : Int64) (x3 : Int64) (x4 : Int64) (cA_ad2 : ClassId) (cA_ad4 : ClassId) (h0 : Heap) (O_ad0 : ObP Z h0 ad0 (.ref ad1) (.ref ad3) (.long x1) (.long x0) (.long x4) (.long (2 : Int64)) (.long (2 : Int64)) (.long x2)) (O_ad1 : ObD Z h0 ad1 (.ref ad2) (.int (2 : Int32)) (.int (2 : Int32))) (O_ad3 : ObD Z h0 ad3 (.ref ad4) (.int (0 : Int32)) (.int (1 : Int32))) (O_ad5 : ObS Z h0 ad5 (.long x0) (.long x1) (.long x2) (.long x3)) (A_ad2 : Arx Z h0 ad2 cA_ad2 (.object "java/lang/Object") (17 : Int32) [.null, .null, .null, .null, .null, .null, .null, .null, .null, .null, .null, .null, .null, .null, .null, .null, .null] .null "[Ljava/lang/Object;") (A_ad4 : Arx Z h0 ad4 cA_ad4 (.object "java/lang/Object") (17 : Int32) [(.ref ad5), .null, .null, .null, .null, .null, .null, .null, .null, .null, .null, .null, .null, .null, .null, .null, .null] .null "[Ljava/lang/Object;") (OV_ad2 : Ovr Z cA_ad2 "java/lang/Object") (OV_ad4 : Ovr Z cA_ad4 "java/lang/Object") (ne_ad0_ad1 : ad0 ≠ ad1) (ne_ad0_ad2 : ad0 ≠ ad2) (ne_ad1_ad2 : ad1 ≠ ad2) (ne_ad0_ad3 : ad0 ≠ ad3) (ne_ad1_ad3 : ad1 ≠ ad3) (ne_ad2_ad3 : ad2 ≠ ad3) (ne_ad0_ad4 : ad0 ≠ ad4) (ne_ad1_ad4 : ad1 ≠ ad4) (ne_ad2_ad4 : ad2 ≠ ad4) (ne_ad3_ad4 : ad3 ≠ ad4) (ne_ad0_ad5 : ad0 ≠ ad5) (ne_ad1_ad5 : ad1 ≠ ad5) (ne_ad2_ad5 : ad2 ≠ ad5) (ne_ad3_ad5 : ad3 ≠ ad5) (ne_ad4_ad5 : ad4 ≠ ad5) (g_ad0 : Z.heap.size ≤ ad0) (g_ad1 : Z.heap.size ≤ ad1) (g_ad2 : Z.heap.size ≤ ad2) (g_ad3 : Z.heap.size ≤ ad3) (g_ad4 : Z.heap.size ≤ ad4) (g_ad5 : Z.heap.size ≤ ad5) (OL : Old Z Z.heap.size h0) :
    Met l Z (⟨"com/example/thalweg/thalweg/node/Pace", "known", "()Z"⟩ : MethodName) prog_54_method_5_code 1 (some .boolean) ({ frames := 0, cells := 0, slots := 0, locals := 0 } : Room) #[(.ref ad0)] h0 (fun v h' => (¬ ((0 : Int64) < x1) ∧ v = some (.int (0 : Int32)) ∧ h0 = h') ∨ ((0 : Int64) < x1 ∧ v = some (.int (1 : Int32)) ∧ h0 = h')) := by
  refine met_of (Ls := #[.val (.ref ad0)]) (plainFor_of_name pn_ra31) (fun m => by first | (simp [entryFrame, mkF, argsToLocals, Value.category]; done) | rfl) (fun p e s m below meth c cx => ?_)
  have KK := Keep.refl h0 []
  refine g_aloadN cx d5_0 rfl rfl ?_
  refine g_getF cx d5_1 (host := "") (Or.inl (hw _ (List.mem_of_getElem? (i := 36) rfl))) Via.refl O_ad0.2.2.2.1 ?_
  refine g_lconst cx d5_4 (v := (0 : Int64)) rfl ?_
  refine g_lif_le cx d5_5 d5_6 (fun hc6 => ?_) (fun hc6 => ?_)
  · refine g_iconst cx d5_13 (v := (0 : Int32)) rfl ?_
    refine g_retZ cx d5_14 rfl rfl (by decide) (by decide) ?_
    exact Or.inl ⟨hc6, rfl, rfl⟩
  · refine g_iconst cx d5_9 (v := (1 : Int32)) rfl ?_
    refine g_goto cx d5_10 ?_
    refine g_retZ cx d5_14 rfl rfl (by decide) (by decide) ?_
    exact Or.inr (⟨hc6, rfl, rfl⟩)
theorem d0_192 : Dc code 192 (.lload 8) 2 194 := ⟨by decide +kernel, rfl⟩
theorem d0_194 : Bi code 194 (Instr.goto) 198 197 := ⟨4, by decide +kernel, by decide, by decide, rfl⟩
theorem pn_ra32 : plainName "com/example/thalweg/thalweg/node/Pace" = true := by first | (simp [plainName, overriddenIn]; done) | decide +kernel
set_option maxRecDepth 65536 in
set_option maxHeartbeats 40000000 in
theorem ra32 (l : Launch) (Z : State) (a0 : Array Value) (hw : ∀ d ∈ tables_1, d.before a0 Z = true)  (ad0 ad1 ad2 ad3 ad4 ad5 ad6 : Addr) (x0 : Int64) (x1 : Int64) (x2 : Int64) (x3 : Int64) (x4 : Int64) (x5 : Int64) (x6 : Int64) (x7 : Int64) (cA_ad2 : ClassId) (cA_ad3 : ClassId) (cA_ad5 : ClassId) (h0 : Heap) (O_ad0 : ObP Z h0 ad0 (.ref ad1) (.ref ad4) (.long x3) (.long x2) (.long x6) (.long (2 : Int64)) (.long (1 : Int64)) (.long x4)) (O_ad1 : ObD Z h0 ad1 (.ref ad2) (.int (1 : Int32)) (.int (2 : Int32))) (O_ad4 : ObD Z h0 ad4 (.ref ad5) (.int (0 : Int32)) (.int (1 : Int32))) (O_ad6 : ObS Z h0 ad6 (.long x2) (.long x3) (.long x4) (.long x5)) (A_ad2 : Arx Z h0 ad2 cA_ad2 (.object "java/lang/Object") (17 : Int32) [.null, (.ref ad3), .null, .null, .null, .null, .null, .null, .null, .null, .null, .null, .null, .null, .null, .null, .null] .null "[Ljava/lang/Object;") (A_ad3 : Arx Z h0 ad3 cA_ad3 .long (2 : Int32) [(.long x0), (.long x1)] (.long (0 : Int64)) "[J") (A_ad5 : Arx Z h0 ad5 cA_ad5 (.object "java/lang/Object") (17 : Int32) [(.ref ad6), .null, .null, .null, .null, .null, .null, .null, .null, .null, .null, .null, .null, .null, .null, .null, .null] .null "[Ljava/lang/Object;") (OV_ad2 : Ovr Z cA_ad2 "java/lang/Object") (OV_ad5 : Ovr Z cA_ad5 "java/lang/Object") (ne_ad0_ad1 : ad0 ≠ ad1) (ne_ad0_ad2 : ad0 ≠ ad2) (ne_ad1_ad2 : ad1 ≠ ad2) (ne_ad0_ad3 : ad0 ≠ ad3) (ne_ad1_ad3 : ad1 ≠ ad3) (ne_ad2_ad3 : ad2 ≠ ad3) (ne_ad0_ad4 : ad0 ≠ ad4) (ne_ad1_ad4 : ad1 ≠ ad4) (ne_ad2_ad4 : ad2 ≠ ad4) (ne_ad3_ad4 : ad3 ≠ ad4) (ne_ad0_ad5 : ad0 ≠ ad5) (ne_ad1_ad5 : ad1 ≠ ad5) (ne_ad2_ad5 : ad2 ≠ ad5) (ne_ad3_ad5 : ad3 ≠ ad5) (ne_ad4_ad5 : ad4 ≠ ad5) (ne_ad0_ad6 : ad0 ≠ ad6) (ne_ad1_ad6 : ad1 ≠ ad6) (ne_ad2_ad6 : ad2 ≠ ad6) (ne_ad3_ad6 : ad3 ≠ ad6) (ne_ad4_ad6 : ad4 ≠ ad6) (ne_ad5_ad6 : ad5 ≠ ad6) (g_ad0 : Z.heap.size ≤ ad0) (g_ad1 : Z.heap.size ≤ ad1) (g_ad2 : Z.heap.size ≤ ad2) (g_ad3 : Z.heap.size ≤ ad3) (g_ad4 : Z.heap.size ≤ ad4) (g_ad5 : Z.heap.size ≤ ad5) (g_ad6 : Z.heap.size ≤ ad6) (OL : Old Z Z.heap.size h0) :
    Met l Z (⟨"com/example/thalweg/thalweg/node/Pace", "taken", "(JJ)V"⟩ : MethodName) prog_54_method_3_code 10 none ({ frames := 0, cells := 0, slots := 0, locals := 0 } : Room) #[(.ref ad0), (.long (1 : Int64)), (.long x7)] h0 (fun v h' => (v = none ∧ h0 = h')) := by
  refine met_of (Ls := #[.val (.ref ad0), .val (.long (1 : Int64)), .second, .val (.long x7), .second, .unset, .unset, .unset, .unset, .unset]) (plainFor_of_name pn_ra32) (fun m => by first | (simp [entryFrame, mkF, argsToLocals, Value.category]; done) | rfl) (fun p e s m below meth c cx => ?_)
  have KK := Keep.refl h0 []
  refine g_lloadN cx d10_0 rfl ?_
  refine g_aloadN cx d10_1 rfl rfl ?_
  refine g_getF cx d10_2 (host := "") (Or.inl (hw _ (List.mem_of_getElem? (i := 73) rfl))) Via.refl O_ad0.2.2.2.2.2.2.2.1 ?_
  refine g_lif_lt cx d10_5 d10_6 (fun q => absurd q (fun q => by revert q; decide)) (fun hc6 => ?_)
  refine g_lloadN cx d10_9 rfl ?_
  refine g_aloadN cx d10_10 rfl rfl ?_
  refine g_getF cx d10_11 (host := "") (Or.inl (hw _ (List.mem_of_getElem? (i := 66) rfl))) Via.refl O_ad0.2.2.2.2.2.2.1 ?_
  refine g_lif_le cx d10_14 d10_15 (fun hc15 => ?_) (fun q => absurd q (fun q => by revert q; decide))
  refine g_lloadN cx d10_40 rfl ?_
  refine g_aloadN cx d10_41 rfl rfl ?_
  refine g_getF cx d10_42 (host := "") (Or.inl (hw _ (List.mem_of_getElem? (i := 73) rfl))) Via.refl O_ad0.2.2.2.2.2.2.2.1 ?_
  refine g_lif_ne cx d10_45 d10_46 (fun q => absurd q (fun q => by revert q; decide)) (fun hc46 => ?_)
  refine g_retV cx d10_49 rfl (by decide) (by decide) ?_
  exact ⟨rfl, rfl⟩
theorem d0_141 : Dc code 141 (.lload 6) 2 143 := ⟨by decide +kernel, rfl⟩
theorem d0_143 : Bi code 143 (Instr.goto) 147 146 := ⟨4, by decide +kernel, by decide, by decide, rfl⟩
theorem d0_206 : Dc code 206 (.iconst 1) 1 207 := ⟨by decide +kernel, rfl⟩
theorem d0_207 : Bi code 207 (Instr.goto) 211 210 := ⟨4, by decide +kernel, by decide, by decide, rfl⟩
theorem d0_232 : Dc code 232 (.iload 26) 2 234 := ⟨by decide +kernel, rfl⟩
theorem d0_234 : Bi code 234 (Instr.ifCond .eq) 253 237 := ⟨19, by decide +kernel, by decide, by decide, rfl⟩
theorem d0_261 : Dc code 261 (.iload 27) 2 263 := ⟨by decide +kernel, rfl⟩
theorem d0_263 : Bi code 263 (Instr.ifCond .ne) 271 266 := ⟨8, by decide +kernel, by decide, by decide, rfl⟩
theorem d0_266 : Dc code 266 (.lload 21) 2 268 := ⟨by decide +kernel, rfl⟩
theorem d0_268 : Bi code 268 (Instr.goto) 272 271 := ⟨4, by decide +kernel, by decide, by decide, rfl⟩
theorem d0_305 : Dc code 305 (.iconst 1) 1 306 := ⟨by decide +kernel, rfl⟩
theorem d0_306 : Bi code 306 (Instr.goto) 310 309 := ⟨4, by decide +kernel, by decide, by decide, rfl⟩
theorem d0_334 : Dc code 334 (.iconst 0) 1 335 := ⟨by decide +kernel, rfl⟩
theorem pn_ra35 : plainName "java/util/ArrayDeque" = true := by first | (simp [plainName, overriddenIn]; done) | decide +kernel
set_option maxRecDepth 65536 in
set_option maxHeartbeats 40000000 in
theorem ra35 (l : Launch) (Z : State) (a0 : Array Value) (hw : ∀ d ∈ tables_1, d.before a0 Z = true)  (ad0 ad1 ad2 ad3 : Addr) (x0 : Int64) (x1 : Int64) (x2 : Int64) (x3 : Int64) (x4 : Int64) (x5 : Int64) (x6 : Int64) (x7 : Int64) (cA_ad1 : ClassId) (h0 : Heap) (O_ad0 : ObD Z h0 ad0 (.ref ad1) (.int (0 : Int32)) (.int (1 : Int32))) (O_ad2 : ObS Z h0 ad2 (.long x0) (.long x1) (.long x2) (.long x3)) (O_ad3 : ObS Z h0 ad3 (.long x4) (.long x5) (.long x6) (.long x7)) (A_ad1 : Arx Z h0 ad1 cA_ad1 (.object "java/lang/Object") (17 : Int32) [(.ref ad2), .null, .null, .null, .null, .null, .null, .null, .null, .null, .null, .null, .null, .null, .null, .null, .null] .null "[Ljava/lang/Object;") (OV_ad1 : Ovr Z cA_ad1 "java/lang/Object") (ne_ad0_ad1 : ad0 ≠ ad1) (ne_ad0_ad2 : ad0 ≠ ad2) (ne_ad1_ad2 : ad1 ≠ ad2) (ne_ad0_ad3 : ad0 ≠ ad3) (ne_ad1_ad3 : ad1 ≠ ad3) (ne_ad2_ad3 : ad2 ≠ ad3) (g_ad0 : Z.heap.size ≤ ad0) (g_ad1 : Z.heap.size ≤ ad1) (g_ad2 : Z.heap.size ≤ ad2) (g_ad3 : Z.heap.size ≤ ad3) (OL : Old Z Z.heap.size h0) :
    Met l Z (⟨"java/util/ArrayDeque", "addLast", "(Ljava/lang/Object;)V"⟩ : MethodName) jdk_21_method_13_code 3 none ({ frames := 1, cells := 0, slots := 0, locals := 15 } : Room) #[(.ref ad0), (.ref ad3)] h0 (fun v h' => (v = none ∧ Keep h0 h' [ad0, ad1] ∧ ObD Z h' ad0 (.ref ad1) (.int (0 : Int32)) (.int (2 : Int32)) ∧ Arx Z h' ad1 cA_ad1 (.object "java/lang/Object") (17 : Int32) [(.ref ad2), (.ref ad3), .null, .null, .null, .null, .null, .null, .null, .null, .null, .null, .null, .null, .null, .null, .null] .null "[Ljava/lang/Object;")) := by
  refine met_of (Ls := #[.val (.ref ad0), .val (.ref ad3), .unset]) (plainFor_of_name pn_ra35) (fun m => by first | (simp [entryFrame, mkF, argsToLocals, Value.category]; done) | rfl) (fun p e s m below meth c cx => ?_)
  have KK := Keep.refl h0 [ad0, ad1]
  refine g_aloadN cx d8_0 rfl rfl ?_
  refine g_ifnonnull_ref cx d8_1 ?_
  refine g_aloadN cx d8_12 rfl rfl ?_
  refine g_getF cx d8_13 (host := "") (Or.inl (hw _ (List.mem_of_getElem? (i := 25) rfl))) Via.refl O_ad0.2.1 ?_
  refine g_astoreN cx d8_16 rfl (Ls' := #[.val (.ref ad0), .val (.ref ad3), .val (.ref ad1)]) rfl ?_
  refine g_aloadN cx d8_17 rfl rfl ?_
  refine g_aloadN cx d8_18 rfl rfl ?_
  refine g_getF cx d8_19 (host := "") (Or.inl (hw _ (List.mem_of_getElem? (i := 50) rfl))) Via.refl O_ad0.2.2.2 ?_
  refine g_aloadN cx d8_22 rfl rfl ?_
  refine g_aastore cx d8_23 A_ad1 rfl rfl (sto_of A_ad1 OV_ad1 (Ins.of_exa O_ad3.1 (hw _ (List.mem_of_getElem? (i := 118) rfl)))) ⟨by decide, by decide⟩ (Nat.le_of_ble_eq_true rfl) g_ad1 (fun h1 W2 AA3 => ?_)
  have O_ad0 := O_ad0.oth W2 ne_ad0_ad1
  have O_ad2 := O_ad2.oth W2 (Ne.symm ne_ad1_ad2)
  have O_ad3 := O_ad3.oth W2 (Ne.symm ne_ad1_ad3)
  have A_ad1 : Arx Z h1 ad1 cA_ad1 (.object "java/lang/Object") (17 : Int32) [(.ref ad2), (.ref ad3), .null, .null, .null, .null, .null, .null, .null, .null, .null, .null, .null, .null, .null, .null, .null] .null "[Ljava/lang/Object;" := AA3
  have OL := OL.wr W2 g_ad1
  have KK := KK.wr W2 (Or.inl (List.mem_of_getElem? (i := 1) rfl))
  refine g_aloadN cx d8_24 rfl rfl ?_
  refine g_getF cx d8_25 (host := "") (Or.inl (hw _ (List.mem_of_getElem? (i := 48) rfl))) Via.refl O_ad0.2.2.1 ?_
  refine g_aloadN cx d8_28 rfl rfl ?_
  refine g_aloadN cx d8_29 rfl rfl ?_
  refine g_getF cx d8_30 (host := "") (Or.inl (hw _ (List.mem_of_getElem? (i := 50) rfl))) Via.refl O_ad0.2.2.2 ?_
  refine g_aloadN cx d8_33 rfl rfl ?_
  refine g_arraylength cx d8_34 A_ad1.1 ?_
  refine g_static cx (y := (⟨"java/util/ArrayDeque", "inc", "(II)I"⟩ : MethodName)) d8_35 (hw _ (List.mem_of_getElem? (i := 61) rfl)) (hw _ (List.mem_of_getElem? (i := 62) rfl)) (hw _ (List.mem_of_getElem? (i := 12) rfl)) (hw _ (List.mem_of_getElem? (i := 63) rfl)) (by decide) (bytes := jdk_21_method_6_code) (maxL' := 2) (M := (ra11 l Z a0 hw   _  OL)) rfl (lenOf pd_2 rfl) (by decide) (W := 2) (Nat.le_of_eq rfl) (by decide) (k' := 0) (n' := 0) rfl rfl (by decide) (by decide) (argsL := [(.int (1 : Int32)), (.int (17 : Int32))]) (rest := [(.ref ad0), (.int (0 : Int32))]) rfl (fun v6 h5 q7 => ?_)
  obtain ⟨rfl, rfl⟩ := q7
  refine G.cast (st' := [(.int (2 : Int32)), (.ref ad0), (.int (0 : Int32))]) ?_ rfl
  refine g_dup_x1 cx d8_38 rfl rfl ?_
  refine g_putF cx d8_39 (host := "") (Or.inl (hw _ (List.mem_of_getElem? (i := 50) rfl))) Via.refl O_ad0.2.2.2 O_ad0.1 (Or.inl (hw _ (List.mem_of_getElem? (i := 51) rfl))) (hw _ (List.mem_of_getElem? (i := 11) rfl)) (ty := .int) (by decide) rfl rfl g_ad0 (fun h8 W9 => ?_)
  have O_ad0 := O_ad0.put3 hw W9
  have O_ad2 := O_ad2.oth W9 (Ne.symm ne_ad0_ad2)
  have O_ad3 := O_ad3.oth W9 (Ne.symm ne_ad0_ad3)
  have A_ad1 := A_ad1.other W9 (Ne.symm ne_ad0_ad1)
  have OL := OL.wr W9 g_ad0
  have KK := KK.wr W9 (Or.inl (List.mem_of_getElem? (i := 0) rfl))
  refine g_icmp_ne cx d8_42 (fun hc42 => ?_) (fun q => absurd q (fun q => by revert q; decide))
  refine g_retV cx d8_50 rfl (by decide) (by decide) ?_
  exact ⟨rfl, KK, O_ad0, A_ad1⟩
theorem pn_ra37 : plainName "java/util/ArrayDeque" = true := by first | (simp [plainName, overriddenIn]; done) | decide +kernel
set_option maxRecDepth 65536 in
set_option maxHeartbeats 40000000 in
theorem ra37 (l : Launch) (Z : State) (a0 : Array Value) (hw : ∀ d ∈ tables_1, d.before a0 Z = true)  (h0 : Heap) (OL : Old Z Z.heap.size h0) :
    Met l Z (⟨"java/util/ArrayDeque", "sub", "(III)I"⟩ : MethodName) jdk_21_method_9_code 3 (some .int) ({ frames := 0, cells := 0, slots := 0, locals := 0 } : Room) #[(.int (2 : Int32)), (.int (0 : Int32)), (.int (17 : Int32))] h0 (fun v h' => (v = some (.int (2 : Int32)) ∧ h0 = h')) := by
  refine met_of (Ls := #[.val (.int (2 : Int32)), .val (.int (0 : Int32)), .val (.int (17 : Int32))]) (plainFor_of_name pn_ra37) (fun m => by first | (simp [entryFrame, mkF, argsToLocals, Value.category]; done) | rfl) (fun p e s m below meth c cx => ?_)
  have KK := Keep.refl h0 []
  refine g_iloadN cx d21_0 rfl ?_
  refine g_iloadN cx d21_1 rfl ?_
  refine g_isub cx d21_2 ?_
  refine G.cast (st' := [(.int (2 : Int32))]) ?_ rfl
  refine g_dup cx d21_3 rfl ?_
  refine g_istoreN cx d21_4 (Ls' := #[.val (.int (2 : Int32)), .val (.int (0 : Int32)), .val (.int (17 : Int32))]) rfl ?_
  refine g_if_ge cx d21_5 (fun hc5 => ?_) (fun q => absurd q (fun q => by revert q; decide))
  refine g_iloadN cx d21_12 rfl ?_
  refine g_retI cx d21_13 rfl (by decide) (by decide) ?_
  exact ⟨rfl, rfl⟩
theorem pn_ra36 : plainName "java/util/ArrayDeque" = true := by first | (simp [plainName, overriddenIn]; done) | decide +kernel
set_option maxRecDepth 65536 in
set_option maxHeartbeats 40000000 in
theorem ra36 (l : Launch) (Z : State) (a0 : Array Value) (hw : ∀ d ∈ tables_1, d.before a0 Z = true)  (ad0 ad1 ad2 ad3 : Addr) (x0 : Int64) (x1 : Int64) (x2 : Int64) (x3 : Int64) (x4 : Int64) (x5 : Int64) (x6 : Int64) (x7 : Int64) (cA_ad1 : ClassId) (h0 : Heap) (O_ad0 : ObD Z h0 ad0 (.ref ad1) (.int (0 : Int32)) (.int (2 : Int32))) (O_ad2 : ObS Z h0 ad2 (.long x0) (.long x1) (.long x2) (.long x3)) (O_ad3 : ObS Z h0 ad3 (.long x4) (.long x5) (.long x6) (.long x7)) (A_ad1 : Arx Z h0 ad1 cA_ad1 (.object "java/lang/Object") (17 : Int32) [(.ref ad2), (.ref ad3), .null, .null, .null, .null, .null, .null, .null, .null, .null, .null, .null, .null, .null, .null, .null] .null "[Ljava/lang/Object;") (OV_ad1 : Ovr Z cA_ad1 "java/lang/Object") (ne_ad0_ad1 : ad0 ≠ ad1) (ne_ad0_ad2 : ad0 ≠ ad2) (ne_ad1_ad2 : ad1 ≠ ad2) (ne_ad0_ad3 : ad0 ≠ ad3) (ne_ad1_ad3 : ad1 ≠ ad3) (ne_ad2_ad3 : ad2 ≠ ad3) (g_ad0 : Z.heap.size ≤ ad0) (g_ad1 : Z.heap.size ≤ ad1) (g_ad2 : Z.heap.size ≤ ad2) (g_ad3 : Z.heap.size ≤ ad3) (OL : Old Z Z.heap.size h0) :
    Met l Z (⟨"java/util/ArrayDeque", "size", "()I"⟩ : MethodName) jdk_21_method_37_code 1 (some .int) ({ frames := 1, cells := 0, slots := 0, locals := 14 } : Room) #[(.ref ad0)] h0 (fun v h' => (v = some (.int (2 : Int32)) ∧ h0 = h')) := by
  refine met_of (Ls := #[.val (.ref ad0)]) (plainFor_of_name pn_ra36) (fun m => by first | (simp [entryFrame, mkF, argsToLocals, Value.category]; done) | rfl) (fun p e s m below meth c cx => ?_)
  have KK := Keep.refl h0 []
  refine g_aloadN cx d20_0 rfl rfl ?_
  refine g_getF cx d20_1 (host := "") (Or.inl (hw _ (List.mem_of_getElem? (i := 50) rfl))) Via.refl O_ad0.2.2.2 ?_
  refine g_aloadN cx d20_4 rfl rfl ?_
  refine g_getF cx d20_5 (host := "") (Or.inl (hw _ (List.mem_of_getElem? (i := 48) rfl))) Via.refl O_ad0.2.2.1 ?_
  refine g_aloadN cx d20_8 rfl rfl ?_
  refine g_getF cx d20_9 (host := "") (Or.inl (hw _ (List.mem_of_getElem? (i := 25) rfl))) Via.refl O_ad0.2.1 ?_
  refine g_arraylength cx d20_12 A_ad1.1 ?_
  refine g_static cx (y := (⟨"java/util/ArrayDeque", "sub", "(III)I"⟩ : MethodName)) d20_13 (hw _ (List.mem_of_getElem? (i := 136) rfl)) (hw _ (List.mem_of_getElem? (i := 137) rfl)) (hw _ (List.mem_of_getElem? (i := 12) rfl)) (hw _ (List.mem_of_getElem? (i := 138) rfl)) (by decide) (bytes := jdk_21_method_9_code) (maxL' := 3) (M := (ra37 l Z a0 hw   _  OL)) rfl (lenOf pd_10 rfl) (by decide) (W := 0) (Nat.le_of_eq rfl) (by decide) (k' := 0) (n' := 0) rfl rfl (by decide) (by decide) (argsL := [(.int (2 : Int32)), (.int (0 : Int32)), (.int (17 : Int32))]) (rest := []) rfl (fun v3 h2 q4 => ?_)
  obtain ⟨rfl, rfl⟩ := q4
  refine G.cast (st' := [(.int (2 : Int32))]) ?_ rfl
  refine g_retI cx d20_16 rfl (by decide) (by decide) ?_
  exact ⟨rfl, rfl⟩
theorem d17_45 : Dc prog_54_method_9_code 45 (.aload_n 0) 1 46 := ⟨by decide +kernel, rfl⟩
theorem d17_46 : Dc prog_54_method_9_code 46 (.getfield 16) 3 49 := ⟨by decide +kernel, rfl⟩
theorem d22_0 : Dc jdk_21_method_24_code 0 (.aload_n 0) 1 1 := ⟨by decide +kernel, rfl⟩
theorem d22_1 : Dc jdk_21_method_24_code 1 (.getfield 3) 3 4 := ⟨by decide +kernel, rfl⟩
theorem d22_4 : Dc jdk_21_method_24_code 4 (.aload_n 0) 1 5 := ⟨by decide +kernel, rfl⟩
theorem d22_5 : Dc jdk_21_method_24_code 5 (.getfield 24) 3 8 := ⟨by decide +kernel, rfl⟩
theorem pn_ra39 : plainName "java/util/ArrayDeque" = true := by first | (simp [plainName, overriddenIn]; done) | decide +kernel
set_option maxRecDepth 65536 in
set_option maxHeartbeats 40000000 in
theorem ra39 (l : Launch) (Z : State) (a0 : Array Value) (hw : ∀ d ∈ tables_1, d.before a0 Z = true)  (ad0 ad1 ad2 : Addr) (x0 : Int64) (x1 : Int64) (x2 : Int64) (x3 : Int64) (x4 : Int64) (x5 : Int64) (x6 : Int64) (x7 : Int64) (cA_ad0 : ClassId) (h0 : Heap) (O_ad1 : ObS Z h0 ad1 (.long x0) (.long x1) (.long x2) (.long x3)) (O_ad2 : ObS Z h0 ad2 (.long x4) (.long x5) (.long x6) (.long x7)) (A_ad0 : Arx Z h0 ad0 cA_ad0 (.object "java/lang/Object") (17 : Int32) [(.ref ad1), (.ref ad2), .null, .null, .null, .null, .null, .null, .null, .null, .null, .null, .null, .null, .null, .null, .null] .null "[Ljava/lang/Object;") (OV_ad0 : Ovr Z cA_ad0 "java/lang/Object") (ne_ad0_ad1 : ad0 ≠ ad1) (ne_ad0_ad2 : ad0 ≠ ad2) (ne_ad1_ad2 : ad1 ≠ ad2) (g_ad0 : Z.heap.size ≤ ad0) (g_ad1 : Z.heap.size ≤ ad1) (g_ad2 : Z.heap.size ≤ ad2) (OL : Old Z Z.heap.size h0) :
    Met l Z (⟨"java/util/ArrayDeque", "elementAt", "([Ljava/lang/Object;I)Ljava/lang/Object;"⟩ : MethodName) jdk_21_method_10_code 2 (some (.object "java/lang/Object")) ({ frames := 0, cells := 0, slots := 0, locals := 0 } : Room) #[(.ref ad0), (.int (0 : Int32))] h0 (fun v h' => (v = some (.ref ad1) ∧ h0 = h')) := by
  refine met_of (Ls := #[.val (.ref ad0), .val (.int (0 : Int32))]) (plainFor_of_name pn_ra39) (fun m => by first | (simp [entryFrame, mkF, argsToLocals, Value.category]; done) | rfl) (fun p e s m below meth c cx => ?_)
  have KK := Keep.refl h0 []
  refine g_aloadN cx d13_0 rfl rfl ?_
  refine g_iloadN cx d13_1 rfl ?_
  refine g_aaload cx d13_2 A_ad0.1 rfl ⟨by decide, by decide⟩ (v := (.ref ad1)) rfl ?_
  refine g_retA cx d13_3 (t := (.object "java/lang/Object")) rfl rfl rfl rfl (by decide) (by decide) ?_
  exact ⟨rfl, rfl⟩
theorem d22_8 : Dc jdk_21_method_24_code 8 (.invokestatic 103) 3 11 := ⟨by decide +kernel, rfl⟩
theorem d22_11 : Dc jdk_21_method_24_code 11 (.areturn) 1 12 := ⟨by decide +kernel, rfl⟩
theorem pn_ra38 : plainName "java/util/ArrayDeque" = true := by first | (simp [plainName, overriddenIn]; done) | decide +kernel
set_option maxRecDepth 65536 in
set_option maxHeartbeats 40000000 in
theorem ra38 (l : Launch) (Z : State) (a0 : Array Value) (hw : ∀ d ∈ tables_1, d.before a0 Z = true)  (ad0 ad1 ad2 ad3 : Addr) (x0 : Int64) (x1 : Int64) (x2 : Int64) (x3 : Int64) (x4 : Int64) (x5 : Int64) (x6 : Int64) (x7 : Int64) (cA_ad1 : ClassId) (h0 : Heap) (O_ad0 : ObD Z h0 ad0 (.ref ad1) (.int (0 : Int32)) (.int (2 : Int32))) (O_ad2 : ObS Z h0 ad2 (.long x0) (.long x1) (.long x2) (.long x3)) (O_ad3 : ObS Z h0 ad3 (.long x4) (.long x5) (.long x6) (.long x7)) (A_ad1 : Arx Z h0 ad1 cA_ad1 (.object "java/lang/Object") (17 : Int32) [(.ref ad2), (.ref ad3), .null, .null, .null, .null, .null, .null, .null, .null, .null, .null, .null, .null, .null, .null, .null] .null "[Ljava/lang/Object;") (OV_ad1 : Ovr Z cA_ad1 "java/lang/Object") (ne_ad0_ad1 : ad0 ≠ ad1) (ne_ad0_ad2 : ad0 ≠ ad2) (ne_ad1_ad2 : ad1 ≠ ad2) (ne_ad0_ad3 : ad0 ≠ ad3) (ne_ad1_ad3 : ad1 ≠ ad3) (ne_ad2_ad3 : ad2 ≠ ad3) (g_ad0 : Z.heap.size ≤ ad0) (g_ad1 : Z.heap.size ≤ ad1) (g_ad2 : Z.heap.size ≤ ad2) (g_ad3 : Z.heap.size ≤ ad3) (OL : Old Z Z.heap.size h0) :
    Met l Z (⟨"java/util/ArrayDeque", "peekFirst", "()Ljava/lang/Object;"⟩ : MethodName) jdk_21_method_24_code 1 (some (.object "java/lang/Object")) ({ frames := 1, cells := 0, slots := 0, locals := 13 } : Room) #[(.ref ad0)] h0 (fun v h' => (v = some (.ref ad2) ∧ h0 = h')) := by
  refine met_of (Ls := #[.val (.ref ad0)]) (plainFor_of_name pn_ra38) (fun m => by first | (simp [entryFrame, mkF, argsToLocals, Value.category]; done) | rfl) (fun p e s m below meth c cx => ?_)
  have KK := Keep.refl h0 []
  refine g_aloadN cx d22_0 rfl rfl ?_
  refine g_getF cx d22_1 (host := "") (Or.inl (hw _ (List.mem_of_getElem? (i := 25) rfl))) Via.refl O_ad0.2.1 ?_
  refine g_aloadN cx d22_4 rfl rfl ?_
  refine g_getF cx d22_5 (host := "") (Or.inl (hw _ (List.mem_of_getElem? (i := 48) rfl))) Via.refl O_ad0.2.2.1 ?_
  refine g_static cx (y := (⟨"java/util/ArrayDeque", "elementAt", "([Ljava/lang/Object;I)Ljava/lang/Object;"⟩ : MethodName)) d22_8 (hw _ (List.mem_of_getElem? (i := 85) rfl)) (hw _ (List.mem_of_getElem? (i := 86) rfl)) (hw _ (List.mem_of_getElem? (i := 12) rfl)) (hw _ (List.mem_of_getElem? (i := 87) rfl)) (by decide) (bytes := jdk_21_method_10_code) (maxL' := 2) (M := (ra39 l Z a0 hw  ad1 ad2 ad3 x0 x1 x2 x3 x4 x5 x6 x7 cA_ad1 _ O_ad2 O_ad3 A_ad1 OV_ad1 ne_ad1_ad2 ne_ad1_ad3 ne_ad2_ad3 g_ad1 g_ad2 g_ad3 OL)) rfl (lenOf pd_5 rfl) (by decide) (W := 0) (Nat.le_of_eq rfl) (by decide) (k' := 0) (n' := 0) rfl rfl (by decide) (by decide) (argsL := [(.ref ad1), (.int (0 : Int32))]) (rest := []) rfl (fun v3 h2 q4 => ?_)
  obtain ⟨rfl, rfl⟩ := q4
  refine G.cast (st' := [(.ref ad2)]) ?_ rfl
  refine g_retA cx d22_11 (t := (.object "java/lang/Object")) rfl rfl rfl rfl (by decide) (by decide) ?_
  exact ⟨rfl, rfl⟩
theorem d17_49 : Dc prog_54_method_9_code 49 (.invokevirtual 130) 3 52 := ⟨by decide +kernel, rfl⟩
theorem d17_52 : Dc prog_54_method_9_code 52 (.checkcast 55) 3 55 := ⟨by decide +kernel, rfl⟩
theorem d23_0 : Dc prog_55_method_5_code 0 (.aload_n 0) 1 1 := ⟨by decide +kernel, rfl⟩
theorem d23_1 : Dc prog_55_method_5_code 1 (.getfield 7) 3 4 := ⟨by decide +kernel, rfl⟩
theorem d23_4 : Dc prog_55_method_5_code 4 (.lreturn) 1 5 := ⟨by decide +kernel, rfl⟩
theorem pn_ra40 : plainName "com/example/thalweg/thalweg/node/Pace$Sample" = true := by first | (simp [plainName, overriddenIn]; done) | decide +kernel
set_option maxRecDepth 65536 in
set_option maxHeartbeats 40000000 in
theorem ra40 (l : Launch) (Z : State) (a0 : Array Value) (hw : ∀ d ∈ tables_1, d.before a0 Z = true)  (ad0 : Addr) (x0 : Int64) (x1 : Int64) (x2 : Int64) (x3 : Int64) (h0 : Heap) (O_ad0 : ObS Z h0 ad0 (.long x0) (.long x1) (.long x2) (.long x3)) (g_ad0 : Z.heap.size ≤ ad0) (OL : Old Z Z.heap.size h0) :
    Met l Z (⟨"com/example/thalweg/thalweg/node/Pace$Sample", "atNs", "()J"⟩ : MethodName) prog_55_method_5_code 1 (some .long) ({ frames := 0, cells := 0, slots := 0, locals := 0 } : Room) #[(.ref ad0)] h0 (fun v h' => (v = some (.long x0) ∧ h0 = h')) := by
  refine met_of (Ls := #[.val (.ref ad0)]) (plainFor_of_name pn_ra40) (fun m => by first | (simp [entryFrame, mkF, argsToLocals, Value.category]; done) | rfl) (fun p e s m below meth c cx => ?_)
  have KK := Keep.refl h0 []
  refine g_aloadN cx d23_0 rfl rfl ?_
  refine g_getF cx d23_1 (host := "") (Or.inl (hw _ (List.mem_of_getElem? (i := 106) rfl))) Via.refl O_ad0.2.1 ?_
  refine g_retJ cx d23_4 rfl (by decide) (by decide) ?_
  exact ⟨rfl, rfl⟩
theorem d17_55 : Dc prog_54_method_9_code 55 (.invokevirtual 133) 3 58 := ⟨by decide +kernel, rfl⟩
theorem d17_58 : Dc prog_54_method_9_code 58 (.aload_n 1) 1 59 := ⟨by decide +kernel, rfl⟩
theorem d17_59 : Dc prog_54_method_9_code 59 (.invokevirtual 133) 3 62 := ⟨by decide +kernel, rfl⟩
theorem d17_62 : Dc prog_54_method_9_code 62 (.ldc2_w 136) 3 65 := ⟨by decide +kernel, rfl⟩
theorem d17_65 : Dc prog_54_method_9_code 65 (.lsub) 1 66 := ⟨by decide +kernel, rfl⟩
theorem d17_66 : Dc prog_54_method_9_code 66 (.lcmp) 1 67 := ⟨by decide +kernel, rfl⟩
theorem d17_67 : Bi prog_54_method_9_code 67 (Instr.ifCond .ge) 110 70 := ⟨43, by decide +kernel, by decide, by decide, rfl⟩
theorem d17_70 : Dc prog_54_method_9_code 70 (.aload_n 0) 1 71 := ⟨by decide +kernel, rfl⟩
theorem d17_71 : Dc prog_54_method_9_code 71 (.getfield 16) 3 74 := ⟨by decide +kernel, rfl⟩
theorem pn_ra42 : plainName "java/util/ArrayDeque" = true := by first | (simp [plainName, overriddenIn]; done) | decide +kernel
set_option maxRecDepth 65536 in
set_option maxHeartbeats 40000000 in
theorem ra42 (l : Launch) (Z : State) (a0 : Array Value) (hw : ∀ d ∈ tables_1, d.before a0 Z = true)  (ad0 ad1 ad2 ad3 : Addr) (x0 : Int64) (x1 : Int64) (x2 : Int64) (x3 : Int64) (x4 : Int64) (x5 : Int64) (x6 : Int64) (x7 : Int64) (cA_ad1 : ClassId) (h0 : Heap) (O_ad0 : ObD Z h0 ad0 (.ref ad1) (.int (0 : Int32)) (.int (2 : Int32))) (O_ad2 : ObS Z h0 ad2 (.long x0) (.long x1) (.long x2) (.long x3)) (O_ad3 : ObS Z h0 ad3 (.long x4) (.long x5) (.long x6) (.long x7)) (A_ad1 : Arx Z h0 ad1 cA_ad1 (.object "java/lang/Object") (17 : Int32) [(.ref ad2), (.ref ad3), .null, .null, .null, .null, .null, .null, .null, .null, .null, .null, .null, .null, .null, .null, .null] .null "[Ljava/lang/Object;") (OV_ad1 : Ovr Z cA_ad1 "java/lang/Object") (ne_ad0_ad1 : ad0 ≠ ad1) (ne_ad0_ad2 : ad0 ≠ ad2) (ne_ad1_ad2 : ad1 ≠ ad2) (ne_ad0_ad3 : ad0 ≠ ad3) (ne_ad1_ad3 : ad1 ≠ ad3) (ne_ad2_ad3 : ad2 ≠ ad3) (g_ad0 : Z.heap.size ≤ ad0) (g_ad1 : Z.heap.size ≤ ad1) (g_ad2 : Z.heap.size ≤ ad2) (g_ad3 : Z.heap.size ≤ ad3) (OL : Old Z Z.heap.size h0) :
    Met l Z (⟨"java/util/ArrayDeque", "pollFirst", "()Ljava/lang/Object;"⟩ : MethodName) jdk_21_method_20_code 4 (some (.object "java/lang/Object")) ({ frames := 1, cells := 0, slots := 0, locals := 14 } : Room) #[(.ref ad0)] h0 (fun v h' => (v = some (.ref ad2) ∧ Keep h0 h' [ad0, ad1] ∧ ObD Z h' ad0 (.ref ad1) (.int (1 : Int32)) (.int (2 : Int32)) ∧ Arx Z h' ad1 cA_ad1 (.object "java/lang/Object") (17 : Int32) [.null, (.ref ad3), .null, .null, .null, .null, .null, .null, .null, .null, .null, .null, .null, .null, .null, .null, .null] .null "[Ljava/lang/Object;")) := by
  refine met_of (Ls := #[.val (.ref ad0), .unset, .unset, .unset]) (plainFor_of_name pn_ra42) (fun m => by first | (simp [entryFrame, mkF, argsToLocals, Value.category]; done) | rfl) (fun p e s m below meth c cx => ?_)
  have KK := Keep.refl h0 [ad0, ad1]
  refine g_aloadN cx d12_0 rfl rfl ?_
  refine g_getF cx d12_1 (host := "") (Or.inl (hw _ (List.mem_of_getElem? (i := 25) rfl))) Via.refl O_ad0.2.1 ?_
  refine g_dup cx d12_4 rfl ?_
  refine g_astoreN cx d12_5 rfl (Ls' := #[.val (.ref ad0), .val (.ref ad1), .unset, .unset]) rfl ?_
  refine g_aloadN cx d12_6 rfl rfl ?_
  refine g_getF cx d12_7 (host := "") (Or.inl (hw _ (List.mem_of_getElem? (i := 48) rfl))) Via.refl O_ad0.2.2.1 ?_
  refine g_dup cx d12_10 rfl ?_
  refine g_istoreN cx d12_11 (Ls' := #[.val (.ref ad0), .val (.ref ad1), .val (.int (0 : Int32)), .unset]) rfl ?_
  refine g_static cx (y := (⟨"java/util/ArrayDeque", "elementAt", "([Ljava/lang/Object;I)Ljava/lang/Object;"⟩ : MethodName)) d12_12 (hw _ (List.mem_of_getElem? (i := 85) rfl)) (hw _ (List.mem_of_getElem? (i := 86) rfl)) (hw _ (List.mem_of_getElem? (i := 12) rfl)) (hw _ (List.mem_of_getElem? (i := 87) rfl)) (by decide) (bytes := jdk_21_method_10_code) (maxL' := 2) (M := (ra39 l Z a0 hw  ad1 ad2 ad3 x0 x1 x2 x3 x4 x5 x6 x7 cA_ad1 _ O_ad2 O_ad3 A_ad1 OV_ad1 ne_ad1_ad2 ne_ad1_ad3 ne_ad2_ad3 g_ad1 g_ad2 g_ad3 OL)) rfl (lenOf pd_5 rfl) (by decide) (W := 0) (Nat.le_of_eq rfl) (by decide) (k' := 0) (n' := 0) rfl rfl (by decide) (by decide) (argsL := [(.ref ad1), (.int (0 : Int32))]) (rest := []) rfl (fun v3 h2 q4 => ?_)
  obtain ⟨rfl, rfl⟩ := q4
  refine G.cast (st' := [(.ref ad2)]) ?_ rfl
  refine g_astoreN cx d12_15 rfl (Ls' := #[.val (.ref ad0), .val (.ref ad1), .val (.int (0 : Int32)), .val (.ref ad2)]) rfl ?_
  refine g_aloadN cx d12_16 rfl rfl ?_
  refine g_ifnull_ref cx d12_17 ?_
  refine g_aloadN cx d12_20 rfl rfl ?_
  refine g_iloadN cx d12_21 rfl ?_
  refine g_aconst_null cx d12_22 ?_
  refine g_aastore cx d12_23 A_ad1 rfl rfl (Or.inl rfl) ⟨by decide, by decide⟩ (Nat.le_of_ble_eq_true rfl) g_ad1 (fun h5 W6 AA7 => ?_)
  have O_ad0 := O_ad0.oth W6 ne_ad0_ad1
  have O_ad2 := O_ad2.oth W6 (Ne.symm ne_ad1_ad2)
  have O_ad3 := O_ad3.oth W6 (Ne.symm ne_ad1_ad3)
  have A_ad1 : Arx Z h5 ad1 cA_ad1 (.object "java/lang/Object") (17 : Int32) [.null, (.ref ad3), .null, .null, .null, .null, .null, .null, .null, .null, .null, .null, .null, .null, .null, .null, .null] .null "[Ljava/lang/Object;" := AA7
  have OL := OL.wr W6 g_ad1
  have KK := KK.wr W6 (Or.inl (List.mem_of_getElem? (i := 1) rfl))
  refine g_aloadN cx d12_24 rfl rfl ?_
  refine g_iloadN cx d12_25 rfl ?_
  refine g_aloadN cx d12_26 rfl rfl ?_
  refine g_arraylength cx d12_27 A_ad1.1 ?_
  refine g_static cx (y := (⟨"java/util/ArrayDeque", "inc", "(II)I"⟩ : MethodName)) d12_28 (hw _ (List.mem_of_getElem? (i := 61) rfl)) (hw _ (List.mem_of_getElem? (i := 62) rfl)) (hw _ (List.mem_of_getElem? (i := 12) rfl)) (hw _ (List.mem_of_getElem? (i := 63) rfl)) (by decide) (bytes := jdk_21_method_6_code) (maxL' := 2) (M := (ra7 l Z a0 hw   _  OL)) rfl (lenOf pd_2 rfl) (by decide) (W := 1) (Nat.le_of_eq rfl) (by decide) (k' := 0) (n' := 0) rfl rfl (by decide) (by decide) (argsL := [(.int (0 : Int32)), (.int (17 : Int32))]) (rest := [(.ref ad0)]) rfl (fun v10 h9 q11 => ?_)
  obtain ⟨rfl, rfl⟩ := q11
  refine G.cast (st' := [(.int (1 : Int32)), (.ref ad0)]) ?_ rfl
  refine g_putF cx d12_31 (host := "") (Or.inl (hw _ (List.mem_of_getElem? (i := 48) rfl))) Via.refl O_ad0.2.2.1 O_ad0.1 (Or.inl (hw _ (List.mem_of_getElem? (i := 49) rfl))) (hw _ (List.mem_of_getElem? (i := 11) rfl)) (ty := .int) (by decide) rfl rfl g_ad0 (fun h12 W13 => ?_)
  have O_ad0 := O_ad0.put2 hw W13
  have O_ad2 := O_ad2.oth W13 (Ne.symm ne_ad0_ad2)
  have O_ad3 := O_ad3.oth W13 (Ne.symm ne_ad0_ad3)
  have A_ad1 := A_ad1.other W13 (Ne.symm ne_ad0_ad1)
  have OL := OL.wr W13 g_ad0
  have KK := KK.wr W13 (Or.inl (List.mem_of_getElem? (i := 0) rfl))
  refine g_aloadN cx d12_34 rfl rfl ?_
  refine g_retA cx d12_35 (t := (.object "java/lang/Object")) rfl rfl rfl rfl (by decide) (by decide) ?_
  exact ⟨rfl, KK, O_ad0, A_ad1⟩
theorem pn_ra41 : plainName "java/util/ArrayDeque" = true := by first | (simp [plainName, overriddenIn]; done) | decide +kernel
set_option maxRecDepth 65536 in
set_option maxHeartbeats 40000000 in
theorem ra41 (l : Launch) (Z : State) (a0 : Array Value) (hw : ∀ d ∈ tables_1, d.before a0 Z = true)  (ad0 ad1 ad2 ad3 : Addr) (x0 : Int64) (x1 : Int64) (x2 : Int64) (x3 : Int64) (x4 : Int64) (x5 : Int64) (x6 : Int64) (x7 : Int64) (cA_ad1 : ClassId) (h0 : Heap) (O_ad0 : ObD Z h0 ad0 (.ref ad1) (.int (0 : Int32)) (.int (2 : Int32))) (O_ad2 : ObS Z h0 ad2 (.long x0) (.long x1) (.long x2) (.long x3)) (O_ad3 : ObS Z h0 ad3 (.long x4) (.long x5) (.long x6) (.long x7)) (A_ad1 : Arx Z h0 ad1 cA_ad1 (.object "java/lang/Object") (17 : Int32) [(.ref ad2), (.ref ad3), .null, .null, .null, .null, .null, .null, .null, .null, .null, .null, .null, .null, .null, .null, .null] .null "[Ljava/lang/Object;") (OV_ad1 : Ovr Z cA_ad1 "java/lang/Object") (ne_ad0_ad1 : ad0 ≠ ad1) (ne_ad0_ad2 : ad0 ≠ ad2) (ne_ad1_ad2 : ad1 ≠ ad2) (ne_ad0_ad3 : ad0 ≠ ad3) (ne_ad1_ad3 : ad1 ≠ ad3) (ne_ad2_ad3 : ad2 ≠ ad3) (g_ad0 : Z.heap.size ≤ ad0) (g_ad1 : Z.heap.size ≤ ad1) (g_ad2 : Z.heap.size ≤ ad2) (g_ad3 : Z.heap.size ≤ ad3) (OL : Old Z Z.heap.size h0) :
    Met l Z (⟨"java/util/ArrayDeque", "removeFirst", "()Ljava/lang/Object;"⟩ : MethodName) jdk_21_method_18_code 2 (some (.object "java/lang/Object")) ({ frames := 2, cells := 0, slots := 0, locals := 29 } : Room) #[(.ref ad0)] h0 (fun v h' => (v = some (.ref ad2) ∧ Keep h0 h' [ad0, ad1] ∧ ObD Z h' ad0 (.ref ad1) (.int (1 : Int32)) (.int (2 : Int32)) ∧ Arx Z h' ad1 cA_ad1 (.object "java/lang/Object") (17 : Int32) [.null, (.ref ad3), .null, .null, .null, .null, .null, .null, .null, .null, .null, .null, .null, .null, .null, .null, .null] .null "[Ljava/lang/Object;")) := by
  refine met_of (Ls := #[.val (.ref ad0), .unset]) (plainFor_of_name pn_ra41) (fun m => by first | (simp [entryFrame, mkF, argsToLocals, Value.category]; done) | rfl) (fun p e s m below meth c cx => ?_)
  have KK := Keep.refl h0 [ad0, ad1]
  refine g_aloadN cx d11_0 rfl rfl ?_
  refine g_virtual cx (y := (⟨"java/util/ArrayDeque", "pollFirst", "()Ljava/lang/Object;"⟩ : MethodName)) (z := (⟨"java/util/ArrayDeque", "pollFirst", "()Ljava/lang/Object;"⟩ : MethodName)) (a := ad0) d11_1 (hw _ (List.mem_of_getElem? (i := 80) rfl)) (hw _ (List.mem_of_getElem? (i := 81) rfl)) (hw _ (List.mem_of_getElem? (i := 12) rfl)) (hw _ (List.mem_of_getElem? (i := 84) rfl)) (hw _ (List.mem_of_getElem? (i := 83) rfl)) (hw _ (List.mem_of_getElem? (i := 82) rfl)) rfl (by decide) O_ad0.1 (bytes := jdk_21_method_20_code) (maxL' := 4) (M := (ra42 l Z a0 hw  ad0 ad1 ad2 ad3 x0 x1 x2 x3 x4 x5 x6 x7 cA_ad1 _ O_ad0 O_ad2 O_ad3 A_ad1 OV_ad1 ne_ad0_ad1 ne_ad0_ad2 ne_ad1_ad2 ne_ad0_ad3 ne_ad1_ad3 ne_ad2_ad3 g_ad0 g_ad1 g_ad2 g_ad3 OL)) rfl (lenOf pd_6 rfl) (by decide) (W := 0) (Nat.le_of_eq rfl) (by decide) (k' := 0) (n' := 0) rfl rfl (by decide) (by decide) (argsL := []) (rest := []) rfl (fun v3 h2 q4 => ?_)
  obtain ⟨rfl, K1, O_ad0, A_ad1⟩ := q4
  have O_ad2 := O_ad2.keep K1 (ninS (Ne.symm ne_ad0_ad2) (ninS (Ne.symm ne_ad1_ad2) nin0))
  have O_ad3 := O_ad3.keep K1 (ninS (Ne.symm ne_ad0_ad3) (ninS (Ne.symm ne_ad1_ad3) nin0))
  have OL := OL.keep K1 (allS g_ad0 (allS g_ad1 all0))
  have KK := KK.trans K1 (allS (P := fun z => z ∈ _ ∨ _ ≤ z) (Or.inl (List.mem_of_getElem? (i := 0) rfl)) (allS (P := fun z => z ∈ _ ∨ _ ≤ z) (Or.inl (List.mem_of_getElem? (i := 1) rfl)) all0))
  refine G.cast (st' := [(.ref ad2)]) ?_ rfl
  refine g_astoreN cx d11_4 rfl (Ls' := #[.val (.ref ad0), .val (.ref ad2)]) rfl ?_
  refine g_aloadN cx d11_5 rfl rfl ?_
  refine g_ifnonnull_ref cx d11_6 ?_
  refine g_aloadN cx d11_17 rfl rfl ?_
  refine g_retA cx d11_18 (t := (.object "java/lang/Object")) rfl rfl rfl rfl (by decide) (by decide) ?_
  exact ⟨rfl, KK, O_ad0, A_ad1⟩
theorem d17_74 : Dc prog_54_method_9_code 74 (.invokevirtual 49) 3 77 := ⟨by decide +kernel, rfl⟩
theorem d17_77 : Dc prog_54_method_9_code 77 (.checkcast 55) 3 80 := ⟨by decide +kernel, rfl⟩
theorem d17_80 : Dc prog_54_method_9_code 80 (.astore_n 2) 1 81 := ⟨by decide +kernel, rfl⟩
theorem d17_81 : Dc prog_54_method_9_code 81 (.aload_n 0) 1 82 := ⟨by decide +kernel, rfl⟩
theorem d17_82 : Dc prog_54_method_9_code 82 (.dup) 1 83 := ⟨by decide +kernel, rfl⟩
theorem d17_83 : Dc prog_54_method_9_code 83 (.getfield 76) 3 86 := ⟨by decide +kernel, rfl⟩
theorem d17_86 : Dc prog_54_method_9_code 86 (.aload_n 2) 1 87 := ⟨by decide +kernel, rfl⟩
theorem d17_87 : Dc prog_54_method_9_code 87 (.invokevirtual 124) 3 90 := ⟨by decide +kernel, rfl⟩
theorem d17_90 : Dc prog_54_method_9_code 90 (.lsub) 1 91 := ⟨by decide +kernel, rfl⟩
theorem d17_91 : Dc prog_54_method_9_code 91 (.putfield 76) 3 94 := ⟨by decide +kernel, rfl⟩
theorem d17_94 : Dc prog_54_method_9_code 94 (.aload_n 0) 1 95 := ⟨by decide +kernel, rfl⟩
theorem d17_95 : Dc prog_54_method_9_code 95 (.dup) 1 96 := ⟨by decide +kernel, rfl⟩
theorem d17_96 : Dc prog_54_method_9_code 96 (.getfield 82) 3 99 := ⟨by decide +kernel, rfl⟩
theorem d17_99 : Dc prog_54_method_9_code 99 (.aload_n 2) 1 100 := ⟨by decide +kernel, rfl⟩
theorem d17_100 : Dc prog_54_method_9_code 100 (.invokevirtual 127) 3 103 := ⟨by decide +kernel, rfl⟩
theorem d17_103 : Dc prog_54_method_9_code 103 (.lsub) 1 104 := ⟨by decide +kernel, rfl⟩
theorem d17_104 : Dc prog_54_method_9_code 104 (.putfield 82) 3 107 := ⟨by decide +kernel, rfl⟩
theorem d17_107 : Bi prog_54_method_9_code 107 (Instr.goto) 34 110 := ⟨(-73), by decide +kernel, by decide, by decide, rfl⟩
theorem pn_ra44 : plainName "java/util/ArrayDeque" = true := by first | (simp [plainName, overriddenIn]; done) | decide +kernel
set_option maxRecDepth 65536 in
set_option maxHeartbeats 40000000 in
theorem ra44 (l : Launch) (Z : State) (a0 : Array Value) (hw : ∀ d ∈ tables_1, d.before a0 Z = true)  (h0 : Heap) (OL : Old Z Z.heap.size h0) :
    Met l Z (⟨"java/util/ArrayDeque", "sub", "(III)I"⟩ : MethodName) jdk_21_method_9_code 3 (some .int) ({ frames := 0, cells := 0, slots := 0, locals := 0 } : Room) #[(.int (2 : Int32)), (.int (1 : Int32)), (.int (17 : Int32))] h0 (fun v h' => (v = some (.int (1 : Int32)) ∧ h0 = h')) := by
  refine met_of (Ls := #[.val (.int (2 : Int32)), .val (.int (1 : Int32)), .val (.int (17 : Int32))]) (plainFor_of_name pn_ra44) (fun m => by first | (simp [entryFrame, mkF, argsToLocals, Value.category]; done) | rfl) (fun p e s m below meth c cx => ?_)
  have KK := Keep.refl h0 []
  refine g_iloadN cx d21_0 rfl ?_
  refine g_iloadN cx d21_1 rfl ?_
  refine g_isub cx d21_2 ?_
  refine G.cast (st' := [(.int (1 : Int32))]) ?_ rfl
  refine g_dup cx d21_3 rfl ?_
  refine g_istoreN cx d21_4 (Ls' := #[.val (.int (1 : Int32)), .val (.int (1 : Int32)), .val (.int (17 : Int32))]) rfl ?_
  refine g_if_ge cx d21_5 (fun hc5 => ?_) (fun q => absurd q (fun q => by revert q; decide))
  refine g_iloadN cx d21_12 rfl ?_
  refine g_retI cx d21_13 rfl (by decide) (by decide) ?_
  exact ⟨rfl, rfl⟩
theorem pn_ra43 : plainName "java/util/ArrayDeque" = true := by first | (simp [plainName, overriddenIn]; done) | decide +kernel
set_option maxRecDepth 65536 in
set_option maxHeartbeats 40000000 in
theorem ra43 (l : Launch) (Z : State) (a0 : Array Value) (hw : ∀ d ∈ tables_1, d.before a0 Z = true)  (ad0 ad1 ad2 : Addr) (x0 : Int64) (x1 : Int64) (x2 : Int64) (x3 : Int64) (cA_ad1 : ClassId) (h0 : Heap) (O_ad0 : ObD Z h0 ad0 (.ref ad1) (.int (1 : Int32)) (.int (2 : Int32))) (O_ad2 : ObS Z h0 ad2 (.long x0) (.long x1) (.long x2) (.long x3)) (A_ad1 : Arx Z h0 ad1 cA_ad1 (.object "java/lang/Object") (17 : Int32) [.null, (.ref ad2), .null, .null, .null, .null, .null, .null, .null, .null, .null, .null, .null, .null, .null, .null, .null] .null "[Ljava/lang/Object;") (OV_ad1 : Ovr Z cA_ad1 "java/lang/Object") (ne_ad0_ad1 : ad0 ≠ ad1) (ne_ad0_ad2 : ad0 ≠ ad2) (ne_ad1_ad2 : ad1 ≠ ad2) (g_ad0 : Z.heap.size ≤ ad0) (g_ad1 : Z.heap.size ≤ ad1) (g_ad2 : Z.heap.size ≤ ad2) (OL : Old Z Z.heap.size h0) :
    Met l Z (⟨"java/util/ArrayDeque", "size", "()I"⟩ : MethodName) jdk_21_method_37_code 1 (some .int) ({ frames := 1, cells := 0, slots := 0, locals := 14 } : Room) #[(.ref ad0)] h0 (fun v h' => (v = some (.int (1 : Int32)) ∧ h0 = h')) := by
  refine met_of (Ls := #[.val (.ref ad0)]) (plainFor_of_name pn_ra43) (fun m => by first | (simp [entryFrame, mkF, argsToLocals, Value.category]; done) | rfl) (fun p e s m below meth c cx => ?_)
  have KK := Keep.refl h0 []
  refine g_aloadN cx d20_0 rfl rfl ?_
  refine g_getF cx d20_1 (host := "") (Or.inl (hw _ (List.mem_of_getElem? (i := 50) rfl))) Via.refl O_ad0.2.2.2 ?_
  refine g_aloadN cx d20_4 rfl rfl ?_
  refine g_getF cx d20_5 (host := "") (Or.inl (hw _ (List.mem_of_getElem? (i := 48) rfl))) Via.refl O_ad0.2.2.1 ?_
  refine g_aloadN cx d20_8 rfl rfl ?_
  refine g_getF cx d20_9 (host := "") (Or.inl (hw _ (List.mem_of_getElem? (i := 25) rfl))) Via.refl O_ad0.2.1 ?_
  refine g_arraylength cx d20_12 A_ad1.1 ?_
  refine g_static cx (y := (⟨"java/util/ArrayDeque", "sub", "(III)I"⟩ : MethodName)) d20_13 (hw _ (List.mem_of_getElem? (i := 136) rfl)) (hw _ (List.mem_of_getElem? (i := 137) rfl)) (hw _ (List.mem_of_getElem? (i := 12) rfl)) (hw _ (List.mem_of_getElem? (i := 138) rfl)) (by decide) (bytes := jdk_21_method_9_code) (maxL' := 3) (M := (ra44 l Z a0 hw   _  OL)) rfl (lenOf pd_10 rfl) (by decide) (W := 0) (Nat.le_of_eq rfl) (by decide) (k' := 0) (n' := 0) rfl rfl (by decide) (by decide) (argsL := [(.int (2 : Int32)), (.int (1 : Int32)), (.int (17 : Int32))]) (rest := []) rfl (fun v3 h2 q4 => ?_)
  obtain ⟨rfl, rfl⟩ := q4
  refine G.cast (st' := [(.int (1 : Int32))]) ?_ rfl
  refine g_retI cx d20_16 rfl (by decide) (by decide) ?_
  exact ⟨rfl, rfl⟩
theorem pn_ra34 : plainName "com/example/thalweg/thalweg/node/Pace" = true := by first | (simp [plainName, overriddenIn]; done) | decide +kernel
set_option maxRecDepth 65536 in
set_option maxHeartbeats 40000000 in
theorem ra34 (l : Launch) (Z : State) (a0 : Array Value) (hw : ∀ d ∈ tables_1, d.before a0 Z = true)  (ad0 ad1 ad2 ad3 ad4 ad5 ad6 : Addr) (x0 : Int64) (x1 : Int64) (x2 : Int64) (x3 : Int64) (x4 : Int64) (x5 : Int64) (x6 : Int64) (x7 : Int64) (x8 : Int64) (cA_ad2 : ClassId) (cA_ad4 : ClassId) (h0 : Heap) (O_ad0 : ObP Z h0 ad0 (.ref ad1) (.ref ad3) (.long x1) (.long x0) (.long x4) (.long (2 : Int64)) (.long (2 : Int64)) (.long x2)) (O_ad1 : ObD Z h0 ad1 (.ref ad2) (.int (2 : Int32)) (.int (2 : Int32))) (O_ad3 : ObD Z h0 ad3 (.ref ad4) (.int (0 : Int32)) (.int (1 : Int32))) (O_ad5 : ObS Z h0 ad5 (.long x0) (.long x1) (.long x2) (.long x3)) (O_ad6 : ObS Z h0 ad6 (.long x5) (.long x6) (.long x7) (.long x8)) (A_ad2 : Arx Z h0 ad2 cA_ad2 (.object "java/lang/Object") (17 : Int32) [.null, .null, .null, .null, .null, .null, .null, .null, .null, .null, .null, .null, .null, .null, .null, .null, .null] .null "[Ljava/lang/Object;") (A_ad4 : Arx Z h0 ad4 cA_ad4 (.object "java/lang/Object") (17 : Int32) [(.ref ad5), .null, .null, .null, .null, .null, .null, .null, .null, .null, .null, .null, .null, .null, .null, .null, .null] .null "[Ljava/lang/Object;") (OV_ad2 : Ovr Z cA_ad2 "java/lang/Object") (OV_ad4 : Ovr Z cA_ad4 "java/lang/Object") (ne_ad0_ad1 : ad0 ≠ ad1) (ne_ad0_ad2 : ad0 ≠ ad2) (ne_ad1_ad2 : ad1 ≠ ad2) (ne_ad0_ad3 : ad0 ≠ ad3) (ne_ad1_ad3 : ad1 ≠ ad3) (ne_ad2_ad3 : ad2 ≠ ad3) (ne_ad0_ad4 : ad0 ≠ ad4) (ne_ad1_ad4 : ad1 ≠ ad4) (ne_ad2_ad4 : ad2 ≠ ad4) (ne_ad3_ad4 : ad3 ≠ ad4) (ne_ad0_ad5 : ad0 ≠ ad5) (ne_ad1_ad5 : ad1 ≠ ad5) (ne_ad2_ad5 : ad2 ≠ ad5) (ne_ad3_ad5 : ad3 ≠ ad5) (ne_ad4_ad5 : ad4 ≠ ad5) (ne_ad0_ad6 : ad0 ≠ ad6) (ne_ad1_ad6 : ad1 ≠ ad6) (ne_ad2_ad6 : ad2 ≠ ad6) (ne_ad3_ad6 : ad3 ≠ ad6) (ne_ad4_ad6 : ad4 ≠ ad6) (ne_ad5_ad6 : ad5 ≠ ad6) (g_ad0 : Z.heap.size ≤ ad0) (g_ad1 : Z.heap.size ≤ ad1) (g_ad2 : Z.heap.size ≤ ad2) (g_ad3 : Z.heap.size ≤ ad3) (g_ad4 : Z.heap.size ≤ ad4) (g_ad5 : Z.heap.size ≤ ad5) (g_ad6 : Z.heap.size ≤ ad6) (OL : Old Z Z.heap.size h0) :
    Met l Z (⟨"com/example/thalweg/thalweg/node/Pace", "addSample", "(Lcom/example/thalweg/thalweg/node/Pace$Sample;)V"⟩ : MethodName) prog_54_method_9_code 3 none ({ frames := 3, cells := 0, slots := 0, locals := 42 } : Room) #[(.ref ad0), (.ref ad6)] h0 (fun v h' => (¬ (x0 < (x5 - (2000000000 : Int64))) ∧ v = none ∧ Keep h0 h' [ad0, ad3, ad4] ∧ ObP Z h' ad0 (.ref ad1) (.ref ad3) (.long (x1 + x6)) (.long x0) (.long x4) (.long (2 : Int64)) (.long (2 : Int64)) (.long (x2 + x7)) ∧ ObD Z h' ad3 (.ref ad4) (.int (0 : Int32)) (.int (2 : Int32)) ∧ Arx Z h' ad4 cA_ad4 (.object "java/lang/Object") (17 : Int32) [(.ref ad5), (.ref ad6), .null, .null, .null, .null, .null, .null, .null, .null, .null, .null, .null, .null, .null, .null, .null] .null "[Ljava/lang/Object;") ∨ (x0 < (x5 - (2000000000 : Int64)) ∧ v = none ∧ Keep h0 h' [ad0, ad3, ad4] ∧ ObP Z h' ad0 (.ref ad1) (.ref ad3) (.long ((x1 + x6) - x1)) (.long x0) (.long x4) (.long (2 : Int64)) (.long (2 : Int64)) (.long ((x2 + x7) - x2)) ∧ ObD Z h' ad3 (.ref ad4) (.int (1 : Int32)) (.int (2 : Int32)) ∧ Arx Z h' ad4 cA_ad4 (.object "java/lang/Object") (17 : Int32) [.null, (.ref ad6), .null, .null, .null, .null, .null, .null, .null, .null, .null, .null, .null, .null, .null, .null, .null] .null "[Ljava/lang/Object;")) := by
  refine met_of (Ls := #[.val (.ref ad0), .val (.ref ad6), .unset]) (plainFor_of_name pn_ra34) (fun m => by first | (simp [entryFrame, mkF, argsToLocals, Value.category]; done) | rfl) (fun p e s m below meth c cx => ?_)
  have KK := Keep.refl h0 [ad0, ad3, ad4]
  refine g_aloadN cx d17_0 rfl rfl ?_
  refine g_getF cx d17_1 (host := "") (Or.inl (hw _ (List.mem_of_getElem? (i := 29) rfl))) Via.refl O_ad0.2.2.1 ?_
  refine g_aloadN cx d17_4 rfl rfl ?_
  refine g_virtual cx (y := (⟨"java/util/ArrayDeque", "addLast", "(Ljava/lang/Object;)V"⟩ : MethodName)) (z := (⟨"java/util/ArrayDeque", "addLast", "(Ljava/lang/Object;)V"⟩ : MethodName)) (a := ad3) d17_5 (hw _ (List.mem_of_getElem? (i := 55) rfl)) (hw _ (List.mem_of_getElem? (i := 56) rfl)) (hw _ (List.mem_of_getElem? (i := 12) rfl)) (hw _ (List.mem_of_getElem? (i := 59) rfl)) (hw _ (List.mem_of_getElem? (i := 58) rfl)) (hw _ (List.mem_of_getElem? (i := 57) rfl)) rfl (by decide) O_ad3.1 (bytes := jdk_21_method_13_code) (maxL' := 3) (M := (ra35 l Z a0 hw  ad3 ad4 ad5 ad6 x0 x1 x2 x3 x5 x6 x7 x8 cA_ad4 _ O_ad3 O_ad5 O_ad6 A_ad4 OV_ad4 ne_ad3_ad4 ne_ad3_ad5 ne_ad4_ad5 ne_ad3_ad6 ne_ad4_ad6 ne_ad5_ad6 g_ad3 g_ad4 g_ad5 g_ad6 OL)) rfl (lenOf pd_3 rfl) (by decide) (W := 0) (Nat.le_of_eq rfl) (by decide) (k' := 0) (n' := 0) rfl rfl (by decide) (by decide) (argsL := [(.ref ad6)]) (rest := []) rfl (fun v3 h2 q4 => ?_)
  obtain ⟨rfl, K1, O_ad3, A_ad4⟩ := q4
  have O_ad0 := O_ad0.keep K1 (ninS ne_ad0_ad3 (ninS ne_ad0_ad4 nin0))
  have O_ad1 := O_ad1.keep K1 (ninS ne_ad1_ad3 (ninS ne_ad1_ad4 nin0))
  have O_ad5 := O_ad5.keep K1 (ninS (Ne.symm ne_ad3_ad5) (ninS (Ne.symm ne_ad4_ad5) nin0))
  have O_ad6 := O_ad6.keep K1 (ninS (Ne.symm ne_ad3_ad6) (ninS (Ne.symm ne_ad4_ad6) nin0))
  have A_ad2 := A_ad2.keep K1 (ninS ne_ad2_ad3 (ninS ne_ad2_ad4 nin0))
  have OL := OL.keep K1 (allS g_ad3 (allS g_ad4 all0))
  have KK := KK.trans K1 (allS (P := fun z => z ∈ _ ∨ _ ≤ z) (Or.inl (List.mem_of_getElem? (i := 1) rfl)) (allS (P := fun z => z ∈ _ ∨ _ ≤ z) (Or.inl (List.mem_of_getElem? (i := 2) rfl)) all0))
  refine G.cast (st' := []) ?_ rfl
  refine g_aloadN cx d17_8 rfl rfl ?_
  refine g_dup cx d17_9 rfl ?_
  refine g_getF cx d17_10 (host := "") (Or.inl (hw _ (List.mem_of_getElem? (i := 36) rfl))) Via.refl O_ad0.2.2.2.1 ?_
  refine g_aloadN cx d17_13 rfl rfl ?_
  refine g_virtual cx (y := (⟨"com/example/thalweg/thalweg/node/Pace$Sample", "bytes", "()J"⟩ : MethodName)) (z := (⟨"com/example/thalweg/thalweg/node/Pace$Sample", "bytes", "()J"⟩ : MethodName)) (a := ad6) d17_14 (hw _ (List.mem_of_getElem? (i := 119) rfl)) (hw _ (List.mem_of_getElem? (i := 120) rfl)) (hw _ (List.mem_of_getElem? (i := 92) rfl)) (hw _ (List.mem_of_getElem? (i := 123) rfl)) (hw _ (List.mem_of_getElem? (i := 122) rfl)) (hw _ (List.mem_of_getElem? (i := 121) rfl)) rfl (by decide) O_ad6.1 (bytes := prog_55_method_6_code) (maxL' := 1) (M := (ra21 l Z a0 hw  ad6 x5 x6 x7 x8 _ O_ad6 g_ad6 OL)) rfl (lenOf pd_9 rfl) (by decide) (W := 3) (Nat.le_of_eq rfl) (by decide) (k' := 0) (n' := 0) rfl rfl (by decide) (by decide) (argsL := []) (rest := [(.long x1), (.ref ad0)]) rfl (fun v7 h6 q8 => ?_)
  obtain ⟨rfl, rfl⟩ := q8
  refine G.cast (st' := [(.long x6), (.long x1), (.ref ad0)]) ?_ rfl
  refine g_ladd cx d17_17 ?_
  refine g_putF cx d17_18 (host := "") (Or.inl (hw _ (List.mem_of_getElem? (i := 36) rfl))) Via.refl O_ad0.2.2.2.1 O_ad0.1 (Or.inl (hw _ (List.mem_of_getElem? (i := 37) rfl))) (hw _ (List.mem_of_getElem? (i := 2) rfl)) (ty := .long) (by decide) rfl rfl g_ad0 (fun h9 W10 => ?_)
  have O_ad0 := O_ad0.put3 hw W10
  have O_ad1 := O_ad1.oth W10 (Ne.symm ne_ad0_ad1)
  have O_ad3 := O_ad3.oth W10 (Ne.symm ne_ad0_ad3)
  have O_ad5 := O_ad5.oth W10 (Ne.symm ne_ad0_ad5)
  have O_ad6 := O_ad6.oth W10 (Ne.symm ne_ad0_ad6)
  have A_ad2 := A_ad2.other W10 (Ne.symm ne_ad0_ad2)
  have A_ad4 := A_ad4.other W10 (Ne.symm ne_ad0_ad4)
  have OL := OL.wr W10 g_ad0
  have KK := KK.wr W10 (Or.inl (List.mem_of_getElem? (i := 0) rfl))
  refine g_aloadN cx d17_21 rfl rfl ?_
  refine g_dup cx d17_22 rfl ?_
  refine g_getF cx d17_23 (host := "") (Or.inl (hw _ (List.mem_of_getElem? (i := 124) rfl))) Via.refl O_ad0.2.2.2.2.2.2.2.2 ?_
  refine g_aloadN cx d17_26 rfl rfl ?_
  refine g_virtual cx (y := (⟨"com/example/thalweg/thalweg/node/Pace$Sample", "busyNs", "()J"⟩ : MethodName)) (z := (⟨"com/example/thalweg/thalweg/node/Pace$Sample", "busyNs", "()J"⟩ : MethodName)) (a := ad6) d17_27 (hw _ (List.mem_of_getElem? (i := 126) rfl)) (hw _ (List.mem_of_getElem? (i := 127) rfl)) (hw _ (List.mem_of_getElem? (i := 92) rfl)) (hw _ (List.mem_of_getElem? (i := 130) rfl)) (hw _ (List.mem_of_getElem? (i := 129) rfl)) (hw _ (List.mem_of_getElem? (i := 128) rfl)) rfl (by decide) O_ad6.1 (bytes := prog_55_method_7_code) (maxL' := 1) (M := (ra22 l Z a0 hw  ad6 x5 x6 x7 x8 _ O_ad6 g_ad6 OL)) rfl (lenOf pd_9 rfl) (by decide) (W := 3) (Nat.le_of_eq rfl) (by decide) (k' := 0) (n' := 0) rfl rfl (by decide) (by decide) (argsL := []) (rest := [(.long x2), (.ref ad0)]) rfl (fun v13 h12 q14 => ?_)
  obtain ⟨rfl, rfl⟩ := q14
  refine G.cast (st' := [(.long x7), (.long x2), (.ref ad0)]) ?_ rfl
  refine g_ladd cx d17_30 ?_
  refine g_putF cx d17_31 (host := "") (Or.inl (hw _ (List.mem_of_getElem? (i := 124) rfl))) Via.refl O_ad0.2.2.2.2.2.2.2.2 O_ad0.1 (Or.inl (hw _ (List.mem_of_getElem? (i := 125) rfl))) (hw _ (List.mem_of_getElem? (i := 2) rfl)) (ty := .long) (by decide) rfl rfl g_ad0 (fun h15 W16 => ?_)
  have O_ad0 := O_ad0.put8 hw W16
  have O_ad1 := O_ad1.oth W16 (Ne.symm ne_ad0_ad1)
  have O_ad3 := O_ad3.oth W16 (Ne.symm ne_ad0_ad3)
  have O_ad5 := O_ad5.oth W16 (Ne.symm ne_ad0_ad5)
  have O_ad6 := O_ad6.oth W16 (Ne.symm ne_ad0_ad6)
  have A_ad2 := A_ad2.other W16 (Ne.symm ne_ad0_ad2)
  have A_ad4 := A_ad4.other W16 (Ne.symm ne_ad0_ad4)
  have OL := OL.wr W16 g_ad0
  have KK := KK.wr W16 (Or.inl (List.mem_of_getElem? (i := 0) rfl))
  refine g_aloadN cx d17_34 rfl rfl ?_
  refine g_getF cx d17_35 (host := "") (Or.inl (hw _ (List.mem_of_getElem? (i := 29) rfl))) Via.refl O_ad0.2.2.1 ?_
  refine g_virtual cx (y := (⟨"java/util/ArrayDeque", "size", "()I"⟩ : MethodName)) (z := (⟨"java/util/ArrayDeque", "size", "()I"⟩ : MethodName)) (a := ad3) d17_38 (hw _ (List.mem_of_getElem? (i := 131) rfl)) (hw _ (List.mem_of_getElem? (i := 132) rfl)) (hw _ (List.mem_of_getElem? (i := 12) rfl)) (hw _ (List.mem_of_getElem? (i := 135) rfl)) (hw _ (List.mem_of_getElem? (i := 134) rfl)) (hw _ (List.mem_of_getElem? (i := 133) rfl)) rfl (by decide) O_ad3.1 (bytes := jdk_21_method_37_code) (maxL' := 1) (M := (ra36 l Z a0 hw  ad3 ad4 ad5 ad6 x0 x1 x2 x3 x5 x6 x7 x8 cA_ad4 _ O_ad3 O_ad5 O_ad6 A_ad4 OV_ad4 ne_ad3_ad4 ne_ad3_ad5 ne_ad4_ad5 ne_ad3_ad6 ne_ad4_ad6 ne_ad5_ad6 g_ad3 g_ad4 g_ad5 g_ad6 OL)) rfl (lenOf pd_11 rfl) (by decide) (W := 0) (Nat.le_of_eq rfl) (by decide) (k' := 0) (n' := 0) rfl rfl (by decide) (by decide) (argsL := []) (rest := []) rfl (fun v19 h18 q20 => ?_)
  obtain ⟨rfl, rfl⟩ := q20
  refine G.cast (st' := [(.int (2 : Int32))]) ?_ rfl
  refine g_iconst cx d17_41 (v := (1 : Int32)) rfl ?_
  refine g_icmp_le cx d17_42 (fun q => absurd q (fun q => by revert q; decide)) (fun hc42 => ?_)
  refine g_aloadN cx d17_45 rfl rfl ?_
  refine g_getF cx d17_46 (host := "") (Or.inl (hw _ (List.mem_of_getElem? (i := 29) rfl))) Via.refl O_ad0.2.2.1 ?_
  refine g_virtual cx (y := (⟨"java/util/ArrayDeque", "peekFirst", "()Ljava/lang/Object;"⟩ : MethodName)) (z := (⟨"java/util/ArrayDeque", "peekFirst", "()Ljava/lang/Object;"⟩ : MethodName)) (a := ad3) d17_49 (hw _ (List.mem_of_getElem? (i := 139) rfl)) (hw _ (List.mem_of_getElem? (i := 140) rfl)) (hw _ (List.mem_of_getElem? (i := 12) rfl)) (hw _ (List.mem_of_getElem? (i := 143) rfl)) (hw _ (List.mem_of_getElem? (i := 142) rfl)) (hw _ (List.mem_of_getElem? (i := 141) rfl)) rfl (by decide) O_ad3.1 (bytes := jdk_21_method_24_code) (maxL' := 1) (M := (ra38 l Z a0 hw  ad3 ad4 ad5 ad6 x0 x1 x2 x3 x5 x6 x7 x8 cA_ad4 _ O_ad3 O_ad5 O_ad6 A_ad4 OV_ad4 ne_ad3_ad4 ne_ad3_ad5 ne_ad4_ad5 ne_ad3_ad6 ne_ad4_ad6 ne_ad5_ad6 g_ad3 g_ad4 g_ad5 g_ad6 OL)) rfl (lenOf pd_6 rfl) (by decide) (W := 0) (Nat.le_of_eq rfl) (by decide) (k' := 0) (n' := 0) rfl rfl (by decide) (by decide) (argsL := []) (rest := []) rfl (fun v23 h22 q24 => ?_)
  obtain ⟨rfl, rfl⟩ := q24
  refine G.cast (st' := [(.ref ad5)]) ?_ rfl
  refine g_checkcast cx d17_52 (hw _ (List.mem_of_getElem? (i := 90) rfl)) (Ins.self O_ad5.1) ?_
  refine g_virtual cx (y := (⟨"com/example/thalweg/thalweg/node/Pace$Sample", "atNs", "()J"⟩ : MethodName)) (z := (⟨"com/example/thalweg/thalweg/node/Pace$Sample", "atNs", "()J"⟩ : MethodName)) (a := ad5) d17_55 (hw _ (List.mem_of_getElem? (i := 145) rfl)) (hw _ (List.mem_of_getElem? (i := 146) rfl)) (hw _ (List.mem_of_getElem? (i := 92) rfl)) (hw _ (List.mem_of_getElem? (i := 149) rfl)) (hw _ (List.mem_of_getElem? (i := 148) rfl)) (hw _ (List.mem_of_getElem? (i := 147) rfl)) rfl (by decide) O_ad5.1 (bytes := prog_55_method_5_code) (maxL' := 1) (M := (ra40 l Z a0 hw  ad5 x0 x1 x2 x3 _ O_ad5 g_ad5 OL)) rfl (lenOf pd_9 rfl) (by decide) (W := 0) (Nat.le_of_eq rfl) (by decide) (k' := 0) (n' := 0) rfl rfl (by decide) (by decide) (argsL := []) (rest := []) rfl (fun v27 h26 q28 => ?_)
  obtain ⟨rfl, rfl⟩ := q28
  refine G.cast (st' := [(.long x0)]) ?_ rfl
  refine g_aloadN cx d17_58 rfl rfl ?_
  refine g_virtual cx (y := (⟨"com/example/thalweg/thalweg/node/Pace$Sample", "atNs", "()J"⟩ : MethodName)) (z := (⟨"com/example/thalweg/thalweg/node/Pace$Sample", "atNs", "()J"⟩ : MethodName)) (a := ad6) d17_59 (hw _ (List.mem_of_getElem? (i := 145) rfl)) (hw _ (List.mem_of_getElem? (i := 146) rfl)) (hw _ (List.mem_of_getElem? (i := 92) rfl)) (hw _ (List.mem_of_getElem? (i := 149) rfl)) (hw _ (List.mem_of_getElem? (i := 148) rfl)) (hw _ (List.mem_of_getElem? (i := 147) rfl)) rfl (by decide) O_ad6.1 (bytes := prog_55_method_5_code) (maxL' := 1) (M := (ra40 l Z a0 hw  ad6 x5 x6 x7 x8 _ O_ad6 g_ad6 OL)) rfl (lenOf pd_9 rfl) (by decide) (W := 2) (Nat.le_of_eq rfl) (by decide) (k' := 0) (n' := 0) rfl rfl (by decide) (by decide) (argsL := []) (rest := [(.long x0)]) rfl (fun v31 h30 q32 => ?_)
  obtain ⟨rfl, rfl⟩ := q32
  refine G.cast (st' := [(.long x5), (.long x0)]) ?_ rfl
  refine g_ldcJ cx d17_62 (hw _ (List.mem_of_getElem? (i := 150) rfl)) ?_
  refine g_lsub cx d17_65 ?_
  refine g_lif_ge cx d17_66 d17_67 (fun hc67 => ?_) (fun hc67 => ?_)
  · refine g_retV cx d17_110 rfl (by decide) (by decide) ?_
    exact Or.inl ⟨hc67, rfl, KK, O_ad0, O_ad3, A_ad4⟩
  · refine g_aloadN cx d17_70 rfl rfl ?_
    refine g_getF cx d17_71 (host := "") (Or.inl (hw _ (List.mem_of_getElem? (i := 29) rfl))) Via.refl O_ad0.2.2.1 ?_
    refine g_virtual cx (y := (⟨"java/util/ArrayDeque", "removeFirst", "()Ljava/lang/Object;"⟩ : MethodName)) (z := (⟨"java/util/ArrayDeque", "removeFirst", "()Ljava/lang/Object;"⟩ : MethodName)) (a := ad3) d17_74 (hw _ (List.mem_of_getElem? (i := 75) rfl)) (hw _ (List.mem_of_getElem? (i := 76) rfl)) (hw _ (List.mem_of_getElem? (i := 12) rfl)) (hw _ (List.mem_of_getElem? (i := 79) rfl)) (hw _ (List.mem_of_getElem? (i := 78) rfl)) (hw _ (List.mem_of_getElem? (i := 77) rfl)) rfl (by decide) O_ad3.1 (bytes := jdk_21_method_18_code) (maxL' := 2) (M := (ra41 l Z a0 hw  ad3 ad4 ad5 ad6 x0 x1 x2 x3 x5 x6 x7 x8 cA_ad4 _ O_ad3 O_ad5 O_ad6 A_ad4 OV_ad4 ne_ad3_ad4 ne_ad3_ad5 ne_ad4_ad5 ne_ad3_ad6 ne_ad4_ad6 ne_ad5_ad6 g_ad3 g_ad4 g_ad5 g_ad6 OL)) rfl (lenOf pd_6 rfl) (by decide) (W := 0) (Nat.le_of_eq rfl) (by decide) (k' := 0) (n' := 0) rfl rfl (by decide) (by decide) (argsL := []) (rest := []) rfl (fun v35 h34 q36 => ?_)
    obtain ⟨rfl, K33, O_ad3, A_ad4⟩ := q36
    have O_ad0 := O_ad0.keep K33 (ninS ne_ad0_ad3 (ninS ne_ad0_ad4 nin0))
    have O_ad1 := O_ad1.keep K33 (ninS ne_ad1_ad3 (ninS ne_ad1_ad4 nin0))
    have O_ad5 := O_ad5.keep K33 (ninS (Ne.symm ne_ad3_ad5) (ninS (Ne.symm ne_ad4_ad5) nin0))
    have O_ad6 := O_ad6.keep K33 (ninS (Ne.symm ne_ad3_ad6) (ninS (Ne.symm ne_ad4_ad6) nin0))
    have A_ad2 := A_ad2.keep K33 (ninS ne_ad2_ad3 (ninS ne_ad2_ad4 nin0))
    have OL := OL.keep K33 (allS g_ad3 (allS g_ad4 all0))
    have KK := KK.trans K33 (allS (P := fun z => z ∈ _ ∨ _ ≤ z) (Or.inl (List.mem_of_getElem? (i := 1) rfl)) (allS (P := fun z => z ∈ _ ∨ _ ≤ z) (Or.inl (List.mem_of_getElem? (i := 2) rfl)) all0))
    refine G.cast (st' := [(.ref ad5)]) ?_ rfl
    refine g_checkcast cx d17_77 (hw _ (List.mem_of_getElem? (i := 90) rfl)) (Ins.self O_ad5.1) ?_
    refine g_astoreN cx d17_80 rfl (Ls' := #[.val (.ref ad0), .val (.ref ad6), .val (.ref ad5)]) rfl ?_
    refine g_aloadN cx d17_81 rfl rfl ?_
    refine g_dup cx d17_82 rfl ?_
    refine g_getF cx d17_83 (host := "") (Or.inl (hw _ (List.mem_of_getElem? (i := 36) rfl))) Via.refl O_ad0.2.2.2.1 ?_
    refine g_aloadN cx d17_86 rfl rfl ?_
    refine g_virtual cx (y := (⟨"com/example/thalweg/thalweg/node/Pace$Sample", "bytes", "()J"⟩ : MethodName)) (z := (⟨"com/example/thalweg/thalweg/node/Pace$Sample", "bytes", "()J"⟩ : MethodName)) (a := ad5) d17_87 (hw _ (List.mem_of_getElem? (i := 119) rfl)) (hw _ (List.mem_of_getElem? (i := 120) rfl)) (hw _ (List.mem_of_getElem? (i := 92) rfl)) (hw _ (List.mem_of_getElem? (i := 123) rfl)) (hw _ (List.mem_of_getElem? (i := 122) rfl)) (hw _ (List.mem_of_getElem? (i := 121) rfl)) rfl (by decide) O_ad5.1 (bytes := prog_55_method_6_code) (maxL' := 1) (M := (ra21 l Z a0 hw  ad5 x0 x1 x2 x3 _ O_ad5 g_ad5 OL)) rfl (lenOf pd_9 rfl) (by decide) (W := 3) (Nat.le_of_eq rfl) (by decide) (k' := 0) (n' := 0) rfl rfl (by decide) (by decide) (argsL := []) (rest := [(.long (x1 + x6)), (.ref ad0)]) rfl (fun v39 h38 q40 => ?_)
    obtain ⟨rfl, rfl⟩ := q40
    refine G.cast (st' := [(.long x1), (.long (x1 + x6)), (.ref ad0)]) ?_ rfl
    refine g_lsub cx d17_90 ?_
    refine g_putF cx d17_91 (host := "") (Or.inl (hw _ (List.mem_of_getElem? (i := 36) rfl))) Via.refl O_ad0.2.2.2.1 O_ad0.1 (Or.inl (hw _ (List.mem_of_getElem? (i := 37) rfl))) (hw _ (List.mem_of_getElem? (i := 2) rfl)) (ty := .long) (by decide) rfl rfl g_ad0 (fun h41 W42 => ?_)
    have O_ad0 := O_ad0.put3 hw W42
    have O_ad1 := O_ad1.oth W42 (Ne.symm ne_ad0_ad1)
    have O_ad3 := O_ad3.oth W42 (Ne.symm ne_ad0_ad3)
    have O_ad5 := O_ad5.oth W42 (Ne.symm ne_ad0_ad5)
    have O_ad6 := O_ad6.oth W42 (Ne.symm ne_ad0_ad6)
    have A_ad2 := A_ad2.other W42 (Ne.symm ne_ad0_ad2)
    have A_ad4 := A_ad4.other W42 (Ne.symm ne_ad0_ad4)
    have OL := OL.wr W42 g_ad0
    have KK := KK.wr W42 (Or.inl (List.mem_of_getElem? (i := 0) rfl))
    refine g_aloadN cx d17_94 rfl rfl ?_
    refine g_dup cx d17_95 rfl ?_
    refine g_getF cx d17_96 (host := "") (Or.inl (hw _ (List.mem_of_getElem? (i := 124) rfl))) Via.refl O_ad0.2.2.2.2.2.2.2.2 ?_
    refine g_aloadN cx d17_99 rfl rfl ?_
    refine g_virtual cx (y := (⟨"com/example/thalweg/thalweg/node/Pace$Sample", "busyNs", "()J"⟩ : MethodName)) (z := (⟨"com/example/thalweg/thalweg/node/Pace$Sample", "busyNs", "()J"⟩ : MethodName)) (a := ad5) d17_100 (hw _ (List.mem_of_getElem? (i := 126) rfl)) (hw _ (List.mem_of_getElem? (i := 127) rfl)) (hw _ (List.mem_of_getElem? (i := 92) rfl)) (hw _ (List.mem_of_getElem? (i := 130) rfl)) (hw _ (List.mem_of_getElem? (i := 129) rfl)) (hw _ (List.mem_of_getElem? (i := 128) rfl)) rfl (by decide) O_ad5.1 (bytes := prog_55_method_7_code) (maxL' := 1) (M := (ra22 l Z a0 hw  ad5 x0 x1 x2 x3 _ O_ad5 g_ad5 OL)) rfl (lenOf pd_9 rfl) (by decide) (W := 3) (Nat.le_of_eq rfl) (by decide) (k' := 0) (n' := 0) rfl rfl (by decide) (by decide) (argsL := []) (rest := [(.long (x2 + x7)), (.ref ad0)]) rfl (fun v45 h44 q46 => ?_)
    obtain ⟨rfl, rfl⟩ := q46
    refine G.cast (st' := [(.long x2), (.long (x2 + x7)), (.ref ad0)]) ?_ rfl
    refine g_lsub cx d17_103 ?_
    refine g_putF cx d17_104 (host := "") (Or.inl (hw _ (List.mem_of_getElem? (i := 124) rfl))) Via.refl O_ad0.2.2.2.2.2.2.2.2 O_ad0.1 (Or.inl (hw _ (List.mem_of_getElem? (i := 125) rfl))) (hw _ (List.mem_of_getElem? (i := 2) rfl)) (ty := .long) (by decide) rfl rfl g_ad0 (fun h47 W48 => ?_)
    have O_ad0 := O_ad0.put8 hw W48
    have O_ad1 := O_ad1.oth W48 (Ne.symm ne_ad0_ad1)
    have O_ad3 := O_ad3.oth W48 (Ne.symm ne_ad0_ad3)
    have O_ad5 := O_ad5.oth W48 (Ne.symm ne_ad0_ad5)
    have O_ad6 := O_ad6.oth W48 (Ne.symm ne_ad0_ad6)
    have A_ad2 := A_ad2.other W48 (Ne.symm ne_ad0_ad2)
    have A_ad4 := A_ad4.other W48 (Ne.symm ne_ad0_ad4)
    have OL := OL.wr W48 g_ad0
    have KK := KK.wr W48 (Or.inl (List.mem_of_getElem? (i := 0) rfl))
    refine g_goto cx d17_107 ?_
    refine g_aloadN cx d17_34 rfl rfl ?_
    refine g_getF cx d17_35 (host := "") (Or.inl (hw _ (List.mem_of_getElem? (i := 29) rfl))) Via.refl O_ad0.2.2.1 ?_
    refine g_virtual cx (y := (⟨"java/util/ArrayDeque", "size", "()I"⟩ : MethodName)) (z := (⟨"java/util/ArrayDeque", "size", "()I"⟩ : MethodName)) (a := ad3) d17_38 (hw _ (List.mem_of_getElem? (i := 131) rfl)) (hw _ (List.mem_of_getElem? (i := 132) rfl)) (hw _ (List.mem_of_getElem? (i := 12) rfl)) (hw _ (List.mem_of_getElem? (i := 135) rfl)) (hw _ (List.mem_of_getElem? (i := 134) rfl)) (hw _ (List.mem_of_getElem? (i := 133) rfl)) rfl (by decide) O_ad3.1 (bytes := jdk_21_method_37_code) (maxL' := 1) (M := (ra43 l Z a0 hw  ad3 ad4 ad6 x5 x6 x7 x8 cA_ad4 _ O_ad3 O_ad6 A_ad4 OV_ad4 ne_ad3_ad4 ne_ad3_ad6 ne_ad4_ad6 g_ad3 g_ad4 g_ad6 OL)) rfl (lenOf pd_11 rfl) (by decide) (W := 0) (Nat.le_of_eq rfl) (by decide) (k' := 0) (n' := 0) rfl rfl (by decide) (by decide) (argsL := []) (rest := []) rfl (fun v51 h50 q52 => ?_)
    obtain ⟨rfl, rfl⟩ := q52
    refine G.cast (st' := [(.int (1 : Int32))]) ?_ rfl
    refine g_iconst cx d17_41 (v := (1 : Int32)) rfl ?_
    refine g_icmp_le cx d17_42 (fun hc42x => ?_) (fun q => absurd q (fun q => by revert q; decide))
    refine g_retV cx d17_110 rfl (by decide) (by decide) ?_
    exact Or.inr (⟨hc67, rfl, KK, O_ad0, O_ad3, A_ad4⟩)
theorem pn_ra33 : plainName "com/example/thalweg/thalweg/node/Pace" = true := by first | (simp [plainName, overriddenIn]; done) | decide +kernel
set_option maxRecDepth 65536 in
set_option maxHeartbeats 40000000 in
theorem ra33 (l : Launch) (Z : State) (a0 : Array Value) (hw : ∀ d ∈ tables_1, d.before a0 Z = true)  (ad0 ad1 ad2 ad3 ad4 ad5 ad6 : Addr) (x0 : Int64) (x1 : Int64) (x2 : Int64) (x3 : Int64) (x4 : Int64) (x5 : Int64) (x6 : Int64) (x7 : Int64) (cA_ad2 : ClassId) (cA_ad3 : ClassId) (cA_ad5 : ClassId) (h0 : Heap) (O_ad0 : ObP Z h0 ad0 (.ref ad1) (.ref ad4) (.long x3) (.long x2) (.long x6) (.long (2 : Int64)) (.long (1 : Int64)) (.long x4)) (O_ad1 : ObD Z h0 ad1 (.ref ad2) (.int (1 : Int32)) (.int (2 : Int32))) (O_ad4 : ObD Z h0 ad4 (.ref ad5) (.int (0 : Int32)) (.int (1 : Int32))) (O_ad6 : ObS Z h0 ad6 (.long x2) (.long x3) (.long x4) (.long x5)) (A_ad2 : Arx Z h0 ad2 cA_ad2 (.object "java/lang/Object") (17 : Int32) [.null, (.ref ad3), .null, .null, .null, .null, .null, .null, .null, .null, .null, .null, .null, .null, .null, .null, .null] .null "[Ljava/lang/Object;") (A_ad3 : Arx Z h0 ad3 cA_ad3 .long (2 : Int32) [(.long x0), (.long x1)] (.long (0 : Int64)) "[J") (A_ad5 : Arx Z h0 ad5 cA_ad5 (.object "java/lang/Object") (17 : Int32) [(.ref ad6), .null, .null, .null, .null, .null, .null, .null, .null, .null, .null, .null, .null, .null, .null, .null, .null] .null "[Ljava/lang/Object;") (OV_ad2 : Ovr Z cA_ad2 "java/lang/Object") (OV_ad5 : Ovr Z cA_ad5 "java/lang/Object") (ne_ad0_ad1 : ad0 ≠ ad1) (ne_ad0_ad2 : ad0 ≠ ad2) (ne_ad1_ad2 : ad1 ≠ ad2) (ne_ad0_ad3 : ad0 ≠ ad3) (ne_ad1_ad3 : ad1 ≠ ad3) (ne_ad2_ad3 : ad2 ≠ ad3) (ne_ad0_ad4 : ad0 ≠ ad4) (ne_ad1_ad4 : ad1 ≠ ad4) (ne_ad2_ad4 : ad2 ≠ ad4) (ne_ad3_ad4 : ad3 ≠ ad4) (ne_ad0_ad5 : ad0 ≠ ad5) (ne_ad1_ad5 : ad1 ≠ ad5) (ne_ad2_ad5 : ad2 ≠ ad5) (ne_ad3_ad5 : ad3 ≠ ad5) (ne_ad4_ad5 : ad4 ≠ ad5) (ne_ad0_ad6 : ad0 ≠ ad6) (ne_ad1_ad6 : ad1 ≠ ad6) (ne_ad2_ad6 : ad2 ≠ ad6) (ne_ad3_ad6 : ad3 ≠ ad6) (ne_ad4_ad6 : ad4 ≠ ad6) (ne_ad5_ad6 : ad5 ≠ ad6) (g_ad0 : Z.heap.size ≤ ad0) (g_ad1 : Z.heap.size ≤ ad1) (g_ad2 : Z.heap.size ≤ ad2) (g_ad3 : Z.heap.size ≤ ad3) (g_ad4 : Z.heap.size ≤ ad4) (g_ad5 : Z.heap.size ≤ ad5) (g_ad6 : Z.heap.size ≤ ad6) (OL : Old Z Z.heap.size h0) :
    Met l Z (⟨"com/example/thalweg/thalweg/node/Pace", "taken", "(JJ)V"⟩ : MethodName) prog_54_method_3_code 10 none ({ frames := 4, cells := 1, slots := 4, locals := 56 } : Room) #[(.ref ad0), (.long (2 : Int64)), (.long x7)] h0 (fun v h' => (∃ (b10 : Addr) , ¬ (x2 < (x7 - (2000000000 : Int64))) ∧ v = none ∧ Keep h0 h' [ad0, ad1, ad2, ad4, ad5] ∧ h0.size ≤ b10 ∧ ObS Z h' b10 (.long x7) (.long x0) (.long (own_max (1 : Int64) (x7 - x2))) (.long (x7 - x1)) ∧ ObP Z h' ad0 (.ref ad1) (.ref ad4) (.long (x3 + x0)) (.long x7) (.long (x6 - x0)) (.long (2 : Int64)) (.long (2 : Int64)) (.long (x4 + (own_max (1 : Int64) (x7 - x2)))) ∧ ObD Z h' ad1 (.ref ad2) (.int (2 : Int32)) (.int (2 : Int32)) ∧ Arx Z h' ad2 cA_ad2 (.object "java/lang/Object") (17 : Int32) [.null, .null, .null, .null, .null, .null, .null, .null, .null, .null, .null, .null, .null, .null, .null, .null, .null] .null "[Ljava/lang/Object;" ∧ ObD Z h' ad4 (.ref ad5) (.int (0 : Int32)) (.int (2 : Int32)) ∧ Arx Z h' ad5 cA_ad5 (.object "java/lang/Object") (17 : Int32) [(.ref ad6), (.ref b10), .null, .null, .null, .null, .null, .null, .null, .null, .null, .null, .null, .null, .null, .null, .null] .null "[Ljava/lang/Object;") ∨ (∃ (b10 : Addr) , x2 < (x7 - (2000000000 : Int64)) ∧ v = none ∧ Keep h0 h' [ad0, ad1, ad2, ad4, ad5] ∧ h0.size ≤ b10 ∧ ObS Z h' b10 (.long x7) (.long x0) (.long (own_max (1 : Int64) (x7 - x2))) (.long (x7 - x1)) ∧ ObP Z h' ad0 (.ref ad1) (.ref ad4) (.long ((x3 + x0) - x3)) (.long x7) (.long (x6 - x0)) (.long (2 : Int64)) (.long (2 : Int64)) (.long ((x4 + (own_max (1 : Int64) (x7 - x2))) - x4)) ∧ ObD Z h' ad1 (.ref ad2) (.int (2 : Int32)) (.int (2 : Int32)) ∧ Arx Z h' ad2 cA_ad2 (.object "java/lang/Object") (17 : Int32) [.null, .null, .null, .null, .null, .null, .null, .null, .null, .null, .null, .null, .null, .null, .null, .null, .null] .null "[Ljava/lang/Object;" ∧ ObD Z h' ad4 (.ref ad5) (.int (1 : Int32)) (.int (2 : Int32)) ∧ Arx Z h' ad5 cA_ad5 (.object "java/lang/Object") (17 : Int32) [.null, (.ref b10), .null, .null, .null, .null, .null, .null, .null, .null, .null, .null, .null, .null, .null, .null, .null] .null "[Ljava/lang/Object;")) := by
  refine met_of (Ls := #[.val (.ref ad0), .val (.long (2 : Int64)), .second, .val (.long x7), .second, .unset, .unset, .unset, .unset, .unset]) (plainFor_of_name pn_ra33) (fun m => by first | (simp [entryFrame, mkF, argsToLocals, Value.category]; done) | rfl) (fun p e s m below meth c cx => ?_)
  have KK := Keep.refl h0 [ad0, ad1, ad2, ad4, ad5]
  refine g_lloadN cx d10_0 rfl ?_
  refine g_aloadN cx d10_1 rfl rfl ?_
  refine g_getF cx d10_2 (host := "") (Or.inl (hw _ (List.mem_of_getElem? (i := 73) rfl))) Via.refl O_ad0.2.2.2.2.2.2.2.1 ?_
  refine g_lif_lt cx d10_5 d10_6 (fun q => absurd q (fun q => by revert q; decide)) (fun hc6 => ?_)
  refine g_lloadN cx d10_9 rfl ?_
  refine g_aloadN cx d10_10 rfl rfl ?_
  refine g_getF cx d10_11 (host := "") (Or.inl (hw _ (List.mem_of_getElem? (i := 66) rfl))) Via.refl O_ad0.2.2.2.2.2.2.1 ?_
  refine g_lif_le cx d10_14 d10_15 (fun hc15 => ?_) (fun q => absurd q (fun q => by revert q; decide))
  refine g_lloadN cx d10_40 rfl ?_
  refine g_aloadN cx d10_41 rfl rfl ?_
  refine g_getF cx d10_42 (host := "") (Or.inl (hw _ (List.mem_of_getElem? (i := 73) rfl))) Via.refl O_ad0.2.2.2.2.2.2.2.1 ?_
  refine g_lif_ne cx d10_45 d10_46 (fun hc46 => ?_) (fun q => absurd q (fun q => by revert q; decide))
  refine g_lconst cx d10_50 (v := (0 : Int64)) rfl ?_
  refine g_lstore cx d10_51 (Ls' := #[.val (.ref ad0), .val (.long (2 : Int64)), .second, .val (.long x7), .second, .val (.long (0 : Int64)), .second, .unset, .unset, .unset]) rfl ?_
  refine g_lconst cx d10_53 (v := (0 : Int64)) rfl ?_
  refine g_lstore cx d10_54 (Ls' := #[.val (.ref ad0), .val (.long (2 : Int64)), .second, .val (.long x7), .second, .val (.long (0 : Int64)), .second, .val (.long (0 : Int64)), .second, .unset]) rfl ?_
  refine g_aloadN cx d10_56 rfl rfl ?_
  refine g_getF cx d10_57 (host := "") (Or.inl (hw _ (List.mem_of_getElem? (i := 73) rfl))) Via.refl O_ad0.2.2.2.2.2.2.2.1 ?_
  refine g_lloadN cx d10_60 rfl ?_
  refine g_lif_ge cx d10_61 d10_62 (fun q => absurd q (fun q => by revert q; decide)) (fun hc62 => ?_)
  refine g_aloadN cx d10_65 rfl rfl ?_
  refine g_getF cx d10_66 (host := "") (Or.inl (hw _ (List.mem_of_getElem? (i := 27) rfl))) Via.refl O_ad0.2.1 ?_
  refine g_virtual cx (y := (⟨"java/util/ArrayDeque", "removeFirst", "()Ljava/lang/Object;"⟩ : MethodName)) (z := (⟨"java/util/ArrayDeque", "removeFirst", "()Ljava/lang/Object;"⟩ : MethodName)) (a := ad1) d10_69 (hw _ (List.mem_of_getElem? (i := 75) rfl)) (hw _ (List.mem_of_getElem? (i := 76) rfl)) (hw _ (List.mem_of_getElem? (i := 12) rfl)) (hw _ (List.mem_of_getElem? (i := 79) rfl)) (hw _ (List.mem_of_getElem? (i := 78) rfl)) (hw _ (List.mem_of_getElem? (i := 77) rfl)) rfl (by decide) O_ad1.1 (bytes := jdk_21_method_18_code) (maxL' := 2) (M := (ra27 l Z a0 hw  ad1 ad2 ad3 x0 x1 cA_ad2 cA_ad3 _ O_ad1 A_ad2 A_ad3 OV_ad2 ne_ad1_ad2 ne_ad1_ad3 ne_ad2_ad3 g_ad1 g_ad2 g_ad3 OL)) rfl (lenOf pd_6 rfl) (by decide) (W := 0) (Nat.le_of_eq rfl) (by decide) (k' := 0) (n' := 0) rfl rfl (by decide) (by decide) (argsL := []) (rest := []) rfl (fun v3 h2 q4 => ?_)
  obtain ⟨rfl, K1, O_ad1, A_ad2⟩ := q4
  have O_ad0 := O_ad0.keep K1 (ninS ne_ad0_ad1 (ninS ne_ad0_ad2 nin0))
  have O_ad4 := O_ad4.keep K1 (ninS (Ne.symm ne_ad1_ad4) (ninS (Ne.symm ne_ad2_ad4) nin0))
  have O_ad6 := O_ad6.keep K1 (ninS (Ne.symm ne_ad1_ad6) (ninS (Ne.symm ne_ad2_ad6) nin0))
  have A_ad3 := A_ad3.keep K1 (ninS (Ne.symm ne_ad1_ad3) (ninS (Ne.symm ne_ad2_ad3) nin0))
  have A_ad5 := A_ad5.keep K1 (ninS (Ne.symm ne_ad1_ad5) (ninS (Ne.symm ne_ad2_ad5) nin0))
  have OL := OL.keep K1 (allS g_ad1 (allS g_ad2 all0))
  have KK := KK.trans K1 (allS (P := fun z => z ∈ _ ∨ _ ≤ z) (Or.inl (List.mem_of_getElem? (i := 1) rfl)) (allS (P := fun z => z ∈ _ ∨ _ ≤ z) (Or.inl (List.mem_of_getElem? (i := 2) rfl)) all0))
  refine G.cast (st' := [(.ref ad3)]) ?_ rfl
  refine g_checkcast cx d10_72 (hw _ (List.mem_of_getElem? (i := 88) rfl)) (Ins.self A_ad3.2) ?_
  refine g_astore cx d10_75 rfl (Ls' := #[.val (.ref ad0), .val (.long (2 : Int64)), .second, .val (.long x7), .second, .val (.long (0 : Int64)), .second, .val (.long (0 : Int64)), .second, .val (.ref ad3)]) rfl ?_
  refine g_lload cx d10_77 rfl ?_
  refine g_aload cx d10_79 rfl rfl ?_
  refine g_iconst cx d10_81 (v := (0 : Int32)) rfl ?_
  refine g_laload cx d10_82 A_ad3.1 ⟨by decide, by decide⟩ (v := (.long x0)) rfl ?_
  refine g_ladd cx d10_83 ?_
  rw [Int64.zero_add]
  refine g_lstore cx d10_84 (Ls' := #[.val (.ref ad0), .val (.long (2 : Int64)), .second, .val (.long x7), .second, .val (.long x0), .second, .val (.long (0 : Int64)), .second, .val (.ref ad3)]) rfl ?_
  refine g_aload cx d10_86 rfl rfl ?_
  refine g_iconst cx d10_88 (v := (1 : Int32)) rfl ?_
  refine g_laload cx d10_89 A_ad3.1 ⟨by decide, by decide⟩ (v := (.long x1)) rfl ?_
  refine g_lstore cx d10_90 (Ls' := #[.val (.ref ad0), .val (.long (2 : Int64)), .second, .val (.long x7), .second, .val (.long x0), .second, .val (.long x1), .second, .val (.ref ad3)]) rfl ?_
  refine g_aloadN cx d10_92 rfl rfl ?_
  refine g_dup cx d10_93 rfl ?_
  refine g_getF cx d10_94 (host := "") (Or.inl (hw _ (List.mem_of_getElem? (i := 73) rfl))) Via.refl O_ad0.2.2.2.2.2.2.2.1 ?_
  refine g_lconst cx d10_97 (v := (1 : Int64)) rfl ?_
  refine g_ladd cx d10_98 ?_
  refine G.cast (st' := [(.long (2 : Int64)), (.ref ad0)]) ?_ rfl
  refine g_putF cx d10_99 (host := "") (Or.inl (hw _ (List.mem_of_getElem? (i := 73) rfl))) Via.refl O_ad0.2.2.2.2.2.2.2.1 O_ad0.1 (Or.inl (hw _ (List.mem_of_getElem? (i := 74) rfl))) (hw _ (List.mem_of_getElem? (i := 2) rfl)) (ty := .long) (by decide) rfl rfl g_ad0 (fun h5 W6 => ?_)
  have O_ad0 := O_ad0.put7 hw W6
  have O_ad1 := O_ad1.oth W6 (Ne.symm ne_ad0_ad1)
  have O_ad4 := O_ad4.oth W6 (Ne.symm ne_ad0_ad4)
  have O_ad6 := O_ad6.oth W6 (Ne.symm ne_ad0_ad6)
  have A_ad2 := A_ad2.other W6 (Ne.symm ne_ad0_ad2)
  have A_ad3 := A_ad3.other W6 (Ne.symm ne_ad0_ad3)
  have A_ad5 := A_ad5.other W6 (Ne.symm ne_ad0_ad5)
  have OL := OL.wr W6 g_ad0
  have KK := KK.wr W6 (Or.inl (List.mem_of_getElem? (i := 0) rfl))
  refine g_goto cx d10_102 ?_
  refine g_aloadN cx d10_56 rfl rfl ?_
  refine g_getF cx d10_57 (host := "") (Or.inl (hw _ (List.mem_of_getElem? (i := 73) rfl))) Via.refl O_ad0.2.2.2.2.2.2.2.1 ?_
  refine g_lloadN cx d10_60 rfl ?_
  refine g_lif_ge cx d10_61 d10_62 (fun hc62x => ?_) (fun q => absurd q (fun q => by revert q; decide))
  refine g_aloadN cx d10_105 rfl rfl ?_
  refine g_dup cx d10_106 rfl ?_
  refine g_getF cx d10_107 (host := "") (Or.inl (hw _ (List.mem_of_getElem? (i := 64) rfl))) Via.refl O_ad0.2.2.2.2.2.1 ?_
  refine g_lload cx d10_110 rfl ?_
  refine g_lsub cx d10_112 ?_
  refine g_putF cx d10_113 (host := "") (Or.inl (hw _ (List.mem_of_getElem? (i := 64) rfl))) Via.refl O_ad0.2.2.2.2.2.1 O_ad0.1 (Or.inl (hw _ (List.mem_of_getElem? (i := 65) rfl))) (hw _ (List.mem_of_getElem? (i := 2) rfl)) (ty := .long) (by decide) rfl rfl g_ad0 (fun h7 W8 => ?_)
  have O_ad0 := O_ad0.put5 hw W8
  have O_ad1 := O_ad1.oth W8 (Ne.symm ne_ad0_ad1)
  have O_ad4 := O_ad4.oth W8 (Ne.symm ne_ad0_ad4)
  have O_ad6 := O_ad6.oth W8 (Ne.symm ne_ad0_ad6)
  have A_ad2 := A_ad2.other W8 (Ne.symm ne_ad0_ad2)
  have A_ad3 := A_ad3.other W8 (Ne.symm ne_ad0_ad3)
  have A_ad5 := A_ad5.other W8 (Ne.symm ne_ad0_ad5)
  have OL := OL.wr W8 g_ad0
  have KK := KK.wr W8 (Or.inl (List.mem_of_getElem? (i := 0) rfl))
  refine g_aloadN cx d10_116 rfl rfl ?_
  refine g_new cx d10_117 (hw _ (List.mem_of_getElem? (i := 90) rfl)) (hw _ (List.mem_of_getElem? (i := 91) rfl)) (hw _ (List.mem_of_getElem? (i := 92) rfl)) (k' := 1) (n' := 4) rfl rfl (by decide) (by decide) (fun h9 b10 gb11 E12 X13 D14 => ?_)
  have ne_ad0_b10 : ad0 ≠ b10 := Nat.ne_of_lt (by rw [gb11]; exact O_ad0.lt)
  have ne_ad1_b10 : ad1 ≠ b10 := Nat.ne_of_lt (by rw [gb11]; exact O_ad1.lt)
  have ne_ad4_b10 : ad4 ≠ b10 := Nat.ne_of_lt (by rw [gb11]; exact O_ad4.lt)
  have ne_ad6_b10 : ad6 ≠ b10 := Nat.ne_of_lt (by rw [gb11]; exact O_ad6.lt)
  have ne_ad2_b10 : ad2 ≠ b10 := Nat.ne_of_lt (by rw [gb11]; exact A_ad2.lt)
  have ne_ad3_b10 : ad3 ≠ b10 := Nat.ne_of_lt (by rw [gb11]; exact A_ad3.lt)
  have ne_ad5_b10 : ad5 ≠ b10 := Nat.ne_of_lt (by rw [gb11]; exact A_ad5.lt)
  have g_b10 : Z.heap.size ≤ b10 := by rw [gb11]; exact OL.2.1
  have sz_b10 := (by rw [gb11]; exact KK.1 : h0.size ≤ b10)
  have O_ad0 := O_ad0.ext E12
  have O_ad1 := O_ad1.ext E12
  have O_ad4 := O_ad4.ext E12
  have O_ad6 := O_ad6.ext E12
  have A_ad2 := A_ad2.ext E12
  have A_ad3 := A_ad3.ext E12
  have A_ad5 := A_ad5.ext E12
  have OL := OL.ext E12
  have KK := KK.ext E12
  have O_b10 := ObS.new hw X13 D14
  refine g_dup cx d10_120 rfl ?_
  refine g_lloadN cx d10_121 rfl ?_
  refine g_lload cx d10_122 rfl ?_
  refine g_lconst cx d10_124 (v := (1 : Int64)) rfl ?_
  refine g_lloadN cx d10_125 rfl ?_
  refine g_aloadN cx d10_126 rfl rfl ?_
  refine g_getF cx d10_127 (host := "") (Or.inl (hw _ (List.mem_of_getElem? (i := 52) rfl))) Via.refl O_ad0.2.2.2.2.1 ?_
  refine g_lsub cx d10_130 ?_
  refine g_static cx (y := (⟨"java/lang/Math", "max", "(JJ)J"⟩ : MethodName)) d10_131 (hw _ (List.mem_of_getElem? (i := 93) rfl)) (hw _ (List.mem_of_getElem? (i := 94) rfl)) (hw _ (List.mem_of_getElem? (i := 95) rfl)) (hw _ (List.mem_of_getElem? (i := 96) rfl)) (by decide) (bytes := jdk_29_method_66_code) (maxL' := 4) (M := (rm3 l Z a0 hw _ _ _)) rfl (lenOf pd_7 rfl) (by decide) (W := 7) (Nat.le_of_eq rfl) (by decide) (k' := 1) (n' := 4) rfl rfl (by decide) (by decide) (argsL := [(.long (1 : Int64)), (.long (x7 - x2))]) (rest := [(.long x0), (.long x7), (.ref b10), (.ref b10), (.ref ad0)]) rfl (fun v16 h15 q17 => ?_)
  obtain ⟨rfl, rfl⟩ := q17
  refine G.cast (st' := [(.long (own_max (1 : Int64) (x7 - x2))), (.long x0), (.long x7), (.ref b10), (.ref b10), (.ref ad0)]) ?_ rfl
  refine g_lloadN cx d10_134 rfl ?_
  refine g_lload cx d10_135 rfl ?_
  refine g_lsub cx d10_137 ?_
  refine g_specialRef cx (y := (⟨"com/example/thalweg/thalweg/node/Pace$Sample", "<init>", "(JJJJ)V"⟩ : MethodName)) (a := b10) d10_138 rfl rfl (hw _ (List.mem_of_getElem? (i := 97) rfl)) (hw _ (List.mem_of_getElem? (i := 98) rfl)) (hw _ (List.mem_of_getElem? (i := 92) rfl)) (hw _ (List.mem_of_getElem? (i := 99) rfl)) (by decide) (bytes := prog_55_method_1_code) (maxL' := 9) (M := (ra18 l Z a0 hw  b10 x7 x0 (own_max (1 : Int64) (x7 - x2)) (x7 - x1) _ O_b10 g_b10 OL)) rfl (lenOf pd_8 rfl) (by decide) (W := 2) (Nat.le_of_eq rfl) (by decide) (k' := 1) (n' := 4) rfl rfl (by decide) (by decide) (argsL := [(.long x7), (.long x0), (.long (own_max (1 : Int64) (x7 - x2))), (.long (x7 - x1))]) (rest := [(.ref b10), (.ref ad0)]) rfl (fun v20 h19 q21 => ?_)
  obtain ⟨rfl, K18, O_b10⟩ := q21
  have O_ad0 := O_ad0.keep K18 (ninS ne_ad0_b10 nin0)
  have O_ad1 := O_ad1.keep K18 (ninS ne_ad1_b10 nin0)
  have O_ad4 := O_ad4.keep K18 (ninS ne_ad4_b10 nin0)
  have O_ad6 := O_ad6.keep K18 (ninS ne_ad6_b10 nin0)
  have A_ad2 := A_ad2.keep K18 (ninS ne_ad2_b10 nin0)
  have A_ad3 := A_ad3.keep K18 (ninS ne_ad3_b10 nin0)
  have A_ad5 := A_ad5.keep K18 (ninS ne_ad5_b10 nin0)
  have OL := OL.keep K18 (allS g_b10 all0)
  have KK := KK.trans K18 (allS (P := fun z => z ∈ _ ∨ _ ≤ z) (Or.inr sz_b10) all0)
  refine G.cast (st' := [(.ref b10), (.ref ad0)]) ?_ rfl
  refine g_private cx (y := (⟨"com/example/thalweg/thalweg/node/Pace", "addSample", "(Lcom/example/thalweg/thalweg/node/Pace$Sample;)V"⟩ : MethodName)) (a := ad0) d10_141 (hw _ (List.mem_of_getElem? (i := 114) rfl)) (hw _ (List.mem_of_getElem? (i := 115) rfl)) (hw _ (List.mem_of_getElem? (i := 3) rfl)) (hw _ (List.mem_of_getElem? (i := 117) rfl)) (own_selpriv (hw _ (List.mem_of_getElem? (i := 2) rfl)) (hw _ (List.mem_of_getElem? (i := 116) rfl)) (hw _ (List.mem_of_getElem? (i := 115) rfl)) (by decide)) (hw _ (List.mem_of_getElem? (i := 116) rfl)) (by decide) O_ad0.1 (bytes := prog_54_method_9_code) (maxL' := 3) (M := (ra34 l Z a0 hw  ad0 ad1 ad2 ad4 ad5 ad6 b10 x2 x3 x4 x5 (x6 - x0) x7 x0 (own_max (1 : Int64) (x7 - x2)) (x7 - x1) cA_ad2 cA_ad5 _ O_ad0 O_ad1 O_ad4 O_ad6 O_b10 A_ad2 A_ad5 OV_ad2 OV_ad5 ne_ad0_ad1 ne_ad0_ad2 ne_ad1_ad2 ne_ad0_ad4 ne_ad1_ad4 ne_ad2_ad4 ne_ad0_ad5 ne_ad1_ad5 ne_ad2_ad5 ne_ad4_ad5 ne_ad0_ad6 ne_ad1_ad6 ne_ad2_ad6 ne_ad4_ad6 ne_ad5_ad6 ne_ad0_b10 ne_ad1_b10 ne_ad2_b10 ne_ad4_b10 ne_ad5_b10 ne_ad6_b10 g_ad0 g_ad1 g_ad2 g_ad4 g_ad5 g_ad6 g_b10 OL)) rfl (lenOf pd_12 rfl) (by decide) (W := 0) (Nat.le_of_eq rfl) (by decide) (k' := 1) (n' := 4) rfl rfl (by decide) (by decide) (argsL := [(.ref b10)]) (rest := []) rfl (fun v27 h26 q28 => ?_)
  rcases q28 with ⟨hq22, rfl, K23, O_ad0, O_ad4, A_ad5⟩ | ⟨hq24, rfl, K25, O_ad0, O_ad4, A_ad5⟩
  · have O_ad1 := O_ad1.keep K23 (ninS (Ne.symm ne_ad0_ad1) (ninS ne_ad1_ad4 (ninS ne_ad1_ad5 nin0)))
    have O_ad6 := O_ad6.keep K23 (ninS (Ne.symm ne_ad0_ad6) (ninS (Ne.symm ne_ad4_ad6) (ninS (Ne.symm ne_ad5_ad6) nin0)))
    have O_b10 := O_b10.keep K23 (ninS (Ne.symm ne_ad0_b10) (ninS (Ne.symm ne_ad4_b10) (ninS (Ne.symm ne_ad5_b10) nin0)))
    have A_ad2 := A_ad2.keep K23 (ninS (Ne.symm ne_ad0_ad2) (ninS ne_ad2_ad4 (ninS ne_ad2_ad5 nin0)))
    have A_ad3 := A_ad3.keep K23 (ninS (Ne.symm ne_ad0_ad3) (ninS ne_ad3_ad4 (ninS ne_ad3_ad5 nin0)))
    have OL := OL.keep K23 (allS g_ad0 (allS g_ad4 (allS g_ad5 all0)))
    have KK := KK.trans K23 (allS (P := fun z => z ∈ _ ∨ _ ≤ z) (Or.inl (List.mem_of_getElem? (i := 0) rfl)) (allS (P := fun z => z ∈ _ ∨ _ ≤ z) (Or.inl (List.mem_of_getElem? (i := 3) rfl)) (allS (P := fun z => z ∈ _ ∨ _ ≤ z) (Or.inl (List.mem_of_getElem? (i := 4) rfl)) all0)))
    refine G.cast (st' := []) ?_ rfl
    refine g_aloadN cx d10_144 rfl rfl ?_
    refine g_lloadN cx d10_145 rfl ?_
    refine g_putF cx d10_146 (host := "") (Or.inl (hw _ (List.mem_of_getElem? (i := 52) rfl))) Via.refl O_ad0.2.2.2.2.1 O_ad0.1 (Or.inl (hw _ (List.mem_of_getElem? (i := 53) rfl))) (hw _ (List.mem_of_getElem? (i := 2) rfl)) (ty := .long) (by decide) rfl rfl g_ad0 (fun h29 W30 => ?_)
    have O_ad0 := O_ad0.put4 hw W30
    have O_ad1 := O_ad1.oth W30 (Ne.symm ne_ad0_ad1)
    have O_ad4 := O_ad4.oth W30 (Ne.symm ne_ad0_ad4)
    have O_ad6 := O_ad6.oth W30 (Ne.symm ne_ad0_ad6)
    have O_b10 := O_b10.oth W30 (Ne.symm ne_ad0_b10)
    have A_ad2 := A_ad2.other W30 (Ne.symm ne_ad0_ad2)
    have A_ad3 := A_ad3.other W30 (Ne.symm ne_ad0_ad3)
    have A_ad5 := A_ad5.other W30 (Ne.symm ne_ad0_ad5)
    have OL := OL.wr W30 g_ad0
    have KK := KK.wr W30 (Or.inl (List.mem_of_getElem? (i := 0) rfl))
    refine g_retV cx d10_149 rfl (by decide) (by decide) ?_
    exact Or.inl ⟨b10, hq22, rfl, KK, sz_b10, O_b10, O_ad0, O_ad1, A_ad2, O_ad4, A_ad5⟩
  · have O_ad1 := O_ad1.keep K25 (ninS (Ne.symm ne_ad0_ad1) (ninS ne_ad1_ad4 (ninS ne_ad1_ad5 nin0)))
    have O_ad6 := O_ad6.keep K25 (ninS (Ne.symm ne_ad0_ad6) (ninS (Ne.symm ne_ad4_ad6) (ninS (Ne.symm ne_ad5_ad6) nin0)))
    have O_b10 := O_b10.keep K25 (ninS (Ne.symm ne_ad0_b10) (ninS (Ne.symm ne_ad4_b10) (ninS (Ne.symm ne_ad5_b10) nin0)))
    have A_ad2 := A_ad2.keep K25 (ninS (Ne.symm ne_ad0_ad2) (ninS ne_ad2_ad4 (ninS ne_ad2_ad5 nin0)))
    have A_ad3 := A_ad3.keep K25 (ninS (Ne.symm ne_ad0_ad3) (ninS ne_ad3_ad4 (ninS ne_ad3_ad5 nin0)))
    have OL := OL.keep K25 (allS g_ad0 (allS g_ad4 (allS g_ad5 all0)))
    have KK := KK.trans K25 (allS (P := fun z => z ∈ _ ∨ _ ≤ z) (Or.inl (List.mem_of_getElem? (i := 0) rfl)) (allS (P := fun z => z ∈ _ ∨ _ ≤ z) (Or.inl (List.mem_of_getElem? (i := 3) rfl)) (allS (P := fun z => z ∈ _ ∨ _ ≤ z) (Or.inl (List.mem_of_getElem? (i := 4) rfl)) all0)))
    refine G.cast (st' := []) ?_ rfl
    refine g_aloadN cx d10_144 rfl rfl ?_
    refine g_lloadN cx d10_145 rfl ?_
    refine g_putF cx d10_146 (host := "") (Or.inl (hw _ (List.mem_of_getElem? (i := 52) rfl))) Via.refl O_ad0.2.2.2.2.1 O_ad0.1 (Or.inl (hw _ (List.mem_of_getElem? (i := 53) rfl))) (hw _ (List.mem_of_getElem? (i := 2) rfl)) (ty := .long) (by decide) rfl rfl g_ad0 (fun h31 W32 => ?_)
    have O_ad0 := O_ad0.put4 hw W32
    have O_ad1 := O_ad1.oth W32 (Ne.symm ne_ad0_ad1)
    have O_ad4 := O_ad4.oth W32 (Ne.symm ne_ad0_ad4)
    have O_ad6 := O_ad6.oth W32 (Ne.symm ne_ad0_ad6)
    have O_b10 := O_b10.oth W32 (Ne.symm ne_ad0_b10)
    have A_ad2 := A_ad2.other W32 (Ne.symm ne_ad0_ad2)
    have A_ad3 := A_ad3.other W32 (Ne.symm ne_ad0_ad3)
    have A_ad5 := A_ad5.other W32 (Ne.symm ne_ad0_ad5)
    have OL := OL.wr W32 g_ad0
    have KK := KK.wr W32 (Or.inl (List.mem_of_getElem? (i := 0) rfl))
    refine g_retV cx d10_149 rfl (by decide) (by decide) ?_
    exact Or.inr (⟨b10, hq24, rfl, KK, sz_b10, O_b10, O_ad0, O_ad1, A_ad2, O_ad4, A_ad5⟩)
theorem pn_ra45 : plainName "com/example/thalweg/thalweg/node/Pace" = true := by first | (simp [plainName, overriddenIn]; done) | decide +kernel
set_option maxRecDepth 65536 in
set_option maxHeartbeats 40000000 in
theorem ra45 (l : Launch) (Z : State) (a0 : Array Value) (hw : ∀ d ∈ tables_1, d.before a0 Z = true)  (ad0 ad1 ad2 ad3 ad4 ad5 ad6 : Addr) (x0 : Int64) (x1 : Int64) (x2 : Int64) (x3 : Int64) (x4 : Int64) (x5 : Int64) (x6 : Int64) (x7 : Int64) (x8 : Int64) (x9 : Int64) (x10 : Int64) (cA_ad2 : ClassId) (cA_ad4 : ClassId) (h0 : Heap) (O_ad0 : ObP Z h0 ad0 (.ref ad1) (.ref ad3) (.long x8) (.long x4) (.long x9) (.long (2 : Int64)) (.long (2 : Int64)) (.long x10)) (O_ad1 : ObD Z h0 ad1 (.ref ad2) (.int (2 : Int32)) (.int (2 : Int32))) (O_ad3 : ObD Z h0 ad3 (.ref ad4) (.int (0 : Int32)) (.int (2 : Int32))) (O_ad5 : ObS Z h0 ad5 (.long x0) (.long x1) (.long x2) (.long x3)) (O_ad6 : ObS Z h0 ad6 (.long x4) (.long x5) (.long x6) (.long x7)) (A_ad2 : Arx Z h0 ad2 cA_ad2 (.object "java/lang/Object") (17 : Int32) [.null, .null, .null, .null, .null, .null, .null, .null, .null, .null, .null, .null, .null, .null, .null, .null, .null] .null "[Ljava/lang/Object;") (A_ad4 : Arx Z h0 ad4 cA_ad4 (.object "java/lang/Object") (17 : Int32) [(.ref ad5), (.ref ad6), .null, .null, .null, .null, .null, .null, .null, .null, .null, .null, .null, .null, .null, .null, .null] .null "[Ljava/lang/Object;") (OV_ad2 : Ovr Z cA_ad2 "java/lang/Object") (OV_ad4 : Ovr Z cA_ad4 "java/lang/Object") (ne_ad0_ad1 : ad0 ≠ ad1) (ne_ad0_ad2 : ad0 ≠ ad2) (ne_ad1_ad2 : ad1 ≠ ad2) (ne_ad0_ad3 : ad0 ≠ ad3) (ne_ad1_ad3 : ad1 ≠ ad3) (ne_ad2_ad3 : ad2 ≠ ad3) (ne_ad0_ad4 : ad0 ≠ ad4) (ne_ad1_ad4 : ad1 ≠ ad4) (ne_ad2_ad4 : ad2 ≠ ad4) (ne_ad3_ad4 : ad3 ≠ ad4) (ne_ad0_ad5 : ad0 ≠ ad5) (ne_ad1_ad5 : ad1 ≠ ad5) (ne_ad2_ad5 : ad2 ≠ ad5) (ne_ad3_ad5 : ad3 ≠ ad5) (ne_ad4_ad5 : ad4 ≠ ad5) (ne_ad0_ad6 : ad0 ≠ ad6) (ne_ad1_ad6 : ad1 ≠ ad6) (ne_ad2_ad6 : ad2 ≠ ad6) (ne_ad3_ad6 : ad3 ≠ ad6) (ne_ad4_ad6 : ad4 ≠ ad6) (ne_ad5_ad6 : ad5 ≠ ad6) (g_ad0 : Z.heap.size ≤ ad0) (g_ad1 : Z.heap.size ≤ ad1) (g_ad2 : Z.heap.size ≤ ad2) (g_ad3 : Z.heap.size ≤ ad3) (g_ad4 : Z.heap.size ≤ ad4) (g_ad5 : Z.heap.size ≤ ad5) (g_ad6 : Z.heap.size ≤ ad6) (OL : Old Z Z.heap.size h0) :
    Met l Z (⟨"com/example/thalweg/thalweg/node/Pace", "known", "()Z"⟩ : MethodName) prog_54_method_5_code 1 (some .boolean) ({ frames := 0, cells := 0, slots := 0, locals := 0 } : Room) #[(.ref ad0)] h0 (fun v h' => (¬ ((0 : Int64) < x8) ∧ v = some (.int (0 : Int32)) ∧ h0 = h') ∨ ((0 : Int64) < x8 ∧ v = some (.int (1 : Int32)) ∧ h0 = h')) := by
  refine met_of (Ls := #[.val (.ref ad0)]) (plainFor_of_name pn_ra45) (fun m => by first | (simp [entryFrame, mkF, argsToLocals, Value.category]; done) | rfl) (fun p e s m below meth c cx => ?_)
  have KK := Keep.refl h0 []
  refine g_aloadN cx d5_0 rfl rfl ?_
  refine g_getF cx d5_1 (host := "") (Or.inl (hw _ (List.mem_of_getElem? (i := 36) rfl))) Via.refl O_ad0.2.2.2.1 ?_
  refine g_lconst cx d5_4 (v := (0 : Int64)) rfl ?_
  refine g_lif_le cx d5_5 d5_6 (fun hc6 => ?_) (fun hc6 => ?_)
  · refine g_iconst cx d5_13 (v := (0 : Int32)) rfl ?_
    refine g_retZ cx d5_14 rfl rfl (by decide) (by decide) ?_
    exact Or.inl ⟨hc6, rfl, rfl⟩
  · refine g_iconst cx d5_9 (v := (1 : Int32)) rfl ?_
    refine g_goto cx d5_10 ?_
    refine g_retZ cx d5_14 rfl rfl (by decide) (by decide) ?_
    exact Or.inr (⟨hc6, rfl, rfl⟩)
theorem d0_237 : Dc code 237 (.lload 12) 2 239 := ⟨by decide +kernel, rfl⟩
theorem d0_239 : Dc code 239 (.lload 14) 2 241 := ⟨by decide +kernel, rfl⟩
theorem d0_241 : Dc code 241 (.ldc2_w 23) 3 244 := ⟨by decide +kernel, rfl⟩
theorem d0_244 : Dc code 244 (.lsub) 1 245 := ⟨by decide +kernel, rfl⟩
theorem d0_245 : Dc code 245 (.lcmp) 1 246 := ⟨by decide +kernel, rfl⟩
theorem d0_246 : Bi code 246 (Instr.ifCond .ge) 253 249 := ⟨7, by decide +kernel, by decide, by decide, rfl⟩
theorem pn_ra46 : plainName "com/example/thalweg/thalweg/node/Pace" = true := by first | (simp [plainName, overriddenIn]; done) | decide +kernel
set_option maxRecDepth 65536 in
set_option maxHeartbeats 40000000 in
theorem ra46 (l : Launch) (Z : State) (a0 : Array Value) (hw : ∀ d ∈ tables_1, d.before a0 Z = true)  (ad0 ad1 ad2 ad3 ad4 ad5 : Addr) (x0 : Int64) (x1 : Int64) (x2 : Int64) (x3 : Int64) (x4 : Int64) (x5 : Int64) (x6 : Int64) (cA_ad2 : ClassId) (cA_ad4 : ClassId) (h0 : Heap) (O_ad0 : ObP Z h0 ad0 (.ref ad1) (.ref ad3) (.long x4) (.long x0) (.long x5) (.long (2 : Int64)) (.long (2 : Int64)) (.long x6)) (O_ad1 : ObD Z h0 ad1 (.ref ad2) (.int (2 : Int32)) (.int (2 : Int32))) (O_ad3 : ObD Z h0 ad3 (.ref ad4) (.int (1 : Int32)) (.int (2 : Int32))) (O_ad5 : ObS Z h0 ad5 (.long x0) (.long x1) (.long x2) (.long x3)) (A_ad2 : Arx Z h0 ad2 cA_ad2 (.object "java/lang/Object") (17 : Int32) [.null, .null, .null, .null, .null, .null, .null, .null, .null, .null, .null, .null, .null, .null, .null, .null, .null] .null "[Ljava/lang/Object;") (A_ad4 : Arx Z h0 ad4 cA_ad4 (.object "java/lang/Object") (17 : Int32) [.null, (.ref ad5), .null, .null, .null, .null, .null, .null, .null, .null, .null, .null, .null, .null, .null, .null, .null] .null "[Ljava/lang/Object;") (OV_ad2 : Ovr Z cA_ad2 "java/lang/Object") (OV_ad4 : Ovr Z cA_ad4 "java/lang/Object") (ne_ad0_ad1 : ad0 ≠ ad1) (ne_ad0_ad2 : ad0 ≠ ad2) (ne_ad1_ad2 : ad1 ≠ ad2) (ne_ad0_ad3 : ad0 ≠ ad3) (ne_ad1_ad3 : ad1 ≠ ad3) (ne_ad2_ad3 : ad2 ≠ ad3) (ne_ad0_ad4 : ad0 ≠ ad4) (ne_ad1_ad4 : ad1 ≠ ad4) (ne_ad2_ad4 : ad2 ≠ ad4) (ne_ad3_ad4 : ad3 ≠ ad4) (ne_ad0_ad5 : ad0 ≠ ad5) (ne_ad1_ad5 : ad1 ≠ ad5) (ne_ad2_ad5 : ad2 ≠ ad5) (ne_ad3_ad5 : ad3 ≠ ad5) (ne_ad4_ad5 : ad4 ≠ ad5) (g_ad0 : Z.heap.size ≤ ad0) (g_ad1 : Z.heap.size ≤ ad1) (g_ad2 : Z.heap.size ≤ ad2) (g_ad3 : Z.heap.size ≤ ad3) (g_ad4 : Z.heap.size ≤ ad4) (g_ad5 : Z.heap.size ≤ ad5) (OL : Old Z Z.heap.size h0) :
    Met l Z (⟨"com/example/thalweg/thalweg/node/Pace", "known", "()Z"⟩ : MethodName) prog_54_method_5_code 1 (some .boolean) ({ frames := 0, cells := 0, slots := 0, locals := 0 } : Room) #[(.ref ad0)] h0 (fun v h' => (¬ ((0 : Int64) < x4) ∧ v = some (.int (0 : Int32)) ∧ h0 = h') ∨ ((0 : Int64) < x4 ∧ v = some (.int (1 : Int32)) ∧ h0 = h')) := by
  refine met_of (Ls := #[.val (.ref ad0)]) (plainFor_of_name pn_ra46) (fun m => by first | (simp [entryFrame, mkF, argsToLocals, Value.category]; done) | rfl) (fun p e s m below meth c cx => ?_)
  have KK := Keep.refl h0 []
  refine g_aloadN cx d5_0 rfl rfl ?_
  refine g_getF cx d5_1 (host := "") (Or.inl (hw _ (List.mem_of_getElem? (i := 36) rfl))) Via.refl O_ad0.2.2.2.1 ?_
  refine g_lconst cx d5_4 (v := (0 : Int64)) rfl ?_
  refine g_lif_le cx d5_5 d5_6 (fun hc6 => ?_) (fun hc6 => ?_)
  · refine g_iconst cx d5_13 (v := (0 : Int32)) rfl ?_
    refine g_retZ cx d5_14 rfl rfl (by decide) (by decide) ?_
    exact Or.inl ⟨hc6, rfl, rfl⟩
  · refine g_iconst cx d5_9 (v := (1 : Int32)) rfl ?_
    refine g_goto cx d5_10 ?_
    refine g_retZ cx d5_14 rfl rfl (by decide) (by decide) ?_
    exact Or.inr (⟨hc6, rfl, rfl⟩)
theorem d0_249 : Dc code 249 (.iconst 1) 1 250 := ⟨by decide +kernel, rfl⟩
theorem d0_250 : Bi code 250 (Instr.goto) 254 253 := ⟨4, by decide +kernel, by decide, by decide, rfl⟩
theorem pn_ra47 : plainName "com/example/thalweg/thalweg/node/Pace" = true := by first | (simp [plainName, overriddenIn]; done) | decide +kernel
set_option maxRecDepth 65536 in
set_option maxHeartbeats 40000000 in
theorem ra47 (l : Launch) (Z : State) (a0 : Array Value) (hw : ∀ d ∈ tables_1, d.before a0 Z = true)  (ad0 ad1 ad2 ad3 ad4 ad5 : Addr) (x0 : Int64) (x1 : Int64) (x2 : Int64) (x3 : Int64) (x4 : Int64) (x5 : Int64) (cA_ad2 : ClassId) (cA_ad4 : ClassId) (h0 : Heap) (O_ad0 : ObP Z h0 ad0 (.ref ad1) (.ref ad3) (.long x1) (.long x0) (.long x4) (.long (2 : Int64)) (.long (2 : Int64)) (.long x2)) (O_ad1 : ObD Z h0 ad1 (.ref ad2) (.int (2 : Int32)) (.int (2 : Int32))) (O_ad3 : ObD Z h0 ad3 (.ref ad4) (.int (0 : Int32)) (.int (1 : Int32))) (O_ad5 : ObS Z h0 ad5 (.long x0) (.long x1) (.long x2) (.long x3)) (A_ad2 : Arx Z h0 ad2 cA_ad2 (.object "java/lang/Object") (17 : Int32) [.null, .null, .null, .null, .null, .null, .null, .null, .null, .null, .null, .null, .null, .null, .null, .null, .null] .null "[Ljava/lang/Object;") (A_ad4 : Arx Z h0 ad4 cA_ad4 (.object "java/lang/Object") (17 : Int32) [(.ref ad5), .null, .null, .null, .null, .null, .null, .null, .null, .null, .null, .null, .null, .null, .null, .null, .null] .null "[Ljava/lang/Object;") (OV_ad2 : Ovr Z cA_ad2 "java/lang/Object") (OV_ad4 : Ovr Z cA_ad4 "java/lang/Object") (ne_ad0_ad1 : ad0 ≠ ad1) (ne_ad0_ad2 : ad0 ≠ ad2) (ne_ad1_ad2 : ad1 ≠ ad2) (ne_ad0_ad3 : ad0 ≠ ad3) (ne_ad1_ad3 : ad1 ≠ ad3) (ne_ad2_ad3 : ad2 ≠ ad3) (ne_ad0_ad4 : ad0 ≠ ad4) (ne_ad1_ad4 : ad1 ≠ ad4) (ne_ad2_ad4 : ad2 ≠ ad4) (ne_ad3_ad4 : ad3 ≠ ad4) (ne_ad0_ad5 : ad0 ≠ ad5) (ne_ad1_ad5 : ad1 ≠ ad5) (ne_ad2_ad5 : ad2 ≠ ad5) (ne_ad3_ad5 : ad3 ≠ ad5) (ne_ad4_ad5 : ad4 ≠ ad5) (g_ad0 : Z.heap.size ≤ ad0) (g_ad1 : Z.heap.size ≤ ad1) (g_ad2 : Z.heap.size ≤ ad2) (g_ad3 : Z.heap.size ≤ ad3) (g_ad4 : Z.heap.size ≤ ad4) (g_ad5 : Z.heap.size ≤ ad5) (OL : Old Z Z.heap.size h0) :
    Met l Z (⟨"com/example/thalweg/thalweg/node/Pace", "taken", "(JJ)V"⟩ : MethodName) prog_54_method_3_code 10 none ({ frames := 0, cells := 0, slots := 0, locals := 0 } : Room) #[(.ref ad0), (.long (2 : Int64)), (.long x5)] h0 (fun v h' => (v = none ∧ h0 = h')) := by
  refine met_of (Ls := #[.val (.ref ad0), .val (.long (2 : Int64)), .second, .val (.long x5), .second, .unset, .unset, .unset, .unset, .unset]) (plainFor_of_name pn_ra47) (fun m => by first | (simp [entryFrame, mkF, argsToLocals, Value.category]; done) | rfl) (fun p e s m below meth c cx => ?_)
  have KK := Keep.refl h0 []
  refine g_lloadN cx d10_0 rfl ?_
  refine g_aloadN cx d10_1 rfl rfl ?_
  refine g_getF cx d10_2 (host := "") (Or.inl (hw _ (List.mem_of_getElem? (i := 73) rfl))) Via.refl O_ad0.2.2.2.2.2.2.2.1 ?_
  refine g_lif_lt cx d10_5 d10_6 (fun q => absurd q (fun q => by revert q; decide)) (fun hc6 => ?_)
  refine g_lloadN cx d10_9 rfl ?_
  refine g_aloadN cx d10_10 rfl rfl ?_
  refine g_getF cx d10_11 (host := "") (Or.inl (hw _ (List.mem_of_getElem? (i := 66) rfl))) Via.refl O_ad0.2.2.2.2.2.2.1 ?_
  refine g_lif_le cx d10_14 d10_15 (fun hc15 => ?_) (fun q => absurd q (fun q => by revert q; decide))
  refine g_lloadN cx d10_40 rfl ?_
  refine g_aloadN cx d10_41 rfl rfl ?_
  refine g_getF cx d10_42 (host := "") (Or.inl (hw _ (List.mem_of_getElem? (i := 73) rfl))) Via.refl O_ad0.2.2.2.2.2.2.2.1 ?_
  refine g_lif_ne cx d10_45 d10_46 (fun q => absurd q (fun q => by revert q; decide)) (fun hc46 => ?_)
  refine g_retV cx d10_49 rfl (by decide) (by decide) ?_
  exact ⟨rfl, rfl⟩
theorem d0_153 : Dc code 153 (.lload 8) 2 155 := ⟨by decide +kernel, rfl⟩
theorem d0_155 : Bi code 155 (Instr.goto) 159 158 := ⟨4, by decide +kernel, by decide, by decide, rfl⟩
theorem pn_rm0 : plainName "com/example/thalweg/thalweg/node/PaceKnownPinLaw" = true := by first | (simp [plainName, overriddenIn]; done) | decide +kernel
set_option maxRecDepth 65536 in
set_option maxHeartbeats 40000000 in
theorem rm0 (l : Launch) (Z : State) (a0 : Array Value) (hw : ∀ d ∈ tables_1, d.before a0 Z = true) (ia ib ic iw ir ig : Int32) (h0 : Heap) (OL : Old Z Z.heap.size h0) :
    Met l Z x code maxLocals ret room_1 #[(.int ia), (.int ib), (.int ic), (.int iw), (.int ir), (.int ig)] h0 (fun v _ => v = some (.int 1)) := by
  refine met_of (Ls := #[.val (.int ia), .val (.int ib), .val (.int ic), .val (.int iw), .val (.int ir), .val (.int ig), .unset, .unset, .unset, .unset, .unset, .unset, .unset, .unset, .unset, .unset, .unset, .unset, .unset, .unset, .unset, .unset, .unset, .unset, .unset, .unset, .unset, .unset, .unset, .unset]) (plainFor_of_name pn_rm0) (fun m => by first | (simp [entryFrame, mkF, argsToLocals, Value.category, maxLocals]; done) | rfl) (fun p e s m below meth c cx => ?_)
  refine g_iloadN cx d0_0 rfl ?_
  refine g_i2l cx d0_1 ?_
  refine g_ldcJ cx d0_2 (hw _ (List.mem_of_getElem? (i := 0) rfl)) ?_
  refine g_land cx d0_5 ?_
  refine g_lstore cx d0_6 (Ls' := #[.val (.int ia), .val (.int ib), .val (.int ic), .val (.int iw), .val (.int ir), .val (.int ig), .val (.long (((ia).toInt64) &&& (2147483647 : Int64))), .second, .unset, .unset, .unset, .unset, .unset, .unset, .unset, .unset, .unset, .unset, .unset, .unset, .unset, .unset, .unset, .unset, .unset, .unset, .unset, .unset, .unset, .unset]) rfl ?_
  refine g_iloadN cx d0_8 rfl ?_
  refine g_i2l cx d0_9 ?_
  refine g_ldcJ cx d0_10 (hw _ (List.mem_of_getElem? (i := 0) rfl)) ?_
  refine g_land cx d0_13 ?_
  refine g_lstore cx d0_14 (Ls' := #[.val (.int ia), .val (.int ib), .val (.int ic), .val (.int iw), .val (.int ir), .val (.int ig), .val (.long (((ia).toInt64) &&& (2147483647 : Int64))), .second, .val (.long (((ib).toInt64) &&& (2147483647 : Int64))), .second, .unset, .unset, .unset, .unset, .unset, .unset, .unset, .unset, .unset, .unset, .unset, .unset, .unset, .unset, .unset, .unset, .unset, .unset, .unset, .unset]) rfl ?_
  refine g_iloadN cx d0_16 rfl ?_
  refine g_sipush cx d0_17 (v := (255 : Int32)) rfl ?_
  refine g_iand cx d0_20 ?_
  refine g_iconst cx d0_21 (v := (3 : Int32)) rfl ?_
  refine g_irem cx d0_22 (by decide) ?_
  have Dhs1 : ((ic &&& (255 : Int32)) % (3 : Int32)) = (0 : Int32) ∨ ((ic &&& (255 : Int32)) % (3 : Int32)) = (1 : Int32) ∨ ((ic &&& (255 : Int32)) % (3 : Int32)) = (2 : Int32) := by
    have r3 := rng32 ic
    have e2 : ((ic &&& (255 : Int32))).toInt = (ic).toInt % 256 := c_mask ic (255 : Int32) 8 (by decide) (by decide)
    have e1 : (0 ≤ ((ic &&& (255 : Int32))).toInt → (((ic &&& (255 : Int32)) % (3 : Int32))).toInt = ((ic &&& (255 : Int32))).toInt % 3) ∧ (((ic &&& (255 : Int32))).toInt < 0 → (((ic &&& (255 : Int32)) % (3 : Int32))).toInt = -((-((ic &&& (255 : Int32))).toInt) % 3)) := c_irem (ic &&& (255 : Int32)) (3 : Int32) 3 rfl
    have e4 : (0 : Int32).toInt = 0 := rfl
    have e5 : (1 : Int32).toInt = 1 := rfl
    have e6 : (2 : Int32).toInt = 2 := rfl
    simp only [← Int32.toInt_inj]
    omega
  rcases Dhs1 with hs1 | hs1 | hs1
  · rw [hs1]
    refine g_istore cx d0_23 (Ls' := #[.val (.int ia), .val (.int ib), .val (.int ic), .val (.int iw), .val (.int ir), .val (.int ig), .val (.long (((ia).toInt64) &&& (2147483647 : Int64))), .second, .val (.long (((ib).toInt64) &&& (2147483647 : Int64))), .second, .val (.int (0 : Int32)), .unset, .unset, .unset, .unset, .unset, .unset, .unset, .unset, .unset, .unset, .unset, .unset, .unset, .unset, .unset, .unset, .unset, .unset, .unset]) rfl ?_
    refine g_iload cx d0_25 rfl ?_
    refine g_iloadN cx d0_27 rfl ?_
    refine g_bipush cx d0_28 (v := (8 : Int32)) rfl ?_
    refine g_iushr cx d0_30 ?_
    refine g_sipush cx d0_31 (v := (255 : Int32)) rfl ?_
    refine g_iand cx d0_34 ?_
    refine g_iconst cx d0_35 (v := (3 : Int32)) rfl ?_
    refine g_iload cx d0_36 rfl ?_
    refine g_isub cx d0_38 ?_
    refine G.cast (st' := [(.int (3 : Int32)), (.int ((((ic).toUInt32 >>> ((8 : Int32) &&& 31).toUInt32).toInt32) &&& (255 : Int32))), (.int (0 : Int32))]) ?_ rfl
    refine g_irem cx d0_39 (by decide) ?_
    have Dhs2 : (((((ic).toUInt32 >>> ((8 : Int32) &&& 31).toUInt32).toInt32) &&& (255 : Int32)) % (3 : Int32)) = (0 : Int32) ∨ (((((ic).toUInt32 >>> ((8 : Int32) &&& 31).toUInt32).toInt32) &&& (255 : Int32)) % (3 : Int32)) = (1 : Int32) ∨ (((((ic).toUInt32 >>> ((8 : Int32) &&& 31).toUInt32).toInt32) &&& (255 : Int32)) % (3 : Int32)) = (2 : Int32) := by
      have r4 := rng32 ic
      have e3 : ((((ic).toUInt32 >>> ((8 : Int32) &&& 31).toUInt32).toInt32)).toInt = ((ic).toInt % 4294967296) / 256 := c_iushr ic (8 : Int32) 8 (by decide) (by decide)
      have e2 : (((((ic).toUInt32 >>> ((8 : Int32) &&& 31).toUInt32).toInt32) &&& (255 : Int32))).toInt = ((((ic).toUInt32 >>> ((8 : Int32) &&& 31).toUInt32).toInt32)).toInt % 256 := c_mask (((ic).toUInt32 >>> ((8 : Int32) &&& 31).toUInt32).toInt32) (255 : Int32) 8 (by decide) (by decide)
      have e1 : (0 ≤ (((((ic).toUInt32 >>> ((8 : Int32) &&& 31).toUInt32).toInt32) &&& (255 : Int32))).toInt → ((((((ic).toUInt32 >>> ((8 : Int32) &&& 31).toUInt32).toInt32) &&& (255 : Int32)) % (3 : Int32))).toInt = (((((ic).toUInt32 >>> ((8 : Int32) &&& 31).toUInt32).toInt32) &&& (255 : Int32))).toInt % 3) ∧ ((((((ic).toUInt32 >>> ((8 : Int32) &&& 31).toUInt32).toInt32) &&& (255 : Int32))).toInt < 0 → ((((((ic).toUInt32 >>> ((8 : Int32) &&& 31).toUInt32).toInt32) &&& (255 : Int32)) % (3 : Int32))).toInt = -((-(((((ic).toUInt32 >>> ((8 : Int32) &&& 31).toUInt32).toInt32) &&& (255 : Int32))).toInt) % 3)) := c_irem ((((ic).toUInt32 >>> ((8 : Int32) &&& 31).toUInt32).toInt32) &&& (255 : Int32)) (3 : Int32) 3 rfl
      have e5 : (0 : Int32).toInt = 0 := rfl
      have e6 : (1 : Int32).toInt = 1 := rfl
      have e7 : (2 : Int32).toInt = 2 := rfl
      simp only [← Int32.toInt_inj]
      omega
    rcases Dhs2 with hs2 | hs2 | hs2
    · rw [hs2]
      refine g_iadd cx d0_40 ?_
      refine G.cast (st' := [(.int (0 : Int32))]) ?_ rfl
      refine g_istore cx d0_41 (Ls' := #[.val (.int ia), .val (.int ib), .val (.int ic), .val (.int iw), .val (.int ir), .val (.int ig), .val (.long (((ia).toInt64) &&& (2147483647 : Int64))), .second, .val (.long (((ib).toInt64) &&& (2147483647 : Int64))), .second, .val (.int (0 : Int32)), .val (.int (0 : Int32)), .unset, .unset, .unset, .unset, .unset, .unset, .unset, .unset, .unset, .unset, .unset, .unset, .unset, .unset, .unset, .unset, .unset, .unset]) rfl ?_
      refine g_iload cx d0_43 rfl ?_
      refine g_i2l cx d0_45 ?_
      refine g_lstore cx d0_46 (Ls' := #[.val (.int ia), .val (.int ib), .val (.int ic), .val (.int iw), .val (.int ir), .val (.int ig), .val (.long (((ia).toInt64) &&& (2147483647 : Int64))), .second, .val (.long (((ib).toInt64) &&& (2147483647 : Int64))), .second, .val (.int (0 : Int32)), .val (.int (0 : Int32)), .val (.long ((ir).toInt64)), .second, .unset, .unset, .unset, .unset, .unset, .unset, .unset, .unset, .unset, .unset, .unset, .unset, .unset, .unset, .unset, .unset]) rfl ?_
      refine g_lload cx d0_48 rfl ?_
      refine g_iload cx d0_50 rfl ?_
      refine g_i2l cx d0_52 ?_
      refine g_ldcJ cx d0_53 (hw _ (List.mem_of_getElem? (i := 0) rfl)) ?_
      refine g_land cx d0_56 ?_
      refine g_ladd cx d0_57 ?_
      refine g_lstore cx d0_58 (Ls' := #[.val (.int ia), .val (.int ib), .val (.int ic), .val (.int iw), .val (.int ir), .val (.int ig), .val (.long (((ia).toInt64) &&& (2147483647 : Int64))), .second, .val (.long (((ib).toInt64) &&& (2147483647 : Int64))), .second, .val (.int (0 : Int32)), .val (.int (0 : Int32)), .val (.long ((ir).toInt64)), .second, .val (.long (((ir).toInt64) + (((ig).toInt64) &&& (2147483647 : Int64)))), .second, .unset, .unset, .unset, .unset, .unset, .unset, .unset, .unset, .unset, .unset, .unset, .unset, .unset, .unset]) rfl ?_
      refine g_new cx d0_60 (hw _ (List.mem_of_getElem? (i := 1) rfl)) (hw _ (List.mem_of_getElem? (i := 2) rfl)) (hw _ (List.mem_of_getElem? (i := 3) rfl)) (k' := 1) (n' := 8) rfl rfl (by decide) (by decide) (fun h3 b4 gb5 E6 X7 D8 => ?_)
      have g_b4 : Z.heap.size ≤ b4 := by rw [gb5]; exact OL.2.1
      have OL := OL.ext E6
      have O_b4 := ObP.new hw X7 D8
      refine g_dup cx d0_63 rfl ?_
      have lt_b4 := O_b4.lt
      refine g_special cx (y := (⟨"com/example/thalweg/thalweg/node/Pace", "<init>", "()V"⟩ : MethodName)) (a := b4) d0_64 rfl rfl (hw _ (List.mem_of_getElem? (i := 4) rfl)) (hw _ (List.mem_of_getElem? (i := 5) rfl)) (hw _ (List.mem_of_getElem? (i := 3) rfl)) (hw _ (List.mem_of_getElem? (i := 6) rfl)) (by decide) (bytes := prog_54_method_1_code) (maxL' := 1) (M := (ra1 l Z a0 hw  b4 _ O_b4 g_b4 OL)) rfl (lenOf pd_0 rfl) (by decide) (W := 1) (Nat.le_of_eq rfl) (by decide) (k' := 5) (n' := 48) rfl rfl (by decide) (by decide) (argsL := []) (rest := [(.ref b4)]) rfl (fun v17 h16 q18 => ?_)
      obtain ⟨b9, b10, b11, b12, cA13, cA14, rfl, K15, sq_b9, sq_b10, sq_b11, sq_b12, ne_b9_b10, ne_b9_b11, ne_b10_b11, ne_b9_b12, ne_b10_b12, ne_b11_b12, O_b9, A_b10, O_b11, A_b12, OV_b10, OV_b12, O_b4⟩ := q18
      have ne_b4_b9 : b4 ≠ b9 := Nat.ne_of_lt (Nat.lt_of_lt_of_le lt_b4 sq_b9)
      have g_b9 : Z.heap.size ≤ b9 := Nat.le_trans OL.2.1 sq_b9
      have ne_b4_b10 : b4 ≠ b10 := Nat.ne_of_lt (Nat.lt_of_lt_of_le lt_b4 sq_b10)
      have g_b10 : Z.heap.size ≤ b10 := Nat.le_trans OL.2.1 sq_b10
      have ne_b4_b11 : b4 ≠ b11 := Nat.ne_of_lt (Nat.lt_of_lt_of_le lt_b4 sq_b11)
      have g_b11 : Z.heap.size ≤ b11 := Nat.le_trans OL.2.1 sq_b11
      have ne_b4_b12 : b4 ≠ b12 := Nat.ne_of_lt (Nat.lt_of_lt_of_le lt_b4 sq_b12)
      have g_b12 : Z.heap.size ≤ b12 := Nat.le_trans OL.2.1 sq_b12
      have OL := OL.keep K15 (allS g_b4 all0)
      refine G.cast (st' := [(.ref b4)]) ?_ rfl
      refine g_astore cx d0_67 rfl (Ls' := #[.val (.int ia), .val (.int ib), .val (.int ic), .val (.int iw), .val (.int ir), .val (.int ig), .val (.long (((ia).toInt64) &&& (2147483647 : Int64))), .second, .val (.long (((ib).toInt64) &&& (2147483647 : Int64))), .second, .val (.int (0 : Int32)), .val (.int (0 : Int32)), .val (.long ((ir).toInt64)), .second, .val (.long (((ir).toInt64) + (((ig).toInt64) &&& (2147483647 : Int64)))), .second, .val (.ref b4), .unset, .unset, .unset, .unset, .unset, .unset, .unset, .unset, .unset, .unset, .unset, .unset, .unset]) rfl ?_
      refine g_aload cx d0_69 rfl rfl ?_
      refine g_virtual cx (y := (⟨"com/example/thalweg/thalweg/node/Pace", "known", "()Z"⟩ : MethodName)) (z := (⟨"com/example/thalweg/thalweg/node/Pace", "known", "()Z"⟩ : MethodName)) (a := b4) d0_71 (hw _ (List.mem_of_getElem? (i := 31) rfl)) (hw _ (List.mem_of_getElem? (i := 32) rfl)) (hw _ (List.mem_of_getElem? (i := 3) rfl)) (hw _ (List.mem_of_getElem? (i := 35) rfl)) (hw _ (List.mem_of_getElem? (i := 34) rfl)) (hw _ (List.mem_of_getElem? (i := 33) rfl)) rfl (by decide) O_b4.1 (bytes := prog_54_method_5_code) (maxL' := 1) (M := (ra3 l Z a0 hw  b4 b9 b10 b11 b12 cA13 cA14 _ O_b4 O_b9 O_b11 A_b10 A_b12 OV_b10 OV_b12 ne_b4_b9 ne_b4_b10 ne_b9_b10 ne_b4_b11 ne_b9_b11 ne_b10_b11 ne_b4_b12 ne_b9_b12 ne_b10_b12 ne_b11_b12 g_b4 g_b9 g_b10 g_b11 g_b12 OL)) rfl (lenOf pd_1 rfl) (by decide) (W := 0) (Nat.le_of_eq rfl) (by decide) (k' := 5) (n' := 48) rfl rfl (by decide) (by decide) (argsL := []) (rest := []) rfl (fun v21 h20 q22 => ?_)
      obtain ⟨rfl, rfl⟩ := q22
      refine G.cast (st' := [(.int (0 : Int32))]) ?_ rfl
      refine g_istore cx d0_74 (Ls' := #[.val (.int ia), .val (.int ib), .val (.int ic), .val (.int iw), .val (.int ir), .val (.int ig), .val (.long (((ia).toInt64) &&& (2147483647 : Int64))), .second, .val (.long (((ib).toInt64) &&& (2147483647 : Int64))), .second, .val (.int (0 : Int32)), .val (.int (0 : Int32)), .val (.long ((ir).toInt64)), .second, .val (.long (((ir).toInt64) + (((ig).toInt64) &&& (2147483647 : Int64)))), .second, .val (.ref b4), .val (.int (0 : Int32)), .unset, .unset, .unset, .unset, .unset, .unset, .unset, .unset, .unset, .unset, .unset, .unset]) rfl ?_
      refine g_aload cx d0_76 rfl rfl ?_
      refine g_lload cx d0_78 rfl ?_
      refine g_iloadN cx d0_80 rfl ?_
      refine g_i2l cx d0_81 ?_
      have lt_b10 := A_b10.lt
      have lt_b4 := O_b4.lt
      have lt_b9 := O_b9.lt
      refine g_virtual cx (y := (⟨"com/example/thalweg/thalweg/node/Pace", "written", "(JJ)V"⟩ : MethodName)) (z := (⟨"com/example/thalweg/thalweg/node/Pace", "written", "(JJ)V"⟩ : MethodName)) (a := b4) d0_82 (hw _ (List.mem_of_getElem? (i := 38) rfl)) (hw _ (List.mem_of_getElem? (i := 39) rfl)) (hw _ (List.mem_of_getElem? (i := 3) rfl)) (hw _ (List.mem_of_getElem? (i := 42) rfl)) (hw _ (List.mem_of_getElem? (i := 41) rfl)) (hw _ (List.mem_of_getElem? (i := 40) rfl)) rfl (by decide) O_b4.1 (bytes := prog_54_method_2_code) (maxL' := 5) (M := (ra4 l Z a0 hw  b4 b9 b10 b11 b12 (((ia).toInt64) &&& (2147483647 : Int64)) ((iw).toInt64) cA13 cA14 _ O_b4 O_b9 O_b11 A_b10 A_b12 OV_b10 OV_b12 ne_b4_b9 ne_b4_b10 ne_b9_b10 ne_b4_b11 ne_b9_b11 ne_b10_b11 ne_b4_b12 ne_b9_b12 ne_b10_b12 ne_b11_b12 g_b4 g_b9 g_b10 g_b11 g_b12 OL)) rfl (lenOf pd_4 rfl) (by decide) (W := 0) (Nat.le_of_eq rfl) (by decide) (k' := 6) (n' := 50) rfl rfl (by decide) (by decide) (argsL := [(.long (((ia).toInt64) &&& (2147483647 : Int64))), (.long ((iw).toInt64))]) (rest := []) rfl (fun v27 h26 q28 => ?_)
      obtain ⟨b23, cA24, rfl, K25, sq_b23, A_b23, O_b4, O_b9, A_b10⟩ := q28
      have ne_b4_b23 : b4 ≠ b23 := Nat.ne_of_lt (Nat.lt_of_lt_of_le lt_b4 sq_b23)
      have ne_b9_b23 : b9 ≠ b23 := Nat.ne_of_lt (Nat.lt_of_lt_of_le lt_b9 sq_b23)
      have ne_b11_b23 : b11 ≠ b23 := Nat.ne_of_lt (Nat.lt_of_lt_of_le O_b11.lt sq_b23)
      have ne_b10_b23 : b10 ≠ b23 := Nat.ne_of_lt (Nat.lt_of_lt_of_le lt_b10 sq_b23)
      have ne_b12_b23 : b12 ≠ b23 := Nat.ne_of_lt (Nat.lt_of_lt_of_le A_b12.lt sq_b23)
      have g_b23 : Z.heap.size ≤ b23 := Nat.le_trans OL.2.1 sq_b23
      have O_b11 := O_b11.keep K25 (ninS (Ne.symm ne_b4_b11) (ninS (Ne.symm ne_b9_b11) (ninS (Ne.symm ne_b10_b11) nin0)))
      have A_b12 := A_b12.keep K25 (ninS (Ne.symm ne_b4_b12) (ninS (Ne.symm ne_b9_b12) (ninS (Ne.symm ne_b10_b12) nin0)))
      have OL := OL.keep K25 (allS g_b4 (allS g_b9 (allS g_b10 all0)))
      refine G.cast (st' := []) ?_ rfl
      refine g_aload cx d0_85 rfl rfl ?_
      refine g_lload cx d0_87 rfl ?_
      refine g_iloadN cx d0_89 rfl ?_
      refine g_i2l cx d0_90 ?_
      have lt_b10 := A_b10.lt
      have lt_b4 := O_b4.lt
      have lt_b9 := O_b9.lt
      refine g_virtual cx (y := (⟨"com/example/thalweg/thalweg/node/Pace", "written", "(JJ)V"⟩ : MethodName)) (z := (⟨"com/example/thalweg/thalweg/node/Pace", "written", "(JJ)V"⟩ : MethodName)) (a := b4) d0_91 (hw _ (List.mem_of_getElem? (i := 38) rfl)) (hw _ (List.mem_of_getElem? (i := 39) rfl)) (hw _ (List.mem_of_getElem? (i := 3) rfl)) (hw _ (List.mem_of_getElem? (i := 42) rfl)) (hw _ (List.mem_of_getElem? (i := 41) rfl)) (hw _ (List.mem_of_getElem? (i := 40) rfl)) rfl (by decide) O_b4.1 (bytes := prog_54_method_2_code) (maxL' := 5) (M := (ra8 l Z a0 hw  b4 b9 b10 b23 b11 b12 (((ia).toInt64) &&& (2147483647 : Int64)) ((iw).toInt64) (((ib).toInt64) &&& (2147483647 : Int64)) cA13 cA24 cA14 _ O_b4 O_b9 O_b11 A_b10 A_b23 A_b12 OV_b10 OV_b12 ne_b4_b9 ne_b4_b10 ne_b9_b10 ne_b4_b23 ne_b9_b23 ne_b10_b23 ne_b4_b11 ne_b9_b11 ne_b10_b11 (Ne.symm ne_b11_b23) ne_b4_b12 ne_b9_b12 ne_b10_b12 (Ne.symm ne_b12_b23) ne_b11_b12 g_b4 g_b9 g_b10 g_b23 g_b11 g_b12 OL)) rfl (lenOf pd_4 rfl) (by decide) (W := 0) (Nat.le_of_eq rfl) (by decide) (k' := 7) (n' := 52) rfl rfl (by decide) (by decide) (argsL := [(.long (((ib).toInt64) &&& (2147483647 : Int64))), (.long ((iw).toInt64))]) (rest := []) rfl (fun v33 h32 q34 => ?_)
      obtain ⟨b29, cA30, rfl, K31, sq_b29, A_b29, O_b4, O_b9, A_b10⟩ := q34
      have ne_b4_b29 : b4 ≠ b29 := Nat.ne_of_lt (Nat.lt_of_lt_of_le lt_b4 sq_b29)
      have ne_b9_b29 : b9 ≠ b29 := Nat.ne_of_lt (Nat.lt_of_lt_of_le lt_b9 sq_b29)
      have ne_b11_b29 : b11 ≠ b29 := Nat.ne_of_lt (Nat.lt_of_lt_of_le O_b11.lt sq_b29)
      have ne_b10_b29 : b10 ≠ b29 := Nat.ne_of_lt (Nat.lt_of_lt_of_le lt_b10 sq_b29)
      have ne_b12_b29 : b12 ≠ b29 := Nat.ne_of_lt (Nat.lt_of_lt_of_le A_b12.lt sq_b29)
      have ne_b23_b29 : b23 ≠ b29 := Nat.ne_of_lt (Nat.lt_of_lt_of_le A_b23.lt sq_b29)
      have g_b29 : Z.heap.size ≤ b29 := Nat.le_trans OL.2.1 sq_b29
      have O_b11 := O_b11.keep K31 (ninS (Ne.symm ne_b4_b11) (ninS (Ne.symm ne_b9_b11) (ninS (Ne.symm ne_b10_b11) nin0)))
      have A_b12 := A_b12.keep K31 (ninS (Ne.symm ne_b4_b12) (ninS (Ne.symm ne_b9_b12) (ninS (Ne.symm ne_b10_b12) nin0)))
      have A_b23 := A_b23.keep K31 (ninS (Ne.symm ne_b4_b23) (ninS (Ne.symm ne_b9_b23) (ninS (Ne.symm ne_b10_b23) nin0)))
      have OL := OL.keep K31 (allS g_b4 (allS g_b9 (allS g_b10 all0)))
      refine G.cast (st' := []) ?_ rfl
      refine g_aload cx d0_94 rfl rfl ?_
      refine g_virtual cx (y := (⟨"com/example/thalweg/thalweg/node/Pace", "known", "()Z"⟩ : MethodName)) (z := (⟨"com/example/thalweg/thalweg/node/Pace", "known", "()Z"⟩ : MethodName)) (a := b4) d0_96 (hw _ (List.mem_of_getElem? (i := 31) rfl)) (hw _ (List.mem_of_getElem? (i := 32) rfl)) (hw _ (List.mem_of_getElem? (i := 3) rfl)) (hw _ (List.mem_of_getElem? (i := 35) rfl)) (hw _ (List.mem_of_getElem? (i := 34) rfl)) (hw _ (List.mem_of_getElem? (i := 33) rfl)) rfl (by decide) O_b4.1 (bytes := prog_54_method_5_code) (maxL' := 1) (M := (ra12 l Z a0 hw  b4 b9 b10 b23 b29 b11 b12 (((ia).toInt64) &&& (2147483647 : Int64)) ((iw).toInt64) (((ib).toInt64) &&& (2147483647 : Int64)) ((((ia).toInt64) &&& (2147483647 : Int64)) + (((ib).toInt64) &&& (2147483647 : Int64))) cA13 cA24 cA30 cA14 _ O_b4 O_b9 O_b11 A_b10 A_b23 A_b29 A_b12 OV_b10 OV_b12 ne_b4_b9 ne_b4_b10 ne_b9_b10 ne_b4_b23 ne_b9_b23 ne_b10_b23 ne_b4_b29 ne_b9_b29 ne_b10_b29 ne_b23_b29 ne_b4_b11 ne_b9_b11 ne_b10_b11 (Ne.symm ne_b11_b23) (Ne.symm ne_b11_b29) ne_b4_b12 ne_b9_b12 ne_b10_b12 (Ne.symm ne_b12_b23) (Ne.symm ne_b12_b29) ne_b11_b12 g_b4 g_b9 g_b10 g_b23 g_b29 g_b11 g_b12 OL)) rfl (lenOf pd_1 rfl) (by decide) (W := 0) (Nat.le_of_eq rfl) (by decide) (k' := 7) (n' := 52) rfl rfl (by decide) (by decide) (argsL := []) (rest := []) rfl (fun v37 h36 q38 => ?_)
      obtain ⟨rfl, rfl⟩ := q38
      refine G.cast (st' := [(.int (0 : Int32))]) ?_ rfl
      refine g_istore cx d0_99 (Ls' := #[.val (.int ia), .val (.int ib), .val (.int ic), .val (.int iw), .val (.int ir), .val (.int ig), .val (.long (((ia).toInt64) &&& (2147483647 : Int64))), .second, .val (.long (((ib).toInt64) &&& (2147483647 : Int64))), .second, .val (.int (0 : Int32)), .val (.int (0 : Int32)), .val (.long ((ir).toInt64)), .second, .val (.long (((ir).toInt64) + (((ig).toInt64) &&& (2147483647 : Int64)))), .second, .val (.ref b4), .val (.int (0 : Int32)), .val (.int (0 : Int32)), .unset, .unset, .unset, .unset, .unset, .unset, .unset, .unset, .unset, .unset, .unset]) rfl ?_
      refine g_aload cx d0_101 rfl rfl ?_
      refine g_iload cx d0_103 rfl ?_
      refine g_i2l cx d0_105 ?_
      refine G.cast (st' := [(.long (0 : Int64)), (.ref b4)]) ?_ rfl
      refine g_lload cx d0_106 rfl ?_
      refine g_virtual cx (y := (⟨"com/example/thalweg/thalweg/node/Pace", "taken", "(JJ)V"⟩ : MethodName)) (z := (⟨"com/example/thalweg/thalweg/node/Pace", "taken", "(JJ)V"⟩ : MethodName)) (a := b4) d0_108 (hw _ (List.mem_of_getElem? (i := 68) rfl)) (hw _ (List.mem_of_getElem? (i := 69) rfl)) (hw _ (List.mem_of_getElem? (i := 3) rfl)) (hw _ (List.mem_of_getElem? (i := 72) rfl)) (hw _ (List.mem_of_getElem? (i := 71) rfl)) (hw _ (List.mem_of_getElem? (i := 70) rfl)) rfl (by decide) O_b4.1 (bytes := prog_54_method_3_code) (maxL' := 10) (M := (ra13 l Z a0 hw  b4 b9 b10 b23 b29 b11 b12 (((ia).toInt64) &&& (2147483647 : Int64)) ((iw).toInt64) (((ib).toInt64) &&& (2147483647 : Int64)) ((((ia).toInt64) &&& (2147483647 : Int64)) + (((ib).toInt64) &&& (2147483647 : Int64))) ((ir).toInt64) cA13 cA24 cA30 cA14 _ O_b4 O_b9 O_b11 A_b10 A_b23 A_b29 A_b12 OV_b10 OV_b12 ne_b4_b9 ne_b4_b10 ne_b9_b10 ne_b4_b23 ne_b9_b23 ne_b10_b23 ne_b4_b29 ne_b9_b29 ne_b10_b29 ne_b23_b29 ne_b4_b11 ne_b9_b11 ne_b10_b11 (Ne.symm ne_b11_b23) (Ne.symm ne_b11_b29) ne_b4_b12 ne_b9_b12 ne_b10_b12 (Ne.symm ne_b12_b23) (Ne.symm ne_b12_b29) ne_b11_b12 g_b4 g_b9 g_b10 g_b23 g_b29 g_b11 g_b12 OL)) rfl (lenOf pd_4 rfl) (by decide) (W := 0) (Nat.le_of_eq rfl) (by decide) (k' := 7) (n' := 52) rfl rfl (by decide) (by decide) (argsL := [(.long (0 : Int64)), (.long ((ir).toInt64))]) (rest := []) rfl (fun v41 h40 q42 => ?_)
      obtain ⟨rfl, rfl⟩ := q42
      refine G.cast (st' := []) ?_ rfl
      refine g_aload cx d0_111 rfl rfl ?_
      refine g_virtual cx (y := (⟨"com/example/thalweg/thalweg/node/Pace", "known", "()Z"⟩ : MethodName)) (z := (⟨"com/example/thalweg/thalweg/node/Pace", "known", "()Z"⟩ : MethodName)) (a := b4) d0_113 (hw _ (List.mem_of_getElem? (i := 31) rfl)) (hw _ (List.mem_of_getElem? (i := 32) rfl)) (hw _ (List.mem_of_getElem? (i := 3) rfl)) (hw _ (List.mem_of_getElem? (i := 35) rfl)) (hw _ (List.mem_of_getElem? (i := 34) rfl)) (hw _ (List.mem_of_getElem? (i := 33) rfl)) rfl (by decide) O_b4.1 (bytes := prog_54_method_5_code) (maxL' := 1) (M := (ra12 l Z a0 hw  b4 b9 b10 b23 b29 b11 b12 (((ia).toInt64) &&& (2147483647 : Int64)) ((iw).toInt64) (((ib).toInt64) &&& (2147483647 : Int64)) ((((ia).toInt64) &&& (2147483647 : Int64)) + (((ib).toInt64) &&& (2147483647 : Int64))) cA13 cA24 cA30 cA14 _ O_b4 O_b9 O_b11 A_b10 A_b23 A_b29 A_b12 OV_b10 OV_b12 ne_b4_b9 ne_b4_b10 ne_b9_b10 ne_b4_b23 ne_b9_b23 ne_b10_b23 ne_b4_b29 ne_b9_b29 ne_b10_b29 ne_b23_b29 ne_b4_b11 ne_b9_b11 ne_b10_b11 (Ne.symm ne_b11_b23) (Ne.symm ne_b11_b29) ne_b4_b12 ne_b9_b12 ne_b10_b12 (Ne.symm ne_b12_b23) (Ne.symm ne_b12_b29) ne_b11_b12 g_b4 g_b9 g_b10 g_b23 g_b29 g_b11 g_b12 OL)) rfl (lenOf pd_1 rfl) (by decide) (W := 0) (Nat.le_of_eq rfl) (by decide) (k' := 7) (n' := 52) rfl rfl (by decide) (by decide) (argsL := []) (rest := []) rfl (fun v45 h44 q46 => ?_)
      obtain ⟨rfl, rfl⟩ := q46
      refine G.cast (st' := [(.int (0 : Int32))]) ?_ rfl
      refine g_istore cx d0_116 (Ls' := #[.val (.int ia), .val (.int ib), .val (.int ic), .val (.int iw), .val (.int ir), .val (.int ig), .val (.long (((ia).toInt64) &&& (2147483647 : Int64))), .second, .val (.long (((ib).toInt64) &&& (2147483647 : Int64))), .second, .val (.int (0 : Int32)), .val (.int (0 : Int32)), .val (.long ((ir).toInt64)), .second, .val (.long (((ir).toInt64) + (((ig).toInt64) &&& (2147483647 : Int64)))), .second, .val (.ref b4), .val (.int (0 : Int32)), .val (.int (0 : Int32)), .val (.int (0 : Int32)), .unset, .unset, .unset, .unset, .unset, .unset, .unset, .unset, .unset, .unset]) rfl ?_
      refine g_aload cx d0_118 rfl rfl ?_
      refine g_iload cx d0_120 rfl ?_
      refine g_i2l cx d0_122 ?_
      refine G.cast (st' := [(.long (0 : Int64)), (.ref b4)]) ?_ rfl
      refine g_lload cx d0_123 rfl ?_
      refine g_virtual cx (y := (⟨"com/example/thalweg/thalweg/node/Pace", "taken", "(JJ)V"⟩ : MethodName)) (z := (⟨"com/example/thalweg/thalweg/node/Pace", "taken", "(JJ)V"⟩ : MethodName)) (a := b4) d0_125 (hw _ (List.mem_of_getElem? (i := 68) rfl)) (hw _ (List.mem_of_getElem? (i := 69) rfl)) (hw _ (List.mem_of_getElem? (i := 3) rfl)) (hw _ (List.mem_of_getElem? (i := 72) rfl)) (hw _ (List.mem_of_getElem? (i := 71) rfl)) (hw _ (List.mem_of_getElem? (i := 70) rfl)) rfl (by decide) O_b4.1 (bytes := prog_54_method_3_code) (maxL' := 10) (M := (ra13 l Z a0 hw  b4 b9 b10 b23 b29 b11 b12 (((ia).toInt64) &&& (2147483647 : Int64)) ((iw).toInt64) (((ib).toInt64) &&& (2147483647 : Int64)) ((((ia).toInt64) &&& (2147483647 : Int64)) + (((ib).toInt64) &&& (2147483647 : Int64))) (((ir).toInt64) + (((ig).toInt64) &&& (2147483647 : Int64))) cA13 cA24 cA30 cA14 _ O_b4 O_b9 O_b11 A_b10 A_b23 A_b29 A_b12 OV_b10 OV_b12 ne_b4_b9 ne_b4_b10 ne_b9_b10 ne_b4_b23 ne_b9_b23 ne_b10_b23 ne_b4_b29 ne_b9_b29 ne_b10_b29 ne_b23_b29 ne_b4_b11 ne_b9_b11 ne_b10_b11 (Ne.symm ne_b11_b23) (Ne.symm ne_b11_b29) ne_b4_b12 ne_b9_b12 ne_b10_b12 (Ne.symm ne_b12_b23) (Ne.symm ne_b12_b29) ne_b11_b12 g_b4 g_b9 g_b10 g_b23 g_b29 g_b11 g_b12 OL)) rfl (lenOf pd_4 rfl) (by decide) (W := 0) (Nat.le_of_eq rfl) (by decide) (k' := 7) (n' := 52) rfl rfl (by decide) (by decide) (argsL := [(.long (0 : Int64)), (.long (((ir).toInt64) + (((ig).toInt64) &&& (2147483647 : Int64))))]) (rest := []) rfl (fun v49 h48 q50 => ?_)
      obtain ⟨rfl, rfl⟩ := q50
      refine G.cast (st' := []) ?_ rfl
      refine g_aload cx d0_128 rfl rfl ?_
      refine g_virtual cx (y := (⟨"com/example/thalweg/thalweg/node/Pace", "known", "()Z"⟩ : MethodName)) (z := (⟨"com/example/thalweg/thalweg/node/Pace", "known", "()Z"⟩ : MethodName)) (a := b4) d0_130 (hw _ (List.mem_of_getElem? (i := 31) rfl)) (hw _ (List.mem_of_getElem? (i := 32) rfl)) (hw _ (List.mem_of_getElem? (i := 3) rfl)) (hw _ (List.mem_of_getElem? (i := 35) rfl)) (hw _ (List.mem_of_getElem? (i := 34) rfl)) (hw _ (List.mem_of_getElem? (i := 33) rfl)) rfl (by decide) O_b4.1 (bytes := prog_54_method_5_code) (maxL' := 1) (M := (ra12 l Z a0 hw  b4 b9 b10 b23 b29 b11 b12 (((ia).toInt64) &&& (2147483647 : Int64)) ((iw).toInt64) (((ib).toInt64) &&& (2147483647 : Int64)) ((((ia).toInt64) &&& (2147483647 : Int64)) + (((ib).toInt64) &&& (2147483647 : Int64))) cA13 cA24 cA30 cA14 _ O_b4 O_b9 O_b11 A_b10 A_b23 A_b29 A_b12 OV_b10 OV_b12 ne_b4_b9 ne_b4_b10 ne_b9_b10 ne_b4_b23 ne_b9_b23 ne_b10_b23 ne_b4_b29 ne_b9_b29 ne_b10_b29 ne_b23_b29 ne_b4_b11 ne_b9_b11 ne_b10_b11 (Ne.symm ne_b11_b23) (Ne.symm ne_b11_b29) ne_b4_b12 ne_b9_b12 ne_b10_b12 (Ne.symm ne_b12_b23) (Ne.symm ne_b12_b29) ne_b11_b12 g_b4 g_b9 g_b10 g_b23 g_b29 g_b11 g_b12 OL)) rfl (lenOf pd_1 rfl) (by decide) (W := 0) (Nat.le_of_eq rfl) (by decide) (k' := 7) (n' := 52) rfl rfl (by decide) (by decide) (argsL := []) (rest := []) rfl (fun v53 h52 q54 => ?_)
      obtain ⟨rfl, rfl⟩ := q54
      refine G.cast (st' := [(.int (0 : Int32))]) ?_ rfl
      refine g_istore cx d0_133 (Ls' := #[.val (.int ia), .val (.int ib), .val (.int ic), .val (.int iw), .val (.int ir), .val (.int ig), .val (.long (((ia).toInt64) &&& (2147483647 : Int64))), .second, .val (.long (((ib).toInt64) &&& (2147483647 : Int64))), .second, .val (.int (0 : Int32)), .val (.int (0 : Int32)), .val (.long ((ir).toInt64)), .second, .val (.long (((ir).toInt64) + (((ig).toInt64) &&& (2147483647 : Int64)))), .second, .val (.ref b4), .val (.int (0 : Int32)), .val (.int (0 : Int32)), .val (.int (0 : Int32)), .val (.int (0 : Int32)), .unset, .unset, .unset, .unset, .unset, .unset, .unset, .unset, .unset]) rfl ?_
      refine g_iload cx d0_135 rfl ?_
      refine g_iconst cx d0_137 (v := (1 : Int32)) rfl ?_
      refine g_icmp_lt cx d0_138 (fun hc138 => ?_) (fun q => absurd q (fun q => by revert q; decide))
      refine g_lconst cx d0_146 (v := (0 : Int64)) rfl ?_
      refine g_iload cx d0_147 rfl ?_
      refine g_iconst cx d0_149 (v := (2 : Int32)) rfl ?_
      refine g_icmp_lt cx d0_150 (fun hc150 => ?_) (fun q => absurd q (fun q => by revert q; decide))
      refine g_lconst cx d0_158 (v := (0 : Int64)) rfl ?_
      refine g_ladd cx d0_159 ?_
      refine G.cast (st' := [(.long (0 : Int64))]) ?_ rfl
      refine g_lstore cx d0_160 (Ls' := #[.val (.int ia), .val (.int ib), .val (.int ic), .val (.int iw), .val (.int ir), .val (.int ig), .val (.long (((ia).toInt64) &&& (2147483647 : Int64))), .second, .val (.long (((ib).toInt64) &&& (2147483647 : Int64))), .second, .val (.int (0 : Int32)), .val (.int (0 : Int32)), .val (.long ((ir).toInt64)), .second, .val (.long (((ir).toInt64) + (((ig).toInt64) &&& (2147483647 : Int64)))), .second, .val (.ref b4), .val (.int (0 : Int32)), .val (.int (0 : Int32)), .val (.int (0 : Int32)), .val (.int (0 : Int32)), .val (.long (0 : Int64)), .second, .unset, .unset, .unset, .unset, .unset, .unset, .unset]) rfl ?_
      refine g_iload cx d0_162 rfl ?_
      refine g_iconst cx d0_164 (v := (1 : Int32)) rfl ?_
      refine g_icmp_ge cx d0_165 (fun q => absurd q (fun q => by revert q; decide)) (fun hc165 => ?_)
      refine g_iload cx d0_168 rfl ?_
      refine g_iconst cx d0_170 (v := (1 : Int32)) rfl ?_
      refine g_icmp_lt cx d0_171 (fun hc171 => ?_) (fun q => absurd q (fun q => by revert q; decide))
      refine g_lconst cx d0_179 (v := (0 : Int64)) rfl ?_
      refine g_iload cx d0_180 rfl ?_
      refine g_iconst cx d0_182 (v := (2 : Int32)) rfl ?_
      refine g_icmp_ge cx d0_183 (fun q => absurd q (fun q => by revert q; decide)) (fun hc183 => ?_)
      refine g_iload cx d0_186 rfl ?_
      refine g_iconst cx d0_188 (v := (2 : Int32)) rfl ?_
      refine g_icmp_lt cx d0_189 (fun hc189 => ?_) (fun q => absurd q (fun q => by revert q; decide))
      refine g_lconst cx d0_197 (v := (0 : Int64)) rfl ?_
      refine g_ladd cx d0_198 ?_
      refine G.cast (st' := [(.long (0 : Int64))]) ?_ rfl
      refine g_lstore cx d0_199 (Ls' := #[.val (.int ia), .val (.int ib), .val (.int ic), .val (.int iw), .val (.int ir), .val (.int ig), .val (.long (((ia).toInt64) &&& (2147483647 : Int64))), .second, .val (.long (((ib).toInt64) &&& (2147483647 : Int64))), .second, .val (.int (0 : Int32)), .val (.int (0 : Int32)), .val (.long ((ir).toInt64)), .second, .val (.long (((ir).toInt64) + (((ig).toInt64) &&& (2147483647 : Int64)))), .second, .val (.ref b4), .val (.int (0 : Int32)), .val (.int (0 : Int32)), .val (.int (0 : Int32)), .val (.int (0 : Int32)), .val (.long (0 : Int64)), .second, .val (.long (0 : Int64)), .second, .unset, .unset, .unset, .unset, .unset]) rfl ?_
      refine g_iload cx d0_201 rfl ?_
      refine g_if_le cx d0_203 (fun hc203 => ?_) (fun q => absurd q (fun q => by revert q; decide))
      refine g_iconst cx d0_210 (v := (0 : Int32)) rfl ?_
      refine g_istore cx d0_211 (Ls' := #[.val (.int ia), .val (.int ib), .val (.int ic), .val (.int iw), .val (.int ir), .val (.int ig), .val (.long (((ia).toInt64) &&& (2147483647 : Int64))), .second, .val (.long (((ib).toInt64) &&& (2147483647 : Int64))), .second, .val (.int (0 : Int32)), .val (.int (0 : Int32)), .val (.long ((ir).toInt64)), .second, .val (.long (((ir).toInt64) + (((ig).toInt64) &&& (2147483647 : Int64)))), .second, .val (.ref b4), .val (.int (0 : Int32)), .val (.int (0 : Int32)), .val (.int (0 : Int32)), .val (.int (0 : Int32)), .val (.long (0 : Int64)), .second, .val (.long (0 : Int64)), .second, .val (.int (0 : Int32)), .unset, .unset, .unset, .unset]) rfl ?_
      refine g_iload cx d0_213 rfl ?_
      refine g_iload cx d0_215 rfl ?_
      refine g_icmp_le cx d0_217 (fun hc217 => ?_) (fun q => absurd q (fun q => by revert q; decide))
      refine g_iconst cx d0_224 (v := (0 : Int32)) rfl ?_
      refine g_istore cx d0_225 (Ls' := #[.val (.int ia), .val (.int ib), .val (.int ic), .val (.int iw), .val (.int ir), .val (.int ig), .val (.long (((ia).toInt64) &&& (2147483647 : Int64))), .second, .val (.long (((ib).toInt64) &&& (2147483647 : Int64))), .second, .val (.int (0 : Int32)), .val (.int (0 : Int32)), .val (.long ((ir).toInt64)), .second, .val (.long (((ir).toInt64) + (((ig).toInt64) &&& (2147483647 : Int64)))), .second, .val (.ref b4), .val (.int (0 : Int32)), .val (.int (0 : Int32)), .val (.int (0 : Int32)), .val (.int (0 : Int32)), .val (.long (0 : Int64)), .second, .val (.long (0 : Int64)), .second, .val (.int (0 : Int32)), .val (.int (0 : Int32)), .unset, .unset, .unset]) rfl ?_
      refine g_iload cx d0_227 rfl ?_
      refine g_if_eq cx d0_229 (fun hc229 => ?_) (fun q => absurd q (fun q => by revert q; decide))
      refine g_iconst cx d0_253 (v := (0 : Int32)) rfl ?_
      refine g_istore cx d0_254 (Ls' := #[.val (.int ia), .val (.int ib), .val (.int ic), .val (.int iw), .val (.int ir), .val (.int ig), .val (.long (((ia).toInt64) &&& (2147483647 : Int64))), .second, .val (.long (((ib).toInt64) &&& (2147483647 : Int64))), .second, .val (.int (0 : Int32)), .val (.int (0 : Int32)), .val (.long ((ir).toInt64)), .second, .val (.long (((ir).toInt64) + (((ig).toInt64) &&& (2147483647 : Int64)))), .second, .val (.ref b4), .val (.int (0 : Int32)), .val (.int (0 : Int32)), .val (.int (0 : Int32)), .val (.int (0 : Int32)), .val (.long (0 : Int64)), .second, .val (.long (0 : Int64)), .second, .val (.int (0 : Int32)), .val (.int (0 : Int32)), .val (.int (0 : Int32)), .unset, .unset]) rfl ?_
      refine g_iload cx d0_256 rfl ?_
      refine g_if_eq cx d0_258 (fun hc258 => ?_) (fun q => absurd q (fun q => by revert q; decide))
      refine g_lconst cx d0_271 (v := (0 : Int64)) rfl ?_
      refine g_iload cx d0_272 rfl ?_
      refine g_if_eq cx d0_274 (fun hc274 => ?_) (fun q => absurd q (fun q => by revert q; decide))
      refine g_lconst cx d0_282 (v := (0 : Int64)) rfl ?_
      refine g_ladd cx d0_283 ?_
      refine G.cast (st' := [(.long (0 : Int64))]) ?_ rfl
      refine g_lstore cx d0_284 (Ls' := #[.val (.int ia), .val (.int ib), .val (.int ic), .val (.int iw), .val (.int ir), .val (.int ig), .val (.long (((ia).toInt64) &&& (2147483647 : Int64))), .second, .val (.long (((ib).toInt64) &&& (2147483647 : Int64))), .second, .val (.int (0 : Int32)), .val (.int (0 : Int32)), .val (.long ((ir).toInt64)), .second, .val (.long (((ir).toInt64) + (((ig).toInt64) &&& (2147483647 : Int64)))), .second, .val (.ref b4), .val (.int (0 : Int32)), .val (.int (0 : Int32)), .val (.int (0 : Int32)), .val (.int (0 : Int32)), .val (.long (0 : Int64)), .second, .val (.long (0 : Int64)), .second, .val (.int (0 : Int32)), .val (.int (0 : Int32)), .val (.int (0 : Int32)), .val (.long (0 : Int64)), .second]) rfl ?_
      refine g_iload cx d0_286 rfl ?_
      refine g_if_ne cx d0_288 (fun q => absurd q (fun q => by revert q; decide)) (fun hc288 => ?_)
      refine g_iload cx d0_291 rfl ?_
      refine g_if_ne cx d0_293 (fun q => absurd q (fun q => by revert q; decide)) (fun hc293 => ?_)
      refine g_iload cx d0_296 rfl ?_
      refine g_lload cx d0_298 rfl ?_
      refine g_lconst cx d0_300 (v := (0 : Int64)) rfl ?_
      refine g_lif_le cx d0_301 d0_302 (fun hc302 => ?_) (fun q => absurd q (fun q => by revert q; decide))
      refine g_iconst cx d0_309 (v := (0 : Int32)) rfl ?_
      refine g_icmp_ne cx d0_310 (fun q => absurd q (fun q => by revert q; decide)) (fun hc310 => ?_)
      refine g_iload cx d0_313 rfl ?_
      refine g_lload cx d0_315 rfl ?_
      refine g_lconst cx d0_317 (v := (0 : Int64)) rfl ?_
      refine g_lif_le cx d0_318 d0_319 (fun hc319 => ?_) (fun q => absurd q (fun q => by revert q; decide))
      refine g_iconst cx d0_326 (v := (0 : Int32)) rfl ?_
      refine g_icmp_ne cx d0_327 (fun q => absurd q (fun q => by revert q; decide)) (fun hc327 => ?_)
      refine g_iconst cx d0_330 (v := (1 : Int32)) rfl ?_
      refine g_goto cx d0_331 ?_
      refine g_retZ cx d0_335 rfl rfl (by decide) (by decide) ?_
      rfl
    · rw [hs2]
      refine g_iadd cx d0_40 ?_
      refine G.cast (st' := [(.int (1 : Int32))]) ?_ rfl
      refine g_istore cx d0_41 (Ls' := #[.val (.int ia), .val (.int ib), .val (.int ic), .val (.int iw), .val (.int ir), .val (.int ig), .val (.long (((ia).toInt64) &&& (2147483647 : Int64))), .second, .val (.long (((ib).toInt64) &&& (2147483647 : Int64))), .second, .val (.int (0 : Int32)), .val (.int (1 : Int32)), .unset, .unset, .unset, .unset, .unset, .unset, .unset, .unset, .unset, .unset, .unset, .unset, .unset, .unset, .unset, .unset, .unset, .unset]) rfl ?_
      refine g_iload cx d0_43 rfl ?_
      refine g_i2l cx d0_45 ?_
      refine g_lstore cx d0_46 (Ls' := #[.val (.int ia), .val (.int ib), .val (.int ic), .val (.int iw), .val (.int ir), .val (.int ig), .val (.long (((ia).toInt64) &&& (2147483647 : Int64))), .second, .val (.long (((ib).toInt64) &&& (2147483647 : Int64))), .second, .val (.int (0 : Int32)), .val (.int (1 : Int32)), .val (.long ((ir).toInt64)), .second, .unset, .unset, .unset, .unset, .unset, .unset, .unset, .unset, .unset, .unset, .unset, .unset, .unset, .unset, .unset, .unset]) rfl ?_
      refine g_lload cx d0_48 rfl ?_
      refine g_iload cx d0_50 rfl ?_
      refine g_i2l cx d0_52 ?_
      refine g_ldcJ cx d0_53 (hw _ (List.mem_of_getElem? (i := 0) rfl)) ?_
      refine g_land cx d0_56 ?_
      refine g_ladd cx d0_57 ?_
      refine g_lstore cx d0_58 (Ls' := #[.val (.int ia), .val (.int ib), .val (.int ic), .val (.int iw), .val (.int ir), .val (.int ig), .val (.long (((ia).toInt64) &&& (2147483647 : Int64))), .second, .val (.long (((ib).toInt64) &&& (2147483647 : Int64))), .second, .val (.int (0 : Int32)), .val (.int (1 : Int32)), .val (.long ((ir).toInt64)), .second, .val (.long (((ir).toInt64) + (((ig).toInt64) &&& (2147483647 : Int64)))), .second, .unset, .unset, .unset, .unset, .unset, .unset, .unset, .unset, .unset, .unset, .unset, .unset, .unset, .unset]) rfl ?_
      refine g_new cx d0_60 (hw _ (List.mem_of_getElem? (i := 1) rfl)) (hw _ (List.mem_of_getElem? (i := 2) rfl)) (hw _ (List.mem_of_getElem? (i := 3) rfl)) (k' := 1) (n' := 8) rfl rfl (by decide) (by decide) (fun h55 b56 gb57 E58 X59 D60 => ?_)
      have g_b56 : Z.heap.size ≤ b56 := by rw [gb57]; exact OL.2.1
      have OL := OL.ext E58
      have O_b56 := ObP.new hw X59 D60
      refine g_dup cx d0_63 rfl ?_
      have lt_b56 := O_b56.lt
      refine g_special cx (y := (⟨"com/example/thalweg/thalweg/node/Pace", "<init>", "()V"⟩ : MethodName)) (a := b56) d0_64 rfl rfl (hw _ (List.mem_of_getElem? (i := 4) rfl)) (hw _ (List.mem_of_getElem? (i := 5) rfl)) (hw _ (List.mem_of_getElem? (i := 3) rfl)) (hw _ (List.mem_of_getElem? (i := 6) rfl)) (by decide) (bytes := prog_54_method_1_code) (maxL' := 1) (M := (ra1 l Z a0 hw  b56 _ O_b56 g_b56 OL)) rfl (lenOf pd_0 rfl) (by decide) (W := 1) (Nat.le_of_eq rfl) (by decide) (k' := 5) (n' := 48) rfl rfl (by decide) (by decide) (argsL := []) (rest := [(.ref b56)]) rfl (fun v69 h68 q70 => ?_)
      obtain ⟨b61, b62, b63, b64, cA65, cA66, rfl, K67, sq_b61, sq_b62, sq_b63, sq_b64, ne_b61_b62, ne_b61_b63, ne_b62_b63, ne_b61_b64, ne_b62_b64, ne_b63_b64, O_b61, A_b62, O_b63, A_b64, OV_b62, OV_b64, O_b56⟩ := q70
      have ne_b56_b61 : b56 ≠ b61 := Nat.ne_of_lt (Nat.lt_of_lt_of_le lt_b56 sq_b61)
      have g_b61 : Z.heap.size ≤ b61 := Nat.le_trans OL.2.1 sq_b61
      have ne_b56_b62 : b56 ≠ b62 := Nat.ne_of_lt (Nat.lt_of_lt_of_le lt_b56 sq_b62)
      have g_b62 : Z.heap.size ≤ b62 := Nat.le_trans OL.2.1 sq_b62
      have ne_b56_b63 : b56 ≠ b63 := Nat.ne_of_lt (Nat.lt_of_lt_of_le lt_b56 sq_b63)
      have g_b63 : Z.heap.size ≤ b63 := Nat.le_trans OL.2.1 sq_b63
      have ne_b56_b64 : b56 ≠ b64 := Nat.ne_of_lt (Nat.lt_of_lt_of_le lt_b56 sq_b64)
      have g_b64 : Z.heap.size ≤ b64 := Nat.le_trans OL.2.1 sq_b64
      have OL := OL.keep K67 (allS g_b56 all0)
      refine G.cast (st' := [(.ref b56)]) ?_ rfl
      refine g_astore cx d0_67 rfl (Ls' := #[.val (.int ia), .val (.int ib), .val (.int ic), .val (.int iw), .val (.int ir), .val (.int ig), .val (.long (((ia).toInt64) &&& (2147483647 : Int64))), .second, .val (.long (((ib).toInt64) &&& (2147483647 : Int64))), .second, .val (.int (0 : Int32)), .val (.int (1 : Int32)), .val (.long ((ir).toInt64)), .second, .val (.long (((ir).toInt64) + (((ig).toInt64) &&& (2147483647 : Int64)))), .second, .val (.ref b56), .unset, .unset, .unset, .unset, .unset, .unset, .unset, .unset, .unset, .unset, .unset, .unset, .unset]) rfl ?_
      refine g_aload cx d0_69 rfl rfl ?_
      refine g_virtual cx (y := (⟨"com/example/thalweg/thalweg/node/Pace", "known", "()Z"⟩ : MethodName)) (z := (⟨"com/example/thalweg/thalweg/node/Pace", "known", "()Z"⟩ : MethodName)) (a := b56) d0_71 (hw _ (List.mem_of_getElem? (i := 31) rfl)) (hw _ (List.mem_of_getElem? (i := 32) rfl)) (hw _ (List.mem_of_getElem? (i := 3) rfl)) (hw _ (List.mem_of_getElem? (i := 35) rfl)) (hw _ (List.mem_of_getElem? (i := 34) rfl)) (hw _ (List.mem_of_getElem? (i := 33) rfl)) rfl (by decide) O_b56.1 (bytes := prog_54_method_5_code) (maxL' := 1) (M := (ra3 l Z a0 hw  b56 b61 b62 b63 b64 cA65 cA66 _ O_b56 O_b61 O_b63 A_b62 A_b64 OV_b62 OV_b64 ne_b56_b61 ne_b56_b62 ne_b61_b62 ne_b56_b63 ne_b61_b63 ne_b62_b63 ne_b56_b64 ne_b61_b64 ne_b62_b64 ne_b63_b64 g_b56 g_b61 g_b62 g_b63 g_b64 OL)) rfl (lenOf pd_1 rfl) (by decide) (W := 0) (Nat.le_of_eq rfl) (by decide) (k' := 5) (n' := 48) rfl rfl (by decide) (by decide) (argsL := []) (rest := []) rfl (fun v73 h72 q74 => ?_)
      obtain ⟨rfl, rfl⟩ := q74
      refine G.cast (st' := [(.int (0 : Int32))]) ?_ rfl
      refine g_istore cx d0_74 (Ls' := #[.val (.int ia), .val (.int ib), .val (.int ic), .val (.int iw), .val (.int ir), .val (.int ig), .val (.long (((ia).toInt64) &&& (2147483647 : Int64))), .second, .val (.long (((ib).toInt64) &&& (2147483647 : Int64))), .second, .val (.int (0 : Int32)), .val (.int (1 : Int32)), .val (.long ((ir).toInt64)), .second, .val (.long (((ir).toInt64) + (((ig).toInt64) &&& (2147483647 : Int64)))), .second, .val (.ref b56), .val (.int (0 : Int32)), .unset, .unset, .unset, .unset, .unset, .unset, .unset, .unset, .unset, .unset, .unset, .unset]) rfl ?_
      refine g_aload cx d0_76 rfl rfl ?_
      refine g_lload cx d0_78 rfl ?_
      refine g_iloadN cx d0_80 rfl ?_
      refine g_i2l cx d0_81 ?_
      have lt_b56 := O_b56.lt
      have lt_b61 := O_b61.lt
      have lt_b62 := A_b62.lt
      refine g_virtual cx (y := (⟨"com/example/thalweg/thalweg/node/Pace", "written", "(JJ)V"⟩ : MethodName)) (z := (⟨"com/example/thalweg/thalweg/node/Pace", "written", "(JJ)V"⟩ : MethodName)) (a := b56) d0_82 (hw _ (List.mem_of_getElem? (i := 38) rfl)) (hw _ (List.mem_of_getElem? (i := 39) rfl)) (hw _ (List.mem_of_getElem? (i := 3) rfl)) (hw _ (List.mem_of_getElem? (i := 42) rfl)) (hw _ (List.mem_of_getElem? (i := 41) rfl)) (hw _ (List.mem_of_getElem? (i := 40) rfl)) rfl (by decide) O_b56.1 (bytes := prog_54_method_2_code) (maxL' := 5) (M := (ra4 l Z a0 hw  b56 b61 b62 b63 b64 (((ia).toInt64) &&& (2147483647 : Int64)) ((iw).toInt64) cA65 cA66 _ O_b56 O_b61 O_b63 A_b62 A_b64 OV_b62 OV_b64 ne_b56_b61 ne_b56_b62 ne_b61_b62 ne_b56_b63 ne_b61_b63 ne_b62_b63 ne_b56_b64 ne_b61_b64 ne_b62_b64 ne_b63_b64 g_b56 g_b61 g_b62 g_b63 g_b64 OL)) rfl (lenOf pd_4 rfl) (by decide) (W := 0) (Nat.le_of_eq rfl) (by decide) (k' := 6) (n' := 50) rfl rfl (by decide) (by decide) (argsL := [(.long (((ia).toInt64) &&& (2147483647 : Int64))), (.long ((iw).toInt64))]) (rest := []) rfl (fun v79 h78 q80 => ?_)
      obtain ⟨b75, cA76, rfl, K77, sq_b75, A_b75, O_b56, O_b61, A_b62⟩ := q80
      have ne_b56_b75 : b56 ≠ b75 := Nat.ne_of_lt (Nat.lt_of_lt_of_le lt_b56 sq_b75)
      have ne_b61_b75 : b61 ≠ b75 := Nat.ne_of_lt (Nat.lt_of_lt_of_le lt_b61 sq_b75)
      have ne_b63_b75 : b63 ≠ b75 := Nat.ne_of_lt (Nat.lt_of_lt_of_le O_b63.lt sq_b75)
      have ne_b62_b75 : b62 ≠ b75 := Nat.ne_of_lt (Nat.lt_of_lt_of_le lt_b62 sq_b75)
      have ne_b64_b75 : b64 ≠ b75 := Nat.ne_of_lt (Nat.lt_of_lt_of_le A_b64.lt sq_b75)
      have g_b75 : Z.heap.size ≤ b75 := Nat.le_trans OL.2.1 sq_b75
      have O_b63 := O_b63.keep K77 (ninS (Ne.symm ne_b56_b63) (ninS (Ne.symm ne_b61_b63) (ninS (Ne.symm ne_b62_b63) nin0)))
      have A_b64 := A_b64.keep K77 (ninS (Ne.symm ne_b56_b64) (ninS (Ne.symm ne_b61_b64) (ninS (Ne.symm ne_b62_b64) nin0)))
      have OL := OL.keep K77 (allS g_b56 (allS g_b61 (allS g_b62 all0)))
      refine G.cast (st' := []) ?_ rfl
      refine g_aload cx d0_85 rfl rfl ?_
      refine g_lload cx d0_87 rfl ?_
      refine g_iloadN cx d0_89 rfl ?_
      refine g_i2l cx d0_90 ?_
      have lt_b56 := O_b56.lt
      have lt_b61 := O_b61.lt
      have lt_b62 := A_b62.lt
      refine g_virtual cx (y := (⟨"com/example/thalweg/thalweg/node/Pace", "written", "(JJ)V"⟩ : MethodName)) (z := (⟨"com/example/thalweg/thalweg/node/Pace", "written", "(JJ)V"⟩ : MethodName)) (a := b56) d0_91 (hw _ (List.mem_of_getElem? (i := 38) rfl)) (hw _ (List.mem_of_getElem? (i := 39) rfl)) (hw _ (List.mem_of_getElem? (i := 3) rfl)) (hw _ (List.mem_of_getElem? (i := 42) rfl)) (hw _ (List.mem_of_getElem? (i := 41) rfl)) (hw _ (List.mem_of_getElem? (i := 40) rfl)) rfl (by decide) O_b56.1 (bytes := prog_54_method_2_code) (maxL' := 5) (M := (ra8 l Z a0 hw  b56 b61 b62 b75 b63 b64 (((ia).toInt64) &&& (2147483647 : Int64)) ((iw).toInt64) (((ib).toInt64) &&& (2147483647 : Int64)) cA65 cA76 cA66 _ O_b56 O_b61 O_b63 A_b62 A_b75 A_b64 OV_b62 OV_b64 ne_b56_b61 ne_b56_b62 ne_b61_b62 ne_b56_b75 ne_b61_b75 ne_b62_b75 ne_b56_b63 ne_b61_b63 ne_b62_b63 (Ne.symm ne_b63_b75) ne_b56_b64 ne_b61_b64 ne_b62_b64 (Ne.symm ne_b64_b75) ne_b63_b64 g_b56 g_b61 g_b62 g_b75 g_b63 g_b64 OL)) rfl (lenOf pd_4 rfl) (by decide) (W := 0) (Nat.le_of_eq rfl) (by decide) (k' := 7) (n' := 52) rfl rfl (by decide) (by decide) (argsL := [(.long (((ib).toInt64) &&& (2147483647 : Int64))), (.long ((iw).toInt64))]) (rest := []) rfl (fun v85 h84 q86 => ?_)
      obtain ⟨b81, cA82, rfl, K83, sq_b81, A_b81, O_b56, O_b61, A_b62⟩ := q86
      have ne_b56_b81 : b56 ≠ b81 := Nat.ne_of_lt (Nat.lt_of_lt_of_le lt_b56 sq_b81)
      have ne_b61_b81 : b61 ≠ b81 := Nat.ne_of_lt (Nat.lt_of_lt_of_le lt_b61 sq_b81)
      have ne_b63_b81 : b63 ≠ b81 := Nat.ne_of_lt (Nat.lt_of_lt_of_le O_b63.lt sq_b81)
      have ne_b62_b81 : b62 ≠ b81 := Nat.ne_of_lt (Nat.lt_of_lt_of_le lt_b62 sq_b81)
      have ne_b64_b81 : b64 ≠ b81 := Nat.ne_of_lt (Nat.lt_of_lt_of_le A_b64.lt sq_b81)
      have ne_b75_b81 : b75 ≠ b81 := Nat.ne_of_lt (Nat.lt_of_lt_of_le A_b75.lt sq_b81)
      have g_b81 : Z.heap.size ≤ b81 := Nat.le_trans OL.2.1 sq_b81
      have O_b63 := O_b63.keep K83 (ninS (Ne.symm ne_b56_b63) (ninS (Ne.symm ne_b61_b63) (ninS (Ne.symm ne_b62_b63) nin0)))
      have A_b64 := A_b64.keep K83 (ninS (Ne.symm ne_b56_b64) (ninS (Ne.symm ne_b61_b64) (ninS (Ne.symm ne_b62_b64) nin0)))
      have A_b75 := A_b75.keep K83 (ninS (Ne.symm ne_b56_b75) (ninS (Ne.symm ne_b61_b75) (ninS (Ne.symm ne_b62_b75) nin0)))
      have OL := OL.keep K83 (allS g_b56 (allS g_b61 (allS g_b62 all0)))
      refine G.cast (st' := []) ?_ rfl
      refine g_aload cx d0_94 rfl rfl ?_
      refine g_virtual cx (y := (⟨"com/example/thalweg/thalweg/node/Pace", "known", "()Z"⟩ : MethodName)) (z := (⟨"com/example/thalweg/thalweg/node/Pace", "known", "()Z"⟩ : MethodName)) (a := b56) d0_96 (hw _ (List.mem_of_getElem? (i := 31) rfl)) (hw _ (List.mem_of_getElem? (i := 32) rfl)) (hw _ (List.mem_of_getElem? (i := 3) rfl)) (hw _ (List.mem_of_getElem? (i := 35) rfl)) (hw _ (List.mem_of_getElem? (i := 34) rfl)) (hw _ (List.mem_of_getElem? (i := 33) rfl)) rfl (by decide) O_b56.1 (bytes := prog_54_method_5_code) (maxL' := 1) (M := (ra12 l Z a0 hw  b56 b61 b62 b75 b81 b63 b64 (((ia).toInt64) &&& (2147483647 : Int64)) ((iw).toInt64) (((ib).toInt64) &&& (2147483647 : Int64)) ((((ia).toInt64) &&& (2147483647 : Int64)) + (((ib).toInt64) &&& (2147483647 : Int64))) cA65 cA76 cA82 cA66 _ O_b56 O_b61 O_b63 A_b62 A_b75 A_b81 A_b64 OV_b62 OV_b64 ne_b56_b61 ne_b56_b62 ne_b61_b62 ne_b56_b75 ne_b61_b75 ne_b62_b75 ne_b56_b81 ne_b61_b81 ne_b62_b81 ne_b75_b81 ne_b56_b63 ne_b61_b63 ne_b62_b63 (Ne.symm ne_b63_b75) (Ne.symm ne_b63_b81) ne_b56_b64 ne_b61_b64 ne_b62_b64 (Ne.symm ne_b64_b75) (Ne.symm ne_b64_b81) ne_b63_b64 g_b56 g_b61 g_b62 g_b75 g_b81 g_b63 g_b64 OL)) rfl (lenOf pd_1 rfl) (by decide) (W := 0) (Nat.le_of_eq rfl) (by decide) (k' := 7) (n' := 52) rfl rfl (by decide) (by decide) (argsL := []) (rest := []) rfl (fun v89 h88 q90 => ?_)
      obtain ⟨rfl, rfl⟩ := q90
      refine G.cast (st' := [(.int (0 : Int32))]) ?_ rfl
      refine g_istore cx d0_99 (Ls' := #[.val (.int ia), .val (.int ib), .val (.int ic), .val (.int iw), .val (.int ir), .val (.int ig), .val (.long (((ia).toInt64) &&& (2147483647 : Int64))), .second, .val (.long (((ib).toInt64) &&& (2147483647 : Int64))), .second, .val (.int (0 : Int32)), .val (.int (1 : Int32)), .val (.long ((ir).toInt64)), .second, .val (.long (((ir).toInt64) + (((ig).toInt64) &&& (2147483647 : Int64)))), .second, .val (.ref b56), .val (.int (0 : Int32)), .val (.int (0 : Int32)), .unset, .unset, .unset, .unset, .unset, .unset, .unset, .unset, .unset, .unset, .unset]) rfl ?_
      refine g_aload cx d0_101 rfl rfl ?_
      refine g_iload cx d0_103 rfl ?_
      refine g_i2l cx d0_105 ?_
      refine G.cast (st' := [(.long (0 : Int64)), (.ref b56)]) ?_ rfl
      refine g_lload cx d0_106 rfl ?_
      refine g_virtual cx (y := (⟨"com/example/thalweg/thalweg/node/Pace", "taken", "(JJ)V"⟩ : MethodName)) (z := (⟨"com/example/thalweg/thalweg/node/Pace", "taken", "(JJ)V"⟩ : MethodName)) (a := b56) d0_108 (hw _ (List.mem_of_getElem? (i := 68) rfl)) (hw _ (List.mem_of_getElem? (i := 69) rfl)) (hw _ (List.mem_of_getElem? (i := 3) rfl)) (hw _ (List.mem_of_getElem? (i := 72) rfl)) (hw _ (List.mem_of_getElem? (i := 71) rfl)) (hw _ (List.mem_of_getElem? (i := 70) rfl)) rfl (by decide) O_b56.1 (bytes := prog_54_method_3_code) (maxL' := 10) (M := (ra13 l Z a0 hw  b56 b61 b62 b75 b81 b63 b64 (((ia).toInt64) &&& (2147483647 : Int64)) ((iw).toInt64) (((ib).toInt64) &&& (2147483647 : Int64)) ((((ia).toInt64) &&& (2147483647 : Int64)) + (((ib).toInt64) &&& (2147483647 : Int64))) ((ir).toInt64) cA65 cA76 cA82 cA66 _ O_b56 O_b61 O_b63 A_b62 A_b75 A_b81 A_b64 OV_b62 OV_b64 ne_b56_b61 ne_b56_b62 ne_b61_b62 ne_b56_b75 ne_b61_b75 ne_b62_b75 ne_b56_b81 ne_b61_b81 ne_b62_b81 ne_b75_b81 ne_b56_b63 ne_b61_b63 ne_b62_b63 (Ne.symm ne_b63_b75) (Ne.symm ne_b63_b81) ne_b56_b64 ne_b61_b64 ne_b62_b64 (Ne.symm ne_b64_b75) (Ne.symm ne_b64_b81) ne_b63_b64 g_b56 g_b61 g_b62 g_b75 g_b81 g_b63 g_b64 OL)) rfl (lenOf pd_4 rfl) (by decide) (W := 0) (Nat.le_of_eq rfl) (by decide) (k' := 7) (n' := 52) rfl rfl (by decide) (by decide) (argsL := [(.long (0 : Int64)), (.long ((ir).toInt64))]) (rest := []) rfl (fun v93 h92 q94 => ?_)
      obtain ⟨rfl, rfl⟩ := q94
      refine G.cast (st' := []) ?_ rfl
      refine g_aload cx d0_111 rfl rfl ?_
      refine g_virtual cx (y := (⟨"com/example/thalweg/thalweg/node/Pace", "known", "()Z"⟩ : MethodName)) (z := (⟨"com/example/thalweg/thalweg/node/Pace", "known", "()Z"⟩ : MethodName)) (a := b56) d0_113 (hw _ (List.mem_of_getElem? (i := 31) rfl)) (hw _ (List.mem_of_getElem? (i := 32) rfl)) (hw _ (List.mem_of_getElem? (i := 3) rfl)) (hw _ (List.mem_of_getElem? (i := 35) rfl)) (hw _ (List.mem_of_getElem? (i := 34) rfl)) (hw _ (List.mem_of_getElem? (i := 33) rfl)) rfl (by decide) O_b56.1 (bytes := prog_54_method_5_code) (maxL' := 1) (M := (ra12 l Z a0 hw  b56 b61 b62 b75 b81 b63 b64 (((ia).toInt64) &&& (2147483647 : Int64)) ((iw).toInt64) (((ib).toInt64) &&& (2147483647 : Int64)) ((((ia).toInt64) &&& (2147483647 : Int64)) + (((ib).toInt64) &&& (2147483647 : Int64))) cA65 cA76 cA82 cA66 _ O_b56 O_b61 O_b63 A_b62 A_b75 A_b81 A_b64 OV_b62 OV_b64 ne_b56_b61 ne_b56_b62 ne_b61_b62 ne_b56_b75 ne_b61_b75 ne_b62_b75 ne_b56_b81 ne_b61_b81 ne_b62_b81 ne_b75_b81 ne_b56_b63 ne_b61_b63 ne_b62_b63 (Ne.symm ne_b63_b75) (Ne.symm ne_b63_b81) ne_b56_b64 ne_b61_b64 ne_b62_b64 (Ne.symm ne_b64_b75) (Ne.symm ne_b64_b81) ne_b63_b64 g_b56 g_b61 g_b62 g_b75 g_b81 g_b63 g_b64 OL)) rfl (lenOf pd_1 rfl) (by decide) (W := 0) (Nat.le_of_eq rfl) (by decide) (k' := 7) (n' := 52) rfl rfl (by decide) (by decide) (argsL := []) (rest := []) rfl (fun v97 h96 q98 => ?_)
      obtain ⟨rfl, rfl⟩ := q98
      refine G.cast (st' := [(.int (0 : Int32))]) ?_ rfl
      refine g_istore cx d0_116 (Ls' := #[.val (.int ia), .val (.int ib), .val (.int ic), .val (.int iw), .val (.int ir), .val (.int ig), .val (.long (((ia).toInt64) &&& (2147483647 : Int64))), .second, .val (.long (((ib).toInt64) &&& (2147483647 : Int64))), .second, .val (.int (0 : Int32)), .val (.int (1 : Int32)), .val (.long ((ir).toInt64)), .second, .val (.long (((ir).toInt64) + (((ig).toInt64) &&& (2147483647 : Int64)))), .second, .val (.ref b56), .val (.int (0 : Int32)), .val (.int (0 : Int32)), .val (.int (0 : Int32)), .unset, .unset, .unset, .unset, .unset, .unset, .unset, .unset, .unset, .unset]) rfl ?_
      refine g_aload cx d0_118 rfl rfl ?_
      refine g_iload cx d0_120 rfl ?_
      refine g_i2l cx d0_122 ?_
      refine G.cast (st' := [(.long (1 : Int64)), (.ref b56)]) ?_ rfl
      refine g_lload cx d0_123 rfl ?_
      have lt_b56 := O_b56.lt
      have lt_b61 := O_b61.lt
      have lt_b62 := A_b62.lt
      have lt_b63 := O_b63.lt
      have lt_b64 := A_b64.lt
      refine g_virtual cx (y := (⟨"com/example/thalweg/thalweg/node/Pace", "taken", "(JJ)V"⟩ : MethodName)) (z := (⟨"com/example/thalweg/thalweg/node/Pace", "taken", "(JJ)V"⟩ : MethodName)) (a := b56) d0_125 (hw _ (List.mem_of_getElem? (i := 68) rfl)) (hw _ (List.mem_of_getElem? (i := 69) rfl)) (hw _ (List.mem_of_getElem? (i := 3) rfl)) (hw _ (List.mem_of_getElem? (i := 72) rfl)) (hw _ (List.mem_of_getElem? (i := 71) rfl)) (hw _ (List.mem_of_getElem? (i := 70) rfl)) rfl (by decide) O_b56.1 (bytes := prog_54_method_3_code) (maxL' := 10) (M := (ra14 l Z a0 hw  b56 b61 b62 b75 b81 b63 b64 (((ia).toInt64) &&& (2147483647 : Int64)) ((iw).toInt64) (((ib).toInt64) &&& (2147483647 : Int64)) ((((ia).toInt64) &&& (2147483647 : Int64)) + (((ib).toInt64) &&& (2147483647 : Int64))) (((ir).toInt64) + (((ig).toInt64) &&& (2147483647 : Int64))) cA65 cA76 cA82 cA66 _ O_b56 O_b61 O_b63 A_b62 A_b75 A_b81 A_b64 OV_b62 OV_b64 ne_b56_b61 ne_b56_b62 ne_b61_b62 ne_b56_b75 ne_b61_b75 ne_b62_b75 ne_b56_b81 ne_b61_b81 ne_b62_b81 ne_b75_b81 ne_b56_b63 ne_b61_b63 ne_b62_b63 (Ne.symm ne_b63_b75) (Ne.symm ne_b63_b81) ne_b56_b64 ne_b61_b64 ne_b62_b64 (Ne.symm ne_b64_b75) (Ne.symm ne_b64_b81) ne_b63_b64 g_b56 g_b61 g_b62 g_b75 g_b81 g_b63 g_b64 OL)) rfl (lenOf pd_4 rfl) (by decide) (W := 0) (Nat.le_of_eq rfl) (by decide) (k' := 8) (n' := 56) rfl rfl (by decide) (by decide) (argsL := [(.long (1 : Int64)), (.long (((ir).toInt64) + (((ig).toInt64) &&& (2147483647 : Int64))))]) (rest := []) rfl (fun v102 h101 q103 => ?_)
      obtain ⟨b99, rfl, K100, sq_b99, O_b99, O_b56, O_b61, A_b62, O_b63, A_b64⟩ := q103
      have ne_b56_b99 : b56 ≠ b99 := Nat.ne_of_lt (Nat.lt_of_lt_of_le lt_b56 sq_b99)
      have ne_b61_b99 : b61 ≠ b99 := Nat.ne_of_lt (Nat.lt_of_lt_of_le lt_b61 sq_b99)
      have ne_b63_b99 : b63 ≠ b99 := Nat.ne_of_lt (Nat.lt_of_lt_of_le lt_b63 sq_b99)
      have ne_b62_b99 : b62 ≠ b99 := Nat.ne_of_lt (Nat.lt_of_lt_of_le lt_b62 sq_b99)
      have ne_b64_b99 : b64 ≠ b99 := Nat.ne_of_lt (Nat.lt_of_lt_of_le lt_b64 sq_b99)
      have ne_b75_b99 : b75 ≠ b99 := Nat.ne_of_lt (Nat.lt_of_lt_of_le A_b75.lt sq_b99)
      have ne_b81_b99 : b81 ≠ b99 := Nat.ne_of_lt (Nat.lt_of_lt_of_le A_b81.lt sq_b99)
      have g_b99 : Z.heap.size ≤ b99 := Nat.le_trans OL.2.1 sq_b99
      have A_b75 := A_b75.keep K100 (ninS (Ne.symm ne_b56_b75) (ninS (Ne.symm ne_b61_b75) (ninS (Ne.symm ne_b62_b75) (ninS (Ne.symm ne_b63_b75) (ninS (Ne.symm ne_b64_b75) nin0)))))
      have A_b81 := A_b81.keep K100 (ninS (Ne.symm ne_b56_b81) (ninS (Ne.symm ne_b61_b81) (ninS (Ne.symm ne_b62_b81) (ninS (Ne.symm ne_b63_b81) (ninS (Ne.symm ne_b64_b81) nin0)))))
      have OL := OL.keep K100 (allS g_b56 (allS g_b61 (allS g_b62 (allS g_b63 (allS g_b64 all0)))))
      refine G.cast (st' := []) ?_ rfl
      refine g_aload cx d0_128 rfl rfl ?_
      refine g_virtual cx (y := (⟨"com/example/thalweg/thalweg/node/Pace", "known", "()Z"⟩ : MethodName)) (z := (⟨"com/example/thalweg/thalweg/node/Pace", "known", "()Z"⟩ : MethodName)) (a := b56) d0_130 (hw _ (List.mem_of_getElem? (i := 31) rfl)) (hw _ (List.mem_of_getElem? (i := 32) rfl)) (hw _ (List.mem_of_getElem? (i := 3) rfl)) (hw _ (List.mem_of_getElem? (i := 35) rfl)) (hw _ (List.mem_of_getElem? (i := 34) rfl)) (hw _ (List.mem_of_getElem? (i := 33) rfl)) rfl (by decide) O_b56.1 (bytes := prog_54_method_5_code) (maxL' := 1) (M := (ra25 l Z a0 hw  b56 b61 b62 b81 b63 b64 b99 (((ib).toInt64) &&& (2147483647 : Int64)) ((iw).toInt64) (((ir).toInt64) + (((ig).toInt64) &&& (2147483647 : Int64))) (((ia).toInt64) &&& (2147483647 : Int64)) (own_max (1 : Int64) ((((ir).toInt64) + (((ig).toInt64) &&& (2147483647 : Int64))) - ((iw).toInt64))) ((((ir).toInt64) + (((ig).toInt64) &&& (2147483647 : Int64))) - ((iw).toInt64)) (((((ia).toInt64) &&& (2147483647 : Int64)) + (((ib).toInt64) &&& (2147483647 : Int64))) - (((ia).toInt64) &&& (2147483647 : Int64))) cA65 cA82 cA66 _ O_b56 O_b61 O_b63 O_b99 A_b62 A_b81 A_b64 OV_b62 OV_b64 ne_b56_b61 ne_b56_b62 ne_b61_b62 ne_b56_b81 ne_b61_b81 ne_b62_b81 ne_b56_b63 ne_b61_b63 ne_b62_b63 (Ne.symm ne_b63_b81) ne_b56_b64 ne_b61_b64 ne_b62_b64 (Ne.symm ne_b64_b81) ne_b63_b64 ne_b56_b99 ne_b61_b99 ne_b62_b99 ne_b81_b99 ne_b63_b99 ne_b64_b99 g_b56 g_b61 g_b62 g_b81 g_b63 g_b64 g_b99 OL)) rfl (lenOf pd_1 rfl) (by decide) (W := 0) (Nat.le_of_eq rfl) (by decide) (k' := 8) (n' := 56) rfl rfl (by decide) (by decide) (argsL := []) (rest := []) rfl (fun v109 h108 q110 => ?_)
      rcases q110 with ⟨hq104, rfl, rfl⟩ | ⟨hq106, rfl, rfl⟩
      · refine G.cast (st' := [(.int (0 : Int32))]) ?_ rfl
        refine g_istore cx d0_133 (Ls' := #[.val (.int ia), .val (.int ib), .val (.int ic), .val (.int iw), .val (.int ir), .val (.int ig), .val (.long (((ia).toInt64) &&& (2147483647 : Int64))), .second, .val (.long (((ib).toInt64) &&& (2147483647 : Int64))), .second, .val (.int (0 : Int32)), .val (.int (1 : Int32)), .val (.long ((ir).toInt64)), .second, .val (.long (((ir).toInt64) + (((ig).toInt64) &&& (2147483647 : Int64)))), .second, .val (.ref b56), .val (.int (0 : Int32)), .val (.int (0 : Int32)), .val (.int (0 : Int32)), .val (.int (0 : Int32)), .unset, .unset, .unset, .unset, .unset, .unset, .unset, .unset, .unset]) rfl ?_
        refine g_iload cx d0_135 rfl ?_
        refine g_iconst cx d0_137 (v := (1 : Int32)) rfl ?_
        refine g_icmp_lt cx d0_138 (fun hc138 => ?_) (fun q => absurd q (fun q => by revert q; decide))
        refine g_lconst cx d0_146 (v := (0 : Int64)) rfl ?_
        refine g_iload cx d0_147 rfl ?_
        refine g_iconst cx d0_149 (v := (2 : Int32)) rfl ?_
        refine g_icmp_lt cx d0_150 (fun hc150 => ?_) (fun q => absurd q (fun q => by revert q; decide))
        refine g_lconst cx d0_158 (v := (0 : Int64)) rfl ?_
        refine g_ladd cx d0_159 ?_
        refine G.cast (st' := [(.long (0 : Int64))]) ?_ rfl
        refine g_lstore cx d0_160 (Ls' := #[.val (.int ia), .val (.int ib), .val (.int ic), .val (.int iw), .val (.int ir), .val (.int ig), .val (.long (((ia).toInt64) &&& (2147483647 : Int64))), .second, .val (.long (((ib).toInt64) &&& (2147483647 : Int64))), .second, .val (.int (0 : Int32)), .val (.int (1 : Int32)), .val (.long ((ir).toInt64)), .second, .val (.long (((ir).toInt64) + (((ig).toInt64) &&& (2147483647 : Int64)))), .second, .val (.ref b56), .val (.int (0 : Int32)), .val (.int (0 : Int32)), .val (.int (0 : Int32)), .val (.int (0 : Int32)), .val (.long (0 : Int64)), .second, .unset, .unset, .unset, .unset, .unset, .unset, .unset]) rfl ?_
        refine g_iload cx d0_162 rfl ?_
        refine g_iconst cx d0_164 (v := (1 : Int32)) rfl ?_
        refine g_icmp_ge cx d0_165 (fun q => absurd q (fun q => by revert q; decide)) (fun hc165 => ?_)
        refine g_iload cx d0_168 rfl ?_
        refine g_iconst cx d0_170 (v := (1 : Int32)) rfl ?_
        refine g_icmp_lt cx d0_171 (fun q => absurd q (fun q => by revert q; decide)) (fun hc171 => ?_)
        refine g_lload cx d0_174 rfl ?_
        refine g_goto cx d0_176 ?_
        refine g_iload cx d0_180 rfl ?_
        refine g_iconst cx d0_182 (v := (2 : Int32)) rfl ?_
        refine g_icmp_ge cx d0_183 (fun q => absurd q (fun q => by revert q; decide)) (fun hc183 => ?_)
        refine g_iload cx d0_186 rfl ?_
        refine g_iconst cx d0_188 (v := (2 : Int32)) rfl ?_
        refine g_icmp_lt cx d0_189 (fun hc189 => ?_) (fun q => absurd q (fun q => by revert q; decide))
        refine g_lconst cx d0_197 (v := (0 : Int64)) rfl ?_
        refine g_ladd cx d0_198 ?_
        rw [Int64.add_zero]
        refine g_lstore cx d0_199 (Ls' := #[.val (.int ia), .val (.int ib), .val (.int ic), .val (.int iw), .val (.int ir), .val (.int ig), .val (.long (((ia).toInt64) &&& (2147483647 : Int64))), .second, .val (.long (((ib).toInt64) &&& (2147483647 : Int64))), .second, .val (.int (0 : Int32)), .val (.int (1 : Int32)), .val (.long ((ir).toInt64)), .second, .val (.long (((ir).toInt64) + (((ig).toInt64) &&& (2147483647 : Int64)))), .second, .val (.ref b56), .val (.int (0 : Int32)), .val (.int (0 : Int32)), .val (.int (0 : Int32)), .val (.int (0 : Int32)), .val (.long (0 : Int64)), .second, .val (.long (((ia).toInt64) &&& (2147483647 : Int64))), .second, .unset, .unset, .unset, .unset, .unset]) rfl ?_
        refine g_iload cx d0_201 rfl ?_
        refine g_if_le cx d0_203 (fun hc203 => ?_) (fun q => absurd q (fun q => by revert q; decide))
        refine g_iconst cx d0_210 (v := (0 : Int32)) rfl ?_
        refine g_istore cx d0_211 (Ls' := #[.val (.int ia), .val (.int ib), .val (.int ic), .val (.int iw), .val (.int ir), .val (.int ig), .val (.long (((ia).toInt64) &&& (2147483647 : Int64))), .second, .val (.long (((ib).toInt64) &&& (2147483647 : Int64))), .second, .val (.int (0 : Int32)), .val (.int (1 : Int32)), .val (.long ((ir).toInt64)), .second, .val (.long (((ir).toInt64) + (((ig).toInt64) &&& (2147483647 : Int64)))), .second, .val (.ref b56), .val (.int (0 : Int32)), .val (.int (0 : Int32)), .val (.int (0 : Int32)), .val (.int (0 : Int32)), .val (.long (0 : Int64)), .second, .val (.long (((ia).toInt64) &&& (2147483647 : Int64))), .second, .val (.int (0 : Int32)), .unset, .unset, .unset, .unset]) rfl ?_
        refine g_iload cx d0_213 rfl ?_
        refine g_iload cx d0_215 rfl ?_
        refine g_icmp_le cx d0_217 (fun q => absurd q (fun q => by revert q; decide)) (fun hc217 => ?_)
        refine g_iconst cx d0_220 (v := (1 : Int32)) rfl ?_
        refine g_goto cx d0_221 ?_
        refine g_istore cx d0_225 (Ls' := #[.val (.int ia), .val (.int ib), .val (.int ic), .val (.int iw), .val (.int ir), .val (.int ig), .val (.long (((ia).toInt64) &&& (2147483647 : Int64))), .second, .val (.long (((ib).toInt64) &&& (2147483647 : Int64))), .second, .val (.int (0 : Int32)), .val (.int (1 : Int32)), .val (.long ((ir).toInt64)), .second, .val (.long (((ir).toInt64) + (((ig).toInt64) &&& (2147483647 : Int64)))), .second, .val (.ref b56), .val (.int (0 : Int32)), .val (.int (0 : Int32)), .val (.int (0 : Int32)), .val (.int (0 : Int32)), .val (.long (0 : Int64)), .second, .val (.long (((ia).toInt64) &&& (2147483647 : Int64))), .second, .val (.int (0 : Int32)), .val (.int (1 : Int32)), .unset, .unset, .unset]) rfl ?_
        refine g_iload cx d0_227 rfl ?_
        refine g_if_eq cx d0_229 (fun hc229 => ?_) (fun q => absurd q (fun q => by revert q; decide))
        refine g_iconst cx d0_253 (v := (0 : Int32)) rfl ?_
        refine g_istore cx d0_254 (Ls' := #[.val (.int ia), .val (.int ib), .val (.int ic), .val (.int iw), .val (.int ir), .val (.int ig), .val (.long (((ia).toInt64) &&& (2147483647 : Int64))), .second, .val (.long (((ib).toInt64) &&& (2147483647 : Int64))), .second, .val (.int (0 : Int32)), .val (.int (1 : Int32)), .val (.long ((ir).toInt64)), .second, .val (.long (((ir).toInt64) + (((ig).toInt64) &&& (2147483647 : Int64)))), .second, .val (.ref b56), .val (.int (0 : Int32)), .val (.int (0 : Int32)), .val (.int (0 : Int32)), .val (.int (0 : Int32)), .val (.long (0 : Int64)), .second, .val (.long (((ia).toInt64) &&& (2147483647 : Int64))), .second, .val (.int (0 : Int32)), .val (.int (1 : Int32)), .val (.int (0 : Int32)), .unset, .unset]) rfl ?_
        refine g_iload cx d0_256 rfl ?_
        refine g_if_eq cx d0_258 (fun hc258 => ?_) (fun q => absurd q (fun q => by revert q; decide))
        refine g_lconst cx d0_271 (v := (0 : Int64)) rfl ?_
        refine g_iload cx d0_272 rfl ?_
        refine g_if_eq cx d0_274 (fun q => absurd q (fun q => by revert q; decide)) (fun hc274 => ?_)
        refine g_lload cx d0_277 rfl ?_
        refine g_goto cx d0_279 ?_
        refine g_ladd cx d0_283 ?_
        rw [Int64.zero_add]
        refine g_lstore cx d0_284 (Ls' := #[.val (.int ia), .val (.int ib), .val (.int ic), .val (.int iw), .val (.int ir), .val (.int ig), .val (.long (((ia).toInt64) &&& (2147483647 : Int64))), .second, .val (.long (((ib).toInt64) &&& (2147483647 : Int64))), .second, .val (.int (0 : Int32)), .val (.int (1 : Int32)), .val (.long ((ir).toInt64)), .second, .val (.long (((ir).toInt64) + (((ig).toInt64) &&& (2147483647 : Int64)))), .second, .val (.ref b56), .val (.int (0 : Int32)), .val (.int (0 : Int32)), .val (.int (0 : Int32)), .val (.int (0 : Int32)), .val (.long (0 : Int64)), .second, .val (.long (((ia).toInt64) &&& (2147483647 : Int64))), .second, .val (.int (0 : Int32)), .val (.int (1 : Int32)), .val (.int (0 : Int32)), .val (.long (((ia).toInt64) &&& (2147483647 : Int64))), .second]) rfl ?_
        refine g_iload cx d0_286 rfl ?_
        refine g_if_ne cx d0_288 (fun q => absurd q (fun q => by revert q; decide)) (fun hc288 => ?_)
        refine g_iload cx d0_291 rfl ?_
        refine g_if_ne cx d0_293 (fun q => absurd q (fun q => by revert q; decide)) (fun hc293 => ?_)
        refine g_iload cx d0_296 rfl ?_
        refine g_lload cx d0_298 rfl ?_
        refine g_lconst cx d0_300 (v := (0 : Int64)) rfl ?_
        refine g_lif_le cx d0_301 d0_302 (fun hc302 => ?_) (fun q => absurd q (fun q => by revert q; decide))
        refine g_iconst cx d0_309 (v := (0 : Int32)) rfl ?_
        refine g_icmp_ne cx d0_310 (fun q => absurd q (fun q => by revert q; decide)) (fun hc310 => ?_)
        refine g_iload cx d0_313 rfl ?_
        refine g_lload cx d0_315 rfl ?_
        refine g_lconst cx d0_317 (v := (0 : Int64)) rfl ?_
        refine g_lif_le cx d0_318 d0_319 (fun hc319 => ?_) (fun q => absurd q (fun q => hq104 q))
        refine g_iconst cx d0_326 (v := (0 : Int32)) rfl ?_
        refine g_icmp_ne cx d0_327 (fun q => absurd q (fun q => by revert q; decide)) (fun hc327 => ?_)
        refine g_iconst cx d0_330 (v := (1 : Int32)) rfl ?_
        refine g_goto cx d0_331 ?_
        refine g_retZ cx d0_335 rfl rfl (by decide) (by decide) ?_
        rfl
      · refine G.cast (st' := [(.int (1 : Int32))]) ?_ rfl
        refine g_istore cx d0_133 (Ls' := #[.val (.int ia), .val (.int ib), .val (.int ic), .val (.int iw), .val (.int ir), .val (.int ig), .val (.long (((ia).toInt64) &&& (2147483647 : Int64))), .second, .val (.long (((ib).toInt64) &&& (2147483647 : Int64))), .second, .val (.int (0 : Int32)), .val (.int (1 : Int32)), .val (.long ((ir).toInt64)), .second, .val (.long (((ir).toInt64) + (((ig).toInt64) &&& (2147483647 : Int64)))), .second, .val (.ref b56), .val (.int (0 : Int32)), .val (.int (0 : Int32)), .val (.int (0 : Int32)), .val (.int (1 : Int32)), .unset, .unset, .unset, .unset, .unset, .unset, .unset, .unset, .unset]) rfl ?_
        refine g_iload cx d0_135 rfl ?_
        refine g_iconst cx d0_137 (v := (1 : Int32)) rfl ?_
        refine g_icmp_lt cx d0_138 (fun hc138 => ?_) (fun q => absurd q (fun q => by revert q; decide))
        refine g_lconst cx d0_146 (v := (0 : Int64)) rfl ?_
        refine g_iload cx d0_147 rfl ?_
        refine g_iconst cx d0_149 (v := (2 : Int32)) rfl ?_
        refine g_icmp_lt cx d0_150 (fun hc150 => ?_) (fun q => absurd q (fun q => by revert q; decide))
        refine g_lconst cx d0_158 (v := (0 : Int64)) rfl ?_
        refine g_ladd cx d0_159 ?_
        refine G.cast (st' := [(.long (0 : Int64))]) ?_ rfl
        refine g_lstore cx d0_160 (Ls' := #[.val (.int ia), .val (.int ib), .val (.int ic), .val (.int iw), .val (.int ir), .val (.int ig), .val (.long (((ia).toInt64) &&& (2147483647 : Int64))), .second, .val (.long (((ib).toInt64) &&& (2147483647 : Int64))), .second, .val (.int (0 : Int32)), .val (.int (1 : Int32)), .val (.long ((ir).toInt64)), .second, .val (.long (((ir).toInt64) + (((ig).toInt64) &&& (2147483647 : Int64)))), .second, .val (.ref b56), .val (.int (0 : Int32)), .val (.int (0 : Int32)), .val (.int (0 : Int32)), .val (.int (1 : Int32)), .val (.long (0 : Int64)), .second, .unset, .unset, .unset, .unset, .unset, .unset, .unset]) rfl ?_
        refine g_iload cx d0_162 rfl ?_
        refine g_iconst cx d0_164 (v := (1 : Int32)) rfl ?_
        refine g_icmp_ge cx d0_165 (fun q => absurd q (fun q => by revert q; decide)) (fun hc165 => ?_)
        refine g_iload cx d0_168 rfl ?_
        refine g_iconst cx d0_170 (v := (1 : Int32)) rfl ?_
        refine g_icmp_lt cx d0_171 (fun q => absurd q (fun q => by revert q; decide)) (fun hc171 => ?_)
        refine g_lload cx d0_174 rfl ?_
        refine g_goto cx d0_176 ?_
        refine g_iload cx d0_180 rfl ?_
        refine g_iconst cx d0_182 (v := (2 : Int32)) rfl ?_
        refine g_icmp_ge cx d0_183 (fun q => absurd q (fun q => by revert q; decide)) (fun hc183 => ?_)
        refine g_iload cx d0_186 rfl ?_
        refine g_iconst cx d0_188 (v := (2 : Int32)) rfl ?_
        refine g_icmp_lt cx d0_189 (fun hc189 => ?_) (fun q => absurd q (fun q => by revert q; decide))
        refine g_lconst cx d0_197 (v := (0 : Int64)) rfl ?_
        refine g_ladd cx d0_198 ?_
        rw [Int64.add_zero]
        refine g_lstore cx d0_199 (Ls' := #[.val (.int ia), .val (.int ib), .val (.int ic), .val (.int iw), .val (.int ir), .val (.int ig), .val (.long (((ia).toInt64) &&& (2147483647 : Int64))), .second, .val (.long (((ib).toInt64) &&& (2147483647 : Int64))), .second, .val (.int (0 : Int32)), .val (.int (1 : Int32)), .val (.long ((ir).toInt64)), .second, .val (.long (((ir).toInt64) + (((ig).toInt64) &&& (2147483647 : Int64)))), .second, .val (.ref b56), .val (.int (0 : Int32)), .val (.int (0 : Int32)), .val (.int (0 : Int32)), .val (.int (1 : Int32)), .val (.long (0 : Int64)), .second, .val (.long (((ia).toInt64) &&& (2147483647 : Int64))), .second, .unset, .unset, .unset, .unset, .unset]) rfl ?_
        refine g_iload cx d0_201 rfl ?_
        refine g_if_le cx d0_203 (fun hc203 => ?_) (fun q => absurd q (fun q => by revert q; decide))
        refine g_iconst cx d0_210 (v := (0 : Int32)) rfl ?_
        refine g_istore cx d0_211 (Ls' := #[.val (.int ia), .val (.int ib), .val (.int ic), .val (.int iw), .val (.int ir), .val (.int ig), .val (.long (((ia).toInt64) &&& (2147483647 : Int64))), .second, .val (.long (((ib).toInt64) &&& (2147483647 : Int64))), .second, .val (.int (0 : Int32)), .val (.int (1 : Int32)), .val (.long ((ir).toInt64)), .second, .val (.long (((ir).toInt64) + (((ig).toInt64) &&& (2147483647 : Int64)))), .second, .val (.ref b56), .val (.int (0 : Int32)), .val (.int (0 : Int32)), .val (.int (0 : Int32)), .val (.int (1 : Int32)), .val (.long (0 : Int64)), .second, .val (.long (((ia).toInt64) &&& (2147483647 : Int64))), .second, .val (.int (0 : Int32)), .unset, .unset, .unset, .unset]) rfl ?_
        refine g_iload cx d0_213 rfl ?_
        refine g_iload cx d0_215 rfl ?_
        refine g_icmp_le cx d0_217 (fun q => absurd q (fun q => by revert q; decide)) (fun hc217 => ?_)
        refine g_iconst cx d0_220 (v := (1 : Int32)) rfl ?_
        refine g_goto cx d0_221 ?_
        refine g_istore cx d0_225 (Ls' := #[.val (.int ia), .val (.int ib), .val (.int ic), .val (.int iw), .val (.int ir), .val (.int ig), .val (.long (((ia).toInt64) &&& (2147483647 : Int64))), .second, .val (.long (((ib).toInt64) &&& (2147483647 : Int64))), .second, .val (.int (0 : Int32)), .val (.int (1 : Int32)), .val (.long ((ir).toInt64)), .second, .val (.long (((ir).toInt64) + (((ig).toInt64) &&& (2147483647 : Int64)))), .second, .val (.ref b56), .val (.int (0 : Int32)), .val (.int (0 : Int32)), .val (.int (0 : Int32)), .val (.int (1 : Int32)), .val (.long (0 : Int64)), .second, .val (.long (((ia).toInt64) &&& (2147483647 : Int64))), .second, .val (.int (0 : Int32)), .val (.int (1 : Int32)), .unset, .unset, .unset]) rfl ?_
        refine g_iload cx d0_227 rfl ?_
        refine g_if_eq cx d0_229 (fun hc229 => ?_) (fun q => absurd q (fun q => by revert q; decide))
        refine g_iconst cx d0_253 (v := (0 : Int32)) rfl ?_
        refine g_istore cx d0_254 (Ls' := #[.val (.int ia), .val (.int ib), .val (.int ic), .val (.int iw), .val (.int ir), .val (.int ig), .val (.long (((ia).toInt64) &&& (2147483647 : Int64))), .second, .val (.long (((ib).toInt64) &&& (2147483647 : Int64))), .second, .val (.int (0 : Int32)), .val (.int (1 : Int32)), .val (.long ((ir).toInt64)), .second, .val (.long (((ir).toInt64) + (((ig).toInt64) &&& (2147483647 : Int64)))), .second, .val (.ref b56), .val (.int (0 : Int32)), .val (.int (0 : Int32)), .val (.int (0 : Int32)), .val (.int (1 : Int32)), .val (.long (0 : Int64)), .second, .val (.long (((ia).toInt64) &&& (2147483647 : Int64))), .second, .val (.int (0 : Int32)), .val (.int (1 : Int32)), .val (.int (0 : Int32)), .unset, .unset]) rfl ?_
        refine g_iload cx d0_256 rfl ?_
        refine g_if_eq cx d0_258 (fun hc258 => ?_) (fun q => absurd q (fun q => by revert q; decide))
        refine g_lconst cx d0_271 (v := (0 : Int64)) rfl ?_
        refine g_iload cx d0_272 rfl ?_
        refine g_if_eq cx d0_274 (fun q => absurd q (fun q => by revert q; decide)) (fun hc274 => ?_)
        refine g_lload cx d0_277 rfl ?_
        refine g_goto cx d0_279 ?_
        refine g_ladd cx d0_283 ?_
        rw [Int64.zero_add]
        refine g_lstore cx d0_284 (Ls' := #[.val (.int ia), .val (.int ib), .val (.int ic), .val (.int iw), .val (.int ir), .val (.int ig), .val (.long (((ia).toInt64) &&& (2147483647 : Int64))), .second, .val (.long (((ib).toInt64) &&& (2147483647 : Int64))), .second, .val (.int (0 : Int32)), .val (.int (1 : Int32)), .val (.long ((ir).toInt64)), .second, .val (.long (((ir).toInt64) + (((ig).toInt64) &&& (2147483647 : Int64)))), .second, .val (.ref b56), .val (.int (0 : Int32)), .val (.int (0 : Int32)), .val (.int (0 : Int32)), .val (.int (1 : Int32)), .val (.long (0 : Int64)), .second, .val (.long (((ia).toInt64) &&& (2147483647 : Int64))), .second, .val (.int (0 : Int32)), .val (.int (1 : Int32)), .val (.int (0 : Int32)), .val (.long (((ia).toInt64) &&& (2147483647 : Int64))), .second]) rfl ?_
        refine g_iload cx d0_286 rfl ?_
        refine g_if_ne cx d0_288 (fun q => absurd q (fun q => by revert q; decide)) (fun hc288 => ?_)
        refine g_iload cx d0_291 rfl ?_
        refine g_if_ne cx d0_293 (fun q => absurd q (fun q => by revert q; decide)) (fun hc293 => ?_)
        refine g_iload cx d0_296 rfl ?_
        refine g_lload cx d0_298 rfl ?_
        refine g_lconst cx d0_300 (v := (0 : Int64)) rfl ?_
        refine g_lif_le cx d0_301 d0_302 (fun hc302 => ?_) (fun q => absurd q (fun q => by revert q; decide))
        refine g_iconst cx d0_309 (v := (0 : Int32)) rfl ?_
        refine g_icmp_ne cx d0_310 (fun q => absurd q (fun q => by revert q; decide)) (fun hc310 => ?_)
        refine g_iload cx d0_313 rfl ?_
        refine g_lload cx d0_315 rfl ?_
        refine g_lconst cx d0_317 (v := (0 : Int64)) rfl ?_
        refine g_lif_le cx d0_318 d0_319 (fun q => absurd q (fun q => q hq106)) (fun hc319 => ?_)
        refine g_iconst cx d0_322 (v := (1 : Int32)) rfl ?_
        refine g_goto cx d0_323 ?_
        refine g_icmp_ne cx d0_327 (fun q => absurd q (fun q => by revert q; decide)) (fun hc327 => ?_)
        refine g_iconst cx d0_330 (v := (1 : Int32)) rfl ?_
        refine g_goto cx d0_331 ?_
        refine g_retZ cx d0_335 rfl rfl (by decide) (by decide) ?_
        rfl
    · rw [hs2]
      refine g_iadd cx d0_40 ?_
      refine G.cast (st' := [(.int (2 : Int32))]) ?_ rfl
      refine g_istore cx d0_41 (Ls' := #[.val (.int ia), .val (.int ib), .val (.int ic), .val (.int iw), .val (.int ir), .val (.int ig), .val (.long (((ia).toInt64) &&& (2147483647 : Int64))), .second, .val (.long (((ib).toInt64) &&& (2147483647 : Int64))), .second, .val (.int (0 : Int32)), .val (.int (2 : Int32)), .unset, .unset, .unset, .unset, .unset, .unset, .unset, .unset, .unset, .unset, .unset, .unset, .unset, .unset, .unset, .unset, .unset, .unset]) rfl ?_
      refine g_iload cx d0_43 rfl ?_
      refine g_i2l cx d0_45 ?_
      refine g_lstore cx d0_46 (Ls' := #[.val (.int ia), .val (.int ib), .val (.int ic), .val (.int iw), .val (.int ir), .val (.int ig), .val (.long (((ia).toInt64) &&& (2147483647 : Int64))), .second, .val (.long (((ib).toInt64) &&& (2147483647 : Int64))), .second, .val (.int (0 : Int32)), .val (.int (2 : Int32)), .val (.long ((ir).toInt64)), .second, .unset, .unset, .unset, .unset, .unset, .unset, .unset, .unset, .unset, .unset, .unset, .unset, .unset, .unset, .unset, .unset]) rfl ?_
      refine g_lload cx d0_48 rfl ?_
      refine g_iload cx d0_50 rfl ?_
      refine g_i2l cx d0_52 ?_
      refine g_ldcJ cx d0_53 (hw _ (List.mem_of_getElem? (i := 0) rfl)) ?_
      refine g_land cx d0_56 ?_
      refine g_ladd cx d0_57 ?_
      refine g_lstore cx d0_58 (Ls' := #[.val (.int ia), .val (.int ib), .val (.int ic), .val (.int iw), .val (.int ir), .val (.int ig), .val (.long (((ia).toInt64) &&& (2147483647 : Int64))), .second, .val (.long (((ib).toInt64) &&& (2147483647 : Int64))), .second, .val (.int (0 : Int32)), .val (.int (2 : Int32)), .val (.long ((ir).toInt64)), .second, .val (.long (((ir).toInt64) + (((ig).toInt64) &&& (2147483647 : Int64)))), .second, .unset, .unset, .unset, .unset, .unset, .unset, .unset, .unset, .unset, .unset, .unset, .unset, .unset, .unset]) rfl ?_
      refine g_new cx d0_60 (hw _ (List.mem_of_getElem? (i := 1) rfl)) (hw _ (List.mem_of_getElem? (i := 2) rfl)) (hw _ (List.mem_of_getElem? (i := 3) rfl)) (k' := 1) (n' := 8) rfl rfl (by decide) (by decide) (fun h111 b112 gb113 E114 X115 D116 => ?_)
      have g_b112 : Z.heap.size ≤ b112 := by rw [gb113]; exact OL.2.1
      have OL := OL.ext E114
      have O_b112 := ObP.new hw X115 D116
      refine g_dup cx d0_63 rfl ?_
      have lt_b112 := O_b112.lt
      refine g_special cx (y := (⟨"com/example/thalweg/thalweg/node/Pace", "<init>", "()V"⟩ : MethodName)) (a := b112) d0_64 rfl rfl (hw _ (List.mem_of_getElem? (i := 4) rfl)) (hw _ (List.mem_of_getElem? (i := 5) rfl)) (hw _ (List.mem_of_getElem? (i := 3) rfl)) (hw _ (List.mem_of_getElem? (i := 6) rfl)) (by decide) (bytes := prog_54_method_1_code) (maxL' := 1) (M := (ra1 l Z a0 hw  b112 _ O_b112 g_b112 OL)) rfl (lenOf pd_0 rfl) (by decide) (W := 1) (Nat.le_of_eq rfl) (by decide) (k' := 5) (n' := 48) rfl rfl (by decide) (by decide) (argsL := []) (rest := [(.ref b112)]) rfl (fun v125 h124 q126 => ?_)
      obtain ⟨b117, b118, b119, b120, cA121, cA122, rfl, K123, sq_b117, sq_b118, sq_b119, sq_b120, ne_b117_b118, ne_b117_b119, ne_b118_b119, ne_b117_b120, ne_b118_b120, ne_b119_b120, O_b117, A_b118, O_b119, A_b120, OV_b118, OV_b120, O_b112⟩ := q126
      have ne_b112_b117 : b112 ≠ b117 := Nat.ne_of_lt (Nat.lt_of_lt_of_le lt_b112 sq_b117)
      have g_b117 : Z.heap.size ≤ b117 := Nat.le_trans OL.2.1 sq_b117
      have ne_b112_b118 : b112 ≠ b118 := Nat.ne_of_lt (Nat.lt_of_lt_of_le lt_b112 sq_b118)
      have g_b118 : Z.heap.size ≤ b118 := Nat.le_trans OL.2.1 sq_b118
      have ne_b112_b119 : b112 ≠ b119 := Nat.ne_of_lt (Nat.lt_of_lt_of_le lt_b112 sq_b119)
      have g_b119 : Z.heap.size ≤ b119 := Nat.le_trans OL.2.1 sq_b119
      have ne_b112_b120 : b112 ≠ b120 := Nat.ne_of_lt (Nat.lt_of_lt_of_le lt_b112 sq_b120)
      have g_b120 : Z.heap.size ≤ b120 := Nat.le_trans OL.2.1 sq_b120
      have OL := OL.keep K123 (allS g_b112 all0)
      refine G.cast (st' := [(.ref b112)]) ?_ rfl
      refine g_astore cx d0_67 rfl (Ls' := #[.val (.int ia), .val (.int ib), .val (.int ic), .val (.int iw), .val (.int ir), .val (.int ig), .val (.long (((ia).toInt64) &&& (2147483647 : Int64))), .second, .val (.long (((ib).toInt64) &&& (2147483647 : Int64))), .second, .val (.int (0 : Int32)), .val (.int (2 : Int32)), .val (.long ((ir).toInt64)), .second, .val (.long (((ir).toInt64) + (((ig).toInt64) &&& (2147483647 : Int64)))), .second, .val (.ref b112), .unset, .unset, .unset, .unset, .unset, .unset, .unset, .unset, .unset, .unset, .unset, .unset, .unset]) rfl ?_
      refine g_aload cx d0_69 rfl rfl ?_
      refine g_virtual cx (y := (⟨"com/example/thalweg/thalweg/node/Pace", "known", "()Z"⟩ : MethodName)) (z := (⟨"com/example/thalweg/thalweg/node/Pace", "known", "()Z"⟩ : MethodName)) (a := b112) d0_71 (hw _ (List.mem_of_getElem? (i := 31) rfl)) (hw _ (List.mem_of_getElem? (i := 32) rfl)) (hw _ (List.mem_of_getElem? (i := 3) rfl)) (hw _ (List.mem_of_getElem? (i := 35) rfl)) (hw _ (List.mem_of_getElem? (i := 34) rfl)) (hw _ (List.mem_of_getElem? (i := 33) rfl)) rfl (by decide) O_b112.1 (bytes := prog_54_method_5_code) (maxL' := 1) (M := (ra3 l Z a0 hw  b112 b117 b118 b119 b120 cA121 cA122 _ O_b112 O_b117 O_b119 A_b118 A_b120 OV_b118 OV_b120 ne_b112_b117 ne_b112_b118 ne_b117_b118 ne_b112_b119 ne_b117_b119 ne_b118_b119 ne_b112_b120 ne_b117_b120 ne_b118_b120 ne_b119_b120 g_b112 g_b117 g_b118 g_b119 g_b120 OL)) rfl (lenOf pd_1 rfl) (by decide) (W := 0) (Nat.le_of_eq rfl) (by decide) (k' := 5) (n' := 48) rfl rfl (by decide) (by decide) (argsL := []) (rest := []) rfl (fun v129 h128 q130 => ?_)
      obtain ⟨rfl, rfl⟩ := q130
      refine G.cast (st' := [(.int (0 : Int32))]) ?_ rfl
      refine g_istore cx d0_74 (Ls' := #[.val (.int ia), .val (.int ib), .val (.int ic), .val (.int iw), .val (.int ir), .val (.int ig), .val (.long (((ia).toInt64) &&& (2147483647 : Int64))), .second, .val (.long (((ib).toInt64) &&& (2147483647 : Int64))), .second, .val (.int (0 : Int32)), .val (.int (2 : Int32)), .val (.long ((ir).toInt64)), .second, .val (.long (((ir).toInt64) + (((ig).toInt64) &&& (2147483647 : Int64)))), .second, .val (.ref b112), .val (.int (0 : Int32)), .unset, .unset, .unset, .unset, .unset, .unset, .unset, .unset, .unset, .unset, .unset, .unset]) rfl ?_
      refine g_aload cx d0_76 rfl rfl ?_
      refine g_lload cx d0_78 rfl ?_
      refine g_iloadN cx d0_80 rfl ?_
      refine g_i2l cx d0_81 ?_
      have lt_b112 := O_b112.lt
      have lt_b117 := O_b117.lt
      have lt_b118 := A_b118.lt
      refine g_virtual cx (y := (⟨"com/example/thalweg/thalweg/node/Pace", "written", "(JJ)V"⟩ : MethodName)) (z := (⟨"com/example/thalweg/thalweg/node/Pace", "written", "(JJ)V"⟩ : MethodName)) (a := b112) d0_82 (hw _ (List.mem_of_getElem? (i := 38) rfl)) (hw _ (List.mem_of_getElem? (i := 39) rfl)) (hw _ (List.mem_of_getElem? (i := 3) rfl)) (hw _ (List.mem_of_getElem? (i := 42) rfl)) (hw _ (List.mem_of_getElem? (i := 41) rfl)) (hw _ (List.mem_of_getElem? (i := 40) rfl)) rfl (by decide) O_b112.1 (bytes := prog_54_method_2_code) (maxL' := 5) (M := (ra4 l Z a0 hw  b112 b117 b118 b119 b120 (((ia).toInt64) &&& (2147483647 : Int64)) ((iw).toInt64) cA121 cA122 _ O_b112 O_b117 O_b119 A_b118 A_b120 OV_b118 OV_b120 ne_b112_b117 ne_b112_b118 ne_b117_b118 ne_b112_b119 ne_b117_b119 ne_b118_b119 ne_b112_b120 ne_b117_b120 ne_b118_b120 ne_b119_b120 g_b112 g_b117 g_b118 g_b119 g_b120 OL)) rfl (lenOf pd_4 rfl) (by decide) (W := 0) (Nat.le_of_eq rfl) (by decide) (k' := 6) (n' := 50) rfl rfl (by decide) (by decide) (argsL := [(.long (((ia).toInt64) &&& (2147483647 : Int64))), (.long ((iw).toInt64))]) (rest := []) rfl (fun v135 h134 q136 => ?_)
      obtain ⟨b131, cA132, rfl, K133, sq_b131, A_b131, O_b112, O_b117, A_b118⟩ := q136
      have ne_b112_b131 : b112 ≠ b131 := Nat.ne_of_lt (Nat.lt_of_lt_of_le lt_b112 sq_b131)
      have ne_b117_b131 : b117 ≠ b131 := Nat.ne_of_lt (Nat.lt_of_lt_of_le lt_b117 sq_b131)
      have ne_b119_b131 : b119 ≠ b131 := Nat.ne_of_lt (Nat.lt_of_lt_of_le O_b119.lt sq_b131)
      have ne_b118_b131 : b118 ≠ b131 := Nat.ne_of_lt (Nat.lt_of_lt_of_le lt_b118 sq_b131)
      have ne_b120_b131 : b120 ≠ b131 := Nat.ne_of_lt (Nat.lt_of_lt_of_le A_b120.lt sq_b131)
      have g_b131 : Z.heap.size ≤ b131 := Nat.le_trans OL.2.1 sq_b131
      have O_b119 := O_b119.keep K133 (ninS (Ne.symm ne_b112_b119) (ninS (Ne.symm ne_b117_b119) (ninS (Ne.symm ne_b118_b119) nin0)))
      have A_b120 := A_b120.keep K133 (ninS (Ne.symm ne_b112_b120) (ninS (Ne.symm ne_b117_b120) (ninS (Ne.symm ne_b118_b120) nin0)))
      have OL := OL.keep K133 (allS g_b112 (allS g_b117 (allS g_b118 all0)))
      refine G.cast (st' := []) ?_ rfl
      refine g_aload cx d0_85 rfl rfl ?_
      refine g_lload cx d0_87 rfl ?_
      refine g_iloadN cx d0_89 rfl ?_
      refine g_i2l cx d0_90 ?_
      have lt_b112 := O_b112.lt
      have lt_b117 := O_b117.lt
      have lt_b118 := A_b118.lt
      refine g_virtual cx (y := (⟨"com/example/thalweg/thalweg/node/Pace", "written", "(JJ)V"⟩ : MethodName)) (z := (⟨"com/example/thalweg/thalweg/node/Pace", "written", "(JJ)V"⟩ : MethodName)) (a := b112) d0_91 (hw _ (List.mem_of_getElem? (i := 38) rfl)) (hw _ (List.mem_of_getElem? (i := 39) rfl)) (hw _ (List.mem_of_getElem? (i := 3) rfl)) (hw _ (List.mem_of_getElem? (i := 42) rfl)) (hw _ (List.mem_of_getElem? (i := 41) rfl)) (hw _ (List.mem_of_getElem? (i := 40) rfl)) rfl (by decide) O_b112.1 (bytes := prog_54_method_2_code) (maxL' := 5) (M := (ra8 l Z a0 hw  b112 b117 b118 b131 b119 b120 (((ia).toInt64) &&& (2147483647 : Int64)) ((iw).toInt64) (((ib).toInt64) &&& (2147483647 : Int64)) cA121 cA132 cA122 _ O_b112 O_b117 O_b119 A_b118 A_b131 A_b120 OV_b118 OV_b120 ne_b112_b117 ne_b112_b118 ne_b117_b118 ne_b112_b131 ne_b117_b131 ne_b118_b131 ne_b112_b119 ne_b117_b119 ne_b118_b119 (Ne.symm ne_b119_b131) ne_b112_b120 ne_b117_b120 ne_b118_b120 (Ne.symm ne_b120_b131) ne_b119_b120 g_b112 g_b117 g_b118 g_b131 g_b119 g_b120 OL)) rfl (lenOf pd_4 rfl) (by decide) (W := 0) (Nat.le_of_eq rfl) (by decide) (k' := 7) (n' := 52) rfl rfl (by decide) (by decide) (argsL := [(.long (((ib).toInt64) &&& (2147483647 : Int64))), (.long ((iw).toInt64))]) (rest := []) rfl (fun v141 h140 q142 => ?_)
      obtain ⟨b137, cA138, rfl, K139, sq_b137, A_b137, O_b112, O_b117, A_b118⟩ := q142
      have ne_b112_b137 : b112 ≠ b137 := Nat.ne_of_lt (Nat.lt_of_lt_of_le lt_b112 sq_b137)
      have ne_b117_b137 : b117 ≠ b137 := Nat.ne_of_lt (Nat.lt_of_lt_of_le lt_b117 sq_b137)
      have ne_b119_b137 : b119 ≠ b137 := Nat.ne_of_lt (Nat.lt_of_lt_of_le O_b119.lt sq_b137)
      have ne_b118_b137 : b118 ≠ b137 := Nat.ne_of_lt (Nat.lt_of_lt_of_le lt_b118 sq_b137)
      have ne_b120_b137 : b120 ≠ b137 := Nat.ne_of_lt (Nat.lt_of_lt_of_le A_b120.lt sq_b137)
      have ne_b131_b137 : b131 ≠ b137 := Nat.ne_of_lt (Nat.lt_of_lt_of_le A_b131.lt sq_b137)
      have g_b137 : Z.heap.size ≤ b137 := Nat.le_trans OL.2.1 sq_b137
      have O_b119 := O_b119.keep K139 (ninS (Ne.symm ne_b112_b119) (ninS (Ne.symm ne_b117_b119) (ninS (Ne.symm ne_b118_b119) nin0)))
      have A_b120 := A_b120.keep K139 (ninS (Ne.symm ne_b112_b120) (ninS (Ne.symm ne_b117_b120) (ninS (Ne.symm ne_b118_b120) nin0)))
      have A_b131 := A_b131.keep K139 (ninS (Ne.symm ne_b112_b131) (ninS (Ne.symm ne_b117_b131) (ninS (Ne.symm ne_b118_b131) nin0)))
      have OL := OL.keep K139 (allS g_b112 (allS g_b117 (allS g_b118 all0)))
      refine G.cast (st' := []) ?_ rfl
      refine g_aload cx d0_94 rfl rfl ?_
      refine g_virtual cx (y := (⟨"com/example/thalweg/thalweg/node/Pace", "known", "()Z"⟩ : MethodName)) (z := (⟨"com/example/thalweg/thalweg/node/Pace", "known", "()Z"⟩ : MethodName)) (a := b112) d0_96 (hw _ (List.mem_of_getElem? (i := 31) rfl)) (hw _ (List.mem_of_getElem? (i := 32) rfl)) (hw _ (List.mem_of_getElem? (i := 3) rfl)) (hw _ (List.mem_of_getElem? (i := 35) rfl)) (hw _ (List.mem_of_getElem? (i := 34) rfl)) (hw _ (List.mem_of_getElem? (i := 33) rfl)) rfl (by decide) O_b112.1 (bytes := prog_54_method_5_code) (maxL' := 1) (M := (ra12 l Z a0 hw  b112 b117 b118 b131 b137 b119 b120 (((ia).toInt64) &&& (2147483647 : Int64)) ((iw).toInt64) (((ib).toInt64) &&& (2147483647 : Int64)) ((((ia).toInt64) &&& (2147483647 : Int64)) + (((ib).toInt64) &&& (2147483647 : Int64))) cA121 cA132 cA138 cA122 _ O_b112 O_b117 O_b119 A_b118 A_b131 A_b137 A_b120 OV_b118 OV_b120 ne_b112_b117 ne_b112_b118 ne_b117_b118 ne_b112_b131 ne_b117_b131 ne_b118_b131 ne_b112_b137 ne_b117_b137 ne_b118_b137 ne_b131_b137 ne_b112_b119 ne_b117_b119 ne_b118_b119 (Ne.symm ne_b119_b131) (Ne.symm ne_b119_b137) ne_b112_b120 ne_b117_b120 ne_b118_b120 (Ne.symm ne_b120_b131) (Ne.symm ne_b120_b137) ne_b119_b120 g_b112 g_b117 g_b118 g_b131 g_b137 g_b119 g_b120 OL)) rfl (lenOf pd_1 rfl) (by decide) (W := 0) (Nat.le_of_eq rfl) (by decide) (k' := 7) (n' := 52) rfl rfl (by decide) (by decide) (argsL := []) (rest := []) rfl (fun v145 h144 q146 => ?_)
      obtain ⟨rfl, rfl⟩ := q146
      refine G.cast (st' := [(.int (0 : Int32))]) ?_ rfl
      refine g_istore cx d0_99 (Ls' := #[.val (.int ia), .val (.int ib), .val (.int ic), .val (.int iw), .val (.int ir), .val (.int ig), .val (.long (((ia).toInt64) &&& (2147483647 : Int64))), .second, .val (.long (((ib).toInt64) &&& (2147483647 : Int64))), .second, .val (.int (0 : Int32)), .val (.int (2 : Int32)), .val (.long ((ir).toInt64)), .second, .val (.long (((ir).toInt64) + (((ig).toInt64) &&& (2147483647 : Int64)))), .second, .val (.ref b112), .val (.int (0 : Int32)), .val (.int (0 : Int32)), .unset, .unset, .unset, .unset, .unset, .unset, .unset, .unset, .unset, .unset, .unset]) rfl ?_
      refine g_aload cx d0_101 rfl rfl ?_
      refine g_iload cx d0_103 rfl ?_
      refine g_i2l cx d0_105 ?_
      refine G.cast (st' := [(.long (0 : Int64)), (.ref b112)]) ?_ rfl
      refine g_lload cx d0_106 rfl ?_
      refine g_virtual cx (y := (⟨"com/example/thalweg/thalweg/node/Pace", "taken", "(JJ)V"⟩ : MethodName)) (z := (⟨"com/example/thalweg/thalweg/node/Pace", "taken", "(JJ)V"⟩ : MethodName)) (a := b112) d0_108 (hw _ (List.mem_of_getElem? (i := 68) rfl)) (hw _ (List.mem_of_getElem? (i := 69) rfl)) (hw _ (List.mem_of_getElem? (i := 3) rfl)) (hw _ (List.mem_of_getElem? (i := 72) rfl)) (hw _ (List.mem_of_getElem? (i := 71) rfl)) (hw _ (List.mem_of_getElem? (i := 70) rfl)) rfl (by decide) O_b112.1 (bytes := prog_54_method_3_code) (maxL' := 10) (M := (ra13 l Z a0 hw  b112 b117 b118 b131 b137 b119 b120 (((ia).toInt64) &&& (2147483647 : Int64)) ((iw).toInt64) (((ib).toInt64) &&& (2147483647 : Int64)) ((((ia).toInt64) &&& (2147483647 : Int64)) + (((ib).toInt64) &&& (2147483647 : Int64))) ((ir).toInt64) cA121 cA132 cA138 cA122 _ O_b112 O_b117 O_b119 A_b118 A_b131 A_b137 A_b120 OV_b118 OV_b120 ne_b112_b117 ne_b112_b118 ne_b117_b118 ne_b112_b131 ne_b117_b131 ne_b118_b131 ne_b112_b137 ne_b117_b137 ne_b118_b137 ne_b131_b137 ne_b112_b119 ne_b117_b119 ne_b118_b119 (Ne.symm ne_b119_b131) (Ne.symm ne_b119_b137) ne_b112_b120 ne_b117_b120 ne_b118_b120 (Ne.symm ne_b120_b131) (Ne.symm ne_b120_b137) ne_b119_b120 g_b112 g_b117 g_b118 g_b131 g_b137 g_b119 g_b120 OL)) rfl (lenOf pd_4 rfl) (by decide) (W := 0) (Nat.le_of_eq rfl) (by decide) (k' := 7) (n' := 52) rfl rfl (by decide) (by decide) (argsL := [(.long (0 : Int64)), (.long ((ir).toInt64))]) (rest := []) rfl (fun v149 h148 q150 => ?_)
      obtain ⟨rfl, rfl⟩ := q150
      refine G.cast (st' := []) ?_ rfl
      refine g_aload cx d0_111 rfl rfl ?_
      refine g_virtual cx (y := (⟨"com/example/thalweg/thalweg/node/Pace", "known", "()Z"⟩ : MethodName)) (z := (⟨"com/example/thalweg/thalweg/node/Pace", "known", "()Z"⟩ : MethodName)) (a := b112) d0_113 (hw _ (List.mem_of_getElem? (i := 31) rfl)) (hw _ (List.mem_of_getElem? (i := 32) rfl)) (hw _ (List.mem_of_getElem? (i := 3) rfl)) (hw _ (List.mem_of_getElem? (i := 35) rfl)) (hw _ (List.mem_of_getElem? (i := 34) rfl)) (hw _ (List.mem_of_getElem? (i := 33) rfl)) rfl (by decide) O_b112.1 (bytes := prog_54_method_5_code) (maxL' := 1) (M := (ra12 l Z a0 hw  b112 b117 b118 b131 b137 b119 b120 (((ia).toInt64) &&& (2147483647 : Int64)) ((iw).toInt64) (((ib).toInt64) &&& (2147483647 : Int64)) ((((ia).toInt64) &&& (2147483647 : Int64)) + (((ib).toInt64) &&& (2147483647 : Int64))) cA121 cA132 cA138 cA122 _ O_b112 O_b117 O_b119 A_b118 A_b131 A_b137 A_b120 OV_b118 OV_b120 ne_b112_b117 ne_b112_b118 ne_b117_b118 ne_b112_b131 ne_b117_b131 ne_b118_b131 ne_b112_b137 ne_b117_b137 ne_b118_b137 ne_b131_b137 ne_b112_b119 ne_b117_b119 ne_b118_b119 (Ne.symm ne_b119_b131) (Ne.symm ne_b119_b137) ne_b112_b120 ne_b117_b120 ne_b118_b120 (Ne.symm ne_b120_b131) (Ne.symm ne_b120_b137) ne_b119_b120 g_b112 g_b117 g_b118 g_b131 g_b137 g_b119 g_b120 OL)) rfl (lenOf pd_1 rfl) (by decide) (W := 0) (Nat.le_of_eq rfl) (by decide) (k' := 7) (n' := 52) rfl rfl (by decide) (by decide) (argsL := []) (rest := []) rfl (fun v153 h152 q154 => ?_)
      obtain ⟨rfl, rfl⟩ := q154
      refine G.cast (st' := [(.int (0 : Int32))]) ?_ rfl
      refine g_istore cx d0_116 (Ls' := #[.val (.int ia), .val (.int ib), .val (.int ic), .val (.int iw), .val (.int ir), .val (.int ig), .val (.long (((ia).toInt64) &&& (2147483647 : Int64))), .second, .val (.long (((ib).toInt64) &&& (2147483647 : Int64))), .second, .val (.int (0 : Int32)), .val (.int (2 : Int32)), .val (.long ((ir).toInt64)), .second, .val (.long (((ir).toInt64) + (((ig).toInt64) &&& (2147483647 : Int64)))), .second, .val (.ref b112), .val (.int (0 : Int32)), .val (.int (0 : Int32)), .val (.int (0 : Int32)), .unset, .unset, .unset, .unset, .unset, .unset, .unset, .unset, .unset, .unset]) rfl ?_
      refine g_aload cx d0_118 rfl rfl ?_
      refine g_iload cx d0_120 rfl ?_
      refine g_i2l cx d0_122 ?_
      refine G.cast (st' := [(.long (2 : Int64)), (.ref b112)]) ?_ rfl
      refine g_lload cx d0_123 rfl ?_
      have lt_b112 := O_b112.lt
      have lt_b117 := O_b117.lt
      have lt_b118 := A_b118.lt
      have lt_b119 := O_b119.lt
      have lt_b120 := A_b120.lt
      refine g_virtual cx (y := (⟨"com/example/thalweg/thalweg/node/Pace", "taken", "(JJ)V"⟩ : MethodName)) (z := (⟨"com/example/thalweg/thalweg/node/Pace", "taken", "(JJ)V"⟩ : MethodName)) (a := b112) d0_125 (hw _ (List.mem_of_getElem? (i := 68) rfl)) (hw _ (List.mem_of_getElem? (i := 69) rfl)) (hw _ (List.mem_of_getElem? (i := 3) rfl)) (hw _ (List.mem_of_getElem? (i := 72) rfl)) (hw _ (List.mem_of_getElem? (i := 71) rfl)) (hw _ (List.mem_of_getElem? (i := 70) rfl)) rfl (by decide) O_b112.1 (bytes := prog_54_method_3_code) (maxL' := 10) (M := (ra26 l Z a0 hw  b112 b117 b118 b131 b137 b119 b120 (((ia).toInt64) &&& (2147483647 : Int64)) ((iw).toInt64) (((ib).toInt64) &&& (2147483647 : Int64)) ((((ia).toInt64) &&& (2147483647 : Int64)) + (((ib).toInt64) &&& (2147483647 : Int64))) (((ir).toInt64) + (((ig).toInt64) &&& (2147483647 : Int64))) cA121 cA132 cA138 cA122 _ O_b112 O_b117 O_b119 A_b118 A_b131 A_b137 A_b120 OV_b118 OV_b120 ne_b112_b117 ne_b112_b118 ne_b117_b118 ne_b112_b131 ne_b117_b131 ne_b118_b131 ne_b112_b137 ne_b117_b137 ne_b118_b137 ne_b131_b137 ne_b112_b119 ne_b117_b119 ne_b118_b119 (Ne.symm ne_b119_b131) (Ne.symm ne_b119_b137) ne_b112_b120 ne_b117_b120 ne_b118_b120 (Ne.symm ne_b120_b131) (Ne.symm ne_b120_b137) ne_b119_b120 g_b112 g_b117 g_b118 g_b131 g_b137 g_b119 g_b120 OL)) rfl (lenOf pd_4 rfl) (by decide) (W := 0) (Nat.le_of_eq rfl) (by decide) (k' := 8) (n' := 56) rfl rfl (by decide) (by decide) (argsL := [(.long (2 : Int64)), (.long (((ir).toInt64) + (((ig).toInt64) &&& (2147483647 : Int64))))]) (rest := []) rfl (fun v158 h157 q159 => ?_)
      obtain ⟨b155, rfl, K156, sq_b155, O_b155, O_b112, O_b117, A_b118, O_b119, A_b120⟩ := q159
      have ne_b112_b155 : b112 ≠ b155 := Nat.ne_of_lt (Nat.lt_of_lt_of_le lt_b112 sq_b155)
      have ne_b117_b155 : b117 ≠ b155 := Nat.ne_of_lt (Nat.lt_of_lt_of_le lt_b117 sq_b155)
      have ne_b119_b155 : b119 ≠ b155 := Nat.ne_of_lt (Nat.lt_of_lt_of_le lt_b119 sq_b155)
      have ne_b118_b155 : b118 ≠ b155 := Nat.ne_of_lt (Nat.lt_of_lt_of_le lt_b118 sq_b155)
      have ne_b120_b155 : b120 ≠ b155 := Nat.ne_of_lt (Nat.lt_of_lt_of_le lt_b120 sq_b155)
      have ne_b131_b155 : b131 ≠ b155 := Nat.ne_of_lt (Nat.lt_of_lt_of_le A_b131.lt sq_b155)
      have ne_b137_b155 : b137 ≠ b155 := Nat.ne_of_lt (Nat.lt_of_lt_of_le A_b137.lt sq_b155)
      have g_b155 : Z.heap.size ≤ b155 := Nat.le_trans OL.2.1 sq_b155
      have A_b131 := A_b131.keep K156 (ninS (Ne.symm ne_b112_b131) (ninS (Ne.symm ne_b117_b131) (ninS (Ne.symm ne_b118_b131) (ninS (Ne.symm ne_b119_b131) (ninS (Ne.symm ne_b120_b131) nin0)))))
      have A_b137 := A_b137.keep K156 (ninS (Ne.symm ne_b112_b137) (ninS (Ne.symm ne_b117_b137) (ninS (Ne.symm ne_b118_b137) (ninS (Ne.symm ne_b119_b137) (ninS (Ne.symm ne_b120_b137) nin0)))))
      have OL := OL.keep K156 (allS g_b112 (allS g_b117 (allS g_b118 (allS g_b119 (allS g_b120 all0)))))
      refine G.cast (st' := []) ?_ rfl
      refine g_aload cx d0_128 rfl rfl ?_
      refine g_virtual cx (y := (⟨"com/example/thalweg/thalweg/node/Pace", "known", "()Z"⟩ : MethodName)) (z := (⟨"com/example/thalweg/thalweg/node/Pace", "known", "()Z"⟩ : MethodName)) (a := b112) d0_130 (hw _ (List.mem_of_getElem? (i := 31) rfl)) (hw _ (List.mem_of_getElem? (i := 32) rfl)) (hw _ (List.mem_of_getElem? (i := 3) rfl)) (hw _ (List.mem_of_getElem? (i := 35) rfl)) (hw _ (List.mem_of_getElem? (i := 34) rfl)) (hw _ (List.mem_of_getElem? (i := 33) rfl)) rfl (by decide) O_b112.1 (bytes := prog_54_method_5_code) (maxL' := 1) (M := (ra31 l Z a0 hw  b112 b117 b118 b119 b120 b155 (((ir).toInt64) + (((ig).toInt64) &&& (2147483647 : Int64))) ((((ia).toInt64) &&& (2147483647 : Int64)) + (((ib).toInt64) &&& (2147483647 : Int64))) (own_max (1 : Int64) ((((ir).toInt64) + (((ig).toInt64) &&& (2147483647 : Int64))) - ((iw).toInt64))) ((((ir).toInt64) + (((ig).toInt64) &&& (2147483647 : Int64))) - ((iw).toInt64)) (((((ia).toInt64) &&& (2147483647 : Int64)) + (((ib).toInt64) &&& (2147483647 : Int64))) - ((((ia).toInt64) &&& (2147483647 : Int64)) + (((ib).toInt64) &&& (2147483647 : Int64)))) cA121 cA122 _ O_b112 O_b117 O_b119 O_b155 A_b118 A_b120 OV_b118 OV_b120 ne_b112_b117 ne_b112_b118 ne_b117_b118 ne_b112_b119 ne_b117_b119 ne_b118_b119 ne_b112_b120 ne_b117_b120 ne_b118_b120 ne_b119_b120 ne_b112_b155 ne_b117_b155 ne_b118_b155 ne_b119_b155 ne_b120_b155 g_b112 g_b117 g_b118 g_b119 g_b120 g_b155 OL)) rfl (lenOf pd_1 rfl) (by decide) (W := 0) (Nat.le_of_eq rfl) (by decide) (k' := 8) (n' := 56) rfl rfl (by decide) (by decide) (argsL := []) (rest := []) rfl (fun v165 h164 q166 => ?_)
      rcases q166 with ⟨hq160, rfl, rfl⟩ | ⟨hq162, rfl, rfl⟩
      · refine G.cast (st' := [(.int (0 : Int32))]) ?_ rfl
        refine g_istore cx d0_133 (Ls' := #[.val (.int ia), .val (.int ib), .val (.int ic), .val (.int iw), .val (.int ir), .val (.int ig), .val (.long (((ia).toInt64) &&& (2147483647 : Int64))), .second, .val (.long (((ib).toInt64) &&& (2147483647 : Int64))), .second, .val (.int (0 : Int32)), .val (.int (2 : Int32)), .val (.long ((ir).toInt64)), .second, .val (.long (((ir).toInt64) + (((ig).toInt64) &&& (2147483647 : Int64)))), .second, .val (.ref b112), .val (.int (0 : Int32)), .val (.int (0 : Int32)), .val (.int (0 : Int32)), .val (.int (0 : Int32)), .unset, .unset, .unset, .unset, .unset, .unset, .unset, .unset, .unset]) rfl ?_
        refine g_iload cx d0_135 rfl ?_
        refine g_iconst cx d0_137 (v := (1 : Int32)) rfl ?_
        refine g_icmp_lt cx d0_138 (fun hc138 => ?_) (fun q => absurd q (fun q => by revert q; decide))
        refine g_lconst cx d0_146 (v := (0 : Int64)) rfl ?_
        refine g_iload cx d0_147 rfl ?_
        refine g_iconst cx d0_149 (v := (2 : Int32)) rfl ?_
        refine g_icmp_lt cx d0_150 (fun hc150 => ?_) (fun q => absurd q (fun q => by revert q; decide))
        refine g_lconst cx d0_158 (v := (0 : Int64)) rfl ?_
        refine g_ladd cx d0_159 ?_
        refine G.cast (st' := [(.long (0 : Int64))]) ?_ rfl
        refine g_lstore cx d0_160 (Ls' := #[.val (.int ia), .val (.int ib), .val (.int ic), .val (.int iw), .val (.int ir), .val (.int ig), .val (.long (((ia).toInt64) &&& (2147483647 : Int64))), .second, .val (.long (((ib).toInt64) &&& (2147483647 : Int64))), .second, .val (.int (0 : Int32)), .val (.int (2 : Int32)), .val (.long ((ir).toInt64)), .second, .val (.long (((ir).toInt64) + (((ig).toInt64) &&& (2147483647 : Int64)))), .second, .val (.ref b112), .val (.int (0 : Int32)), .val (.int (0 : Int32)), .val (.int (0 : Int32)), .val (.int (0 : Int32)), .val (.long (0 : Int64)), .second, .unset, .unset, .unset, .unset, .unset, .unset, .unset]) rfl ?_
        refine g_iload cx d0_162 rfl ?_
        refine g_iconst cx d0_164 (v := (1 : Int32)) rfl ?_
        refine g_icmp_ge cx d0_165 (fun q => absurd q (fun q => by revert q; decide)) (fun hc165 => ?_)
        refine g_iload cx d0_168 rfl ?_
        refine g_iconst cx d0_170 (v := (1 : Int32)) rfl ?_
        refine g_icmp_lt cx d0_171 (fun q => absurd q (fun q => by revert q; decide)) (fun hc171 => ?_)
        refine g_lload cx d0_174 rfl ?_
        refine g_goto cx d0_176 ?_
        refine g_iload cx d0_180 rfl ?_
        refine g_iconst cx d0_182 (v := (2 : Int32)) rfl ?_
        refine g_icmp_ge cx d0_183 (fun q => absurd q (fun q => by revert q; decide)) (fun hc183 => ?_)
        refine g_iload cx d0_186 rfl ?_
        refine g_iconst cx d0_188 (v := (2 : Int32)) rfl ?_
        refine g_icmp_lt cx d0_189 (fun q => absurd q (fun q => by revert q; decide)) (fun hc189 => ?_)
        refine g_lload cx d0_192 rfl ?_
        refine g_goto cx d0_194 ?_
        refine g_ladd cx d0_198 ?_
        refine g_lstore cx d0_199 (Ls' := #[.val (.int ia), .val (.int ib), .val (.int ic), .val (.int iw), .val (.int ir), .val (.int ig), .val (.long (((ia).toInt64) &&& (2147483647 : Int64))), .second, .val (.long (((ib).toInt64) &&& (2147483647 : Int64))), .second, .val (.int (0 : Int32)), .val (.int (2 : Int32)), .val (.long ((ir).toInt64)), .second, .val (.long (((ir).toInt64) + (((ig).toInt64) &&& (2147483647 : Int64)))), .second, .val (.ref b112), .val (.int (0 : Int32)), .val (.int (0 : Int32)), .val (.int (0 : Int32)), .val (.int (0 : Int32)), .val (.long (0 : Int64)), .second, .val (.long ((((ia).toInt64) &&& (2147483647 : Int64)) + (((ib).toInt64) &&& (2147483647 : Int64)))), .second, .unset, .unset, .unset, .unset, .unset]) rfl ?_
        refine g_iload cx d0_201 rfl ?_
        refine g_if_le cx d0_203 (fun hc203 => ?_) (fun q => absurd q (fun q => by revert q; decide))
        refine g_iconst cx d0_210 (v := (0 : Int32)) rfl ?_
        refine g_istore cx d0_211 (Ls' := #[.val (.int ia), .val (.int ib), .val (.int ic), .val (.int iw), .val (.int ir), .val (.int ig), .val (.long (((ia).toInt64) &&& (2147483647 : Int64))), .second, .val (.long (((ib).toInt64) &&& (2147483647 : Int64))), .second, .val (.int (0 : Int32)), .val (.int (2 : Int32)), .val (.long ((ir).toInt64)), .second, .val (.long (((ir).toInt64) + (((ig).toInt64) &&& (2147483647 : Int64)))), .second, .val (.ref b112), .val (.int (0 : Int32)), .val (.int (0 : Int32)), .val (.int (0 : Int32)), .val (.int (0 : Int32)), .val (.long (0 : Int64)), .second, .val (.long ((((ia).toInt64) &&& (2147483647 : Int64)) + (((ib).toInt64) &&& (2147483647 : Int64)))), .second, .val (.int (0 : Int32)), .unset, .unset, .unset, .unset]) rfl ?_
        refine g_iload cx d0_213 rfl ?_
        refine g_iload cx d0_215 rfl ?_
        refine g_icmp_le cx d0_217 (fun q => absurd q (fun q => by revert q; decide)) (fun hc217 => ?_)
        refine g_iconst cx d0_220 (v := (1 : Int32)) rfl ?_
        refine g_goto cx d0_221 ?_
        refine g_istore cx d0_225 (Ls' := #[.val (.int ia), .val (.int ib), .val (.int ic), .val (.int iw), .val (.int ir), .val (.int ig), .val (.long (((ia).toInt64) &&& (2147483647 : Int64))), .second, .val (.long (((ib).toInt64) &&& (2147483647 : Int64))), .second, .val (.int (0 : Int32)), .val (.int (2 : Int32)), .val (.long ((ir).toInt64)), .second, .val (.long (((ir).toInt64) + (((ig).toInt64) &&& (2147483647 : Int64)))), .second, .val (.ref b112), .val (.int (0 : Int32)), .val (.int (0 : Int32)), .val (.int (0 : Int32)), .val (.int (0 : Int32)), .val (.long (0 : Int64)), .second, .val (.long ((((ia).toInt64) &&& (2147483647 : Int64)) + (((ib).toInt64) &&& (2147483647 : Int64)))), .second, .val (.int (0 : Int32)), .val (.int (1 : Int32)), .unset, .unset, .unset]) rfl ?_
        refine g_iload cx d0_227 rfl ?_
        refine g_if_eq cx d0_229 (fun hc229 => ?_) (fun q => absurd q (fun q => by revert q; decide))
        refine g_iconst cx d0_253 (v := (0 : Int32)) rfl ?_
        refine g_istore cx d0_254 (Ls' := #[.val (.int ia), .val (.int ib), .val (.int ic), .val (.int iw), .val (.int ir), .val (.int ig), .val (.long (((ia).toInt64) &&& (2147483647 : Int64))), .second, .val (.long (((ib).toInt64) &&& (2147483647 : Int64))), .second, .val (.int (0 : Int32)), .val (.int (2 : Int32)), .val (.long ((ir).toInt64)), .second, .val (.long (((ir).toInt64) + (((ig).toInt64) &&& (2147483647 : Int64)))), .second, .val (.ref b112), .val (.int (0 : Int32)), .val (.int (0 : Int32)), .val (.int (0 : Int32)), .val (.int (0 : Int32)), .val (.long (0 : Int64)), .second, .val (.long ((((ia).toInt64) &&& (2147483647 : Int64)) + (((ib).toInt64) &&& (2147483647 : Int64)))), .second, .val (.int (0 : Int32)), .val (.int (1 : Int32)), .val (.int (0 : Int32)), .unset, .unset]) rfl ?_
        refine g_iload cx d0_256 rfl ?_
        refine g_if_eq cx d0_258 (fun hc258 => ?_) (fun q => absurd q (fun q => by revert q; decide))
        refine g_lconst cx d0_271 (v := (0 : Int64)) rfl ?_
        refine g_iload cx d0_272 rfl ?_
        refine g_if_eq cx d0_274 (fun q => absurd q (fun q => by revert q; decide)) (fun hc274 => ?_)
        refine g_lload cx d0_277 rfl ?_
        refine g_goto cx d0_279 ?_
        refine g_ladd cx d0_283 ?_
        rw [Int64.zero_add]
        refine g_lstore cx d0_284 (Ls' := #[.val (.int ia), .val (.int ib), .val (.int ic), .val (.int iw), .val (.int ir), .val (.int ig), .val (.long (((ia).toInt64) &&& (2147483647 : Int64))), .second, .val (.long (((ib).toInt64) &&& (2147483647 : Int64))), .second, .val (.int (0 : Int32)), .val (.int (2 : Int32)), .val (.long ((ir).toInt64)), .second, .val (.long (((ir).toInt64) + (((ig).toInt64) &&& (2147483647 : Int64)))), .second, .val (.ref b112), .val (.int (0 : Int32)), .val (.int (0 : Int32)), .val (.int (0 : Int32)), .val (.int (0 : Int32)), .val (.long (0 : Int64)), .second, .val (.long ((((ia).toInt64) &&& (2147483647 : Int64)) + (((ib).toInt64) &&& (2147483647 : Int64)))), .second, .val (.int (0 : Int32)), .val (.int (1 : Int32)), .val (.int (0 : Int32)), .val (.long ((((ia).toInt64) &&& (2147483647 : Int64)) + (((ib).toInt64) &&& (2147483647 : Int64)))), .second]) rfl ?_
        refine g_iload cx d0_286 rfl ?_
        refine g_if_ne cx d0_288 (fun q => absurd q (fun q => by revert q; decide)) (fun hc288 => ?_)
        refine g_iload cx d0_291 rfl ?_
        refine g_if_ne cx d0_293 (fun q => absurd q (fun q => by revert q; decide)) (fun hc293 => ?_)
        refine g_iload cx d0_296 rfl ?_
        refine g_lload cx d0_298 rfl ?_
        refine g_lconst cx d0_300 (v := (0 : Int64)) rfl ?_
        refine g_lif_le cx d0_301 d0_302 (fun hc302 => ?_) (fun q => absurd q (fun q => by revert q; decide))
        refine g_iconst cx d0_309 (v := (0 : Int32)) rfl ?_
        refine g_icmp_ne cx d0_310 (fun q => absurd q (fun q => by revert q; decide)) (fun hc310 => ?_)
        refine g_iload cx d0_313 rfl ?_
        refine g_lload cx d0_315 rfl ?_
        refine g_lconst cx d0_317 (v := (0 : Int64)) rfl ?_
        refine g_lif_le cx d0_318 d0_319 (fun hc319 => ?_) (fun q => absurd q (fun q => hq160 q))
        refine g_iconst cx d0_326 (v := (0 : Int32)) rfl ?_
        refine g_icmp_ne cx d0_327 (fun q => absurd q (fun q => by revert q; decide)) (fun hc327 => ?_)
        refine g_iconst cx d0_330 (v := (1 : Int32)) rfl ?_
        refine g_goto cx d0_331 ?_
        refine g_retZ cx d0_335 rfl rfl (by decide) (by decide) ?_
        rfl
      · refine G.cast (st' := [(.int (1 : Int32))]) ?_ rfl
        refine g_istore cx d0_133 (Ls' := #[.val (.int ia), .val (.int ib), .val (.int ic), .val (.int iw), .val (.int ir), .val (.int ig), .val (.long (((ia).toInt64) &&& (2147483647 : Int64))), .second, .val (.long (((ib).toInt64) &&& (2147483647 : Int64))), .second, .val (.int (0 : Int32)), .val (.int (2 : Int32)), .val (.long ((ir).toInt64)), .second, .val (.long (((ir).toInt64) + (((ig).toInt64) &&& (2147483647 : Int64)))), .second, .val (.ref b112), .val (.int (0 : Int32)), .val (.int (0 : Int32)), .val (.int (0 : Int32)), .val (.int (1 : Int32)), .unset, .unset, .unset, .unset, .unset, .unset, .unset, .unset, .unset]) rfl ?_
        refine g_iload cx d0_135 rfl ?_
        refine g_iconst cx d0_137 (v := (1 : Int32)) rfl ?_
        refine g_icmp_lt cx d0_138 (fun hc138 => ?_) (fun q => absurd q (fun q => by revert q; decide))
        refine g_lconst cx d0_146 (v := (0 : Int64)) rfl ?_
        refine g_iload cx d0_147 rfl ?_
        refine g_iconst cx d0_149 (v := (2 : Int32)) rfl ?_
        refine g_icmp_lt cx d0_150 (fun hc150 => ?_) (fun q => absurd q (fun q => by revert q; decide))
        refine g_lconst cx d0_158 (v := (0 : Int64)) rfl ?_
        refine g_ladd cx d0_159 ?_
        refine G.cast (st' := [(.long (0 : Int64))]) ?_ rfl
        refine g_lstore cx d0_160 (Ls' := #[.val (.int ia), .val (.int ib), .val (.int ic), .val (.int iw), .val (.int ir), .val (.int ig), .val (.long (((ia).toInt64) &&& (2147483647 : Int64))), .second, .val (.long (((ib).toInt64) &&& (2147483647 : Int64))), .second, .val (.int (0 : Int32)), .val (.int (2 : Int32)), .val (.long ((ir).toInt64)), .second, .val (.long (((ir).toInt64) + (((ig).toInt64) &&& (2147483647 : Int64)))), .second, .val (.ref b112), .val (.int (0 : Int32)), .val (.int (0 : Int32)), .val (.int (0 : Int32)), .val (.int (1 : Int32)), .val (.long (0 : Int64)), .second, .unset, .unset, .unset, .unset, .unset, .unset, .unset]) rfl ?_
        refine g_iload cx d0_162 rfl ?_
        refine g_iconst cx d0_164 (v := (1 : Int32)) rfl ?_
        refine g_icmp_ge cx d0_165 (fun q => absurd q (fun q => by revert q; decide)) (fun hc165 => ?_)
        refine g_iload cx d0_168 rfl ?_
        refine g_iconst cx d0_170 (v := (1 : Int32)) rfl ?_
        refine g_icmp_lt cx d0_171 (fun q => absurd q (fun q => by revert q; decide)) (fun hc171 => ?_)
        refine g_lload cx d0_174 rfl ?_
        refine g_goto cx d0_176 ?_
        refine g_iload cx d0_180 rfl ?_
        refine g_iconst cx d0_182 (v := (2 : Int32)) rfl ?_
        refine g_icmp_ge cx d0_183 (fun q => absurd q (fun q => by revert q; decide)) (fun hc183 => ?_)
        refine g_iload cx d0_186 rfl ?_
        refine g_iconst cx d0_188 (v := (2 : Int32)) rfl ?_
        refine g_icmp_lt cx d0_189 (fun q => absurd q (fun q => by revert q; decide)) (fun hc189 => ?_)
        refine g_lload cx d0_192 rfl ?_
        refine g_goto cx d0_194 ?_
        refine g_ladd cx d0_198 ?_
        refine g_lstore cx d0_199 (Ls' := #[.val (.int ia), .val (.int ib), .val (.int ic), .val (.int iw), .val (.int ir), .val (.int ig), .val (.long (((ia).toInt64) &&& (2147483647 : Int64))), .second, .val (.long (((ib).toInt64) &&& (2147483647 : Int64))), .second, .val (.int (0 : Int32)), .val (.int (2 : Int32)), .val (.long ((ir).toInt64)), .second, .val (.long (((ir).toInt64) + (((ig).toInt64) &&& (2147483647 : Int64)))), .second, .val (.ref b112), .val (.int (0 : Int32)), .val (.int (0 : Int32)), .val (.int (0 : Int32)), .val (.int (1 : Int32)), .val (.long (0 : Int64)), .second, .val (.long ((((ia).toInt64) &&& (2147483647 : Int64)) + (((ib).toInt64) &&& (2147483647 : Int64)))), .second, .unset, .unset, .unset, .unset, .unset]) rfl ?_
        refine g_iload cx d0_201 rfl ?_
        refine g_if_le cx d0_203 (fun hc203 => ?_) (fun q => absurd q (fun q => by revert q; decide))
        refine g_iconst cx d0_210 (v := (0 : Int32)) rfl ?_
        refine g_istore cx d0_211 (Ls' := #[.val (.int ia), .val (.int ib), .val (.int ic), .val (.int iw), .val (.int ir), .val (.int ig), .val (.long (((ia).toInt64) &&& (2147483647 : Int64))), .second, .val (.long (((ib).toInt64) &&& (2147483647 : Int64))), .second, .val (.int (0 : Int32)), .val (.int (2 : Int32)), .val (.long ((ir).toInt64)), .second, .val (.long (((ir).toInt64) + (((ig).toInt64) &&& (2147483647 : Int64)))), .second, .val (.ref b112), .val (.int (0 : Int32)), .val (.int (0 : Int32)), .val (.int (0 : Int32)), .val (.int (1 : Int32)), .val (.long (0 : Int64)), .second, .val (.long ((((ia).toInt64) &&& (2147483647 : Int64)) + (((ib).toInt64) &&& (2147483647 : Int64)))), .second, .val (.int (0 : Int32)), .unset, .unset, .unset, .unset]) rfl ?_
        refine g_iload cx d0_213 rfl ?_
        refine g_iload cx d0_215 rfl ?_
        refine g_icmp_le cx d0_217 (fun q => absurd q (fun q => by revert q; decide)) (fun hc217 => ?_)
        refine g_iconst cx d0_220 (v := (1 : Int32)) rfl ?_
        refine g_goto cx d0_221 ?_
        refine g_istore cx d0_225 (Ls' := #[.val (.int ia), .val (.int ib), .val (.int ic), .val (.int iw), .val (.int ir), .val (.int ig), .val (.long (((ia).toInt64) &&& (2147483647 : Int64))), .second, .val (.long (((ib).toInt64) &&& (2147483647 : Int64))), .second, .val (.int (0 : Int32)), .val (.int (2 : Int32)), .val (.long ((ir).toInt64)), .second, .val (.long (((ir).toInt64) + (((ig).toInt64) &&& (2147483647 : Int64)))), .second, .val (.ref b112), .val (.int (0 : Int32)), .val (.int (0 : Int32)), .val (.int (0 : Int32)), .val (.int (1 : Int32)), .val (.long (0 : Int64)), .second, .val (.long ((((ia).toInt64) &&& (2147483647 : Int64)) + (((ib).toInt64) &&& (2147483647 : Int64)))), .second, .val (.int (0 : Int32)), .val (.int (1 : Int32)), .unset, .unset, .unset]) rfl ?_
        refine g_iload cx d0_227 rfl ?_
        refine g_if_eq cx d0_229 (fun hc229 => ?_) (fun q => absurd q (fun q => by revert q; decide))
        refine g_iconst cx d0_253 (v := (0 : Int32)) rfl ?_
        refine g_istore cx d0_254 (Ls' := #[.val (.int ia), .val (.int ib), .val (.int ic), .val (.int iw), .val (.int ir), .val (.int ig), .val (.long (((ia).toInt64) &&& (2147483647 : Int64))), .second, .val (.long (((ib).toInt64) &&& (2147483647 : Int64))), .second, .val (.int (0 : Int32)), .val (.int (2 : Int32)), .val (.long ((ir).toInt64)), .second, .val (.long (((ir).toInt64) + (((ig).toInt64) &&& (2147483647 : Int64)))), .second, .val (.ref b112), .val (.int (0 : Int32)), .val (.int (0 : Int32)), .val (.int (0 : Int32)), .val (.int (1 : Int32)), .val (.long (0 : Int64)), .second, .val (.long ((((ia).toInt64) &&& (2147483647 : Int64)) + (((ib).toInt64) &&& (2147483647 : Int64)))), .second, .val (.int (0 : Int32)), .val (.int (1 : Int32)), .val (.int (0 : Int32)), .unset, .unset]) rfl ?_
        refine g_iload cx d0_256 rfl ?_
        refine g_if_eq cx d0_258 (fun hc258 => ?_) (fun q => absurd q (fun q => by revert q; decide))
        refine g_lconst cx d0_271 (v := (0 : Int64)) rfl ?_
        refine g_iload cx d0_272 rfl ?_
        refine g_if_eq cx d0_274 (fun q => absurd q (fun q => by revert q; decide)) (fun hc274 => ?_)
        refine g_lload cx d0_277 rfl ?_
        refine g_goto cx d0_279 ?_
        refine g_ladd cx d0_283 ?_
        rw [Int64.zero_add]
        refine g_lstore cx d0_284 (Ls' := #[.val (.int ia), .val (.int ib), .val (.int ic), .val (.int iw), .val (.int ir), .val (.int ig), .val (.long (((ia).toInt64) &&& (2147483647 : Int64))), .second, .val (.long (((ib).toInt64) &&& (2147483647 : Int64))), .second, .val (.int (0 : Int32)), .val (.int (2 : Int32)), .val (.long ((ir).toInt64)), .second, .val (.long (((ir).toInt64) + (((ig).toInt64) &&& (2147483647 : Int64)))), .second, .val (.ref b112), .val (.int (0 : Int32)), .val (.int (0 : Int32)), .val (.int (0 : Int32)), .val (.int (1 : Int32)), .val (.long (0 : Int64)), .second, .val (.long ((((ia).toInt64) &&& (2147483647 : Int64)) + (((ib).toInt64) &&& (2147483647 : Int64)))), .second, .val (.int (0 : Int32)), .val (.int (1 : Int32)), .val (.int (0 : Int32)), .val (.long ((((ia).toInt64) &&& (2147483647 : Int64)) + (((ib).toInt64) &&& (2147483647 : Int64)))), .second]) rfl ?_
        refine g_iload cx d0_286 rfl ?_
        refine g_if_ne cx d0_288 (fun q => absurd q (fun q => by revert q; decide)) (fun hc288 => ?_)
        refine g_iload cx d0_291 rfl ?_
        refine g_if_ne cx d0_293 (fun q => absurd q (fun q => by revert q; decide)) (fun hc293 => ?_)
        refine g_iload cx d0_296 rfl ?_
        refine g_lload cx d0_298 rfl ?_
        refine g_lconst cx d0_300 (v := (0 : Int64)) rfl ?_
        refine g_lif_le cx d0_301 d0_302 (fun hc302 => ?_) (fun q => absurd q (fun q => by revert q; decide))
        refine g_iconst cx d0_309 (v := (0 : Int32)) rfl ?_
        refine g_icmp_ne cx d0_310 (fun q => absurd q (fun q => by revert q; decide)) (fun hc310 => ?_)
        refine g_iload cx d0_313 rfl ?_
        refine g_lload cx d0_315 rfl ?_
        refine g_lconst cx d0_317 (v := (0 : Int64)) rfl ?_
        refine g_lif_le cx d0_318 d0_319 (fun q => absurd q (fun q => q hq162)) (fun hc319 => ?_)
        refine g_iconst cx d0_322 (v := (1 : Int32)) rfl ?_
        refine g_goto cx d0_323 ?_
        refine g_icmp_ne cx d0_327 (fun q => absurd q (fun q => by revert q; decide)) (fun hc327 => ?_)
        refine g_iconst cx d0_330 (v := (1 : Int32)) rfl ?_
        refine g_goto cx d0_331 ?_
        refine g_retZ cx d0_335 rfl rfl (by decide) (by decide) ?_
        rfl
  · rw [hs1]
    refine g_istore cx d0_23 (Ls' := #[.val (.int ia), .val (.int ib), .val (.int ic), .val (.int iw), .val (.int ir), .val (.int ig), .val (.long (((ia).toInt64) &&& (2147483647 : Int64))), .second, .val (.long (((ib).toInt64) &&& (2147483647 : Int64))), .second, .val (.int (1 : Int32)), .unset, .unset, .unset, .unset, .unset, .unset, .unset, .unset, .unset, .unset, .unset, .unset, .unset, .unset, .unset, .unset, .unset, .unset, .unset]) rfl ?_
    refine g_iload cx d0_25 rfl ?_
    refine g_iloadN cx d0_27 rfl ?_
    refine g_bipush cx d0_28 (v := (8 : Int32)) rfl ?_
    refine g_iushr cx d0_30 ?_
    refine g_sipush cx d0_31 (v := (255 : Int32)) rfl ?_
    refine g_iand cx d0_34 ?_
    refine g_iconst cx d0_35 (v := (3 : Int32)) rfl ?_
    refine g_iload cx d0_36 rfl ?_
    refine g_isub cx d0_38 ?_
    refine G.cast (st' := [(.int (2 : Int32)), (.int ((((ic).toUInt32 >>> ((8 : Int32) &&& 31).toUInt32).toInt32) &&& (255 : Int32))), (.int (1 : Int32))]) ?_ rfl
    refine g_irem cx d0_39 (by decide) ?_
    have Dhs167 : (((((ic).toUInt32 >>> ((8 : Int32) &&& 31).toUInt32).toInt32) &&& (255 : Int32)) % (2 : Int32)) = (0 : Int32) ∨ (((((ic).toUInt32 >>> ((8 : Int32) &&& 31).toUInt32).toInt32) &&& (255 : Int32)) % (2 : Int32)) = (1 : Int32) := by
      have r4 := rng32 ic
      have e3 : ((((ic).toUInt32 >>> ((8 : Int32) &&& 31).toUInt32).toInt32)).toInt = ((ic).toInt % 4294967296) / 256 := c_iushr ic (8 : Int32) 8 (by decide) (by decide)
      have e2 : (((((ic).toUInt32 >>> ((8 : Int32) &&& 31).toUInt32).toInt32) &&& (255 : Int32))).toInt = ((((ic).toUInt32 >>> ((8 : Int32) &&& 31).toUInt32).toInt32)).toInt % 256 := c_mask (((ic).toUInt32 >>> ((8 : Int32) &&& 31).toUInt32).toInt32) (255 : Int32) 8 (by decide) (by decide)
      have e1 : (0 ≤ (((((ic).toUInt32 >>> ((8 : Int32) &&& 31).toUInt32).toInt32) &&& (255 : Int32))).toInt → ((((((ic).toUInt32 >>> ((8 : Int32) &&& 31).toUInt32).toInt32) &&& (255 : Int32)) % (2 : Int32))).toInt = (((((ic).toUInt32 >>> ((8 : Int32) &&& 31).toUInt32).toInt32) &&& (255 : Int32))).toInt % 2) ∧ ((((((ic).toUInt32 >>> ((8 : Int32) &&& 31).toUInt32).toInt32) &&& (255 : Int32))).toInt < 0 → ((((((ic).toUInt32 >>> ((8 : Int32) &&& 31).toUInt32).toInt32) &&& (255 : Int32)) % (2 : Int32))).toInt = -((-(((((ic).toUInt32 >>> ((8 : Int32) &&& 31).toUInt32).toInt32) &&& (255 : Int32))).toInt) % 2)) := c_irem ((((ic).toUInt32 >>> ((8 : Int32) &&& 31).toUInt32).toInt32) &&& (255 : Int32)) (2 : Int32) 2 rfl
      have e5 : (0 : Int32).toInt = 0 := rfl
      have e6 : (1 : Int32).toInt = 1 := rfl
      simp only [← Int32.toInt_inj]
      omega
    rcases Dhs167 with hs167 | hs167
    · rw [hs167]
      refine g_iadd cx d0_40 ?_
      refine G.cast (st' := [(.int (1 : Int32))]) ?_ rfl
      refine g_istore cx d0_41 (Ls' := #[.val (.int ia), .val (.int ib), .val (.int ic), .val (.int iw), .val (.int ir), .val (.int ig), .val (.long (((ia).toInt64) &&& (2147483647 : Int64))), .second, .val (.long (((ib).toInt64) &&& (2147483647 : Int64))), .second, .val (.int (1 : Int32)), .val (.int (1 : Int32)), .unset, .unset, .unset, .unset, .unset, .unset, .unset, .unset, .unset, .unset, .unset, .unset, .unset, .unset, .unset, .unset, .unset, .unset]) rfl ?_
      refine g_iload cx d0_43 rfl ?_
      refine g_i2l cx d0_45 ?_
      refine g_lstore cx d0_46 (Ls' := #[.val (.int ia), .val (.int ib), .val (.int ic), .val (.int iw), .val (.int ir), .val (.int ig), .val (.long (((ia).toInt64) &&& (2147483647 : Int64))), .second, .val (.long (((ib).toInt64) &&& (2147483647 : Int64))), .second, .val (.int (1 : Int32)), .val (.int (1 : Int32)), .val (.long ((ir).toInt64)), .second, .unset, .unset, .unset, .unset, .unset, .unset, .unset, .unset, .unset, .unset, .unset, .unset, .unset, .unset, .unset, .unset]) rfl ?_
      refine g_lload cx d0_48 rfl ?_
      refine g_iload cx d0_50 rfl ?_
      refine g_i2l cx d0_52 ?_
      refine g_ldcJ cx d0_53 (hw _ (List.mem_of_getElem? (i := 0) rfl)) ?_
      refine g_land cx d0_56 ?_
      refine g_ladd cx d0_57 ?_
      refine g_lstore cx d0_58 (Ls' := #[.val (.int ia), .val (.int ib), .val (.int ic), .val (.int iw), .val (.int ir), .val (.int ig), .val (.long (((ia).toInt64) &&& (2147483647 : Int64))), .second, .val (.long (((ib).toInt64) &&& (2147483647 : Int64))), .second, .val (.int (1 : Int32)), .val (.int (1 : Int32)), .val (.long ((ir).toInt64)), .second, .val (.long (((ir).toInt64) + (((ig).toInt64) &&& (2147483647 : Int64)))), .second, .unset, .unset, .unset, .unset, .unset, .unset, .unset, .unset, .unset, .unset, .unset, .unset, .unset, .unset]) rfl ?_
      refine g_new cx d0_60 (hw _ (List.mem_of_getElem? (i := 1) rfl)) (hw _ (List.mem_of_getElem? (i := 2) rfl)) (hw _ (List.mem_of_getElem? (i := 3) rfl)) (k' := 1) (n' := 8) rfl rfl (by decide) (by decide) (fun h168 b169 gb170 E171 X172 D173 => ?_)
      have g_b169 : Z.heap.size ≤ b169 := by rw [gb170]; exact OL.2.1
      have OL := OL.ext E171
      have O_b169 := ObP.new hw X172 D173
      refine g_dup cx d0_63 rfl ?_
      have lt_b169 := O_b169.lt
      refine g_special cx (y := (⟨"com/example/thalweg/thalweg/node/Pace", "<init>", "()V"⟩ : MethodName)) (a := b169) d0_64 rfl rfl (hw _ (List.mem_of_getElem? (i := 4) rfl)) (hw _ (List.mem_of_getElem? (i := 5) rfl)) (hw _ (List.mem_of_getElem? (i := 3) rfl)) (hw _ (List.mem_of_getElem? (i := 6) rfl)) (by decide) (bytes := prog_54_method_1_code) (maxL' := 1) (M := (ra1 l Z a0 hw  b169 _ O_b169 g_b169 OL)) rfl (lenOf pd_0 rfl) (by decide) (W := 1) (Nat.le_of_eq rfl) (by decide) (k' := 5) (n' := 48) rfl rfl (by decide) (by decide) (argsL := []) (rest := [(.ref b169)]) rfl (fun v182 h181 q183 => ?_)
      obtain ⟨b174, b175, b176, b177, cA178, cA179, rfl, K180, sq_b174, sq_b175, sq_b176, sq_b177, ne_b174_b175, ne_b174_b176, ne_b175_b176, ne_b174_b177, ne_b175_b177, ne_b176_b177, O_b174, A_b175, O_b176, A_b177, OV_b175, OV_b177, O_b169⟩ := q183
      have ne_b169_b174 : b169 ≠ b174 := Nat.ne_of_lt (Nat.lt_of_lt_of_le lt_b169 sq_b174)
      have g_b174 : Z.heap.size ≤ b174 := Nat.le_trans OL.2.1 sq_b174
      have ne_b169_b175 : b169 ≠ b175 := Nat.ne_of_lt (Nat.lt_of_lt_of_le lt_b169 sq_b175)
      have g_b175 : Z.heap.size ≤ b175 := Nat.le_trans OL.2.1 sq_b175
      have ne_b169_b176 : b169 ≠ b176 := Nat.ne_of_lt (Nat.lt_of_lt_of_le lt_b169 sq_b176)
      have g_b176 : Z.heap.size ≤ b176 := Nat.le_trans OL.2.1 sq_b176
      have ne_b169_b177 : b169 ≠ b177 := Nat.ne_of_lt (Nat.lt_of_lt_of_le lt_b169 sq_b177)
      have g_b177 : Z.heap.size ≤ b177 := Nat.le_trans OL.2.1 sq_b177
      have OL := OL.keep K180 (allS g_b169 all0)
      refine G.cast (st' := [(.ref b169)]) ?_ rfl
      refine g_astore cx d0_67 rfl (Ls' := #[.val (.int ia), .val (.int ib), .val (.int ic), .val (.int iw), .val (.int ir), .val (.int ig), .val (.long (((ia).toInt64) &&& (2147483647 : Int64))), .second, .val (.long (((ib).toInt64) &&& (2147483647 : Int64))), .second, .val (.int (1 : Int32)), .val (.int (1 : Int32)), .val (.long ((ir).toInt64)), .second, .val (.long (((ir).toInt64) + (((ig).toInt64) &&& (2147483647 : Int64)))), .second, .val (.ref b169), .unset, .unset, .unset, .unset, .unset, .unset, .unset, .unset, .unset, .unset, .unset, .unset, .unset]) rfl ?_
      refine g_aload cx d0_69 rfl rfl ?_
      refine g_virtual cx (y := (⟨"com/example/thalweg/thalweg/node/Pace", "known", "()Z"⟩ : MethodName)) (z := (⟨"com/example/thalweg/thalweg/node/Pace", "known", "()Z"⟩ : MethodName)) (a := b169) d0_71 (hw _ (List.mem_of_getElem? (i := 31) rfl)) (hw _ (List.mem_of_getElem? (i := 32) rfl)) (hw _ (List.mem_of_getElem? (i := 3) rfl)) (hw _ (List.mem_of_getElem? (i := 35) rfl)) (hw _ (List.mem_of_getElem? (i := 34) rfl)) (hw _ (List.mem_of_getElem? (i := 33) rfl)) rfl (by decide) O_b169.1 (bytes := prog_54_method_5_code) (maxL' := 1) (M := (ra3 l Z a0 hw  b169 b174 b175 b176 b177 cA178 cA179 _ O_b169 O_b174 O_b176 A_b175 A_b177 OV_b175 OV_b177 ne_b169_b174 ne_b169_b175 ne_b174_b175 ne_b169_b176 ne_b174_b176 ne_b175_b176 ne_b169_b177 ne_b174_b177 ne_b175_b177 ne_b176_b177 g_b169 g_b174 g_b175 g_b176 g_b177 OL)) rfl (lenOf pd_1 rfl) (by decide) (W := 0) (Nat.le_of_eq rfl) (by decide) (k' := 5) (n' := 48) rfl rfl (by decide) (by decide) (argsL := []) (rest := []) rfl (fun v186 h185 q187 => ?_)
      obtain ⟨rfl, rfl⟩ := q187
      refine G.cast (st' := [(.int (0 : Int32))]) ?_ rfl
      refine g_istore cx d0_74 (Ls' := #[.val (.int ia), .val (.int ib), .val (.int ic), .val (.int iw), .val (.int ir), .val (.int ig), .val (.long (((ia).toInt64) &&& (2147483647 : Int64))), .second, .val (.long (((ib).toInt64) &&& (2147483647 : Int64))), .second, .val (.int (1 : Int32)), .val (.int (1 : Int32)), .val (.long ((ir).toInt64)), .second, .val (.long (((ir).toInt64) + (((ig).toInt64) &&& (2147483647 : Int64)))), .second, .val (.ref b169), .val (.int (0 : Int32)), .unset, .unset, .unset, .unset, .unset, .unset, .unset, .unset, .unset, .unset, .unset, .unset]) rfl ?_
      refine g_aload cx d0_76 rfl rfl ?_
      refine g_lload cx d0_78 rfl ?_
      refine g_iloadN cx d0_80 rfl ?_
      refine g_i2l cx d0_81 ?_
      have lt_b169 := O_b169.lt
      have lt_b174 := O_b174.lt
      have lt_b175 := A_b175.lt
      refine g_virtual cx (y := (⟨"com/example/thalweg/thalweg/node/Pace", "written", "(JJ)V"⟩ : MethodName)) (z := (⟨"com/example/thalweg/thalweg/node/Pace", "written", "(JJ)V"⟩ : MethodName)) (a := b169) d0_82 (hw _ (List.mem_of_getElem? (i := 38) rfl)) (hw _ (List.mem_of_getElem? (i := 39) rfl)) (hw _ (List.mem_of_getElem? (i := 3) rfl)) (hw _ (List.mem_of_getElem? (i := 42) rfl)) (hw _ (List.mem_of_getElem? (i := 41) rfl)) (hw _ (List.mem_of_getElem? (i := 40) rfl)) rfl (by decide) O_b169.1 (bytes := prog_54_method_2_code) (maxL' := 5) (M := (ra4 l Z a0 hw  b169 b174 b175 b176 b177 (((ia).toInt64) &&& (2147483647 : Int64)) ((iw).toInt64) cA178 cA179 _ O_b169 O_b174 O_b176 A_b175 A_b177 OV_b175 OV_b177 ne_b169_b174 ne_b169_b175 ne_b174_b175 ne_b169_b176 ne_b174_b176 ne_b175_b176 ne_b169_b177 ne_b174_b177 ne_b175_b177 ne_b176_b177 g_b169 g_b174 g_b175 g_b176 g_b177 OL)) rfl (lenOf pd_4 rfl) (by decide) (W := 0) (Nat.le_of_eq rfl) (by decide) (k' := 6) (n' := 50) rfl rfl (by decide) (by decide) (argsL := [(.long (((ia).toInt64) &&& (2147483647 : Int64))), (.long ((iw).toInt64))]) (rest := []) rfl (fun v192 h191 q193 => ?_)
      obtain ⟨b188, cA189, rfl, K190, sq_b188, A_b188, O_b169, O_b174, A_b175⟩ := q193
      have ne_b169_b188 : b169 ≠ b188 := Nat.ne_of_lt (Nat.lt_of_lt_of_le lt_b169 sq_b188)
      have ne_b174_b188 : b174 ≠ b188 := Nat.ne_of_lt (Nat.lt_of_lt_of_le lt_b174 sq_b188)
      have ne_b176_b188 : b176 ≠ b188 := Nat.ne_of_lt (Nat.lt_of_lt_of_le O_b176.lt sq_b188)
      have ne_b175_b188 : b175 ≠ b188 := Nat.ne_of_lt (Nat.lt_of_lt_of_le lt_b175 sq_b188)
      have ne_b177_b188 : b177 ≠ b188 := Nat.ne_of_lt (Nat.lt_of_lt_of_le A_b177.lt sq_b188)
      have g_b188 : Z.heap.size ≤ b188 := Nat.le_trans OL.2.1 sq_b188
      have O_b176 := O_b176.keep K190 (ninS (Ne.symm ne_b169_b176) (ninS (Ne.symm ne_b174_b176) (ninS (Ne.symm ne_b175_b176) nin0)))
      have A_b177 := A_b177.keep K190 (ninS (Ne.symm ne_b169_b177) (ninS (Ne.symm ne_b174_b177) (ninS (Ne.symm ne_b175_b177) nin0)))
      have OL := OL.keep K190 (allS g_b169 (allS g_b174 (allS g_b175 all0)))
      refine G.cast (st' := []) ?_ rfl
      refine g_aload cx d0_85 rfl rfl ?_
      refine g_lload cx d0_87 rfl ?_
      refine g_iloadN cx d0_89 rfl ?_
      refine g_i2l cx d0_90 ?_
      have lt_b169 := O_b169.lt
      have lt_b174 := O_b174.lt
      have lt_b175 := A_b175.lt
      refine g_virtual cx (y := (⟨"com/example/thalweg/thalweg/node/Pace", "written", "(JJ)V"⟩ : MethodName)) (z := (⟨"com/example/thalweg/thalweg/node/Pace", "written", "(JJ)V"⟩ : MethodName)) (a := b169) d0_91 (hw _ (List.mem_of_getElem? (i := 38) rfl)) (hw _ (List.mem_of_getElem? (i := 39) rfl)) (hw _ (List.mem_of_getElem? (i := 3) rfl)) (hw _ (List.mem_of_getElem? (i := 42) rfl)) (hw _ (List.mem_of_getElem? (i := 41) rfl)) (hw _ (List.mem_of_getElem? (i := 40) rfl)) rfl (by decide) O_b169.1 (bytes := prog_54_method_2_code) (maxL' := 5) (M := (ra8 l Z a0 hw  b169 b174 b175 b188 b176 b177 (((ia).toInt64) &&& (2147483647 : Int64)) ((iw).toInt64) (((ib).toInt64) &&& (2147483647 : Int64)) cA178 cA189 cA179 _ O_b169 O_b174 O_b176 A_b175 A_b188 A_b177 OV_b175 OV_b177 ne_b169_b174 ne_b169_b175 ne_b174_b175 ne_b169_b188 ne_b174_b188 ne_b175_b188 ne_b169_b176 ne_b174_b176 ne_b175_b176 (Ne.symm ne_b176_b188) ne_b169_b177 ne_b174_b177 ne_b175_b177 (Ne.symm ne_b177_b188) ne_b176_b177 g_b169 g_b174 g_b175 g_b188 g_b176 g_b177 OL)) rfl (lenOf pd_4 rfl) (by decide) (W := 0) (Nat.le_of_eq rfl) (by decide) (k' := 7) (n' := 52) rfl rfl (by decide) (by decide) (argsL := [(.long (((ib).toInt64) &&& (2147483647 : Int64))), (.long ((iw).toInt64))]) (rest := []) rfl (fun v198 h197 q199 => ?_)
      obtain ⟨b194, cA195, rfl, K196, sq_b194, A_b194, O_b169, O_b174, A_b175⟩ := q199
      have ne_b169_b194 : b169 ≠ b194 := Nat.ne_of_lt (Nat.lt_of_lt_of_le lt_b169 sq_b194)
      have ne_b174_b194 : b174 ≠ b194 := Nat.ne_of_lt (Nat.lt_of_lt_of_le lt_b174 sq_b194)
      have ne_b176_b194 : b176 ≠ b194 := Nat.ne_of_lt (Nat.lt_of_lt_of_le O_b176.lt sq_b194)
      have ne_b175_b194 : b175 ≠ b194 := Nat.ne_of_lt (Nat.lt_of_lt_of_le lt_b175 sq_b194)
      have ne_b177_b194 : b177 ≠ b194 := Nat.ne_of_lt (Nat.lt_of_lt_of_le A_b177.lt sq_b194)
      have ne_b188_b194 : b188 ≠ b194 := Nat.ne_of_lt (Nat.lt_of_lt_of_le A_b188.lt sq_b194)
      have g_b194 : Z.heap.size ≤ b194 := Nat.le_trans OL.2.1 sq_b194
      have O_b176 := O_b176.keep K196 (ninS (Ne.symm ne_b169_b176) (ninS (Ne.symm ne_b174_b176) (ninS (Ne.symm ne_b175_b176) nin0)))
      have A_b177 := A_b177.keep K196 (ninS (Ne.symm ne_b169_b177) (ninS (Ne.symm ne_b174_b177) (ninS (Ne.symm ne_b175_b177) nin0)))
      have A_b188 := A_b188.keep K196 (ninS (Ne.symm ne_b169_b188) (ninS (Ne.symm ne_b174_b188) (ninS (Ne.symm ne_b175_b188) nin0)))
      have OL := OL.keep K196 (allS g_b169 (allS g_b174 (allS g_b175 all0)))
      refine G.cast (st' := []) ?_ rfl
      refine g_aload cx d0_94 rfl rfl ?_
      refine g_virtual cx (y := (⟨"com/example/thalweg/thalweg/node/Pace", "known", "()Z"⟩ : MethodName)) (z := (⟨"com/example/thalweg/thalweg/node/Pace", "known", "()Z"⟩ : MethodName)) (a := b169) d0_96 (hw _ (List.mem_of_getElem? (i := 31) rfl)) (hw _ (List.mem_of_getElem? (i := 32) rfl)) (hw _ (List.mem_of_getElem? (i := 3) rfl)) (hw _ (List.mem_of_getElem? (i := 35) rfl)) (hw _ (List.mem_of_getElem? (i := 34) rfl)) (hw _ (List.mem_of_getElem? (i := 33) rfl)) rfl (by decide) O_b169.1 (bytes := prog_54_method_5_code) (maxL' := 1) (M := (ra12 l Z a0 hw  b169 b174 b175 b188 b194 b176 b177 (((ia).toInt64) &&& (2147483647 : Int64)) ((iw).toInt64) (((ib).toInt64) &&& (2147483647 : Int64)) ((((ia).toInt64) &&& (2147483647 : Int64)) + (((ib).toInt64) &&& (2147483647 : Int64))) cA178 cA189 cA195 cA179 _ O_b169 O_b174 O_b176 A_b175 A_b188 A_b194 A_b177 OV_b175 OV_b177 ne_b169_b174 ne_b169_b175 ne_b174_b175 ne_b169_b188 ne_b174_b188 ne_b175_b188 ne_b169_b194 ne_b174_b194 ne_b175_b194 ne_b188_b194 ne_b169_b176 ne_b174_b176 ne_b175_b176 (Ne.symm ne_b176_b188) (Ne.symm ne_b176_b194) ne_b169_b177 ne_b174_b177 ne_b175_b177 (Ne.symm ne_b177_b188) (Ne.symm ne_b177_b194) ne_b176_b177 g_b169 g_b174 g_b175 g_b188 g_b194 g_b176 g_b177 OL)) rfl (lenOf pd_1 rfl) (by decide) (W := 0) (Nat.le_of_eq rfl) (by decide) (k' := 7) (n' := 52) rfl rfl (by decide) (by decide) (argsL := []) (rest := []) rfl (fun v202 h201 q203 => ?_)
      obtain ⟨rfl, rfl⟩ := q203
      refine G.cast (st' := [(.int (0 : Int32))]) ?_ rfl
      refine g_istore cx d0_99 (Ls' := #[.val (.int ia), .val (.int ib), .val (.int ic), .val (.int iw), .val (.int ir), .val (.int ig), .val (.long (((ia).toInt64) &&& (2147483647 : Int64))), .second, .val (.long (((ib).toInt64) &&& (2147483647 : Int64))), .second, .val (.int (1 : Int32)), .val (.int (1 : Int32)), .val (.long ((ir).toInt64)), .second, .val (.long (((ir).toInt64) + (((ig).toInt64) &&& (2147483647 : Int64)))), .second, .val (.ref b169), .val (.int (0 : Int32)), .val (.int (0 : Int32)), .unset, .unset, .unset, .unset, .unset, .unset, .unset, .unset, .unset, .unset, .unset]) rfl ?_
      refine g_aload cx d0_101 rfl rfl ?_
      refine g_iload cx d0_103 rfl ?_
      refine g_i2l cx d0_105 ?_
      refine G.cast (st' := [(.long (1 : Int64)), (.ref b169)]) ?_ rfl
      refine g_lload cx d0_106 rfl ?_
      have lt_b169 := O_b169.lt
      have lt_b174 := O_b174.lt
      have lt_b175 := A_b175.lt
      have lt_b176 := O_b176.lt
      have lt_b177 := A_b177.lt
      refine g_virtual cx (y := (⟨"com/example/thalweg/thalweg/node/Pace", "taken", "(JJ)V"⟩ : MethodName)) (z := (⟨"com/example/thalweg/thalweg/node/Pace", "taken", "(JJ)V"⟩ : MethodName)) (a := b169) d0_108 (hw _ (List.mem_of_getElem? (i := 68) rfl)) (hw _ (List.mem_of_getElem? (i := 69) rfl)) (hw _ (List.mem_of_getElem? (i := 3) rfl)) (hw _ (List.mem_of_getElem? (i := 72) rfl)) (hw _ (List.mem_of_getElem? (i := 71) rfl)) (hw _ (List.mem_of_getElem? (i := 70) rfl)) rfl (by decide) O_b169.1 (bytes := prog_54_method_3_code) (maxL' := 10) (M := (ra14 l Z a0 hw  b169 b174 b175 b188 b194 b176 b177 (((ia).toInt64) &&& (2147483647 : Int64)) ((iw).toInt64) (((ib).toInt64) &&& (2147483647 : Int64)) ((((ia).toInt64) &&& (2147483647 : Int64)) + (((ib).toInt64) &&& (2147483647 : Int64))) ((ir).toInt64) cA178 cA189 cA195 cA179 _ O_b169 O_b174 O_b176 A_b175 A_b188 A_b194 A_b177 OV_b175 OV_b177 ne_b169_b174 ne_b169_b175 ne_b174_b175 ne_b169_b188 ne_b174_b188 ne_b175_b188 ne_b169_b194 ne_b174_b194 ne_b175_b194 ne_b188_b194 ne_b169_b176 ne_b174_b176 ne_b175_b176 (Ne.symm ne_b176_b188) (Ne.symm ne_b176_b194) ne_b169_b177 ne_b174_b177 ne_b175_b177 (Ne.symm ne_b177_b188) (Ne.symm ne_b177_b194) ne_b176_b177 g_b169 g_b174 g_b175 g_b188 g_b194 g_b176 g_b177 OL)) rfl (lenOf pd_4 rfl) (by decide) (W := 0) (Nat.le_of_eq rfl) (by decide) (k' := 8) (n' := 56) rfl rfl (by decide) (by decide) (argsL := [(.long (1 : Int64)), (.long ((ir).toInt64))]) (rest := []) rfl (fun v207 h206 q208 => ?_)
      obtain ⟨b204, rfl, K205, sq_b204, O_b204, O_b169, O_b174, A_b175, O_b176, A_b177⟩ := q208
      have ne_b169_b204 : b169 ≠ b204 := Nat.ne_of_lt (Nat.lt_of_lt_of_le lt_b169 sq_b204)
      have ne_b174_b204 : b174 ≠ b204 := Nat.ne_of_lt (Nat.lt_of_lt_of_le lt_b174 sq_b204)
      have ne_b176_b204 : b176 ≠ b204 := Nat.ne_of_lt (Nat.lt_of_lt_of_le lt_b176 sq_b204)
      have ne_b175_b204 : b175 ≠ b204 := Nat.ne_of_lt (Nat.lt_of_lt_of_le lt_b175 sq_b204)
      have ne_b177_b204 : b177 ≠ b204 := Nat.ne_of_lt (Nat.lt_of_lt_of_le lt_b177 sq_b204)
      have ne_b188_b204 : b188 ≠ b204 := Nat.ne_of_lt (Nat.lt_of_lt_of_le A_b188.lt sq_b204)
      have ne_b194_b204 : b194 ≠ b204 := Nat.ne_of_lt (Nat.lt_of_lt_of_le A_b194.lt sq_b204)
      have g_b204 : Z.heap.size ≤ b204 := Nat.le_trans OL.2.1 sq_b204
      have A_b188 := A_b188.keep K205 (ninS (Ne.symm ne_b169_b188) (ninS (Ne.symm ne_b174_b188) (ninS (Ne.symm ne_b175_b188) (ninS (Ne.symm ne_b176_b188) (ninS (Ne.symm ne_b177_b188) nin0)))))
      have A_b194 := A_b194.keep K205 (ninS (Ne.symm ne_b169_b194) (ninS (Ne.symm ne_b174_b194) (ninS (Ne.symm ne_b175_b194) (ninS (Ne.symm ne_b176_b194) (ninS (Ne.symm ne_b177_b194) nin0)))))
      have OL := OL.keep K205 (allS g_b169 (allS g_b174 (allS g_b175 (allS g_b176 (allS g_b177 all0)))))
      refine G.cast (st' := []) ?_ rfl
      refine g_aload cx d0_111 rfl rfl ?_
      refine g_virtual cx (y := (⟨"com/example/thalweg/thalweg/node/Pace", "known", "()Z"⟩ : MethodName)) (z := (⟨"com/example/thalweg/thalweg/node/Pace", "known", "()Z"⟩ : MethodName)) (a := b169) d0_113 (hw _ (List.mem_of_getElem? (i := 31) rfl)) (hw _ (List.mem_of_getElem? (i := 32) rfl)) (hw _ (List.mem_of_getElem? (i := 3) rfl)) (hw _ (List.mem_of_getElem? (i := 35) rfl)) (hw _ (List.mem_of_getElem? (i := 34) rfl)) (hw _ (List.mem_of_getElem? (i := 33) rfl)) rfl (by decide) O_b169.1 (bytes := prog_54_method_5_code) (maxL' := 1) (M := (ra25 l Z a0 hw  b169 b174 b175 b194 b176 b177 b204 (((ib).toInt64) &&& (2147483647 : Int64)) ((iw).toInt64) ((ir).toInt64) (((ia).toInt64) &&& (2147483647 : Int64)) (own_max (1 : Int64) (((ir).toInt64) - ((iw).toInt64))) (((ir).toInt64) - ((iw).toInt64)) (((((ia).toInt64) &&& (2147483647 : Int64)) + (((ib).toInt64) &&& (2147483647 : Int64))) - (((ia).toInt64) &&& (2147483647 : Int64))) cA178 cA195 cA179 _ O_b169 O_b174 O_b176 O_b204 A_b175 A_b194 A_b177 OV_b175 OV_b177 ne_b169_b174 ne_b169_b175 ne_b174_b175 ne_b169_b194 ne_b174_b194 ne_b175_b194 ne_b169_b176 ne_b174_b176 ne_b175_b176 (Ne.symm ne_b176_b194) ne_b169_b177 ne_b174_b177 ne_b175_b177 (Ne.symm ne_b177_b194) ne_b176_b177 ne_b169_b204 ne_b174_b204 ne_b175_b204 ne_b194_b204 ne_b176_b204 ne_b177_b204 g_b169 g_b174 g_b175 g_b194 g_b176 g_b177 g_b204 OL)) rfl (lenOf pd_1 rfl) (by decide) (W := 0) (Nat.le_of_eq rfl) (by decide) (k' := 8) (n' := 56) rfl rfl (by decide) (by decide) (argsL := []) (rest := []) rfl (fun v214 h213 q215 => ?_)
      rcases q215 with ⟨hq209, rfl, rfl⟩ | ⟨hq211, rfl, rfl⟩
      · refine G.cast (st' := [(.int (0 : Int32))]) ?_ rfl
        refine g_istore cx d0_116 (Ls' := #[.val (.int ia), .val (.int ib), .val (.int ic), .val (.int iw), .val (.int ir), .val (.int ig), .val (.long (((ia).toInt64) &&& (2147483647 : Int64))), .second, .val (.long (((ib).toInt64) &&& (2147483647 : Int64))), .second, .val (.int (1 : Int32)), .val (.int (1 : Int32)), .val (.long ((ir).toInt64)), .second, .val (.long (((ir).toInt64) + (((ig).toInt64) &&& (2147483647 : Int64)))), .second, .val (.ref b169), .val (.int (0 : Int32)), .val (.int (0 : Int32)), .val (.int (0 : Int32)), .unset, .unset, .unset, .unset, .unset, .unset, .unset, .unset, .unset, .unset]) rfl ?_
        refine g_aload cx d0_118 rfl rfl ?_
        refine g_iload cx d0_120 rfl ?_
        refine g_i2l cx d0_122 ?_
        refine G.cast (st' := [(.long (1 : Int64)), (.ref b169)]) ?_ rfl
        refine g_lload cx d0_123 rfl ?_
        refine g_virtual cx (y := (⟨"com/example/thalweg/thalweg/node/Pace", "taken", "(JJ)V"⟩ : MethodName)) (z := (⟨"com/example/thalweg/thalweg/node/Pace", "taken", "(JJ)V"⟩ : MethodName)) (a := b169) d0_125 (hw _ (List.mem_of_getElem? (i := 68) rfl)) (hw _ (List.mem_of_getElem? (i := 69) rfl)) (hw _ (List.mem_of_getElem? (i := 3) rfl)) (hw _ (List.mem_of_getElem? (i := 72) rfl)) (hw _ (List.mem_of_getElem? (i := 71) rfl)) (hw _ (List.mem_of_getElem? (i := 70) rfl)) rfl (by decide) O_b169.1 (bytes := prog_54_method_3_code) (maxL' := 10) (M := (ra32 l Z a0 hw  b169 b174 b175 b194 b176 b177 b204 (((ib).toInt64) &&& (2147483647 : Int64)) ((iw).toInt64) ((ir).toInt64) (((ia).toInt64) &&& (2147483647 : Int64)) (own_max (1 : Int64) (((ir).toInt64) - ((iw).toInt64))) (((ir).toInt64) - ((iw).toInt64)) (((((ia).toInt64) &&& (2147483647 : Int64)) + (((ib).toInt64) &&& (2147483647 : Int64))) - (((ia).toInt64) &&& (2147483647 : Int64))) (((ir).toInt64) + (((ig).toInt64) &&& (2147483647 : Int64))) cA178 cA195 cA179 _ O_b169 O_b174 O_b176 O_b204 A_b175 A_b194 A_b177 OV_b175 OV_b177 ne_b169_b174 ne_b169_b175 ne_b174_b175 ne_b169_b194 ne_b174_b194 ne_b175_b194 ne_b169_b176 ne_b174_b176 ne_b175_b176 (Ne.symm ne_b176_b194) ne_b169_b177 ne_b174_b177 ne_b175_b177 (Ne.symm ne_b177_b194) ne_b176_b177 ne_b169_b204 ne_b174_b204 ne_b175_b204 ne_b194_b204 ne_b176_b204 ne_b177_b204 g_b169 g_b174 g_b175 g_b194 g_b176 g_b177 g_b204 OL)) rfl (lenOf pd_4 rfl) (by decide) (W := 0) (Nat.le_of_eq rfl) (by decide) (k' := 8) (n' := 56) rfl rfl (by decide) (by decide) (argsL := [(.long (1 : Int64)), (.long (((ir).toInt64) + (((ig).toInt64) &&& (2147483647 : Int64))))]) (rest := []) rfl (fun v218 h217 q219 => ?_)
        obtain ⟨rfl, rfl⟩ := q219
        refine G.cast (st' := []) ?_ rfl
        refine g_aload cx d0_128 rfl rfl ?_
        refine g_virtual cx (y := (⟨"com/example/thalweg/thalweg/node/Pace", "known", "()Z"⟩ : MethodName)) (z := (⟨"com/example/thalweg/thalweg/node/Pace", "known", "()Z"⟩ : MethodName)) (a := b169) d0_130 (hw _ (List.mem_of_getElem? (i := 31) rfl)) (hw _ (List.mem_of_getElem? (i := 32) rfl)) (hw _ (List.mem_of_getElem? (i := 3) rfl)) (hw _ (List.mem_of_getElem? (i := 35) rfl)) (hw _ (List.mem_of_getElem? (i := 34) rfl)) (hw _ (List.mem_of_getElem? (i := 33) rfl)) rfl (by decide) O_b169.1 (bytes := prog_54_method_5_code) (maxL' := 1) (M := (ra25 l Z a0 hw  b169 b174 b175 b194 b176 b177 b204 (((ib).toInt64) &&& (2147483647 : Int64)) ((iw).toInt64) ((ir).toInt64) (((ia).toInt64) &&& (2147483647 : Int64)) (own_max (1 : Int64) (((ir).toInt64) - ((iw).toInt64))) (((ir).toInt64) - ((iw).toInt64)) (((((ia).toInt64) &&& (2147483647 : Int64)) + (((ib).toInt64) &&& (2147483647 : Int64))) - (((ia).toInt64) &&& (2147483647 : Int64))) cA178 cA195 cA179 _ O_b169 O_b174 O_b176 O_b204 A_b175 A_b194 A_b177 OV_b175 OV_b177 ne_b169_b174 ne_b169_b175 ne_b174_b175 ne_b169_b194 ne_b174_b194 ne_b175_b194 ne_b169_b176 ne_b174_b176 ne_b175_b176 (Ne.symm ne_b176_b194) ne_b169_b177 ne_b174_b177 ne_b175_b177 (Ne.symm ne_b177_b194) ne_b176_b177 ne_b169_b204 ne_b174_b204 ne_b175_b204 ne_b194_b204 ne_b176_b204 ne_b177_b204 g_b169 g_b174 g_b175 g_b194 g_b176 g_b177 g_b204 OL)) rfl (lenOf pd_1 rfl) (by decide) (W := 0) (Nat.le_of_eq rfl) (by decide) (k' := 8) (n' := 56) rfl rfl (by decide) (by decide) (argsL := []) (rest := []) rfl (fun v225 h224 q226 => ?_)
        rcases q226 with ⟨hq220, rfl, rfl⟩ | ⟨hq222, rfl, rfl⟩
        · refine G.cast (st' := [(.int (0 : Int32))]) ?_ rfl
          refine g_istore cx d0_133 (Ls' := #[.val (.int ia), .val (.int ib), .val (.int ic), .val (.int iw), .val (.int ir), .val (.int ig), .val (.long (((ia).toInt64) &&& (2147483647 : Int64))), .second, .val (.long (((ib).toInt64) &&& (2147483647 : Int64))), .second, .val (.int (1 : Int32)), .val (.int (1 : Int32)), .val (.long ((ir).toInt64)), .second, .val (.long (((ir).toInt64) + (((ig).toInt64) &&& (2147483647 : Int64)))), .second, .val (.ref b169), .val (.int (0 : Int32)), .val (.int (0 : Int32)), .val (.int (0 : Int32)), .val (.int (0 : Int32)), .unset, .unset, .unset, .unset, .unset, .unset, .unset, .unset, .unset]) rfl ?_
          refine g_iload cx d0_135 rfl ?_
          refine g_iconst cx d0_137 (v := (1 : Int32)) rfl ?_
          refine g_icmp_lt cx d0_138 (fun q => absurd q (fun q => by revert q; decide)) (fun hc138 => ?_)
          refine g_lload cx d0_141 rfl ?_
          refine g_goto cx d0_143 ?_
          refine g_iload cx d0_147 rfl ?_
          refine g_iconst cx d0_149 (v := (2 : Int32)) rfl ?_
          refine g_icmp_lt cx d0_150 (fun hc150 => ?_) (fun q => absurd q (fun q => by revert q; decide))
          refine g_lconst cx d0_158 (v := (0 : Int64)) rfl ?_
          refine g_ladd cx d0_159 ?_
          rw [Int64.add_zero]
          refine g_lstore cx d0_160 (Ls' := #[.val (.int ia), .val (.int ib), .val (.int ic), .val (.int iw), .val (.int ir), .val (.int ig), .val (.long (((ia).toInt64) &&& (2147483647 : Int64))), .second, .val (.long (((ib).toInt64) &&& (2147483647 : Int64))), .second, .val (.int (1 : Int32)), .val (.int (1 : Int32)), .val (.long ((ir).toInt64)), .second, .val (.long (((ir).toInt64) + (((ig).toInt64) &&& (2147483647 : Int64)))), .second, .val (.ref b169), .val (.int (0 : Int32)), .val (.int (0 : Int32)), .val (.int (0 : Int32)), .val (.int (0 : Int32)), .val (.long (((ia).toInt64) &&& (2147483647 : Int64))), .second, .unset, .unset, .unset, .unset, .unset, .unset, .unset]) rfl ?_
          refine g_iload cx d0_162 rfl ?_
          refine g_iconst cx d0_164 (v := (1 : Int32)) rfl ?_
          refine g_icmp_ge cx d0_165 (fun hc165 => ?_) (fun q => absurd q (fun q => by revert q; decide))
          refine g_lconst cx d0_179 (v := (0 : Int64)) rfl ?_
          refine g_iload cx d0_180 rfl ?_
          refine g_iconst cx d0_182 (v := (2 : Int32)) rfl ?_
          refine g_icmp_ge cx d0_183 (fun q => absurd q (fun q => by revert q; decide)) (fun hc183 => ?_)
          refine g_iload cx d0_186 rfl ?_
          refine g_iconst cx d0_188 (v := (2 : Int32)) rfl ?_
          refine g_icmp_lt cx d0_189 (fun hc189 => ?_) (fun q => absurd q (fun q => by revert q; decide))
          refine g_lconst cx d0_197 (v := (0 : Int64)) rfl ?_
          refine g_ladd cx d0_198 ?_
          refine G.cast (st' := [(.long (0 : Int64))]) ?_ rfl
          refine g_lstore cx d0_199 (Ls' := #[.val (.int ia), .val (.int ib), .val (.int ic), .val (.int iw), .val (.int ir), .val (.int ig), .val (.long (((ia).toInt64) &&& (2147483647 : Int64))), .second, .val (.long (((ib).toInt64) &&& (2147483647 : Int64))), .second, .val (.int (1 : Int32)), .val (.int (1 : Int32)), .val (.long ((ir).toInt64)), .second, .val (.long (((ir).toInt64) + (((ig).toInt64) &&& (2147483647 : Int64)))), .second, .val (.ref b169), .val (.int (0 : Int32)), .val (.int (0 : Int32)), .val (.int (0 : Int32)), .val (.int (0 : Int32)), .val (.long (((ia).toInt64) &&& (2147483647 : Int64))), .second, .val (.long (0 : Int64)), .second, .unset, .unset, .unset, .unset, .unset]) rfl ?_
          refine g_iload cx d0_201 rfl ?_
          refine g_if_le cx d0_203 (fun q => absurd q (fun q => by revert q; decide)) (fun hc203 => ?_)
          refine g_iconst cx d0_206 (v := (1 : Int32)) rfl ?_
          refine g_goto cx d0_207 ?_
          refine g_istore cx d0_211 (Ls' := #[.val (.int ia), .val (.int ib), .val (.int ic), .val (.int iw), .val (.int ir), .val (.int ig), .val (.long (((ia).toInt64) &&& (2147483647 : Int64))), .second, .val (.long (((ib).toInt64) &&& (2147483647 : Int64))), .second, .val (.int (1 : Int32)), .val (.int (1 : Int32)), .val (.long ((ir).toInt64)), .second, .val (.long (((ir).toInt64) + (((ig).toInt64) &&& (2147483647 : Int64)))), .second, .val (.ref b169), .val (.int (0 : Int32)), .val (.int (0 : Int32)), .val (.int (0 : Int32)), .val (.int (0 : Int32)), .val (.long (((ia).toInt64) &&& (2147483647 : Int64))), .second, .val (.long (0 : Int64)), .second, .val (.int (1 : Int32)), .unset, .unset, .unset, .unset]) rfl ?_
          refine g_iload cx d0_213 rfl ?_
          refine g_iload cx d0_215 rfl ?_
          refine g_icmp_le cx d0_217 (fun hc217 => ?_) (fun q => absurd q (fun q => by revert q; decide))
          refine g_iconst cx d0_224 (v := (0 : Int32)) rfl ?_
          refine g_istore cx d0_225 (Ls' := #[.val (.int ia), .val (.int ib), .val (.int ic), .val (.int iw), .val (.int ir), .val (.int ig), .val (.long (((ia).toInt64) &&& (2147483647 : Int64))), .second, .val (.long (((ib).toInt64) &&& (2147483647 : Int64))), .second, .val (.int (1 : Int32)), .val (.int (1 : Int32)), .val (.long ((ir).toInt64)), .second, .val (.long (((ir).toInt64) + (((ig).toInt64) &&& (2147483647 : Int64)))), .second, .val (.ref b169), .val (.int (0 : Int32)), .val (.int (0 : Int32)), .val (.int (0 : Int32)), .val (.int (0 : Int32)), .val (.long (((ia).toInt64) &&& (2147483647 : Int64))), .second, .val (.long (0 : Int64)), .second, .val (.int (1 : Int32)), .val (.int (0 : Int32)), .unset, .unset, .unset]) rfl ?_
          refine g_iload cx d0_227 rfl ?_
          refine g_if_eq cx d0_229 (fun q => absurd q (fun q => by revert q; decide)) (fun hc229 => ?_)
          refine g_iload cx d0_232 rfl ?_
          refine g_if_eq cx d0_234 (fun hc234 => ?_) (fun q => absurd q (fun q => by revert q; decide))
          refine g_iconst cx d0_253 (v := (0 : Int32)) rfl ?_
          refine g_istore cx d0_254 (Ls' := #[.val (.int ia), .val (.int ib), .val (.int ic), .val (.int iw), .val (.int ir), .val (.int ig), .val (.long (((ia).toInt64) &&& (2147483647 : Int64))), .second, .val (.long (((ib).toInt64) &&& (2147483647 : Int64))), .second, .val (.int (1 : Int32)), .val (.int (1 : Int32)), .val (.long ((ir).toInt64)), .second, .val (.long (((ir).toInt64) + (((ig).toInt64) &&& (2147483647 : Int64)))), .second, .val (.ref b169), .val (.int (0 : Int32)), .val (.int (0 : Int32)), .val (.int (0 : Int32)), .val (.int (0 : Int32)), .val (.long (((ia).toInt64) &&& (2147483647 : Int64))), .second, .val (.long (0 : Int64)), .second, .val (.int (1 : Int32)), .val (.int (0 : Int32)), .val (.int (0 : Int32)), .unset, .unset]) rfl ?_
          refine g_iload cx d0_256 rfl ?_
          refine g_if_eq cx d0_258 (fun q => absurd q (fun q => by revert q; decide)) (fun hc258 => ?_)
          refine g_iload cx d0_261 rfl ?_
          refine g_if_ne cx d0_263 (fun q => absurd q (fun q => by revert q; decide)) (fun hc263 => ?_)
          refine g_lload cx d0_266 rfl ?_
          refine g_goto cx d0_268 ?_
          refine g_iload cx d0_272 rfl ?_
          refine g_if_eq cx d0_274 (fun hc274 => ?_) (fun q => absurd q (fun q => by revert q; decide))
          refine g_lconst cx d0_282 (v := (0 : Int64)) rfl ?_
          refine g_ladd cx d0_283 ?_
          rw [Int64.add_zero]
          refine g_lstore cx d0_284 (Ls' := #[.val (.int ia), .val (.int ib), .val (.int ic), .val (.int iw), .val (.int ir), .val (.int ig), .val (.long (((ia).toInt64) &&& (2147483647 : Int64))), .second, .val (.long (((ib).toInt64) &&& (2147483647 : Int64))), .second, .val (.int (1 : Int32)), .val (.int (1 : Int32)), .val (.long ((ir).toInt64)), .second, .val (.long (((ir).toInt64) + (((ig).toInt64) &&& (2147483647 : Int64)))), .second, .val (.ref b169), .val (.int (0 : Int32)), .val (.int (0 : Int32)), .val (.int (0 : Int32)), .val (.int (0 : Int32)), .val (.long (((ia).toInt64) &&& (2147483647 : Int64))), .second, .val (.long (0 : Int64)), .second, .val (.int (1 : Int32)), .val (.int (0 : Int32)), .val (.int (0 : Int32)), .val (.long (((ia).toInt64) &&& (2147483647 : Int64))), .second]) rfl ?_
          refine g_iload cx d0_286 rfl ?_
          refine g_if_ne cx d0_288 (fun q => absurd q (fun q => by revert q; decide)) (fun hc288 => ?_)
          refine g_iload cx d0_291 rfl ?_
          refine g_if_ne cx d0_293 (fun q => absurd q (fun q => by revert q; decide)) (fun hc293 => ?_)
          refine g_iload cx d0_296 rfl ?_
          refine g_lload cx d0_298 rfl ?_
          refine g_lconst cx d0_300 (v := (0 : Int64)) rfl ?_
          refine g_lif_le cx d0_301 d0_302 (fun hc302 => ?_) (fun q => absurd q (fun q => hq220 q))
          refine g_iconst cx d0_309 (v := (0 : Int32)) rfl ?_
          refine g_icmp_ne cx d0_310 (fun q => absurd q (fun q => by revert q; decide)) (fun hc310 => ?_)
          refine g_iload cx d0_313 rfl ?_
          refine g_lload cx d0_315 rfl ?_
          refine g_lconst cx d0_317 (v := (0 : Int64)) rfl ?_
          refine g_lif_le cx d0_318 d0_319 (fun hc319 => ?_) (fun q => absurd q (fun q => hc302 q))
          refine g_iconst cx d0_326 (v := (0 : Int32)) rfl ?_
          refine g_icmp_ne cx d0_327 (fun q => absurd q (fun q => by revert q; decide)) (fun hc327 => ?_)
          refine g_iconst cx d0_330 (v := (1 : Int32)) rfl ?_
          refine g_goto cx d0_331 ?_
          refine g_retZ cx d0_335 rfl rfl (by decide) (by decide) ?_
          rfl
        · refine G.cast (st' := [(.int (1 : Int32))]) ?_ rfl
          refine g_istore cx d0_133 (Ls' := #[.val (.int ia), .val (.int ib), .val (.int ic), .val (.int iw), .val (.int ir), .val (.int ig), .val (.long (((ia).toInt64) &&& (2147483647 : Int64))), .second, .val (.long (((ib).toInt64) &&& (2147483647 : Int64))), .second, .val (.int (1 : Int32)), .val (.int (1 : Int32)), .val (.long ((ir).toInt64)), .second, .val (.long (((ir).toInt64) + (((ig).toInt64) &&& (2147483647 : Int64)))), .second, .val (.ref b169), .val (.int (0 : Int32)), .val (.int (0 : Int32)), .val (.int (0 : Int32)), .val (.int (1 : Int32)), .unset, .unset, .unset, .unset, .unset, .unset, .unset, .unset, .unset]) rfl ?_
          refine g_iload cx d0_135 rfl ?_
          refine g_iconst cx d0_137 (v := (1 : Int32)) rfl ?_
          refine g_icmp_lt cx d0_138 (fun q => absurd q (fun q => by revert q; decide)) (fun hc138 => ?_)
          refine g_lload cx d0_141 rfl ?_
          refine g_goto cx d0_143 ?_
          refine g_iload cx d0_147 rfl ?_
          refine g_iconst cx d0_149 (v := (2 : Int32)) rfl ?_
          refine g_icmp_lt cx d0_150 (fun hc150 => ?_) (fun q => absurd q (fun q => by revert q; decide))
          refine g_lconst cx d0_158 (v := (0 : Int64)) rfl ?_
          refine g_ladd cx d0_159 ?_
          rw [Int64.add_zero]
          refine g_lstore cx d0_160 (Ls' := #[.val (.int ia), .val (.int ib), .val (.int ic), .val (.int iw), .val (.int ir), .val (.int ig), .val (.long (((ia).toInt64) &&& (2147483647 : Int64))), .second, .val (.long (((ib).toInt64) &&& (2147483647 : Int64))), .second, .val (.int (1 : Int32)), .val (.int (1 : Int32)), .val (.long ((ir).toInt64)), .second, .val (.long (((ir).toInt64) + (((ig).toInt64) &&& (2147483647 : Int64)))), .second, .val (.ref b169), .val (.int (0 : Int32)), .val (.int (0 : Int32)), .val (.int (0 : Int32)), .val (.int (1 : Int32)), .val (.long (((ia).toInt64) &&& (2147483647 : Int64))), .second, .unset, .unset, .unset, .unset, .unset, .unset, .unset]) rfl ?_
          refine g_iload cx d0_162 rfl ?_
          refine g_iconst cx d0_164 (v := (1 : Int32)) rfl ?_
          refine g_icmp_ge cx d0_165 (fun hc165 => ?_) (fun q => absurd q (fun q => by revert q; decide))
          refine g_lconst cx d0_179 (v := (0 : Int64)) rfl ?_
          refine g_iload cx d0_180 rfl ?_
          refine g_iconst cx d0_182 (v := (2 : Int32)) rfl ?_
          refine g_icmp_ge cx d0_183 (fun q => absurd q (fun q => by revert q; decide)) (fun hc183 => ?_)
          refine g_iload cx d0_186 rfl ?_
          refine g_iconst cx d0_188 (v := (2 : Int32)) rfl ?_
          refine g_icmp_lt cx d0_189 (fun hc189 => ?_) (fun q => absurd q (fun q => by revert q; decide))
          refine g_lconst cx d0_197 (v := (0 : Int64)) rfl ?_
          refine g_ladd cx d0_198 ?_
          refine G.cast (st' := [(.long (0 : Int64))]) ?_ rfl
          refine g_lstore cx d0_199 (Ls' := #[.val (.int ia), .val (.int ib), .val (.int ic), .val (.int iw), .val (.int ir), .val (.int ig), .val (.long (((ia).toInt64) &&& (2147483647 : Int64))), .second, .val (.long (((ib).toInt64) &&& (2147483647 : Int64))), .second, .val (.int (1 : Int32)), .val (.int (1 : Int32)), .val (.long ((ir).toInt64)), .second, .val (.long (((ir).toInt64) + (((ig).toInt64) &&& (2147483647 : Int64)))), .second, .val (.ref b169), .val (.int (0 : Int32)), .val (.int (0 : Int32)), .val (.int (0 : Int32)), .val (.int (1 : Int32)), .val (.long (((ia).toInt64) &&& (2147483647 : Int64))), .second, .val (.long (0 : Int64)), .second, .unset, .unset, .unset, .unset, .unset]) rfl ?_
          refine g_iload cx d0_201 rfl ?_
          refine g_if_le cx d0_203 (fun q => absurd q (fun q => by revert q; decide)) (fun hc203 => ?_)
          refine g_iconst cx d0_206 (v := (1 : Int32)) rfl ?_
          refine g_goto cx d0_207 ?_
          refine g_istore cx d0_211 (Ls' := #[.val (.int ia), .val (.int ib), .val (.int ic), .val (.int iw), .val (.int ir), .val (.int ig), .val (.long (((ia).toInt64) &&& (2147483647 : Int64))), .second, .val (.long (((ib).toInt64) &&& (2147483647 : Int64))), .second, .val (.int (1 : Int32)), .val (.int (1 : Int32)), .val (.long ((ir).toInt64)), .second, .val (.long (((ir).toInt64) + (((ig).toInt64) &&& (2147483647 : Int64)))), .second, .val (.ref b169), .val (.int (0 : Int32)), .val (.int (0 : Int32)), .val (.int (0 : Int32)), .val (.int (1 : Int32)), .val (.long (((ia).toInt64) &&& (2147483647 : Int64))), .second, .val (.long (0 : Int64)), .second, .val (.int (1 : Int32)), .unset, .unset, .unset, .unset]) rfl ?_
          refine g_iload cx d0_213 rfl ?_
          refine g_iload cx d0_215 rfl ?_
          refine g_icmp_le cx d0_217 (fun hc217 => ?_) (fun q => absurd q (fun q => by revert q; decide))
          refine g_iconst cx d0_224 (v := (0 : Int32)) rfl ?_
          refine g_istore cx d0_225 (Ls' := #[.val (.int ia), .val (.int ib), .val (.int ic), .val (.int iw), .val (.int ir), .val (.int ig), .val (.long (((ia).toInt64) &&& (2147483647 : Int64))), .second, .val (.long (((ib).toInt64) &&& (2147483647 : Int64))), .second, .val (.int (1 : Int32)), .val (.int (1 : Int32)), .val (.long ((ir).toInt64)), .second, .val (.long (((ir).toInt64) + (((ig).toInt64) &&& (2147483647 : Int64)))), .second, .val (.ref b169), .val (.int (0 : Int32)), .val (.int (0 : Int32)), .val (.int (0 : Int32)), .val (.int (1 : Int32)), .val (.long (((ia).toInt64) &&& (2147483647 : Int64))), .second, .val (.long (0 : Int64)), .second, .val (.int (1 : Int32)), .val (.int (0 : Int32)), .unset, .unset, .unset]) rfl ?_
          refine g_iload cx d0_227 rfl ?_
          refine g_if_eq cx d0_229 (fun q => absurd q (fun q => by revert q; decide)) (fun hc229 => ?_)
          refine g_iload cx d0_232 rfl ?_
          refine g_if_eq cx d0_234 (fun hc234 => ?_) (fun q => absurd q (fun q => by revert q; decide))
          refine g_iconst cx d0_253 (v := (0 : Int32)) rfl ?_
          refine g_istore cx d0_254 (Ls' := #[.val (.int ia), .val (.int ib), .val (.int ic), .val (.int iw), .val (.int ir), .val (.int ig), .val (.long (((ia).toInt64) &&& (2147483647 : Int64))), .second, .val (.long (((ib).toInt64) &&& (2147483647 : Int64))), .second, .val (.int (1 : Int32)), .val (.int (1 : Int32)), .val (.long ((ir).toInt64)), .second, .val (.long (((ir).toInt64) + (((ig).toInt64) &&& (2147483647 : Int64)))), .second, .val (.ref b169), .val (.int (0 : Int32)), .val (.int (0 : Int32)), .val (.int (0 : Int32)), .val (.int (1 : Int32)), .val (.long (((ia).toInt64) &&& (2147483647 : Int64))), .second, .val (.long (0 : Int64)), .second, .val (.int (1 : Int32)), .val (.int (0 : Int32)), .val (.int (0 : Int32)), .unset, .unset]) rfl ?_
          refine g_iload cx d0_256 rfl ?_
          refine g_if_eq cx d0_258 (fun q => absurd q (fun q => by revert q; decide)) (fun hc258 => ?_)
          refine g_iload cx d0_261 rfl ?_
          refine g_if_ne cx d0_263 (fun q => absurd q (fun q => by revert q; decide)) (fun hc263 => ?_)
          refine g_lload cx d0_266 rfl ?_
          refine g_goto cx d0_268 ?_
          refine g_iload cx d0_272 rfl ?_
          refine g_if_eq cx d0_274 (fun hc274 => ?_) (fun q => absurd q (fun q => by revert q; decide))
          refine g_lconst cx d0_282 (v := (0 : Int64)) rfl ?_
          refine g_ladd cx d0_283 ?_
          rw [Int64.add_zero]
          refine g_lstore cx d0_284 (Ls' := #[.val (.int ia), .val (.int ib), .val (.int ic), .val (.int iw), .val (.int ir), .val (.int ig), .val (.long (((ia).toInt64) &&& (2147483647 : Int64))), .second, .val (.long (((ib).toInt64) &&& (2147483647 : Int64))), .second, .val (.int (1 : Int32)), .val (.int (1 : Int32)), .val (.long ((ir).toInt64)), .second, .val (.long (((ir).toInt64) + (((ig).toInt64) &&& (2147483647 : Int64)))), .second, .val (.ref b169), .val (.int (0 : Int32)), .val (.int (0 : Int32)), .val (.int (0 : Int32)), .val (.int (1 : Int32)), .val (.long (((ia).toInt64) &&& (2147483647 : Int64))), .second, .val (.long (0 : Int64)), .second, .val (.int (1 : Int32)), .val (.int (0 : Int32)), .val (.int (0 : Int32)), .val (.long (((ia).toInt64) &&& (2147483647 : Int64))), .second]) rfl ?_
          refine g_iload cx d0_286 rfl ?_
          refine g_if_ne cx d0_288 (fun q => absurd q (fun q => by revert q; decide)) (fun hc288 => ?_)
          refine g_iload cx d0_291 rfl ?_
          refine g_if_ne cx d0_293 (fun q => absurd q (fun q => by revert q; decide)) (fun hc293 => ?_)
          refine g_iload cx d0_296 rfl ?_
          refine g_lload cx d0_298 rfl ?_
          refine g_lconst cx d0_300 (v := (0 : Int64)) rfl ?_
          refine g_lif_le cx d0_301 d0_302 (fun q => absurd q (fun q => q hq222)) (fun hc302 => ?_)
          refine g_iconst cx d0_305 (v := (1 : Int32)) rfl ?_
          refine g_goto cx d0_306 ?_
          refine g_icmp_ne cx d0_310 (fun hc310 => ?_) (fun q => absurd q (fun q => by revert q; decide))
          refine g_iconst cx d0_334 (v := (0 : Int32)) rfl ?_
          refine g_retZ cx d0_335 rfl rfl (by decide) (by decide) ?_
          exfalso
          have i_hs1 : (((ic &&& (255 : Int32)) % (3 : Int32))).toInt = ((1 : Int32)).toInt := congrArg Int32.toInt hs1
          have i_hs167 : ((((((ic).toUInt32 >>> ((8 : Int32) &&& 31).toUInt32).toInt32) &&& (255 : Int32)) % (2 : Int32))).toInt = ((0 : Int32)).toInt := congrArg Int32.toInt hs167
          have i_hq209 : ¬ ((0 : Int64)).toInt < ((((ia).toInt64) &&& (2147483647 : Int64))).toInt := fun z => hq209 (Int64.lt_iff_toInt_lt.mpr z)
          have i_hq222 : ((0 : Int64)).toInt < ((((ia).toInt64) &&& (2147483647 : Int64))).toInt := Int64.lt_iff_toInt_lt.mp hq222
          have i_hc138 : ¬ ((1 : Int32)).toInt < ((1 : Int32)).toInt := fun z => hc138 (Int32.lt_iff_toInt_lt.mpr z)
          have i_hc150 : ((1 : Int32)).toInt < ((2 : Int32)).toInt := Int32.lt_iff_toInt_lt.mp hc150
          have i_hc165 : ¬ ((1 : Int32)).toInt < ((1 : Int32)).toInt := fun z => hc165 (Int32.lt_iff_toInt_lt.mpr z)
          have i_hc183 : ((1 : Int32)).toInt < ((2 : Int32)).toInt := Int32.lt_iff_toInt_lt.mp hc183
          have i_hc189 : ((1 : Int32)).toInt < ((2 : Int32)).toInt := Int32.lt_iff_toInt_lt.mp hc189
          have i_hc203 : ((0 : Int32)).toInt < ((1 : Int32)).toInt := Int32.lt_iff_toInt_lt.mp hc203
          have i_hc217 : ¬ ((1 : Int32)).toInt < ((1 : Int32)).toInt := fun z => hc217 (Int32.lt_iff_toInt_lt.mpr z)
          have i_hc229 : ¬ ((1 : Int32)).toInt = ((0 : Int32)).toInt := fun z => hc229 (Int32.toInt_inj.mp z)
          have i_hc234 : ((0 : Int32)).toInt = ((0 : Int32)).toInt := congrArg Int32.toInt hc234
          have i_hc258 : ¬ ((1 : Int32)).toInt = ((0 : Int32)).toInt := fun z => hc258 (Int32.toInt_inj.mp z)
          have i_hc263 : ((0 : Int32)).toInt = ((0 : Int32)).toInt := congrArg Int32.toInt hc263
          have i_hc274 : ((0 : Int32)).toInt = ((0 : Int32)).toInt := congrArg Int32.toInt hc274
          have i_hc288 : ((0 : Int32)).toInt = ((0 : Int32)).toInt := congrArg Int32.toInt hc288
          have i_hc293 : ((0 : Int32)).toInt = ((0 : Int32)).toInt := congrArg Int32.toInt hc293
          have i_hc302 : ((0 : Int64)).toInt < ((((ia).toInt64) &&& (2147483647 : Int64))).toInt := Int64.lt_iff_toInt_lt.mp hc302
          have i_hc310 : ¬ ((0 : Int32)).toInt = ((1 : Int32)).toInt := fun z => hc310 (Int32.toInt_inj.mp z)
          have r3 := rng32 ic
          have e2 : ((ic &&& (255 : Int32))).toInt = (ic).toInt % 256 := c_mask ic (255 : Int32) 8 (by decide) (by decide)
          have e1 : (0 ≤ ((ic &&& (255 : Int32))).toInt → (((ic &&& (255 : Int32)) % (3 : Int32))).toInt = ((ic &&& (255 : Int32))).toInt % 3) ∧ (((ic &&& (255 : Int32))).toInt < 0 → (((ic &&& (255 : Int32)) % (3 : Int32))).toInt = -((-((ic &&& (255 : Int32))).toInt) % 3)) := c_irem (ic &&& (255 : Int32)) (3 : Int32) 3 rfl
          have e4 : (1 : Int32).toInt = 1 := rfl
          have e7 : ((((ic).toUInt32 >>> ((8 : Int32) &&& 31).toUInt32).toInt32)).toInt = ((ic).toInt % 4294967296) / 256 := c_iushr ic (8 : Int32) 8 (by decide) (by decide)
          have e6 : (((((ic).toUInt32 >>> ((8 : Int32) &&& 31).toUInt32).toInt32) &&& (255 : Int32))).toInt = ((((ic).toUInt32 >>> ((8 : Int32) &&& 31).toUInt32).toInt32)).toInt % 256 := c_mask (((ic).toUInt32 >>> ((8 : Int32) &&& 31).toUInt32).toInt32) (255 : Int32) 8 (by decide) (by decide)
          have e5 : (0 ≤ (((((ic).toUInt32 >>> ((8 : Int32) &&& 31).toUInt32).toInt32) &&& (255 : Int32))).toInt → ((((((ic).toUInt32 >>> ((8 : Int32) &&& 31).toUInt32).toInt32) &&& (255 : Int32)) % (2 : Int32))).toInt = (((((ic).toUInt32 >>> ((8 : Int32) &&& 31).toUInt32).toInt32) &&& (255 : Int32))).toInt % 2) ∧ ((((((ic).toUInt32 >>> ((8 : Int32) &&& 31).toUInt32).toInt32) &&& (255 : Int32))).toInt < 0 → ((((((ic).toUInt32 >>> ((8 : Int32) &&& 31).toUInt32).toInt32) &&& (255 : Int32)) % (2 : Int32))).toInt = -((-(((((ic).toUInt32 >>> ((8 : Int32) &&& 31).toUInt32).toInt32) &&& (255 : Int32))).toInt) % 2)) := c_irem ((((ic).toUInt32 >>> ((8 : Int32) &&& 31).toUInt32).toInt32) &&& (255 : Int32)) (2 : Int32) 2 rfl
          have e8 : (0 : Int32).toInt = 0 := rfl
          have e9 : (0 : Int64).toInt = 0 := rfl
          have r12 := rng32 ia
          have e11 := c_i2l ia
          have e10 : ((((ia).toInt64) &&& (2147483647 : Int64))).toInt = (((ia).toInt64)).toInt % 2147483648 := c_maskL ((ia).toInt64) (2147483647 : Int64) 31 (by decide) (by decide)
          have e13 : (2 : Int32).toInt = 2 := rfl
          omega
      · refine G.cast (st' := [(.int (1 : Int32))]) ?_ rfl
        refine g_istore cx d0_116 (Ls' := #[.val (.int ia), .val (.int ib), .val (.int ic), .val (.int iw), .val (.int ir), .val (.int ig), .val (.long (((ia).toInt64) &&& (2147483647 : Int64))), .second, .val (.long (((ib).toInt64) &&& (2147483647 : Int64))), .second, .val (.int (1 : Int32)), .val (.int (1 : Int32)), .val (.long ((ir).toInt64)), .second, .val (.long (((ir).toInt64) + (((ig).toInt64) &&& (2147483647 : Int64)))), .second, .val (.ref b169), .val (.int (0 : Int32)), .val (.int (0 : Int32)), .val (.int (1 : Int32)), .unset, .unset, .unset, .unset, .unset, .unset, .unset, .unset, .unset, .unset]) rfl ?_
        refine g_aload cx d0_118 rfl rfl ?_
        refine g_iload cx d0_120 rfl ?_
        refine g_i2l cx d0_122 ?_
        refine G.cast (st' := [(.long (1 : Int64)), (.ref b169)]) ?_ rfl
        refine g_lload cx d0_123 rfl ?_
        refine g_virtual cx (y := (⟨"com/example/thalweg/thalweg/node/Pace", "taken", "(JJ)V"⟩ : MethodName)) (z := (⟨"com/example/thalweg/thalweg/node/Pace", "taken", "(JJ)V"⟩ : MethodName)) (a := b169) d0_125 (hw _ (List.mem_of_getElem? (i := 68) rfl)) (hw _ (List.mem_of_getElem? (i := 69) rfl)) (hw _ (List.mem_of_getElem? (i := 3) rfl)) (hw _ (List.mem_of_getElem? (i := 72) rfl)) (hw _ (List.mem_of_getElem? (i := 71) rfl)) (hw _ (List.mem_of_getElem? (i := 70) rfl)) rfl (by decide) O_b169.1 (bytes := prog_54_method_3_code) (maxL' := 10) (M := (ra32 l Z a0 hw  b169 b174 b175 b194 b176 b177 b204 (((ib).toInt64) &&& (2147483647 : Int64)) ((iw).toInt64) ((ir).toInt64) (((ia).toInt64) &&& (2147483647 : Int64)) (own_max (1 : Int64) (((ir).toInt64) - ((iw).toInt64))) (((ir).toInt64) - ((iw).toInt64)) (((((ia).toInt64) &&& (2147483647 : Int64)) + (((ib).toInt64) &&& (2147483647 : Int64))) - (((ia).toInt64) &&& (2147483647 : Int64))) (((ir).toInt64) + (((ig).toInt64) &&& (2147483647 : Int64))) cA178 cA195 cA179 _ O_b169 O_b174 O_b176 O_b204 A_b175 A_b194 A_b177 OV_b175 OV_b177 ne_b169_b174 ne_b169_b175 ne_b174_b175 ne_b169_b194 ne_b174_b194 ne_b175_b194 ne_b169_b176 ne_b174_b176 ne_b175_b176 (Ne.symm ne_b176_b194) ne_b169_b177 ne_b174_b177 ne_b175_b177 (Ne.symm ne_b177_b194) ne_b176_b177 ne_b169_b204 ne_b174_b204 ne_b175_b204 ne_b194_b204 ne_b176_b204 ne_b177_b204 g_b169 g_b174 g_b175 g_b194 g_b176 g_b177 g_b204 OL)) rfl (lenOf pd_4 rfl) (by decide) (W := 0) (Nat.le_of_eq rfl) (by decide) (k' := 8) (n' := 56) rfl rfl (by decide) (by decide) (argsL := [(.long (1 : Int64)), (.long (((ir).toInt64) + (((ig).toInt64) &&& (2147483647 : Int64))))]) (rest := []) rfl (fun v229 h228 q230 => ?_)
        obtain ⟨rfl, rfl⟩ := q230
        refine G.cast (st' := []) ?_ rfl
        refine g_aload cx d0_128 rfl rfl ?_
        refine g_virtual cx (y := (⟨"com/example/thalweg/thalweg/node/Pace", "known", "()Z"⟩ : MethodName)) (z := (⟨"com/example/thalweg/thalweg/node/Pace", "known", "()Z"⟩ : MethodName)) (a := b169) d0_130 (hw _ (List.mem_of_getElem? (i := 31) rfl)) (hw _ (List.mem_of_getElem? (i := 32) rfl)) (hw _ (List.mem_of_getElem? (i := 3) rfl)) (hw _ (List.mem_of_getElem? (i := 35) rfl)) (hw _ (List.mem_of_getElem? (i := 34) rfl)) (hw _ (List.mem_of_getElem? (i := 33) rfl)) rfl (by decide) O_b169.1 (bytes := prog_54_method_5_code) (maxL' := 1) (M := (ra25 l Z a0 hw  b169 b174 b175 b194 b176 b177 b204 (((ib).toInt64) &&& (2147483647 : Int64)) ((iw).toInt64) ((ir).toInt64) (((ia).toInt64) &&& (2147483647 : Int64)) (own_max (1 : Int64) (((ir).toInt64) - ((iw).toInt64))) (((ir).toInt64) - ((iw).toInt64)) (((((ia).toInt64) &&& (2147483647 : Int64)) + (((ib).toInt64) &&& (2147483647 : Int64))) - (((ia).toInt64) &&& (2147483647 : Int64))) cA178 cA195 cA179 _ O_b169 O_b174 O_b176 O_b204 A_b175 A_b194 A_b177 OV_b175 OV_b177 ne_b169_b174 ne_b169_b175 ne_b174_b175 ne_b169_b194 ne_b174_b194 ne_b175_b194 ne_b169_b176 ne_b174_b176 ne_b175_b176 (Ne.symm ne_b176_b194) ne_b169_b177 ne_b174_b177 ne_b175_b177 (Ne.symm ne_b177_b194) ne_b176_b177 ne_b169_b204 ne_b174_b204 ne_b175_b204 ne_b194_b204 ne_b176_b204 ne_b177_b204 g_b169 g_b174 g_b175 g_b194 g_b176 g_b177 g_b204 OL)) rfl (lenOf pd_1 rfl) (by decide) (W := 0) (Nat.le_of_eq rfl) (by decide) (k' := 8) (n' := 56) rfl rfl (by decide) (by decide) (argsL := []) (rest := []) rfl (fun v236 h235 q237 => ?_)
        rcases q237 with ⟨hq231, rfl, rfl⟩ | ⟨hq233, rfl, rfl⟩
        · refine G.cast (st' := [(.int (0 : Int32))]) ?_ rfl
          refine g_istore cx d0_133 (Ls' := #[.val (.int ia), .val (.int ib), .val (.int ic), .val (.int iw), .val (.int ir), .val (.int ig), .val (.long (((ia).toInt64) &&& (2147483647 : Int64))), .second, .val (.long (((ib).toInt64) &&& (2147483647 : Int64))), .second, .val (.int (1 : Int32)), .val (.int (1 : Int32)), .val (.long ((ir).toInt64)), .second, .val (.long (((ir).toInt64) + (((ig).toInt64) &&& (2147483647 : Int64)))), .second, .val (.ref b169), .val (.int (0 : Int32)), .val (.int (0 : Int32)), .val (.int (1 : Int32)), .val (.int (0 : Int32)), .unset, .unset, .unset, .unset, .unset, .unset, .unset, .unset, .unset]) rfl ?_
          refine g_iload cx d0_135 rfl ?_
          refine g_iconst cx d0_137 (v := (1 : Int32)) rfl ?_
          refine g_icmp_lt cx d0_138 (fun q => absurd q (fun q => by revert q; decide)) (fun hc138 => ?_)
          refine g_lload cx d0_141 rfl ?_
          refine g_goto cx d0_143 ?_
          refine g_iload cx d0_147 rfl ?_
          refine g_iconst cx d0_149 (v := (2 : Int32)) rfl ?_
          refine g_icmp_lt cx d0_150 (fun hc150 => ?_) (fun q => absurd q (fun q => by revert q; decide))
          refine g_lconst cx d0_158 (v := (0 : Int64)) rfl ?_
          refine g_ladd cx d0_159 ?_
          rw [Int64.add_zero]
          refine g_lstore cx d0_160 (Ls' := #[.val (.int ia), .val (.int ib), .val (.int ic), .val (.int iw), .val (.int ir), .val (.int ig), .val (.long (((ia).toInt64) &&& (2147483647 : Int64))), .second, .val (.long (((ib).toInt64) &&& (2147483647 : Int64))), .second, .val (.int (1 : Int32)), .val (.int (1 : Int32)), .val (.long ((ir).toInt64)), .second, .val (.long (((ir).toInt64) + (((ig).toInt64) &&& (2147483647 : Int64)))), .second, .val (.ref b169), .val (.int (0 : Int32)), .val (.int (0 : Int32)), .val (.int (1 : Int32)), .val (.int (0 : Int32)), .val (.long (((ia).toInt64) &&& (2147483647 : Int64))), .second, .unset, .unset, .unset, .unset, .unset, .unset, .unset]) rfl ?_
          refine g_iload cx d0_162 rfl ?_
          refine g_iconst cx d0_164 (v := (1 : Int32)) rfl ?_
          refine g_icmp_ge cx d0_165 (fun hc165 => ?_) (fun q => absurd q (fun q => by revert q; decide))
          refine g_lconst cx d0_179 (v := (0 : Int64)) rfl ?_
          refine g_iload cx d0_180 rfl ?_
          refine g_iconst cx d0_182 (v := (2 : Int32)) rfl ?_
          refine g_icmp_ge cx d0_183 (fun q => absurd q (fun q => by revert q; decide)) (fun hc183 => ?_)
          refine g_iload cx d0_186 rfl ?_
          refine g_iconst cx d0_188 (v := (2 : Int32)) rfl ?_
          refine g_icmp_lt cx d0_189 (fun hc189 => ?_) (fun q => absurd q (fun q => by revert q; decide))
          refine g_lconst cx d0_197 (v := (0 : Int64)) rfl ?_
          refine g_ladd cx d0_198 ?_
          refine G.cast (st' := [(.long (0 : Int64))]) ?_ rfl
          refine g_lstore cx d0_199 (Ls' := #[.val (.int ia), .val (.int ib), .val (.int ic), .val (.int iw), .val (.int ir), .val (.int ig), .val (.long (((ia).toInt64) &&& (2147483647 : Int64))), .second, .val (.long (((ib).toInt64) &&& (2147483647 : Int64))), .second, .val (.int (1 : Int32)), .val (.int (1 : Int32)), .val (.long ((ir).toInt64)), .second, .val (.long (((ir).toInt64) + (((ig).toInt64) &&& (2147483647 : Int64)))), .second, .val (.ref b169), .val (.int (0 : Int32)), .val (.int (0 : Int32)), .val (.int (1 : Int32)), .val (.int (0 : Int32)), .val (.long (((ia).toInt64) &&& (2147483647 : Int64))), .second, .val (.long (0 : Int64)), .second, .unset, .unset, .unset, .unset, .unset]) rfl ?_
          refine g_iload cx d0_201 rfl ?_
          refine g_if_le cx d0_203 (fun q => absurd q (fun q => by revert q; decide)) (fun hc203 => ?_)
          refine g_iconst cx d0_206 (v := (1 : Int32)) rfl ?_
          refine g_goto cx d0_207 ?_
          refine g_istore cx d0_211 (Ls' := #[.val (.int ia), .val (.int ib), .val (.int ic), .val (.int iw), .val (.int ir), .val (.int ig), .val (.long (((ia).toInt64) &&& (2147483647 : Int64))), .second, .val (.long (((ib).toInt64) &&& (2147483647 : Int64))), .second, .val (.int (1 : Int32)), .val (.int (1 : Int32)), .val (.long ((ir).toInt64)), .second, .val (.long (((ir).toInt64) + (((ig).toInt64) &&& (2147483647 : Int64)))), .second, .val (.ref b169), .val (.int (0 : Int32)), .val (.int (0 : Int32)), .val (.int (1 : Int32)), .val (.int (0 : Int32)), .val (.long (((ia).toInt64) &&& (2147483647 : Int64))), .second, .val (.long (0 : Int64)), .second, .val (.int (1 : Int32)), .unset, .unset, .unset, .unset]) rfl ?_
          refine g_iload cx d0_213 rfl ?_
          refine g_iload cx d0_215 rfl ?_
          refine g_icmp_le cx d0_217 (fun hc217 => ?_) (fun q => absurd q (fun q => by revert q; decide))
          refine g_iconst cx d0_224 (v := (0 : Int32)) rfl ?_
          refine g_istore cx d0_225 (Ls' := #[.val (.int ia), .val (.int ib), .val (.int ic), .val (.int iw), .val (.int ir), .val (.int ig), .val (.long (((ia).toInt64) &&& (2147483647 : Int64))), .second, .val (.long (((ib).toInt64) &&& (2147483647 : Int64))), .second, .val (.int (1 : Int32)), .val (.int (1 : Int32)), .val (.long ((ir).toInt64)), .second, .val (.long (((ir).toInt64) + (((ig).toInt64) &&& (2147483647 : Int64)))), .second, .val (.ref b169), .val (.int (0 : Int32)), .val (.int (0 : Int32)), .val (.int (1 : Int32)), .val (.int (0 : Int32)), .val (.long (((ia).toInt64) &&& (2147483647 : Int64))), .second, .val (.long (0 : Int64)), .second, .val (.int (1 : Int32)), .val (.int (0 : Int32)), .unset, .unset, .unset]) rfl ?_
          refine g_iload cx d0_227 rfl ?_
          refine g_if_eq cx d0_229 (fun q => absurd q (fun q => by revert q; decide)) (fun hc229 => ?_)
          refine g_iload cx d0_232 rfl ?_
          refine g_if_eq cx d0_234 (fun hc234 => ?_) (fun q => absurd q (fun q => by revert q; decide))
          refine g_iconst cx d0_253 (v := (0 : Int32)) rfl ?_
          refine g_istore cx d0_254 (Ls' := #[.val (.int ia), .val (.int ib), .val (.int ic), .val (.int iw), .val (.int ir), .val (.int ig), .val (.long (((ia).toInt64) &&& (2147483647 : Int64))), .second, .val (.long (((ib).toInt64) &&& (2147483647 : Int64))), .second, .val (.int (1 : Int32)), .val (.int (1 : Int32)), .val (.long ((ir).toInt64)), .second, .val (.long (((ir).toInt64) + (((ig).toInt64) &&& (2147483647 : Int64)))), .second, .val (.ref b169), .val (.int (0 : Int32)), .val (.int (0 : Int32)), .val (.int (1 : Int32)), .val (.int (0 : Int32)), .val (.long (((ia).toInt64) &&& (2147483647 : Int64))), .second, .val (.long (0 : Int64)), .second, .val (.int (1 : Int32)), .val (.int (0 : Int32)), .val (.int (0 : Int32)), .unset, .unset]) rfl ?_
          refine g_iload cx d0_256 rfl ?_
          refine g_if_eq cx d0_258 (fun q => absurd q (fun q => by revert q; decide)) (fun hc258 => ?_)
          refine g_iload cx d0_261 rfl ?_
          refine g_if_ne cx d0_263 (fun q => absurd q (fun q => by revert q; decide)) (fun hc263 => ?_)
          refine g_lload cx d0_266 rfl ?_
          refine g_goto cx d0_268 ?_
          refine g_iload cx d0_272 rfl ?_
          refine g_if_eq cx d0_274 (fun hc274 => ?_) (fun q => absurd q (fun q => by revert q; decide))
          refine g_lconst cx d0_282 (v := (0 : Int64)) rfl ?_
          refine g_ladd cx d0_283 ?_
          rw [Int64.add_zero]
          refine g_lstore cx d0_284 (Ls' := #[.val (.int ia), .val (.int ib), .val (.int ic), .val (.int iw), .val (.int ir), .val (.int ig), .val (.long (((ia).toInt64) &&& (2147483647 : Int64))), .second, .val (.long (((ib).toInt64) &&& (2147483647 : Int64))), .second, .val (.int (1 : Int32)), .val (.int (1 : Int32)), .val (.long ((ir).toInt64)), .second, .val (.long (((ir).toInt64) + (((ig).toInt64) &&& (2147483647 : Int64)))), .second, .val (.ref b169), .val (.int (0 : Int32)), .val (.int (0 : Int32)), .val (.int (1 : Int32)), .val (.int (0 : Int32)), .val (.long (((ia).toInt64) &&& (2147483647 : Int64))), .second, .val (.long (0 : Int64)), .second, .val (.int (1 : Int32)), .val (.int (0 : Int32)), .val (.int (0 : Int32)), .val (.long (((ia).toInt64) &&& (2147483647 : Int64))), .second]) rfl ?_
          refine g_iload cx d0_286 rfl ?_
          refine g_if_ne cx d0_288 (fun q => absurd q (fun q => by revert q; decide)) (fun hc288 => ?_)
          refine g_iload cx d0_291 rfl ?_
          refine g_if_ne cx d0_293 (fun q => absurd q (fun q => by revert q; decide)) (fun hc293 => ?_)
          refine g_iload cx d0_296 rfl ?_
          refine g_lload cx d0_298 rfl ?_
          refine g_lconst cx d0_300 (v := (0 : Int64)) rfl ?_
          refine g_lif_le cx d0_301 d0_302 (fun hc302 => ?_) (fun q => absurd q (fun q => hq231 q))
          refine g_iconst cx d0_309 (v := (0 : Int32)) rfl ?_
          refine g_icmp_ne cx d0_310 (fun hc310 => ?_) (fun q => absurd q (fun q => by revert q; decide))
          refine g_iconst cx d0_334 (v := (0 : Int32)) rfl ?_
          refine g_retZ cx d0_335 rfl rfl (by decide) (by decide) ?_
          exfalso
          have i_hs1 : (((ic &&& (255 : Int32)) % (3 : Int32))).toInt = ((1 : Int32)).toInt := congrArg Int32.toInt hs1
          have i_hs167 : ((((((ic).toUInt32 >>> ((8 : Int32) &&& 31).toUInt32).toInt32) &&& (255 : Int32)) % (2 : Int32))).toInt = ((0 : Int32)).toInt := congrArg Int32.toInt hs167
          have i_hq211 : ((0 : Int64)).toInt < ((((ia).toInt64) &&& (2147483647 : Int64))).toInt := Int64.lt_iff_toInt_lt.mp hq211
          have i_hq231 : ¬ ((0 : Int64)).toInt < ((((ia).toInt64) &&& (2147483647 : Int64))).toInt := fun z => hq231 (Int64.lt_iff_toInt_lt.mpr z)
          have i_hc138 : ¬ ((1 : Int32)).toInt < ((1 : Int32)).toInt := fun z => hc138 (Int32.lt_iff_toInt_lt.mpr z)
          have i_hc150 : ((1 : Int32)).toInt < ((2 : Int32)).toInt := Int32.lt_iff_toInt_lt.mp hc150
          have i_hc165 : ¬ ((1 : Int32)).toInt < ((1 : Int32)).toInt := fun z => hc165 (Int32.lt_iff_toInt_lt.mpr z)
          have i_hc183 : ((1 : Int32)).toInt < ((2 : Int32)).toInt := Int32.lt_iff_toInt_lt.mp hc183
          have i_hc189 : ((1 : Int32)).toInt < ((2 : Int32)).toInt := Int32.lt_iff_toInt_lt.mp hc189
          have i_hc203 : ((0 : Int32)).toInt < ((1 : Int32)).toInt := Int32.lt_iff_toInt_lt.mp hc203
          have i_hc217 : ¬ ((1 : Int32)).toInt < ((1 : Int32)).toInt := fun z => hc217 (Int32.lt_iff_toInt_lt.mpr z)
          have i_hc229 : ¬ ((1 : Int32)).toInt = ((0 : Int32)).toInt := fun z => hc229 (Int32.toInt_inj.mp z)
          have i_hc234 : ((0 : Int32)).toInt = ((0 : Int32)).toInt := congrArg Int32.toInt hc234
          have i_hc258 : ¬ ((1 : Int32)).toInt = ((0 : Int32)).toInt := fun z => hc258 (Int32.toInt_inj.mp z)
          have i_hc263 : ((0 : Int32)).toInt = ((0 : Int32)).toInt := congrArg Int32.toInt hc263
          have i_hc274 : ((0 : Int32)).toInt = ((0 : Int32)).toInt := congrArg Int32.toInt hc274
          have i_hc288 : ((0 : Int32)).toInt = ((0 : Int32)).toInt := congrArg Int32.toInt hc288
          have i_hc293 : ((0 : Int32)).toInt = ((0 : Int32)).toInt := congrArg Int32.toInt hc293
          have i_hc302 : ¬ ((0 : Int64)).toInt < ((((ia).toInt64) &&& (2147483647 : Int64))).toInt := fun z => hc302 (Int64.lt_iff_toInt_lt.mpr z)
          have i_hc310 : ¬ ((1 : Int32)).toInt = ((0 : Int32)).toInt := fun z => hc310 (Int32.toInt_inj.mp z)
          have r3 := rng32 ic
          have e2 : ((ic &&& (255 : Int32))).toInt = (ic).toInt % 256 := c_mask ic (255 : Int32) 8 (by decide) (by decide)
          have e1 : (0 ≤ ((ic &&& (255 : Int32))).toInt → (((ic &&& (255 : Int32)) % (3 : Int32))).toInt = ((ic &&& (255 : Int32))).toInt % 3) ∧ (((ic &&& (255 : Int32))).toInt < 0 → (((ic &&& (255 : Int32)) % (3 : Int32))).toInt = -((-((ic &&& (255 : Int32))).toInt) % 3)) := c_irem (ic &&& (255 : Int32)) (3 : Int32) 3 rfl
          have e4 : (1 : Int32).toInt = 1 := rfl
          have e7 : ((((ic).toUInt32 >>> ((8 : Int32) &&& 31).toUInt32).toInt32)).toInt = ((ic).toInt % 4294967296) / 256 := c_iushr ic (8 : Int32) 8 (by decide) (by decide)
          have e6 : (((((ic).toUInt32 >>> ((8 : Int32) &&& 31).toUInt32).toInt32) &&& (255 : Int32))).toInt = ((((ic).toUInt32 >>> ((8 : Int32) &&& 31).toUInt32).toInt32)).toInt % 256 := c_mask (((ic).toUInt32 >>> ((8 : Int32) &&& 31).toUInt32).toInt32) (255 : Int32) 8 (by decide) (by decide)
          have e5 : (0 ≤ (((((ic).toUInt32 >>> ((8 : Int32) &&& 31).toUInt32).toInt32) &&& (255 : Int32))).toInt → ((((((ic).toUInt32 >>> ((8 : Int32) &&& 31).toUInt32).toInt32) &&& (255 : Int32)) % (2 : Int32))).toInt = (((((ic).toUInt32 >>> ((8 : Int32) &&& 31).toUInt32).toInt32) &&& (255 : Int32))).toInt % 2) ∧ ((((((ic).toUInt32 >>> ((8 : Int32) &&& 31).toUInt32).toInt32) &&& (255 : Int32))).toInt < 0 → ((((((ic).toUInt32 >>> ((8 : Int32) &&& 31).toUInt32).toInt32) &&& (255 : Int32)) % (2 : Int32))).toInt = -((-(((((ic).toUInt32 >>> ((8 : Int32) &&& 31).toUInt32).toInt32) &&& (255 : Int32))).toInt) % 2)) := c_irem ((((ic).toUInt32 >>> ((8 : Int32) &&& 31).toUInt32).toInt32) &&& (255 : Int32)) (2 : Int32) 2 rfl
          have e8 : (0 : Int32).toInt = 0 := rfl
          have e9 : (0 : Int64).toInt = 0 := rfl
          have r12 := rng32 ia
          have e11 := c_i2l ia
          have e10 : ((((ia).toInt64) &&& (2147483647 : Int64))).toInt = (((ia).toInt64)).toInt % 2147483648 := c_maskL ((ia).toInt64) (2147483647 : Int64) 31 (by decide) (by decide)
          have e13 : (2 : Int32).toInt = 2 := rfl
          omega
        · refine G.cast (st' := [(.int (1 : Int32))]) ?_ rfl
          refine g_istore cx d0_133 (Ls' := #[.val (.int ia), .val (.int ib), .val (.int ic), .val (.int iw), .val (.int ir), .val (.int ig), .val (.long (((ia).toInt64) &&& (2147483647 : Int64))), .second, .val (.long (((ib).toInt64) &&& (2147483647 : Int64))), .second, .val (.int (1 : Int32)), .val (.int (1 : Int32)), .val (.long ((ir).toInt64)), .second, .val (.long (((ir).toInt64) + (((ig).toInt64) &&& (2147483647 : Int64)))), .second, .val (.ref b169), .val (.int (0 : Int32)), .val (.int (0 : Int32)), .val (.int (1 : Int32)), .val (.int (1 : Int32)), .unset, .unset, .unset, .unset, .unset, .unset, .unset, .unset, .unset]) rfl ?_
          refine g_iload cx d0_135 rfl ?_
          refine g_iconst cx d0_137 (v := (1 : Int32)) rfl ?_
          refine g_icmp_lt cx d0_138 (fun q => absurd q (fun q => by revert q; decide)) (fun hc138 => ?_)
          refine g_lload cx d0_141 rfl ?_
          refine g_goto cx d0_143 ?_
          refine g_iload cx d0_147 rfl ?_
          refine g_iconst cx d0_149 (v := (2 : Int32)) rfl ?_
          refine g_icmp_lt cx d0_150 (fun hc150 => ?_) (fun q => absurd q (fun q => by revert q; decide))
          refine g_lconst cx d0_158 (v := (0 : Int64)) rfl ?_
          refine g_ladd cx d0_159 ?_
          rw [Int64.add_zero]
          refine g_lstore cx d0_160 (Ls' := #[.val (.int ia), .val (.int ib), .val (.int ic), .val (.int iw), .val (.int ir), .val (.int ig), .val (.long (((ia).toInt64) &&& (2147483647 : Int64))), .second, .val (.long (((ib).toInt64) &&& (2147483647 : Int64))), .second, .val (.int (1 : Int32)), .val (.int (1 : Int32)), .val (.long ((ir).toInt64)), .second, .val (.long (((ir).toInt64) + (((ig).toInt64) &&& (2147483647 : Int64)))), .second, .val (.ref b169), .val (.int (0 : Int32)), .val (.int (0 : Int32)), .val (.int (1 : Int32)), .val (.int (1 : Int32)), .val (.long (((ia).toInt64) &&& (2147483647 : Int64))), .second, .unset, .unset, .unset, .unset, .unset, .unset, .unset]) rfl ?_
          refine g_iload cx d0_162 rfl ?_
          refine g_iconst cx d0_164 (v := (1 : Int32)) rfl ?_
          refine g_icmp_ge cx d0_165 (fun hc165 => ?_) (fun q => absurd q (fun q => by revert q; decide))
          refine g_lconst cx d0_179 (v := (0 : Int64)) rfl ?_
          refine g_iload cx d0_180 rfl ?_
          refine g_iconst cx d0_182 (v := (2 : Int32)) rfl ?_
          refine g_icmp_ge cx d0_183 (fun q => absurd q (fun q => by revert q; decide)) (fun hc183 => ?_)
          refine g_iload cx d0_186 rfl ?_
          refine g_iconst cx d0_188 (v := (2 : Int32)) rfl ?_
          refine g_icmp_lt cx d0_189 (fun hc189 => ?_) (fun q => absurd q (fun q => by revert q; decide))
          refine g_lconst cx d0_197 (v := (0 : Int64)) rfl ?_
          refine g_ladd cx d0_198 ?_
          refine G.cast (st' := [(.long (0 : Int64))]) ?_ rfl
          refine g_lstore cx d0_199 (Ls' := #[.val (.int ia), .val (.int ib), .val (.int ic), .val (.int iw), .val (.int ir), .val (.int ig), .val (.long (((ia).toInt64) &&& (2147483647 : Int64))), .second, .val (.long (((ib).toInt64) &&& (2147483647 : Int64))), .second, .val (.int (1 : Int32)), .val (.int (1 : Int32)), .val (.long ((ir).toInt64)), .second, .val (.long (((ir).toInt64) + (((ig).toInt64) &&& (2147483647 : Int64)))), .second, .val (.ref b169), .val (.int (0 : Int32)), .val (.int (0 : Int32)), .val (.int (1 : Int32)), .val (.int (1 : Int32)), .val (.long (((ia).toInt64) &&& (2147483647 : Int64))), .second, .val (.long (0 : Int64)), .second, .unset, .unset, .unset, .unset, .unset]) rfl ?_
          refine g_iload cx d0_201 rfl ?_
          refine g_if_le cx d0_203 (fun q => absurd q (fun q => by revert q; decide)) (fun hc203 => ?_)
          refine g_iconst cx d0_206 (v := (1 : Int32)) rfl ?_
          refine g_goto cx d0_207 ?_
          refine g_istore cx d0_211 (Ls' := #[.val (.int ia), .val (.int ib), .val (.int ic), .val (.int iw), .val (.int ir), .val (.int ig), .val (.long (((ia).toInt64) &&& (2147483647 : Int64))), .second, .val (.long (((ib).toInt64) &&& (2147483647 : Int64))), .second, .val (.int (1 : Int32)), .val (.int (1 : Int32)), .val (.long ((ir).toInt64)), .second, .val (.long (((ir).toInt64) + (((ig).toInt64) &&& (2147483647 : Int64)))), .second, .val (.ref b169), .val (.int (0 : Int32)), .val (.int (0 : Int32)), .val (.int (1 : Int32)), .val (.int (1 : Int32)), .val (.long (((ia).toInt64) &&& (2147483647 : Int64))), .second, .val (.long (0 : Int64)), .second, .val (.int (1 : Int32)), .unset, .unset, .unset, .unset]) rfl ?_
          refine g_iload cx d0_213 rfl ?_
          refine g_iload cx d0_215 rfl ?_
          refine g_icmp_le cx d0_217 (fun hc217 => ?_) (fun q => absurd q (fun q => by revert q; decide))
          refine g_iconst cx d0_224 (v := (0 : Int32)) rfl ?_
          refine g_istore cx d0_225 (Ls' := #[.val (.int ia), .val (.int ib), .val (.int ic), .val (.int iw), .val (.int ir), .val (.int ig), .val (.long (((ia).toInt64) &&& (2147483647 : Int64))), .second, .val (.long (((ib).toInt64) &&& (2147483647 : Int64))), .second, .val (.int (1 : Int32)), .val (.int (1 : Int32)), .val (.long ((ir).toInt64)), .second, .val (.long (((ir).toInt64) + (((ig).toInt64) &&& (2147483647 : Int64)))), .second, .val (.ref b169), .val (.int (0 : Int32)), .val (.int (0 : Int32)), .val (.int (1 : Int32)), .val (.int (1 : Int32)), .val (.long (((ia).toInt64) &&& (2147483647 : Int64))), .second, .val (.long (0 : Int64)), .second, .val (.int (1 : Int32)), .val (.int (0 : Int32)), .unset, .unset, .unset]) rfl ?_
          refine g_iload cx d0_227 rfl ?_
          refine g_if_eq cx d0_229 (fun q => absurd q (fun q => by revert q; decide)) (fun hc229 => ?_)
          refine g_iload cx d0_232 rfl ?_
          refine g_if_eq cx d0_234 (fun hc234 => ?_) (fun q => absurd q (fun q => by revert q; decide))
          refine g_iconst cx d0_253 (v := (0 : Int32)) rfl ?_
          refine g_istore cx d0_254 (Ls' := #[.val (.int ia), .val (.int ib), .val (.int ic), .val (.int iw), .val (.int ir), .val (.int ig), .val (.long (((ia).toInt64) &&& (2147483647 : Int64))), .second, .val (.long (((ib).toInt64) &&& (2147483647 : Int64))), .second, .val (.int (1 : Int32)), .val (.int (1 : Int32)), .val (.long ((ir).toInt64)), .second, .val (.long (((ir).toInt64) + (((ig).toInt64) &&& (2147483647 : Int64)))), .second, .val (.ref b169), .val (.int (0 : Int32)), .val (.int (0 : Int32)), .val (.int (1 : Int32)), .val (.int (1 : Int32)), .val (.long (((ia).toInt64) &&& (2147483647 : Int64))), .second, .val (.long (0 : Int64)), .second, .val (.int (1 : Int32)), .val (.int (0 : Int32)), .val (.int (0 : Int32)), .unset, .unset]) rfl ?_
          refine g_iload cx d0_256 rfl ?_
          refine g_if_eq cx d0_258 (fun q => absurd q (fun q => by revert q; decide)) (fun hc258 => ?_)
          refine g_iload cx d0_261 rfl ?_
          refine g_if_ne cx d0_263 (fun q => absurd q (fun q => by revert q; decide)) (fun hc263 => ?_)
          refine g_lload cx d0_266 rfl ?_
          refine g_goto cx d0_268 ?_
          refine g_iload cx d0_272 rfl ?_
          refine g_if_eq cx d0_274 (fun hc274 => ?_) (fun q => absurd q (fun q => by revert q; decide))
          refine g_lconst cx d0_282 (v := (0 : Int64)) rfl ?_
          refine g_ladd cx d0_283 ?_
          rw [Int64.add_zero]
          refine g_lstore cx d0_284 (Ls' := #[.val (.int ia), .val (.int ib), .val (.int ic), .val (.int iw), .val (.int ir), .val (.int ig), .val (.long (((ia).toInt64) &&& (2147483647 : Int64))), .second, .val (.long (((ib).toInt64) &&& (2147483647 : Int64))), .second, .val (.int (1 : Int32)), .val (.int (1 : Int32)), .val (.long ((ir).toInt64)), .second, .val (.long (((ir).toInt64) + (((ig).toInt64) &&& (2147483647 : Int64)))), .second, .val (.ref b169), .val (.int (0 : Int32)), .val (.int (0 : Int32)), .val (.int (1 : Int32)), .val (.int (1 : Int32)), .val (.long (((ia).toInt64) &&& (2147483647 : Int64))), .second, .val (.long (0 : Int64)), .second, .val (.int (1 : Int32)), .val (.int (0 : Int32)), .val (.int (0 : Int32)), .val (.long (((ia).toInt64) &&& (2147483647 : Int64))), .second]) rfl ?_
          refine g_iload cx d0_286 rfl ?_
          refine g_if_ne cx d0_288 (fun q => absurd q (fun q => by revert q; decide)) (fun hc288 => ?_)
          refine g_iload cx d0_291 rfl ?_
          refine g_if_ne cx d0_293 (fun q => absurd q (fun q => by revert q; decide)) (fun hc293 => ?_)
          refine g_iload cx d0_296 rfl ?_
          refine g_lload cx d0_298 rfl ?_
          refine g_lconst cx d0_300 (v := (0 : Int64)) rfl ?_
          refine g_lif_le cx d0_301 d0_302 (fun q => absurd q (fun q => q hq233)) (fun hc302 => ?_)
          refine g_iconst cx d0_305 (v := (1 : Int32)) rfl ?_
          refine g_goto cx d0_306 ?_
          refine g_icmp_ne cx d0_310 (fun q => absurd q (fun q => by revert q; decide)) (fun hc310 => ?_)
          refine g_iload cx d0_313 rfl ?_
          refine g_lload cx d0_315 rfl ?_
          refine g_lconst cx d0_317 (v := (0 : Int64)) rfl ?_
          refine g_lif_le cx d0_318 d0_319 (fun q => absurd q (fun q => q hc302)) (fun hc319 => ?_)
          refine g_iconst cx d0_322 (v := (1 : Int32)) rfl ?_
          refine g_goto cx d0_323 ?_
          refine g_icmp_ne cx d0_327 (fun q => absurd q (fun q => by revert q; decide)) (fun hc327 => ?_)
          refine g_iconst cx d0_330 (v := (1 : Int32)) rfl ?_
          refine g_goto cx d0_331 ?_
          refine g_retZ cx d0_335 rfl rfl (by decide) (by decide) ?_
          rfl
    · rw [hs167]
      refine g_iadd cx d0_40 ?_
      refine G.cast (st' := [(.int (2 : Int32))]) ?_ rfl
      refine g_istore cx d0_41 (Ls' := #[.val (.int ia), .val (.int ib), .val (.int ic), .val (.int iw), .val (.int ir), .val (.int ig), .val (.long (((ia).toInt64) &&& (2147483647 : Int64))), .second, .val (.long (((ib).toInt64) &&& (2147483647 : Int64))), .second, .val (.int (1 : Int32)), .val (.int (2 : Int32)), .unset, .unset, .unset, .unset, .unset, .unset, .unset, .unset, .unset, .unset, .unset, .unset, .unset, .unset, .unset, .unset, .unset, .unset]) rfl ?_
      refine g_iload cx d0_43 rfl ?_
      refine g_i2l cx d0_45 ?_
      refine g_lstore cx d0_46 (Ls' := #[.val (.int ia), .val (.int ib), .val (.int ic), .val (.int iw), .val (.int ir), .val (.int ig), .val (.long (((ia).toInt64) &&& (2147483647 : Int64))), .second, .val (.long (((ib).toInt64) &&& (2147483647 : Int64))), .second, .val (.int (1 : Int32)), .val (.int (2 : Int32)), .val (.long ((ir).toInt64)), .second, .unset, .unset, .unset, .unset, .unset, .unset, .unset, .unset, .unset, .unset, .unset, .unset, .unset, .unset, .unset, .unset]) rfl ?_
      refine g_lload cx d0_48 rfl ?_
      refine g_iload cx d0_50 rfl ?_
      refine g_i2l cx d0_52 ?_
      refine g_ldcJ cx d0_53 (hw _ (List.mem_of_getElem? (i := 0) rfl)) ?_
      refine g_land cx d0_56 ?_
      refine g_ladd cx d0_57 ?_
      refine g_lstore cx d0_58 (Ls' := #[.val (.int ia), .val (.int ib), .val (.int ic), .val (.int iw), .val (.int ir), .val (.int ig), .val (.long (((ia).toInt64) &&& (2147483647 : Int64))), .second, .val (.long (((ib).toInt64) &&& (2147483647 : Int64))), .second, .val (.int (1 : Int32)), .val (.int (2 : Int32)), .val (.long ((ir).toInt64)), .second, .val (.long (((ir).toInt64) + (((ig).toInt64) &&& (2147483647 : Int64)))), .second, .unset, .unset, .unset, .unset, .unset, .unset, .unset, .unset, .unset, .unset, .unset, .unset, .unset, .unset]) rfl ?_
      refine g_new cx d0_60 (hw _ (List.mem_of_getElem? (i := 1) rfl)) (hw _ (List.mem_of_getElem? (i := 2) rfl)) (hw _ (List.mem_of_getElem? (i := 3) rfl)) (k' := 1) (n' := 8) rfl rfl (by decide) (by decide) (fun h238 b239 gb240 E241 X242 D243 => ?_)
      have g_b239 : Z.heap.size ≤ b239 := by rw [gb240]; exact OL.2.1
      have OL := OL.ext E241
      have O_b239 := ObP.new hw X242 D243
      refine g_dup cx d0_63 rfl ?_
      have lt_b239 := O_b239.lt
      refine g_special cx (y := (⟨"com/example/thalweg/thalweg/node/Pace", "<init>", "()V"⟩ : MethodName)) (a := b239) d0_64 rfl rfl (hw _ (List.mem_of_getElem? (i := 4) rfl)) (hw _ (List.mem_of_getElem? (i := 5) rfl)) (hw _ (List.mem_of_getElem? (i := 3) rfl)) (hw _ (List.mem_of_getElem? (i := 6) rfl)) (by decide) (bytes := prog_54_method_1_code) (maxL' := 1) (M := (ra1 l Z a0 hw  b239 _ O_b239 g_b239 OL)) rfl (lenOf pd_0 rfl) (by decide) (W := 1) (Nat.le_of_eq rfl) (by decide) (k' := 5) (n' := 48) rfl rfl (by decide) (by decide) (argsL := []) (rest := [(.ref b239)]) rfl (fun v252 h251 q253 => ?_)
      obtain ⟨b244, b245, b246, b247, cA248, cA249, rfl, K250, sq_b244, sq_b245, sq_b246, sq_b247, ne_b244_b245, ne_b244_b246, ne_b245_b246, ne_b244_b247, ne_b245_b247, ne_b246_b247, O_b244, A_b245, O_b246, A_b247, OV_b245, OV_b247, O_b239⟩ := q253
      have ne_b239_b244 : b239 ≠ b244 := Nat.ne_of_lt (Nat.lt_of_lt_of_le lt_b239 sq_b244)
      have g_b244 : Z.heap.size ≤ b244 := Nat.le_trans OL.2.1 sq_b244
      have ne_b239_b245 : b239 ≠ b245 := Nat.ne_of_lt (Nat.lt_of_lt_of_le lt_b239 sq_b245)
      have g_b245 : Z.heap.size ≤ b245 := Nat.le_trans OL.2.1 sq_b245
      have ne_b239_b246 : b239 ≠ b246 := Nat.ne_of_lt (Nat.lt_of_lt_of_le lt_b239 sq_b246)
      have g_b246 : Z.heap.size ≤ b246 := Nat.le_trans OL.2.1 sq_b246
      have ne_b239_b247 : b239 ≠ b247 := Nat.ne_of_lt (Nat.lt_of_lt_of_le lt_b239 sq_b247)
      have g_b247 : Z.heap.size ≤ b247 := Nat.le_trans OL.2.1 sq_b247
      have OL := OL.keep K250 (allS g_b239 all0)
      refine G.cast (st' := [(.ref b239)]) ?_ rfl
      refine g_astore cx d0_67 rfl (Ls' := #[.val (.int ia), .val (.int ib), .val (.int ic), .val (.int iw), .val (.int ir), .val (.int ig), .val (.long (((ia).toInt64) &&& (2147483647 : Int64))), .second, .val (.long (((ib).toInt64) &&& (2147483647 : Int64))), .second, .val (.int (1 : Int32)), .val (.int (2 : Int32)), .val (.long ((ir).toInt64)), .second, .val (.long (((ir).toInt64) + (((ig).toInt64) &&& (2147483647 : Int64)))), .second, .val (.ref b239), .unset, .unset, .unset, .unset, .unset, .unset, .unset, .unset, .unset, .unset, .unset, .unset, .unset]) rfl ?_
      refine g_aload cx d0_69 rfl rfl ?_
      refine g_virtual cx (y := (⟨"com/example/thalweg/thalweg/node/Pace", "known", "()Z"⟩ : MethodName)) (z := (⟨"com/example/thalweg/thalweg/node/Pace", "known", "()Z"⟩ : MethodName)) (a := b239) d0_71 (hw _ (List.mem_of_getElem? (i := 31) rfl)) (hw _ (List.mem_of_getElem? (i := 32) rfl)) (hw _ (List.mem_of_getElem? (i := 3) rfl)) (hw _ (List.mem_of_getElem? (i := 35) rfl)) (hw _ (List.mem_of_getElem? (i := 34) rfl)) (hw _ (List.mem_of_getElem? (i := 33) rfl)) rfl (by decide) O_b239.1 (bytes := prog_54_method_5_code) (maxL' := 1) (M := (ra3 l Z a0 hw  b239 b244 b245 b246 b247 cA248 cA249 _ O_b239 O_b244 O_b246 A_b245 A_b247 OV_b245 OV_b247 ne_b239_b244 ne_b239_b245 ne_b244_b245 ne_b239_b246 ne_b244_b246 ne_b245_b246 ne_b239_b247 ne_b244_b247 ne_b245_b247 ne_b246_b247 g_b239 g_b244 g_b245 g_b246 g_b247 OL)) rfl (lenOf pd_1 rfl) (by decide) (W := 0) (Nat.le_of_eq rfl) (by decide) (k' := 5) (n' := 48) rfl rfl (by decide) (by decide) (argsL := []) (rest := []) rfl (fun v256 h255 q257 => ?_)
      obtain ⟨rfl, rfl⟩ := q257
      refine G.cast (st' := [(.int (0 : Int32))]) ?_ rfl
      refine g_istore cx d0_74 (Ls' := #[.val (.int ia), .val (.int ib), .val (.int ic), .val (.int iw), .val (.int ir), .val (.int ig), .val (.long (((ia).toInt64) &&& (2147483647 : Int64))), .second, .val (.long (((ib).toInt64) &&& (2147483647 : Int64))), .second, .val (.int (1 : Int32)), .val (.int (2 : Int32)), .val (.long ((ir).toInt64)), .second, .val (.long (((ir).toInt64) + (((ig).toInt64) &&& (2147483647 : Int64)))), .second, .val (.ref b239), .val (.int (0 : Int32)), .unset, .unset, .unset, .unset, .unset, .unset, .unset, .unset, .unset, .unset, .unset, .unset]) rfl ?_
      refine g_aload cx d0_76 rfl rfl ?_
      refine g_lload cx d0_78 rfl ?_
      refine g_iloadN cx d0_80 rfl ?_
      refine g_i2l cx d0_81 ?_
      have lt_b239 := O_b239.lt
      have lt_b244 := O_b244.lt
      have lt_b245 := A_b245.lt
      refine g_virtual cx (y := (⟨"com/example/thalweg/thalweg/node/Pace", "written", "(JJ)V"⟩ : MethodName)) (z := (⟨"com/example/thalweg/thalweg/node/Pace", "written", "(JJ)V"⟩ : MethodName)) (a := b239) d0_82 (hw _ (List.mem_of_getElem? (i := 38) rfl)) (hw _ (List.mem_of_getElem? (i := 39) rfl)) (hw _ (List.mem_of_getElem? (i := 3) rfl)) (hw _ (List.mem_of_getElem? (i := 42) rfl)) (hw _ (List.mem_of_getElem? (i := 41) rfl)) (hw _ (List.mem_of_getElem? (i := 40) rfl)) rfl (by decide) O_b239.1 (bytes := prog_54_method_2_code) (maxL' := 5) (M := (ra4 l Z a0 hw  b239 b244 b245 b246 b247 (((ia).toInt64) &&& (2147483647 : Int64)) ((iw).toInt64) cA248 cA249 _ O_b239 O_b244 O_b246 A_b245 A_b247 OV_b245 OV_b247 ne_b239_b244 ne_b239_b245 ne_b244_b245 ne_b239_b246 ne_b244_b246 ne_b245_b246 ne_b239_b247 ne_b244_b247 ne_b245_b247 ne_b246_b247 g_b239 g_b244 g_b245 g_b246 g_b247 OL)) rfl (lenOf pd_4 rfl) (by decide) (W := 0) (Nat.le_of_eq rfl) (by decide) (k' := 6) (n' := 50) rfl rfl (by decide) (by decide) (argsL := [(.long (((ia).toInt64) &&& (2147483647 : Int64))), (.long ((iw).toInt64))]) (rest := []) rfl (fun v262 h261 q263 => ?_)
      obtain ⟨b258, cA259, rfl, K260, sq_b258, A_b258, O_b239, O_b244, A_b245⟩ := q263
      have ne_b239_b258 : b239 ≠ b258 := Nat.ne_of_lt (Nat.lt_of_lt_of_le lt_b239 sq_b258)
      have ne_b244_b258 : b244 ≠ b258 := Nat.ne_of_lt (Nat.lt_of_lt_of_le lt_b244 sq_b258)
      have ne_b246_b258 : b246 ≠ b258 := Nat.ne_of_lt (Nat.lt_of_lt_of_le O_b246.lt sq_b258)
      have ne_b245_b258 : b245 ≠ b258 := Nat.ne_of_lt (Nat.lt_of_lt_of_le lt_b245 sq_b258)
      have ne_b247_b258 : b247 ≠ b258 := Nat.ne_of_lt (Nat.lt_of_lt_of_le A_b247.lt sq_b258)
      have g_b258 : Z.heap.size ≤ b258 := Nat.le_trans OL.2.1 sq_b258
      have O_b246 := O_b246.keep K260 (ninS (Ne.symm ne_b239_b246) (ninS (Ne.symm ne_b244_b246) (ninS (Ne.symm ne_b245_b246) nin0)))
      have A_b247 := A_b247.keep K260 (ninS (Ne.symm ne_b239_b247) (ninS (Ne.symm ne_b244_b247) (ninS (Ne.symm ne_b245_b247) nin0)))
      have OL := OL.keep K260 (allS g_b239 (allS g_b244 (allS g_b245 all0)))
      refine G.cast (st' := []) ?_ rfl
      refine g_aload cx d0_85 rfl rfl ?_
      refine g_lload cx d0_87 rfl ?_
      refine g_iloadN cx d0_89 rfl ?_
      refine g_i2l cx d0_90 ?_
      have lt_b239 := O_b239.lt
      have lt_b244 := O_b244.lt
      have lt_b245 := A_b245.lt
      refine g_virtual cx (y := (⟨"com/example/thalweg/thalweg/node/Pace", "written", "(JJ)V"⟩ : MethodName)) (z := (⟨"com/example/thalweg/thalweg/node/Pace", "written", "(JJ)V"⟩ : MethodName)) (a := b239) d0_91 (hw _ (List.mem_of_getElem? (i := 38) rfl)) (hw _ (List.mem_of_getElem? (i := 39) rfl)) (hw _ (List.mem_of_getElem? (i := 3) rfl)) (hw _ (List.mem_of_getElem? (i := 42) rfl)) (hw _ (List.mem_of_getElem? (i := 41) rfl)) (hw _ (List.mem_of_getElem? (i := 40) rfl)) rfl (by decide) O_b239.1 (bytes := prog_54_method_2_code) (maxL' := 5) (M := (ra8 l Z a0 hw  b239 b244 b245 b258 b246 b247 (((ia).toInt64) &&& (2147483647 : Int64)) ((iw).toInt64) (((ib).toInt64) &&& (2147483647 : Int64)) cA248 cA259 cA249 _ O_b239 O_b244 O_b246 A_b245 A_b258 A_b247 OV_b245 OV_b247 ne_b239_b244 ne_b239_b245 ne_b244_b245 ne_b239_b258 ne_b244_b258 ne_b245_b258 ne_b239_b246 ne_b244_b246 ne_b245_b246 (Ne.symm ne_b246_b258) ne_b239_b247 ne_b244_b247 ne_b245_b247 (Ne.symm ne_b247_b258) ne_b246_b247 g_b239 g_b244 g_b245 g_b258 g_b246 g_b247 OL)) rfl (lenOf pd_4 rfl) (by decide) (W := 0) (Nat.le_of_eq rfl) (by decide) (k' := 7) (n' := 52) rfl rfl (by decide) (by decide) (argsL := [(.long (((ib).toInt64) &&& (2147483647 : Int64))), (.long ((iw).toInt64))]) (rest := []) rfl (fun v268 h267 q269 => ?_)
      obtain ⟨b264, cA265, rfl, K266, sq_b264, A_b264, O_b239, O_b244, A_b245⟩ := q269
      have ne_b239_b264 : b239 ≠ b264 := Nat.ne_of_lt (Nat.lt_of_lt_of_le lt_b239 sq_b264)
      have ne_b244_b264 : b244 ≠ b264 := Nat.ne_of_lt (Nat.lt_of_lt_of_le lt_b244 sq_b264)
      have ne_b246_b264 : b246 ≠ b264 := Nat.ne_of_lt (Nat.lt_of_lt_of_le O_b246.lt sq_b264)
      have ne_b245_b264 : b245 ≠ b264 := Nat.ne_of_lt (Nat.lt_of_lt_of_le lt_b245 sq_b264)
      have ne_b247_b264 : b247 ≠ b264 := Nat.ne_of_lt (Nat.lt_of_lt_of_le A_b247.lt sq_b264)
      have ne_b258_b264 : b258 ≠ b264 := Nat.ne_of_lt (Nat.lt_of_lt_of_le A_b258.lt sq_b264)
      have g_b264 : Z.heap.size ≤ b264 := Nat.le_trans OL.2.1 sq_b264
      have O_b246 := O_b246.keep K266 (ninS (Ne.symm ne_b239_b246) (ninS (Ne.symm ne_b244_b246) (ninS (Ne.symm ne_b245_b246) nin0)))
      have A_b247 := A_b247.keep K266 (ninS (Ne.symm ne_b239_b247) (ninS (Ne.symm ne_b244_b247) (ninS (Ne.symm ne_b245_b247) nin0)))
      have A_b258 := A_b258.keep K266 (ninS (Ne.symm ne_b239_b258) (ninS (Ne.symm ne_b244_b258) (ninS (Ne.symm ne_b245_b258) nin0)))
      have OL := OL.keep K266 (allS g_b239 (allS g_b244 (allS g_b245 all0)))
      refine G.cast (st' := []) ?_ rfl
      refine g_aload cx d0_94 rfl rfl ?_
      refine g_virtual cx (y := (⟨"com/example/thalweg/thalweg/node/Pace", "known", "()Z"⟩ : MethodName)) (z := (⟨"com/example/thalweg/thalweg/node/Pace", "known", "()Z"⟩ : MethodName)) (a := b239) d0_96 (hw _ (List.mem_of_getElem? (i := 31) rfl)) (hw _ (List.mem_of_getElem? (i := 32) rfl)) (hw _ (List.mem_of_getElem? (i := 3) rfl)) (hw _ (List.mem_of_getElem? (i := 35) rfl)) (hw _ (List.mem_of_getElem? (i := 34) rfl)) (hw _ (List.mem_of_getElem? (i := 33) rfl)) rfl (by decide) O_b239.1 (bytes := prog_54_method_5_code) (maxL' := 1) (M := (ra12 l Z a0 hw  b239 b244 b245 b258 b264 b246 b247 (((ia).toInt64) &&& (2147483647 : Int64)) ((iw).toInt64) (((ib).toInt64) &&& (2147483647 : Int64)) ((((ia).toInt64) &&& (2147483647 : Int64)) + (((ib).toInt64) &&& (2147483647 : Int64))) cA248 cA259 cA265 cA249 _ O_b239 O_b244 O_b246 A_b245 A_b258 A_b264 A_b247 OV_b245 OV_b247 ne_b239_b244 ne_b239_b245 ne_b244_b245 ne_b239_b258 ne_b244_b258 ne_b245_b258 ne_b239_b264 ne_b244_b264 ne_b245_b264 ne_b258_b264 ne_b239_b246 ne_b244_b246 ne_b245_b246 (Ne.symm ne_b246_b258) (Ne.symm ne_b246_b264) ne_b239_b247 ne_b244_b247 ne_b245_b247 (Ne.symm ne_b247_b258) (Ne.symm ne_b247_b264) ne_b246_b247 g_b239 g_b244 g_b245 g_b258 g_b264 g_b246 g_b247 OL)) rfl (lenOf pd_1 rfl) (by decide) (W := 0) (Nat.le_of_eq rfl) (by decide) (k' := 7) (n' := 52) rfl rfl (by decide) (by decide) (argsL := []) (rest := []) rfl (fun v272 h271 q273 => ?_)
      obtain ⟨rfl, rfl⟩ := q273
      refine G.cast (st' := [(.int (0 : Int32))]) ?_ rfl
      refine g_istore cx d0_99 (Ls' := #[.val (.int ia), .val (.int ib), .val (.int ic), .val (.int iw), .val (.int ir), .val (.int ig), .val (.long (((ia).toInt64) &&& (2147483647 : Int64))), .second, .val (.long (((ib).toInt64) &&& (2147483647 : Int64))), .second, .val (.int (1 : Int32)), .val (.int (2 : Int32)), .val (.long ((ir).toInt64)), .second, .val (.long (((ir).toInt64) + (((ig).toInt64) &&& (2147483647 : Int64)))), .second, .val (.ref b239), .val (.int (0 : Int32)), .val (.int (0 : Int32)), .unset, .unset, .unset, .unset, .unset, .unset, .unset, .unset, .unset, .unset, .unset]) rfl ?_
      refine g_aload cx d0_101 rfl rfl ?_
      refine g_iload cx d0_103 rfl ?_
      refine g_i2l cx d0_105 ?_
      refine G.cast (st' := [(.long (1 : Int64)), (.ref b239)]) ?_ rfl
      refine g_lload cx d0_106 rfl ?_
      have lt_b239 := O_b239.lt
      have lt_b244 := O_b244.lt
      have lt_b245 := A_b245.lt
      have lt_b246 := O_b246.lt
      have lt_b247 := A_b247.lt
      refine g_virtual cx (y := (⟨"com/example/thalweg/thalweg/node/Pace", "taken", "(JJ)V"⟩ : MethodName)) (z := (⟨"com/example/thalweg/thalweg/node/Pace", "taken", "(JJ)V"⟩ : MethodName)) (a := b239) d0_108 (hw _ (List.mem_of_getElem? (i := 68) rfl)) (hw _ (List.mem_of_getElem? (i := 69) rfl)) (hw _ (List.mem_of_getElem? (i := 3) rfl)) (hw _ (List.mem_of_getElem? (i := 72) rfl)) (hw _ (List.mem_of_getElem? (i := 71) rfl)) (hw _ (List.mem_of_getElem? (i := 70) rfl)) rfl (by decide) O_b239.1 (bytes := prog_54_method_3_code) (maxL' := 10) (M := (ra14 l Z a0 hw  b239 b244 b245 b258 b264 b246 b247 (((ia).toInt64) &&& (2147483647 : Int64)) ((iw).toInt64) (((ib).toInt64) &&& (2147483647 : Int64)) ((((ia).toInt64) &&& (2147483647 : Int64)) + (((ib).toInt64) &&& (2147483647 : Int64))) ((ir).toInt64) cA248 cA259 cA265 cA249 _ O_b239 O_b244 O_b246 A_b245 A_b258 A_b264 A_b247 OV_b245 OV_b247 ne_b239_b244 ne_b239_b245 ne_b244_b245 ne_b239_b258 ne_b244_b258 ne_b245_b258 ne_b239_b264 ne_b244_b264 ne_b245_b264 ne_b258_b264 ne_b239_b246 ne_b244_b246 ne_b245_b246 (Ne.symm ne_b246_b258) (Ne.symm ne_b246_b264) ne_b239_b247 ne_b244_b247 ne_b245_b247 (Ne.symm ne_b247_b258) (Ne.symm ne_b247_b264) ne_b246_b247 g_b239 g_b244 g_b245 g_b258 g_b264 g_b246 g_b247 OL)) rfl (lenOf pd_4 rfl) (by decide) (W := 0) (Nat.le_of_eq rfl) (by decide) (k' := 8) (n' := 56) rfl rfl (by decide) (by decide) (argsL := [(.long (1 : Int64)), (.long ((ir).toInt64))]) (rest := []) rfl (fun v277 h276 q278 => ?_)
      obtain ⟨b274, rfl, K275, sq_b274, O_b274, O_b239, O_b244, A_b245, O_b246, A_b247⟩ := q278
      have ne_b239_b274 : b239 ≠ b274 := Nat.ne_of_lt (Nat.lt_of_lt_of_le lt_b239 sq_b274)
      have ne_b244_b274 : b244 ≠ b274 := Nat.ne_of_lt (Nat.lt_of_lt_of_le lt_b244 sq_b274)
      have ne_b246_b274 : b246 ≠ b274 := Nat.ne_of_lt (Nat.lt_of_lt_of_le lt_b246 sq_b274)
      have ne_b245_b274 : b245 ≠ b274 := Nat.ne_of_lt (Nat.lt_of_lt_of_le lt_b245 sq_b274)
      have ne_b247_b274 : b247 ≠ b274 := Nat.ne_of_lt (Nat.lt_of_lt_of_le lt_b247 sq_b274)
      have ne_b258_b274 : b258 ≠ b274 := Nat.ne_of_lt (Nat.lt_of_lt_of_le A_b258.lt sq_b274)
      have ne_b264_b274 : b264 ≠ b274 := Nat.ne_of_lt (Nat.lt_of_lt_of_le A_b264.lt sq_b274)
      have g_b274 : Z.heap.size ≤ b274 := Nat.le_trans OL.2.1 sq_b274
      have A_b258 := A_b258.keep K275 (ninS (Ne.symm ne_b239_b258) (ninS (Ne.symm ne_b244_b258) (ninS (Ne.symm ne_b245_b258) (ninS (Ne.symm ne_b246_b258) (ninS (Ne.symm ne_b247_b258) nin0)))))
      have A_b264 := A_b264.keep K275 (ninS (Ne.symm ne_b239_b264) (ninS (Ne.symm ne_b244_b264) (ninS (Ne.symm ne_b245_b264) (ninS (Ne.symm ne_b246_b264) (ninS (Ne.symm ne_b247_b264) nin0)))))
      have OL := OL.keep K275 (allS g_b239 (allS g_b244 (allS g_b245 (allS g_b246 (allS g_b247 all0)))))
      refine G.cast (st' := []) ?_ rfl
      refine g_aload cx d0_111 rfl rfl ?_
      refine g_virtual cx (y := (⟨"com/example/thalweg/thalweg/node/Pace", "known", "()Z"⟩ : MethodName)) (z := (⟨"com/example/thalweg/thalweg/node/Pace", "known", "()Z"⟩ : MethodName)) (a := b239) d0_113 (hw _ (List.mem_of_getElem? (i := 31) rfl)) (hw _ (List.mem_of_getElem? (i := 32) rfl)) (hw _ (List.mem_of_getElem? (i := 3) rfl)) (hw _ (List.mem_of_getElem? (i := 35) rfl)) (hw _ (List.mem_of_getElem? (i := 34) rfl)) (hw _ (List.mem_of_getElem? (i := 33) rfl)) rfl (by decide) O_b239.1 (bytes := prog_54_method_5_code) (maxL' := 1) (M := (ra25 l Z a0 hw  b239 b244 b245 b264 b246 b247 b274 (((ib).toInt64) &&& (2147483647 : Int64)) ((iw).toInt64) ((ir).toInt64) (((ia).toInt64) &&& (2147483647 : Int64)) (own_max (1 : Int64) (((ir).toInt64) - ((iw).toInt64))) (((ir).toInt64) - ((iw).toInt64)) (((((ia).toInt64) &&& (2147483647 : Int64)) + (((ib).toInt64) &&& (2147483647 : Int64))) - (((ia).toInt64) &&& (2147483647 : Int64))) cA248 cA265 cA249 _ O_b239 O_b244 O_b246 O_b274 A_b245 A_b264 A_b247 OV_b245 OV_b247 ne_b239_b244 ne_b239_b245 ne_b244_b245 ne_b239_b264 ne_b244_b264 ne_b245_b264 ne_b239_b246 ne_b244_b246 ne_b245_b246 (Ne.symm ne_b246_b264) ne_b239_b247 ne_b244_b247 ne_b245_b247 (Ne.symm ne_b247_b264) ne_b246_b247 ne_b239_b274 ne_b244_b274 ne_b245_b274 ne_b264_b274 ne_b246_b274 ne_b247_b274 g_b239 g_b244 g_b245 g_b264 g_b246 g_b247 g_b274 OL)) rfl (lenOf pd_1 rfl) (by decide) (W := 0) (Nat.le_of_eq rfl) (by decide) (k' := 8) (n' := 56) rfl rfl (by decide) (by decide) (argsL := []) (rest := []) rfl (fun v284 h283 q285 => ?_)
      rcases q285 with ⟨hq279, rfl, rfl⟩ | ⟨hq281, rfl, rfl⟩
      · refine G.cast (st' := [(.int (0 : Int32))]) ?_ rfl
        refine g_istore cx d0_116 (Ls' := #[.val (.int ia), .val (.int ib), .val (.int ic), .val (.int iw), .val (.int ir), .val (.int ig), .val (.long (((ia).toInt64) &&& (2147483647 : Int64))), .second, .val (.long (((ib).toInt64) &&& (2147483647 : Int64))), .second, .val (.int (1 : Int32)), .val (.int (2 : Int32)), .val (.long ((ir).toInt64)), .second, .val (.long (((ir).toInt64) + (((ig).toInt64) &&& (2147483647 : Int64)))), .second, .val (.ref b239), .val (.int (0 : Int32)), .val (.int (0 : Int32)), .val (.int (0 : Int32)), .unset, .unset, .unset, .unset, .unset, .unset, .unset, .unset, .unset, .unset]) rfl ?_
        refine g_aload cx d0_118 rfl rfl ?_
        refine g_iload cx d0_120 rfl ?_
        refine g_i2l cx d0_122 ?_
        refine G.cast (st' := [(.long (2 : Int64)), (.ref b239)]) ?_ rfl
        refine g_lload cx d0_123 rfl ?_
        have lt_b239 := O_b239.lt
        have lt_b244 := O_b244.lt
        have lt_b245 := A_b245.lt
        have lt_b246 := O_b246.lt
        have lt_b247 := A_b247.lt
        refine g_virtual cx (y := (⟨"com/example/thalweg/thalweg/node/Pace", "taken", "(JJ)V"⟩ : MethodName)) (z := (⟨"com/example/thalweg/thalweg/node/Pace", "taken", "(JJ)V"⟩ : MethodName)) (a := b239) d0_125 (hw _ (List.mem_of_getElem? (i := 68) rfl)) (hw _ (List.mem_of_getElem? (i := 69) rfl)) (hw _ (List.mem_of_getElem? (i := 3) rfl)) (hw _ (List.mem_of_getElem? (i := 72) rfl)) (hw _ (List.mem_of_getElem? (i := 71) rfl)) (hw _ (List.mem_of_getElem? (i := 70) rfl)) rfl (by decide) O_b239.1 (bytes := prog_54_method_3_code) (maxL' := 10) (M := (ra33 l Z a0 hw  b239 b244 b245 b264 b246 b247 b274 (((ib).toInt64) &&& (2147483647 : Int64)) ((iw).toInt64) ((ir).toInt64) (((ia).toInt64) &&& (2147483647 : Int64)) (own_max (1 : Int64) (((ir).toInt64) - ((iw).toInt64))) (((ir).toInt64) - ((iw).toInt64)) (((((ia).toInt64) &&& (2147483647 : Int64)) + (((ib).toInt64) &&& (2147483647 : Int64))) - (((ia).toInt64) &&& (2147483647 : Int64))) (((ir).toInt64) + (((ig).toInt64) &&& (2147483647 : Int64))) cA248 cA265 cA249 _ O_b239 O_b244 O_b246 O_b274 A_b245 A_b264 A_b247 OV_b245 OV_b247 ne_b239_b244 ne_b239_b245 ne_b244_b245 ne_b239_b264 ne_b244_b264 ne_b245_b264 ne_b239_b246 ne_b244_b246 ne_b245_b246 (Ne.symm ne_b246_b264) ne_b239_b247 ne_b244_b247 ne_b245_b247 (Ne.symm ne_b247_b264) ne_b246_b247 ne_b239_b274 ne_b244_b274 ne_b245_b274 ne_b264_b274 ne_b246_b274 ne_b247_b274 g_b239 g_b244 g_b245 g_b264 g_b246 g_b247 g_b274 OL)) rfl (lenOf pd_4 rfl) (by decide) (W := 0) (Nat.le_of_eq rfl) (by decide) (k' := 9) (n' := 60) rfl rfl (by decide) (by decide) (argsL := [(.long (2 : Int64)), (.long (((ir).toInt64) + (((ig).toInt64) &&& (2147483647 : Int64))))]) (rest := []) rfl (fun v293 h292 q294 => ?_)
        rcases q294 with ⟨b286, hq287, rfl, K288, sq_b286, O_b286, O_b239, O_b244, A_b245, O_b246, A_b247⟩ | ⟨b289, hq290, rfl, K291, sq_b289, O_b289, O_b239, O_b244, A_b245, O_b246, A_b247⟩
        · have ne_b239_b286 : b239 ≠ b286 := Nat.ne_of_lt (Nat.lt_of_lt_of_le lt_b239 sq_b286)
          have ne_b244_b286 : b244 ≠ b286 := Nat.ne_of_lt (Nat.lt_of_lt_of_le lt_b244 sq_b286)
          have ne_b246_b286 : b246 ≠ b286 := Nat.ne_of_lt (Nat.lt_of_lt_of_le lt_b246 sq_b286)
          have ne_b274_b286 : b274 ≠ b286 := Nat.ne_of_lt (Nat.lt_of_lt_of_le O_b274.lt sq_b286)
          have ne_b245_b286 : b245 ≠ b286 := Nat.ne_of_lt (Nat.lt_of_lt_of_le lt_b245 sq_b286)
          have ne_b247_b286 : b247 ≠ b286 := Nat.ne_of_lt (Nat.lt_of_lt_of_le lt_b247 sq_b286)
          have ne_b258_b286 : b258 ≠ b286 := Nat.ne_of_lt (Nat.lt_of_lt_of_le A_b258.lt sq_b286)
          have ne_b264_b286 : b264 ≠ b286 := Nat.ne_of_lt (Nat.lt_of_lt_of_le A_b264.lt sq_b286)
          have g_b286 : Z.heap.size ≤ b286 := Nat.le_trans OL.2.1 sq_b286
          have O_b274 := O_b274.keep K288 (ninS (Ne.symm ne_b239_b274) (ninS (Ne.symm ne_b244_b274) (ninS (Ne.symm ne_b245_b274) (ninS (Ne.symm ne_b246_b274) (ninS (Ne.symm ne_b247_b274) nin0)))))
          have A_b258 := A_b258.keep K288 (ninS (Ne.symm ne_b239_b258) (ninS (Ne.symm ne_b244_b258) (ninS (Ne.symm ne_b245_b258) (ninS (Ne.symm ne_b246_b258) (ninS (Ne.symm ne_b247_b258) nin0)))))
          have A_b264 := A_b264.keep K288 (ninS (Ne.symm ne_b239_b264) (ninS (Ne.symm ne_b244_b264) (ninS (Ne.symm ne_b245_b264) (ninS (Ne.symm ne_b246_b264) (ninS (Ne.symm ne_b247_b264) nin0)))))
          have OL := OL.keep K288 (allS g_b239 (allS g_b244 (allS g_b245 (allS g_b246 (allS g_b247 all0)))))
          refine G.cast (st' := []) ?_ rfl
          refine g_aload cx d0_128 rfl rfl ?_
          refine g_virtual cx (y := (⟨"com/example/thalweg/thalweg/node/Pace", "known", "()Z"⟩ : MethodName)) (z := (⟨"com/example/thalweg/thalweg/node/Pace", "known", "()Z"⟩ : MethodName)) (a := b239) d0_130 (hw _ (List.mem_of_getElem? (i := 31) rfl)) (hw _ (List.mem_of_getElem? (i := 32) rfl)) (hw _ (List.mem_of_getElem? (i := 3) rfl)) (hw _ (List.mem_of_getElem? (i := 35) rfl)) (hw _ (List.mem_of_getElem? (i := 34) rfl)) (hw _ (List.mem_of_getElem? (i := 33) rfl)) rfl (by decide) O_b239.1 (bytes := prog_54_method_5_code) (maxL' := 1) (M := (ra45 l Z a0 hw  b239 b244 b245 b246 b247 b274 b286 ((ir).toInt64) (((ia).toInt64) &&& (2147483647 : Int64)) (own_max (1 : Int64) (((ir).toInt64) - ((iw).toInt64))) (((ir).toInt64) - ((iw).toInt64)) (((ir).toInt64) + (((ig).toInt64) &&& (2147483647 : Int64))) (((ib).toInt64) &&& (2147483647 : Int64)) (own_max (1 : Int64) ((((ir).toInt64) + (((ig).toInt64) &&& (2147483647 : Int64))) - ((ir).toInt64))) ((((ir).toInt64) + (((ig).toInt64) &&& (2147483647 : Int64))) - ((iw).toInt64)) ((((ia).toInt64) &&& (2147483647 : Int64)) + (((ib).toInt64) &&& (2147483647 : Int64))) ((((((ia).toInt64) &&& (2147483647 : Int64)) + (((ib).toInt64) &&& (2147483647 : Int64))) - (((ia).toInt64) &&& (2147483647 : Int64))) - (((ib).toInt64) &&& (2147483647 : Int64))) ((own_max (1 : Int64) (((ir).toInt64) - ((iw).toInt64))) + (own_max (1 : Int64) ((((ir).toInt64) + (((ig).toInt64) &&& (2147483647 : Int64))) - ((ir).toInt64)))) cA248 cA249 _ O_b239 O_b244 O_b246 O_b274 O_b286 A_b245 A_b247 OV_b245 OV_b247 ne_b239_b244 ne_b239_b245 ne_b244_b245 ne_b239_b246 ne_b244_b246 ne_b245_b246 ne_b239_b247 ne_b244_b247 ne_b245_b247 ne_b246_b247 ne_b239_b274 ne_b244_b274 ne_b245_b274 ne_b246_b274 ne_b247_b274 ne_b239_b286 ne_b244_b286 ne_b245_b286 ne_b246_b286 ne_b247_b286 ne_b274_b286 g_b239 g_b244 g_b245 g_b246 g_b247 g_b274 g_b286 OL)) rfl (lenOf pd_1 rfl) (by decide) (W := 0) (Nat.le_of_eq rfl) (by decide) (k' := 9) (n' := 60) rfl rfl (by decide) (by decide) (argsL := []) (rest := []) rfl (fun v300 h299 q301 => ?_)
          rcases q301 with ⟨hq295, rfl, rfl⟩ | ⟨hq297, rfl, rfl⟩
          · refine G.cast (st' := [(.int (0 : Int32))]) ?_ rfl
            refine g_istore cx d0_133 (Ls' := #[.val (.int ia), .val (.int ib), .val (.int ic), .val (.int iw), .val (.int ir), .val (.int ig), .val (.long (((ia).toInt64) &&& (2147483647 : Int64))), .second, .val (.long (((ib).toInt64) &&& (2147483647 : Int64))), .second, .val (.int (1 : Int32)), .val (.int (2 : Int32)), .val (.long ((ir).toInt64)), .second, .val (.long (((ir).toInt64) + (((ig).toInt64) &&& (2147483647 : Int64)))), .second, .val (.ref b239), .val (.int (0 : Int32)), .val (.int (0 : Int32)), .val (.int (0 : Int32)), .val (.int (0 : Int32)), .unset, .unset, .unset, .unset, .unset, .unset, .unset, .unset, .unset]) rfl ?_
            refine g_iload cx d0_135 rfl ?_
            refine g_iconst cx d0_137 (v := (1 : Int32)) rfl ?_
            refine g_icmp_lt cx d0_138 (fun q => absurd q (fun q => by revert q; decide)) (fun hc138 => ?_)
            refine g_lload cx d0_141 rfl ?_
            refine g_goto cx d0_143 ?_
            refine g_iload cx d0_147 rfl ?_
            refine g_iconst cx d0_149 (v := (2 : Int32)) rfl ?_
            refine g_icmp_lt cx d0_150 (fun hc150 => ?_) (fun q => absurd q (fun q => by revert q; decide))
            refine g_lconst cx d0_158 (v := (0 : Int64)) rfl ?_
            refine g_ladd cx d0_159 ?_
            rw [Int64.add_zero]
            refine g_lstore cx d0_160 (Ls' := #[.val (.int ia), .val (.int ib), .val (.int ic), .val (.int iw), .val (.int ir), .val (.int ig), .val (.long (((ia).toInt64) &&& (2147483647 : Int64))), .second, .val (.long (((ib).toInt64) &&& (2147483647 : Int64))), .second, .val (.int (1 : Int32)), .val (.int (2 : Int32)), .val (.long ((ir).toInt64)), .second, .val (.long (((ir).toInt64) + (((ig).toInt64) &&& (2147483647 : Int64)))), .second, .val (.ref b239), .val (.int (0 : Int32)), .val (.int (0 : Int32)), .val (.int (0 : Int32)), .val (.int (0 : Int32)), .val (.long (((ia).toInt64) &&& (2147483647 : Int64))), .second, .unset, .unset, .unset, .unset, .unset, .unset, .unset]) rfl ?_
            refine g_iload cx d0_162 rfl ?_
            refine g_iconst cx d0_164 (v := (1 : Int32)) rfl ?_
            refine g_icmp_ge cx d0_165 (fun hc165 => ?_) (fun q => absurd q (fun q => by revert q; decide))
            refine g_lconst cx d0_179 (v := (0 : Int64)) rfl ?_
            refine g_iload cx d0_180 rfl ?_
            refine g_iconst cx d0_182 (v := (2 : Int32)) rfl ?_
            refine g_icmp_ge cx d0_183 (fun q => absurd q (fun q => by revert q; decide)) (fun hc183 => ?_)
            refine g_iload cx d0_186 rfl ?_
            refine g_iconst cx d0_188 (v := (2 : Int32)) rfl ?_
            refine g_icmp_lt cx d0_189 (fun q => absurd q (fun q => by revert q; decide)) (fun hc189 => ?_)
            refine g_lload cx d0_192 rfl ?_
            refine g_goto cx d0_194 ?_
            refine g_ladd cx d0_198 ?_
            rw [Int64.zero_add]
            refine g_lstore cx d0_199 (Ls' := #[.val (.int ia), .val (.int ib), .val (.int ic), .val (.int iw), .val (.int ir), .val (.int ig), .val (.long (((ia).toInt64) &&& (2147483647 : Int64))), .second, .val (.long (((ib).toInt64) &&& (2147483647 : Int64))), .second, .val (.int (1 : Int32)), .val (.int (2 : Int32)), .val (.long ((ir).toInt64)), .second, .val (.long (((ir).toInt64) + (((ig).toInt64) &&& (2147483647 : Int64)))), .second, .val (.ref b239), .val (.int (0 : Int32)), .val (.int (0 : Int32)), .val (.int (0 : Int32)), .val (.int (0 : Int32)), .val (.long (((ia).toInt64) &&& (2147483647 : Int64))), .second, .val (.long (((ib).toInt64) &&& (2147483647 : Int64))), .second, .unset, .unset, .unset, .unset, .unset]) rfl ?_
            refine g_iload cx d0_201 rfl ?_
            refine g_if_le cx d0_203 (fun q => absurd q (fun q => by revert q; decide)) (fun hc203 => ?_)
            refine g_iconst cx d0_206 (v := (1 : Int32)) rfl ?_
            refine g_goto cx d0_207 ?_
            refine g_istore cx d0_211 (Ls' := #[.val (.int ia), .val (.int ib), .val (.int ic), .val (.int iw), .val (.int ir), .val (.int ig), .val (.long (((ia).toInt64) &&& (2147483647 : Int64))), .second, .val (.long (((ib).toInt64) &&& (2147483647 : Int64))), .second, .val (.int (1 : Int32)), .val (.int (2 : Int32)), .val (.long ((ir).toInt64)), .second, .val (.long (((ir).toInt64) + (((ig).toInt64) &&& (2147483647 : Int64)))), .second, .val (.ref b239), .val (.int (0 : Int32)), .val (.int (0 : Int32)), .val (.int (0 : Int32)), .val (.int (0 : Int32)), .val (.long (((ia).toInt64) &&& (2147483647 : Int64))), .second, .val (.long (((ib).toInt64) &&& (2147483647 : Int64))), .second, .val (.int (1 : Int32)), .unset, .unset, .unset, .unset]) rfl ?_
            refine g_iload cx d0_213 rfl ?_
            refine g_iload cx d0_215 rfl ?_
            refine g_icmp_le cx d0_217 (fun q => absurd q (fun q => by revert q; decide)) (fun hc217 => ?_)
            refine g_iconst cx d0_220 (v := (1 : Int32)) rfl ?_
            refine g_goto cx d0_221 ?_
            refine g_istore cx d0_225 (Ls' := #[.val (.int ia), .val (.int ib), .val (.int ic), .val (.int iw), .val (.int ir), .val (.int ig), .val (.long (((ia).toInt64) &&& (2147483647 : Int64))), .second, .val (.long (((ib).toInt64) &&& (2147483647 : Int64))), .second, .val (.int (1 : Int32)), .val (.int (2 : Int32)), .val (.long ((ir).toInt64)), .second, .val (.long (((ir).toInt64) + (((ig).toInt64) &&& (2147483647 : Int64)))), .second, .val (.ref b239), .val (.int (0 : Int32)), .val (.int (0 : Int32)), .val (.int (0 : Int32)), .val (.int (0 : Int32)), .val (.long (((ia).toInt64) &&& (2147483647 : Int64))), .second, .val (.long (((ib).toInt64) &&& (2147483647 : Int64))), .second, .val (.int (1 : Int32)), .val (.int (1 : Int32)), .unset, .unset, .unset]) rfl ?_
            refine g_iload cx d0_227 rfl ?_
            refine g_if_eq cx d0_229 (fun q => absurd q (fun q => by revert q; decide)) (fun hc229 => ?_)
            refine g_iload cx d0_232 rfl ?_
            refine g_if_eq cx d0_234 (fun q => absurd q (fun q => by revert q; decide)) (fun hc234 => ?_)
            refine g_lload cx d0_237 rfl ?_
            refine g_lload cx d0_239 rfl ?_
            refine g_ldcJ cx d0_241 (hw _ (List.mem_of_getElem? (i := 151) rfl)) ?_
            refine g_lsub cx d0_244 ?_
            refine g_lif_ge cx d0_245 d0_246 (fun hc246 => ?_) (fun q => absurd q (fun q => hq287 q))
            refine g_iconst cx d0_253 (v := (0 : Int32)) rfl ?_
            refine g_istore cx d0_254 (Ls' := #[.val (.int ia), .val (.int ib), .val (.int ic), .val (.int iw), .val (.int ir), .val (.int ig), .val (.long (((ia).toInt64) &&& (2147483647 : Int64))), .second, .val (.long (((ib).toInt64) &&& (2147483647 : Int64))), .second, .val (.int (1 : Int32)), .val (.int (2 : Int32)), .val (.long ((ir).toInt64)), .second, .val (.long (((ir).toInt64) + (((ig).toInt64) &&& (2147483647 : Int64)))), .second, .val (.ref b239), .val (.int (0 : Int32)), .val (.int (0 : Int32)), .val (.int (0 : Int32)), .val (.int (0 : Int32)), .val (.long (((ia).toInt64) &&& (2147483647 : Int64))), .second, .val (.long (((ib).toInt64) &&& (2147483647 : Int64))), .second, .val (.int (1 : Int32)), .val (.int (1 : Int32)), .val (.int (0 : Int32)), .unset, .unset]) rfl ?_
            refine g_iload cx d0_256 rfl ?_
            refine g_if_eq cx d0_258 (fun q => absurd q (fun q => by revert q; decide)) (fun hc258 => ?_)
            refine g_iload cx d0_261 rfl ?_
            refine g_if_ne cx d0_263 (fun q => absurd q (fun q => by revert q; decide)) (fun hc263 => ?_)
            refine g_lload cx d0_266 rfl ?_
            refine g_goto cx d0_268 ?_
            refine g_iload cx d0_272 rfl ?_
            refine g_if_eq cx d0_274 (fun q => absurd q (fun q => by revert q; decide)) (fun hc274 => ?_)
            refine g_lload cx d0_277 rfl ?_
            refine g_goto cx d0_279 ?_
            refine g_ladd cx d0_283 ?_
            refine g_lstore cx d0_284 (Ls' := #[.val (.int ia), .val (.int ib), .val (.int ic), .val (.int iw), .val (.int ir), .val (.int ig), .val (.long (((ia).toInt64) &&& (2147483647 : Int64))), .second, .val (.long (((ib).toInt64) &&& (2147483647 : Int64))), .second, .val (.int (1 : Int32)), .val (.int (2 : Int32)), .val (.long ((ir).toInt64)), .second, .val (.long (((ir).toInt64) + (((ig).toInt64) &&& (2147483647 : Int64)))), .second, .val (.ref b239), .val (.int (0 : Int32)), .val (.int (0 : Int32)), .val (.int (0 : Int32)), .val (.int (0 : Int32)), .val (.long (((ia).toInt64) &&& (2147483647 : Int64))), .second, .val (.long (((ib).toInt64) &&& (2147483647 : Int64))), .second, .val (.int (1 : Int32)), .val (.int (1 : Int32)), .val (.int (0 : Int32)), .val (.long ((((ia).toInt64) &&& (2147483647 : Int64)) + (((ib).toInt64) &&& (2147483647 : Int64)))), .second]) rfl ?_
            refine g_iload cx d0_286 rfl ?_
            refine g_if_ne cx d0_288 (fun q => absurd q (fun q => by revert q; decide)) (fun hc288 => ?_)
            refine g_iload cx d0_291 rfl ?_
            refine g_if_ne cx d0_293 (fun q => absurd q (fun q => by revert q; decide)) (fun hc293 => ?_)
            refine g_iload cx d0_296 rfl ?_
            refine g_lload cx d0_298 rfl ?_
            refine g_lconst cx d0_300 (v := (0 : Int64)) rfl ?_
            refine g_lif_le cx d0_301 d0_302 (fun hc302 => ?_) (fun q => absurd q (fun q => hq279 q))
            refine g_iconst cx d0_309 (v := (0 : Int32)) rfl ?_
            refine g_icmp_ne cx d0_310 (fun q => absurd q (fun q => by revert q; decide)) (fun hc310 => ?_)
            refine g_iload cx d0_313 rfl ?_
            refine g_lload cx d0_315 rfl ?_
            refine g_lconst cx d0_317 (v := (0 : Int64)) rfl ?_
            refine g_lif_le cx d0_318 d0_319 (fun hc319 => ?_) (fun q => absurd q (fun q => hq295 q))
            refine g_iconst cx d0_326 (v := (0 : Int32)) rfl ?_
            refine g_icmp_ne cx d0_327 (fun q => absurd q (fun q => by revert q; decide)) (fun hc327 => ?_)
            refine g_iconst cx d0_330 (v := (1 : Int32)) rfl ?_
            refine g_goto cx d0_331 ?_
            refine g_retZ cx d0_335 rfl rfl (by decide) (by decide) ?_
            rfl
          · refine G.cast (st' := [(.int (1 : Int32))]) ?_ rfl
            refine g_istore cx d0_133 (Ls' := #[.val (.int ia), .val (.int ib), .val (.int ic), .val (.int iw), .val (.int ir), .val (.int ig), .val (.long (((ia).toInt64) &&& (2147483647 : Int64))), .second, .val (.long (((ib).toInt64) &&& (2147483647 : Int64))), .second, .val (.int (1 : Int32)), .val (.int (2 : Int32)), .val (.long ((ir).toInt64)), .second, .val (.long (((ir).toInt64) + (((ig).toInt64) &&& (2147483647 : Int64)))), .second, .val (.ref b239), .val (.int (0 : Int32)), .val (.int (0 : Int32)), .val (.int (0 : Int32)), .val (.int (1 : Int32)), .unset, .unset, .unset, .unset, .unset, .unset, .unset, .unset, .unset]) rfl ?_
            refine g_iload cx d0_135 rfl ?_
            refine g_iconst cx d0_137 (v := (1 : Int32)) rfl ?_
            refine g_icmp_lt cx d0_138 (fun q => absurd q (fun q => by revert q; decide)) (fun hc138 => ?_)
            refine g_lload cx d0_141 rfl ?_
            refine g_goto cx d0_143 ?_
            refine g_iload cx d0_147 rfl ?_
            refine g_iconst cx d0_149 (v := (2 : Int32)) rfl ?_
            refine g_icmp_lt cx d0_150 (fun hc150 => ?_) (fun q => absurd q (fun q => by revert q; decide))
            refine g_lconst cx d0_158 (v := (0 : Int64)) rfl ?_
            refine g_ladd cx d0_159 ?_
            rw [Int64.add_zero]
            refine g_lstore cx d0_160 (Ls' := #[.val (.int ia), .val (.int ib), .val (.int ic), .val (.int iw), .val (.int ir), .val (.int ig), .val (.long (((ia).toInt64) &&& (2147483647 : Int64))), .second, .val (.long (((ib).toInt64) &&& (2147483647 : Int64))), .second, .val (.int (1 : Int32)), .val (.int (2 : Int32)), .val (.long ((ir).toInt64)), .second, .val (.long (((ir).toInt64) + (((ig).toInt64) &&& (2147483647 : Int64)))), .second, .val (.ref b239), .val (.int (0 : Int32)), .val (.int (0 : Int32)), .val (.int (0 : Int32)), .val (.int (1 : Int32)), .val (.long (((ia).toInt64) &&& (2147483647 : Int64))), .second, .unset, .unset, .unset, .unset, .unset, .unset, .unset]) rfl ?_
            refine g_iload cx d0_162 rfl ?_
            refine g_iconst cx d0_164 (v := (1 : Int32)) rfl ?_
            refine g_icmp_ge cx d0_165 (fun hc165 => ?_) (fun q => absurd q (fun q => by revert q; decide))
            refine g_lconst cx d0_179 (v := (0 : Int64)) rfl ?_
            refine g_iload cx d0_180 rfl ?_
            refine g_iconst cx d0_182 (v := (2 : Int32)) rfl ?_
            refine g_icmp_ge cx d0_183 (fun q => absurd q (fun q => by revert q; decide)) (fun hc183 => ?_)
            refine g_iload cx d0_186 rfl ?_
            refine g_iconst cx d0_188 (v := (2 : Int32)) rfl ?_
            refine g_icmp_lt cx d0_189 (fun q => absurd q (fun q => by revert q; decide)) (fun hc189 => ?_)
            refine g_lload cx d0_192 rfl ?_
            refine g_goto cx d0_194 ?_
            refine g_ladd cx d0_198 ?_
            rw [Int64.zero_add]
            refine g_lstore cx d0_199 (Ls' := #[.val (.int ia), .val (.int ib), .val (.int ic), .val (.int iw), .val (.int ir), .val (.int ig), .val (.long (((ia).toInt64) &&& (2147483647 : Int64))), .second, .val (.long (((ib).toInt64) &&& (2147483647 : Int64))), .second, .val (.int (1 : Int32)), .val (.int (2 : Int32)), .val (.long ((ir).toInt64)), .second, .val (.long (((ir).toInt64) + (((ig).toInt64) &&& (2147483647 : Int64)))), .second, .val (.ref b239), .val (.int (0 : Int32)), .val (.int (0 : Int32)), .val (.int (0 : Int32)), .val (.int (1 : Int32)), .val (.long (((ia).toInt64) &&& (2147483647 : Int64))), .second, .val (.long (((ib).toInt64) &&& (2147483647 : Int64))), .second, .unset, .unset, .unset, .unset, .unset]) rfl ?_
            refine g_iload cx d0_201 rfl ?_
            refine g_if_le cx d0_203 (fun q => absurd q (fun q => by revert q; decide)) (fun hc203 => ?_)
            refine g_iconst cx d0_206 (v := (1 : Int32)) rfl ?_
            refine g_goto cx d0_207 ?_
            refine g_istore cx d0_211 (Ls' := #[.val (.int ia), .val (.int ib), .val (.int ic), .val (.int iw), .val (.int ir), .val (.int ig), .val (.long (((ia).toInt64) &&& (2147483647 : Int64))), .second, .val (.long (((ib).toInt64) &&& (2147483647 : Int64))), .second, .val (.int (1 : Int32)), .val (.int (2 : Int32)), .val (.long ((ir).toInt64)), .second, .val (.long (((ir).toInt64) + (((ig).toInt64) &&& (2147483647 : Int64)))), .second, .val (.ref b239), .val (.int (0 : Int32)), .val (.int (0 : Int32)), .val (.int (0 : Int32)), .val (.int (1 : Int32)), .val (.long (((ia).toInt64) &&& (2147483647 : Int64))), .second, .val (.long (((ib).toInt64) &&& (2147483647 : Int64))), .second, .val (.int (1 : Int32)), .unset, .unset, .unset, .unset]) rfl ?_
            refine g_iload cx d0_213 rfl ?_
            refine g_iload cx d0_215 rfl ?_
            refine g_icmp_le cx d0_217 (fun q => absurd q (fun q => by revert q; decide)) (fun hc217 => ?_)
            refine g_iconst cx d0_220 (v := (1 : Int32)) rfl ?_
            refine g_goto cx d0_221 ?_
            refine g_istore cx d0_225 (Ls' := #[.val (.int ia), .val (.int ib), .val (.int ic), .val (.int iw), .val (.int ir), .val (.int ig), .val (.long (((ia).toInt64) &&& (2147483647 : Int64))), .second, .val (.long (((ib).toInt64) &&& (2147483647 : Int64))), .second, .val (.int (1 : Int32)), .val (.int (2 : Int32)), .val (.long ((ir).toInt64)), .second, .val (.long (((ir).toInt64) + (((ig).toInt64) &&& (2147483647 : Int64)))), .second, .val (.ref b239), .val (.int (0 : Int32)), .val (.int (0 : Int32)), .val (.int (0 : Int32)), .val (.int (1 : Int32)), .val (.long (((ia).toInt64) &&& (2147483647 : Int64))), .second, .val (.long (((ib).toInt64) &&& (2147483647 : Int64))), .second, .val (.int (1 : Int32)), .val (.int (1 : Int32)), .unset, .unset, .unset]) rfl ?_
            refine g_iload cx d0_227 rfl ?_
            refine g_if_eq cx d0_229 (fun q => absurd q (fun q => by revert q; decide)) (fun hc229 => ?_)
            refine g_iload cx d0_232 rfl ?_
            refine g_if_eq cx d0_234 (fun q => absurd q (fun q => by revert q; decide)) (fun hc234 => ?_)
            refine g_lload cx d0_237 rfl ?_
            refine g_lload cx d0_239 rfl ?_
            refine g_ldcJ cx d0_241 (hw _ (List.mem_of_getElem? (i := 151) rfl)) ?_
            refine g_lsub cx d0_244 ?_
            refine g_lif_ge cx d0_245 d0_246 (fun hc246 => ?_) (fun q => absurd q (fun q => hq287 q))
            refine g_iconst cx d0_253 (v := (0 : Int32)) rfl ?_
            refine g_istore cx d0_254 (Ls' := #[.val (.int ia), .val (.int ib), .val (.int ic), .val (.int iw), .val (.int ir), .val (.int ig), .val (.long (((ia).toInt64) &&& (2147483647 : Int64))), .second, .val (.long (((ib).toInt64) &&& (2147483647 : Int64))), .second, .val (.int (1 : Int32)), .val (.int (2 : Int32)), .val (.long ((ir).toInt64)), .second, .val (.long (((ir).toInt64) + (((ig).toInt64) &&& (2147483647 : Int64)))), .second, .val (.ref b239), .val (.int (0 : Int32)), .val (.int (0 : Int32)), .val (.int (0 : Int32)), .val (.int (1 : Int32)), .val (.long (((ia).toInt64) &&& (2147483647 : Int64))), .second, .val (.long (((ib).toInt64) &&& (2147483647 : Int64))), .second, .val (.int (1 : Int32)), .val (.int (1 : Int32)), .val (.int (0 : Int32)), .unset, .unset]) rfl ?_
            refine g_iload cx d0_256 rfl ?_
            refine g_if_eq cx d0_258 (fun q => absurd q (fun q => by revert q; decide)) (fun hc258 => ?_)
            refine g_iload cx d0_261 rfl ?_
            refine g_if_ne cx d0_263 (fun q => absurd q (fun q => by revert q; decide)) (fun hc263 => ?_)
            refine g_lload cx d0_266 rfl ?_
            refine g_goto cx d0_268 ?_
            refine g_iload cx d0_272 rfl ?_
            refine g_if_eq cx d0_274 (fun q => absurd q (fun q => by revert q; decide)) (fun hc274 => ?_)
            refine g_lload cx d0_277 rfl ?_
            refine g_goto cx d0_279 ?_
            refine g_ladd cx d0_283 ?_
            refine g_lstore cx d0_284 (Ls' := #[.val (.int ia), .val (.int ib), .val (.int ic), .val (.int iw), .val (.int ir), .val (.int ig), .val (.long (((ia).toInt64) &&& (2147483647 : Int64))), .second, .val (.long (((ib).toInt64) &&& (2147483647 : Int64))), .second, .val (.int (1 : Int32)), .val (.int (2 : Int32)), .val (.long ((ir).toInt64)), .second, .val (.long (((ir).toInt64) + (((ig).toInt64) &&& (2147483647 : Int64)))), .second, .val (.ref b239), .val (.int (0 : Int32)), .val (.int (0 : Int32)), .val (.int (0 : Int32)), .val (.int (1 : Int32)), .val (.long (((ia).toInt64) &&& (2147483647 : Int64))), .second, .val (.long (((ib).toInt64) &&& (2147483647 : Int64))), .second, .val (.int (1 : Int32)), .val (.int (1 : Int32)), .val (.int (0 : Int32)), .val (.long ((((ia).toInt64) &&& (2147483647 : Int64)) + (((ib).toInt64) &&& (2147483647 : Int64)))), .second]) rfl ?_
            refine g_iload cx d0_286 rfl ?_
            refine g_if_ne cx d0_288 (fun q => absurd q (fun q => by revert q; decide)) (fun hc288 => ?_)
            refine g_iload cx d0_291 rfl ?_
            refine g_if_ne cx d0_293 (fun q => absurd q (fun q => by revert q; decide)) (fun hc293 => ?_)
            refine g_iload cx d0_296 rfl ?_
            refine g_lload cx d0_298 rfl ?_
            refine g_lconst cx d0_300 (v := (0 : Int64)) rfl ?_
            refine g_lif_le cx d0_301 d0_302 (fun hc302 => ?_) (fun q => absurd q (fun q => hq279 q))
            refine g_iconst cx d0_309 (v := (0 : Int32)) rfl ?_
            refine g_icmp_ne cx d0_310 (fun q => absurd q (fun q => by revert q; decide)) (fun hc310 => ?_)
            refine g_iload cx d0_313 rfl ?_
            refine g_lload cx d0_315 rfl ?_
            refine g_lconst cx d0_317 (v := (0 : Int64)) rfl ?_
            refine g_lif_le cx d0_318 d0_319 (fun q => absurd q (fun q => q hq297)) (fun hc319 => ?_)
            refine g_iconst cx d0_322 (v := (1 : Int32)) rfl ?_
            refine g_goto cx d0_323 ?_
            refine g_icmp_ne cx d0_327 (fun q => absurd q (fun q => by revert q; decide)) (fun hc327 => ?_)
            refine g_iconst cx d0_330 (v := (1 : Int32)) rfl ?_
            refine g_goto cx d0_331 ?_
            refine g_retZ cx d0_335 rfl rfl (by decide) (by decide) ?_
            rfl
        · have ne_b239_b289 : b239 ≠ b289 := Nat.ne_of_lt (Nat.lt_of_lt_of_le lt_b239 sq_b289)
          have ne_b244_b289 : b244 ≠ b289 := Nat.ne_of_lt (Nat.lt_of_lt_of_le lt_b244 sq_b289)
          have ne_b246_b289 : b246 ≠ b289 := Nat.ne_of_lt (Nat.lt_of_lt_of_le lt_b246 sq_b289)
          have ne_b274_b289 : b274 ≠ b289 := Nat.ne_of_lt (Nat.lt_of_lt_of_le O_b274.lt sq_b289)
          have ne_b245_b289 : b245 ≠ b289 := Nat.ne_of_lt (Nat.lt_of_lt_of_le lt_b245 sq_b289)
          have ne_b247_b289 : b247 ≠ b289 := Nat.ne_of_lt (Nat.lt_of_lt_of_le lt_b247 sq_b289)
          have ne_b258_b289 : b258 ≠ b289 := Nat.ne_of_lt (Nat.lt_of_lt_of_le A_b258.lt sq_b289)
          have ne_b264_b289 : b264 ≠ b289 := Nat.ne_of_lt (Nat.lt_of_lt_of_le A_b264.lt sq_b289)
          have g_b289 : Z.heap.size ≤ b289 := Nat.le_trans OL.2.1 sq_b289
          have O_b274 := O_b274.keep K291 (ninS (Ne.symm ne_b239_b274) (ninS (Ne.symm ne_b244_b274) (ninS (Ne.symm ne_b245_b274) (ninS (Ne.symm ne_b246_b274) (ninS (Ne.symm ne_b247_b274) nin0)))))
          have A_b258 := A_b258.keep K291 (ninS (Ne.symm ne_b239_b258) (ninS (Ne.symm ne_b244_b258) (ninS (Ne.symm ne_b245_b258) (ninS (Ne.symm ne_b246_b258) (ninS (Ne.symm ne_b247_b258) nin0)))))
          have A_b264 := A_b264.keep K291 (ninS (Ne.symm ne_b239_b264) (ninS (Ne.symm ne_b244_b264) (ninS (Ne.symm ne_b245_b264) (ninS (Ne.symm ne_b246_b264) (ninS (Ne.symm ne_b247_b264) nin0)))))
          have OL := OL.keep K291 (allS g_b239 (allS g_b244 (allS g_b245 (allS g_b246 (allS g_b247 all0)))))
          refine G.cast (st' := []) ?_ rfl
          refine g_aload cx d0_128 rfl rfl ?_
          refine g_virtual cx (y := (⟨"com/example/thalweg/thalweg/node/Pace", "known", "()Z"⟩ : MethodName)) (z := (⟨"com/example/thalweg/thalweg/node/Pace", "known", "()Z"⟩ : MethodName)) (a := b239) d0_130 (hw _ (List.mem_of_getElem? (i := 31) rfl)) (hw _ (List.mem_of_getElem? (i := 32) rfl)) (hw _ (List.mem_of_getElem? (i := 3) rfl)) (hw _ (List.mem_of_getElem? (i := 35) rfl)) (hw _ (List.mem_of_getElem? (i := 34) rfl)) (hw _ (List.mem_of_getElem? (i := 33) rfl)) rfl (by decide) O_b239.1 (bytes := prog_54_method_5_code) (maxL' := 1) (M := (ra46 l Z a0 hw  b239 b244 b245 b246 b247 b289 (((ir).toInt64) + (((ig).toInt64) &&& (2147483647 : Int64))) (((ib).toInt64) &&& (2147483647 : Int64)) (own_max (1 : Int64) ((((ir).toInt64) + (((ig).toInt64) &&& (2147483647 : Int64))) - ((ir).toInt64))) ((((ir).toInt64) + (((ig).toInt64) &&& (2147483647 : Int64))) - ((iw).toInt64)) (((((ia).toInt64) &&& (2147483647 : Int64)) + (((ib).toInt64) &&& (2147483647 : Int64))) - (((ia).toInt64) &&& (2147483647 : Int64))) ((((((ia).toInt64) &&& (2147483647 : Int64)) + (((ib).toInt64) &&& (2147483647 : Int64))) - (((ia).toInt64) &&& (2147483647 : Int64))) - (((ib).toInt64) &&& (2147483647 : Int64))) (((own_max (1 : Int64) (((ir).toInt64) - ((iw).toInt64))) + (own_max (1 : Int64) ((((ir).toInt64) + (((ig).toInt64) &&& (2147483647 : Int64))) - ((ir).toInt64)))) - (own_max (1 : Int64) (((ir).toInt64) - ((iw).toInt64)))) cA248 cA249 _ O_b239 O_b244 O_b246 O_b289 A_b245 A_b247 OV_b245 OV_b247 ne_b239_b244 ne_b239_b245 ne_b244_b245 ne_b239_b246 ne_b244_b246 ne_b245_b246 ne_b239_b247 ne_b244_b247 ne_b245_b247 ne_b246_b247 ne_b239_b289 ne_b244_b289 ne_b245_b289 ne_b246_b289 ne_b247_b289 g_b239 g_b244 g_b245 g_b246 g_b247 g_b289 OL)) rfl (lenOf pd_1 rfl) (by decide) (W := 0) (Nat.le_of_eq rfl) (by decide) (k' := 9) (n' := 60) rfl rfl (by decide) (by decide) (argsL := []) (rest := []) rfl (fun v307 h306 q308 => ?_)
          rcases q308 with ⟨hq302, rfl, rfl⟩ | ⟨hq304, rfl, rfl⟩
          · refine G.cast (st' := [(.int (0 : Int32))]) ?_ rfl
            refine g_istore cx d0_133 (Ls' := #[.val (.int ia), .val (.int ib), .val (.int ic), .val (.int iw), .val (.int ir), .val (.int ig), .val (.long (((ia).toInt64) &&& (2147483647 : Int64))), .second, .val (.long (((ib).toInt64) &&& (2147483647 : Int64))), .second, .val (.int (1 : Int32)), .val (.int (2 : Int32)), .val (.long ((ir).toInt64)), .second, .val (.long (((ir).toInt64) + (((ig).toInt64) &&& (2147483647 : Int64)))), .second, .val (.ref b239), .val (.int (0 : Int32)), .val (.int (0 : Int32)), .val (.int (0 : Int32)), .val (.int (0 : Int32)), .unset, .unset, .unset, .unset, .unset, .unset, .unset, .unset, .unset]) rfl ?_
            refine g_iload cx d0_135 rfl ?_
            refine g_iconst cx d0_137 (v := (1 : Int32)) rfl ?_
            refine g_icmp_lt cx d0_138 (fun q => absurd q (fun q => by revert q; decide)) (fun hc138 => ?_)
            refine g_lload cx d0_141 rfl ?_
            refine g_goto cx d0_143 ?_
            refine g_iload cx d0_147 rfl ?_
            refine g_iconst cx d0_149 (v := (2 : Int32)) rfl ?_
            refine g_icmp_lt cx d0_150 (fun hc150 => ?_) (fun q => absurd q (fun q => by revert q; decide))
            refine g_lconst cx d0_158 (v := (0 : Int64)) rfl ?_
            refine g_ladd cx d0_159 ?_
            rw [Int64.add_zero]
            refine g_lstore cx d0_160 (Ls' := #[.val (.int ia), .val (.int ib), .val (.int ic), .val (.int iw), .val (.int ir), .val (.int ig), .val (.long (((ia).toInt64) &&& (2147483647 : Int64))), .second, .val (.long (((ib).toInt64) &&& (2147483647 : Int64))), .second, .val (.int (1 : Int32)), .val (.int (2 : Int32)), .val (.long ((ir).toInt64)), .second, .val (.long (((ir).toInt64) + (((ig).toInt64) &&& (2147483647 : Int64)))), .second, .val (.ref b239), .val (.int (0 : Int32)), .val (.int (0 : Int32)), .val (.int (0 : Int32)), .val (.int (0 : Int32)), .val (.long (((ia).toInt64) &&& (2147483647 : Int64))), .second, .unset, .unset, .unset, .unset, .unset, .unset, .unset]) rfl ?_
            refine g_iload cx d0_162 rfl ?_
            refine g_iconst cx d0_164 (v := (1 : Int32)) rfl ?_
            refine g_icmp_ge cx d0_165 (fun hc165 => ?_) (fun q => absurd q (fun q => by revert q; decide))
            refine g_lconst cx d0_179 (v := (0 : Int64)) rfl ?_
            refine g_iload cx d0_180 rfl ?_
            refine g_iconst cx d0_182 (v := (2 : Int32)) rfl ?_
            refine g_icmp_ge cx d0_183 (fun q => absurd q (fun q => by revert q; decide)) (fun hc183 => ?_)
            refine g_iload cx d0_186 rfl ?_
            refine g_iconst cx d0_188 (v := (2 : Int32)) rfl ?_
            refine g_icmp_lt cx d0_189 (fun q => absurd q (fun q => by revert q; decide)) (fun hc189 => ?_)
            refine g_lload cx d0_192 rfl ?_
            refine g_goto cx d0_194 ?_
            refine g_ladd cx d0_198 ?_
            rw [Int64.zero_add]
            refine g_lstore cx d0_199 (Ls' := #[.val (.int ia), .val (.int ib), .val (.int ic), .val (.int iw), .val (.int ir), .val (.int ig), .val (.long (((ia).toInt64) &&& (2147483647 : Int64))), .second, .val (.long (((ib).toInt64) &&& (2147483647 : Int64))), .second, .val (.int (1 : Int32)), .val (.int (2 : Int32)), .val (.long ((ir).toInt64)), .second, .val (.long (((ir).toInt64) + (((ig).toInt64) &&& (2147483647 : Int64)))), .second, .val (.ref b239), .val (.int (0 : Int32)), .val (.int (0 : Int32)), .val (.int (0 : Int32)), .val (.int (0 : Int32)), .val (.long (((ia).toInt64) &&& (2147483647 : Int64))), .second, .val (.long (((ib).toInt64) &&& (2147483647 : Int64))), .second, .unset, .unset, .unset, .unset, .unset]) rfl ?_
            refine g_iload cx d0_201 rfl ?_
            refine g_if_le cx d0_203 (fun q => absurd q (fun q => by revert q; decide)) (fun hc203 => ?_)
            refine g_iconst cx d0_206 (v := (1 : Int32)) rfl ?_
            refine g_goto cx d0_207 ?_
            refine g_istore cx d0_211 (Ls' := #[.val (.int ia), .val (.int ib), .val (.int ic), .val (.int iw), .val (.int ir), .val (.int ig), .val (.long (((ia).toInt64) &&& (2147483647 : Int64))), .second, .val (.long (((ib).toInt64) &&& (2147483647 : Int64))), .second, .val (.int (1 : Int32)), .val (.int (2 : Int32)), .val (.long ((ir).toInt64)), .second, .val (.long (((ir).toInt64) + (((ig).toInt64) &&& (2147483647 : Int64)))), .second, .val (.ref b239), .val (.int (0 : Int32)), .val (.int (0 : Int32)), .val (.int (0 : Int32)), .val (.int (0 : Int32)), .val (.long (((ia).toInt64) &&& (2147483647 : Int64))), .second, .val (.long (((ib).toInt64) &&& (2147483647 : Int64))), .second, .val (.int (1 : Int32)), .unset, .unset, .unset, .unset]) rfl ?_
            refine g_iload cx d0_213 rfl ?_
            refine g_iload cx d0_215 rfl ?_
            refine g_icmp_le cx d0_217 (fun q => absurd q (fun q => by revert q; decide)) (fun hc217 => ?_)
            refine g_iconst cx d0_220 (v := (1 : Int32)) rfl ?_
            refine g_goto cx d0_221 ?_
            refine g_istore cx d0_225 (Ls' := #[.val (.int ia), .val (.int ib), .val (.int ic), .val (.int iw), .val (.int ir), .val (.int ig), .val (.long (((ia).toInt64) &&& (2147483647 : Int64))), .second, .val (.long (((ib).toInt64) &&& (2147483647 : Int64))), .second, .val (.int (1 : Int32)), .val (.int (2 : Int32)), .val (.long ((ir).toInt64)), .second, .val (.long (((ir).toInt64) + (((ig).toInt64) &&& (2147483647 : Int64)))), .second, .val (.ref b239), .val (.int (0 : Int32)), .val (.int (0 : Int32)), .val (.int (0 : Int32)), .val (.int (0 : Int32)), .val (.long (((ia).toInt64) &&& (2147483647 : Int64))), .second, .val (.long (((ib).toInt64) &&& (2147483647 : Int64))), .second, .val (.int (1 : Int32)), .val (.int (1 : Int32)), .unset, .unset, .unset]) rfl ?_
            refine g_iload cx d0_227 rfl ?_
            refine g_if_eq cx d0_229 (fun q => absurd q (fun q => by revert q; decide)) (fun hc229 => ?_)
            refine g_iload cx d0_232 rfl ?_
            refine g_if_eq cx d0_234 (fun q => absurd q (fun q => by revert q; decide)) (fun hc234 => ?_)
            refine g_lload cx d0_237 rfl ?_
            refine g_lload cx d0_239 rfl ?_
            refine g_ldcJ cx d0_241 (hw _ (List.mem_of_getElem? (i := 151) rfl)) ?_
            refine g_lsub cx d0_244 ?_
            refine g_lif_ge cx d0_245 d0_246 (fun q => absurd q (fun q => q hq290)) (fun hc246 => ?_)
            refine g_iconst cx d0_249 (v := (1 : Int32)) rfl ?_
            refine g_goto cx d0_250 ?_
            refine g_istore cx d0_254 (Ls' := #[.val (.int ia), .val (.int ib), .val (.int ic), .val (.int iw), .val (.int ir), .val (.int ig), .val (.long (((ia).toInt64) &&& (2147483647 : Int64))), .second, .val (.long (((ib).toInt64) &&& (2147483647 : Int64))), .second, .val (.int (1 : Int32)), .val (.int (2 : Int32)), .val (.long ((ir).toInt64)), .second, .val (.long (((ir).toInt64) + (((ig).toInt64) &&& (2147483647 : Int64)))), .second, .val (.ref b239), .val (.int (0 : Int32)), .val (.int (0 : Int32)), .val (.int (0 : Int32)), .val (.int (0 : Int32)), .val (.long (((ia).toInt64) &&& (2147483647 : Int64))), .second, .val (.long (((ib).toInt64) &&& (2147483647 : Int64))), .second, .val (.int (1 : Int32)), .val (.int (1 : Int32)), .val (.int (1 : Int32)), .unset, .unset]) rfl ?_
            refine g_iload cx d0_256 rfl ?_
            refine g_if_eq cx d0_258 (fun q => absurd q (fun q => by revert q; decide)) (fun hc258 => ?_)
            refine g_iload cx d0_261 rfl ?_
            refine g_if_ne cx d0_263 (fun hc263 => ?_) (fun q => absurd q (fun q => by revert q; decide))
            refine g_lconst cx d0_271 (v := (0 : Int64)) rfl ?_
            refine g_iload cx d0_272 rfl ?_
            refine g_if_eq cx d0_274 (fun q => absurd q (fun q => by revert q; decide)) (fun hc274 => ?_)
            refine g_lload cx d0_277 rfl ?_
            refine g_goto cx d0_279 ?_
            refine g_ladd cx d0_283 ?_
            rw [Int64.zero_add]
            refine g_lstore cx d0_284 (Ls' := #[.val (.int ia), .val (.int ib), .val (.int ic), .val (.int iw), .val (.int ir), .val (.int ig), .val (.long (((ia).toInt64) &&& (2147483647 : Int64))), .second, .val (.long (((ib).toInt64) &&& (2147483647 : Int64))), .second, .val (.int (1 : Int32)), .val (.int (2 : Int32)), .val (.long ((ir).toInt64)), .second, .val (.long (((ir).toInt64) + (((ig).toInt64) &&& (2147483647 : Int64)))), .second, .val (.ref b239), .val (.int (0 : Int32)), .val (.int (0 : Int32)), .val (.int (0 : Int32)), .val (.int (0 : Int32)), .val (.long (((ia).toInt64) &&& (2147483647 : Int64))), .second, .val (.long (((ib).toInt64) &&& (2147483647 : Int64))), .second, .val (.int (1 : Int32)), .val (.int (1 : Int32)), .val (.int (1 : Int32)), .val (.long (((ib).toInt64) &&& (2147483647 : Int64))), .second]) rfl ?_
            refine g_iload cx d0_286 rfl ?_
            refine g_if_ne cx d0_288 (fun q => absurd q (fun q => by revert q; decide)) (fun hc288 => ?_)
            refine g_iload cx d0_291 rfl ?_
            refine g_if_ne cx d0_293 (fun q => absurd q (fun q => by revert q; decide)) (fun hc293 => ?_)
            refine g_iload cx d0_296 rfl ?_
            refine g_lload cx d0_298 rfl ?_
            refine g_lconst cx d0_300 (v := (0 : Int64)) rfl ?_
            refine g_lif_le cx d0_301 d0_302 (fun hc302 => ?_) (fun q => absurd q (fun q => hq279 q))
            refine g_iconst cx d0_309 (v := (0 : Int32)) rfl ?_
            refine g_icmp_ne cx d0_310 (fun q => absurd q (fun q => by revert q; decide)) (fun hc310 => ?_)
            refine g_iload cx d0_313 rfl ?_
            refine g_lload cx d0_315 rfl ?_
            refine g_lconst cx d0_317 (v := (0 : Int64)) rfl ?_
            refine g_lif_le cx d0_318 d0_319 (fun hc319 => ?_) (fun hc319 => ?_)
            · refine g_iconst cx d0_326 (v := (0 : Int32)) rfl ?_
              refine g_icmp_ne cx d0_327 (fun q => absurd q (fun q => by revert q; decide)) (fun hc327 => ?_)
              refine g_iconst cx d0_330 (v := (1 : Int32)) rfl ?_
              refine g_goto cx d0_331 ?_
              refine g_retZ cx d0_335 rfl rfl (by decide) (by decide) ?_
              rfl
            · refine g_iconst cx d0_322 (v := (1 : Int32)) rfl ?_
              refine g_goto cx d0_323 ?_
              refine g_icmp_ne cx d0_327 (fun hc327 => ?_) (fun q => absurd q (fun q => by revert q; decide))
              refine g_iconst cx d0_334 (v := (0 : Int32)) rfl ?_
              refine g_retZ cx d0_335 rfl rfl (by decide) (by decide) ?_
              exfalso
              have i_hs1 : (((ic &&& (255 : Int32)) % (3 : Int32))).toInt = ((1 : Int32)).toInt := congrArg Int32.toInt hs1
              have i_hs167 : ((((((ic).toUInt32 >>> ((8 : Int32) &&& 31).toUInt32).toInt32) &&& (255 : Int32)) % (2 : Int32))).toInt = ((1 : Int32)).toInt := congrArg Int32.toInt hs167
              have i_hq279 : ¬ ((0 : Int64)).toInt < ((((ia).toInt64) &&& (2147483647 : Int64))).toInt := fun z => hq279 (Int64.lt_iff_toInt_lt.mpr z)
              have i_hq290 : (((ir).toInt64)).toInt < (((((ir).toInt64) + (((ig).toInt64) &&& (2147483647 : Int64))) - (2000000000 : Int64))).toInt := Int64.lt_iff_toInt_lt.mp hq290
              have i_hq302 : ¬ ((0 : Int64)).toInt < ((((((ia).toInt64) &&& (2147483647 : Int64)) + (((ib).toInt64) &&& (2147483647 : Int64))) - (((ia).toInt64) &&& (2147483647 : Int64)))).toInt := fun z => hq302 (Int64.lt_iff_toInt_lt.mpr z)
              have i_hc138 : ¬ ((1 : Int32)).toInt < ((1 : Int32)).toInt := fun z => hc138 (Int32.lt_iff_toInt_lt.mpr z)
              have i_hc150 : ((1 : Int32)).toInt < ((2 : Int32)).toInt := Int32.lt_iff_toInt_lt.mp hc150
              have i_hc165 : ¬ ((1 : Int32)).toInt < ((1 : Int32)).toInt := fun z => hc165 (Int32.lt_iff_toInt_lt.mpr z)
              have i_hc183 : ((1 : Int32)).toInt < ((2 : Int32)).toInt := Int32.lt_iff_toInt_lt.mp hc183
              have i_hc189 : ¬ ((2 : Int32)).toInt < ((2 : Int32)).toInt := fun z => hc189 (Int32.lt_iff_toInt_lt.mpr z)
              have i_hc203 : ((0 : Int32)).toInt < ((1 : Int32)).toInt := Int32.lt_iff_toInt_lt.mp hc203
              have i_hc217 : ((1 : Int32)).toInt < ((2 : Int32)).toInt := Int32.lt_iff_toInt_lt.mp hc217
              have i_hc229 : ¬ ((1 : Int32)).toInt = ((0 : Int32)).toInt := fun z => hc229 (Int32.toInt_inj.mp z)
              have i_hc234 : ¬ ((1 : Int32)).toInt = ((0 : Int32)).toInt := fun z => hc234 (Int32.toInt_inj.mp z)
              have i_hc246 : (((ir).toInt64)).toInt < (((((ir).toInt64) + (((ig).toInt64) &&& (2147483647 : Int64))) - (2000000000 : Int64))).toInt := Int64.lt_iff_toInt_lt.mp hc246
              have i_hc258 : ¬ ((1 : Int32)).toInt = ((0 : Int32)).toInt := fun z => hc258 (Int32.toInt_inj.mp z)
              have i_hc263 : ¬ ((1 : Int32)).toInt = ((0 : Int32)).toInt := fun z => hc263 (Int32.toInt_inj.mp z)
              have i_hc274 : ¬ ((1 : Int32)).toInt = ((0 : Int32)).toInt := fun z => hc274 (Int32.toInt_inj.mp z)
              have i_hc288 : ((0 : Int32)).toInt = ((0 : Int32)).toInt := congrArg Int32.toInt hc288
              have i_hc293 : ((0 : Int32)).toInt = ((0 : Int32)).toInt := congrArg Int32.toInt hc293
              have i_hc302 : ¬ ((0 : Int64)).toInt < ((((ia).toInt64) &&& (2147483647 : Int64))).toInt := fun z => hc302 (Int64.lt_iff_toInt_lt.mpr z)
              have i_hc310 : ((0 : Int32)).toInt = ((0 : Int32)).toInt := congrArg Int32.toInt hc310
              have i_hc319 : ((0 : Int64)).toInt < ((((ib).toInt64) &&& (2147483647 : Int64))).toInt := Int64.lt_iff_toInt_lt.mp hc319
              have i_hc327 : ¬ ((0 : Int32)).toInt = ((1 : Int32)).toInt := fun z => hc327 (Int32.toInt_inj.mp z)
              have r3 := rng32 ic
              have e2 : ((ic &&& (255 : Int32))).toInt = (ic).toInt % 256 := c_mask ic (255 : Int32) 8 (by decide) (by decide)
              have e1 : (0 ≤ ((ic &&& (255 : Int32))).toInt → (((ic &&& (255 : Int32)) % (3 : Int32))).toInt = ((ic &&& (255 : Int32))).toInt % 3) ∧ (((ic &&& (255 : Int32))).toInt < 0 → (((ic &&& (255 : Int32)) % (3 : Int32))).toInt = -((-((ic &&& (255 : Int32))).toInt) % 3)) := c_irem (ic &&& (255 : Int32)) (3 : Int32) 3 rfl
              have e4 : (1 : Int32).toInt = 1 := rfl
              have e7 : ((((ic).toUInt32 >>> ((8 : Int32) &&& 31).toUInt32).toInt32)).toInt = ((ic).toInt % 4294967296) / 256 := c_iushr ic (8 : Int32) 8 (by decide) (by decide)
              have e6 : (((((ic).toUInt32 >>> ((8 : Int32) &&& 31).toUInt32).toInt32) &&& (255 : Int32))).toInt = ((((ic).toUInt32 >>> ((8 : Int32) &&& 31).toUInt32).toInt32)).toInt % 256 := c_mask (((ic).toUInt32 >>> ((8 : Int32) &&& 31).toUInt32).toInt32) (255 : Int32) 8 (by decide) (by decide)
              have e5 : (0 ≤ (((((ic).toUInt32 >>> ((8 : Int32) &&& 31).toUInt32).toInt32) &&& (255 : Int32))).toInt → ((((((ic).toUInt32 >>> ((8 : Int32) &&& 31).toUInt32).toInt32) &&& (255 : Int32)) % (2 : Int32))).toInt = (((((ic).toUInt32 >>> ((8 : Int32) &&& 31).toUInt32).toInt32) &&& (255 : Int32))).toInt % 2) ∧ ((((((ic).toUInt32 >>> ((8 : Int32) &&& 31).toUInt32).toInt32) &&& (255 : Int32))).toInt < 0 → ((((((ic).toUInt32 >>> ((8 : Int32) &&& 31).toUInt32).toInt32) &&& (255 : Int32)) % (2 : Int32))).toInt = -((-(((((ic).toUInt32 >>> ((8 : Int32) &&& 31).toUInt32).toInt32) &&& (255 : Int32))).toInt) % 2)) := c_irem ((((ic).toUInt32 >>> ((8 : Int32) &&& 31).toUInt32).toInt32) &&& (255 : Int32)) (2 : Int32) 2 rfl
              have e8 : (0 : Int64).toInt = 0 := rfl
              have r11 := rng32 ia
              have e10 := c_i2l ia
              have e9 : ((((ia).toInt64) &&& (2147483647 : Int64))).toInt = (((ia).toInt64)).toInt % 2147483648 := c_maskL ((ia).toInt64) (2147483647 : Int64) 31 (by decide) (by decide)
              have r13 := rng32 ir
              have e12 := c_i2l ir
              have r18 := rng32 ig
              have e17 := c_i2l ig
              have e16 : ((((ig).toInt64) &&& (2147483647 : Int64))).toInt = (((ig).toInt64)).toInt % 2147483648 := c_maskL ((ig).toInt64) (2147483647 : Int64) 31 (by decide) (by decide)
              have e15 := c_ladd ((ir).toInt64) (((ig).toInt64) &&& (2147483647 : Int64))
              have r15 := rng64 (((ir).toInt64) + (((ig).toInt64) &&& (2147483647 : Int64)))
              have e19 : (2000000000 : Int64).toInt = 2000000000 := rfl
              have e14 := c_lsub (((ir).toInt64) + (((ig).toInt64) &&& (2147483647 : Int64))) (2000000000 : Int64)
              have r14 := rng64 ((((ir).toInt64) + (((ig).toInt64) &&& (2147483647 : Int64))) - (2000000000 : Int64))
              have r24 := rng32 ib
              have e23 := c_i2l ib
              have e22 : ((((ib).toInt64) &&& (2147483647 : Int64))).toInt = (((ib).toInt64)).toInt % 2147483648 := c_maskL ((ib).toInt64) (2147483647 : Int64) 31 (by decide) (by decide)
              have e21 := c_ladd (((ia).toInt64) &&& (2147483647 : Int64)) (((ib).toInt64) &&& (2147483647 : Int64))
              have r21 := rng64 ((((ia).toInt64) &&& (2147483647 : Int64)) + (((ib).toInt64) &&& (2147483647 : Int64)))
              have e20 := c_lsub ((((ia).toInt64) &&& (2147483647 : Int64)) + (((ib).toInt64) &&& (2147483647 : Int64))) (((ia).toInt64) &&& (2147483647 : Int64))
              have r20 := rng64 (((((ia).toInt64) &&& (2147483647 : Int64)) + (((ib).toInt64) &&& (2147483647 : Int64))) - (((ia).toInt64) &&& (2147483647 : Int64)))
              have e25 : (2 : Int32).toInt = 2 := rfl
              have e26 : (0 : Int32).toInt = 0 := rfl
              omega
          · refine G.cast (st' := [(.int (1 : Int32))]) ?_ rfl
            refine g_istore cx d0_133 (Ls' := #[.val (.int ia), .val (.int ib), .val (.int ic), .val (.int iw), .val (.int ir), .val (.int ig), .val (.long (((ia).toInt64) &&& (2147483647 : Int64))), .second, .val (.long (((ib).toInt64) &&& (2147483647 : Int64))), .second, .val (.int (1 : Int32)), .val (.int (2 : Int32)), .val (.long ((ir).toInt64)), .second, .val (.long (((ir).toInt64) + (((ig).toInt64) &&& (2147483647 : Int64)))), .second, .val (.ref b239), .val (.int (0 : Int32)), .val (.int (0 : Int32)), .val (.int (0 : Int32)), .val (.int (1 : Int32)), .unset, .unset, .unset, .unset, .unset, .unset, .unset, .unset, .unset]) rfl ?_
            refine g_iload cx d0_135 rfl ?_
            refine g_iconst cx d0_137 (v := (1 : Int32)) rfl ?_
            refine g_icmp_lt cx d0_138 (fun q => absurd q (fun q => by revert q; decide)) (fun hc138 => ?_)
            refine g_lload cx d0_141 rfl ?_
            refine g_goto cx d0_143 ?_
            refine g_iload cx d0_147 rfl ?_
            refine g_iconst cx d0_149 (v := (2 : Int32)) rfl ?_
            refine g_icmp_lt cx d0_150 (fun hc150 => ?_) (fun q => absurd q (fun q => by revert q; decide))
            refine g_lconst cx d0_158 (v := (0 : Int64)) rfl ?_
            refine g_ladd cx d0_159 ?_
            rw [Int64.add_zero]
            refine g_lstore cx d0_160 (Ls' := #[.val (.int ia), .val (.int ib), .val (.int ic), .val (.int iw), .val (.int ir), .val (.int ig), .val (.long (((ia).toInt64) &&& (2147483647 : Int64))), .second, .val (.long (((ib).toInt64) &&& (2147483647 : Int64))), .second, .val (.int (1 : Int32)), .val (.int (2 : Int32)), .val (.long ((ir).toInt64)), .second, .val (.long (((ir).toInt64) + (((ig).toInt64) &&& (2147483647 : Int64)))), .second, .val (.ref b239), .val (.int (0 : Int32)), .val (.int (0 : Int32)), .val (.int (0 : Int32)), .val (.int (1 : Int32)), .val (.long (((ia).toInt64) &&& (2147483647 : Int64))), .second, .unset, .unset, .unset, .unset, .unset, .unset, .unset]) rfl ?_
            refine g_iload cx d0_162 rfl ?_
            refine g_iconst cx d0_164 (v := (1 : Int32)) rfl ?_
            refine g_icmp_ge cx d0_165 (fun hc165 => ?_) (fun q => absurd q (fun q => by revert q; decide))
            refine g_lconst cx d0_179 (v := (0 : Int64)) rfl ?_
            refine g_iload cx d0_180 rfl ?_
            refine g_iconst cx d0_182 (v := (2 : Int32)) rfl ?_
            refine g_icmp_ge cx d0_183 (fun q => absurd q (fun q => by revert q; decide)) (fun hc183 => ?_)
            refine g_iload cx d0_186 rfl ?_
            refine g_iconst cx d0_188 (v := (2 : Int32)) rfl ?_
            refine g_icmp_lt cx d0_189 (fun q => absurd q (fun q => by revert q; decide)) (fun hc189 => ?_)
            refine g_lload cx d0_192 rfl ?_
            refine g_goto cx d0_194 ?_
            refine g_ladd cx d0_198 ?_
            rw [Int64.zero_add]
            refine g_lstore cx d0_199 (Ls' := #[.val (.int ia), .val (.int ib), .val (.int ic), .val (.int iw), .val (.int ir), .val (.int ig), .val (.long (((ia).toInt64) &&& (2147483647 : Int64))), .second, .val (.long (((ib).toInt64) &&& (2147483647 : Int64))), .second, .val (.int (1 : Int32)), .val (.int (2 : Int32)), .val (.long ((ir).toInt64)), .second, .val (.long (((ir).toInt64) + (((ig).toInt64) &&& (2147483647 : Int64)))), .second, .val (.ref b239), .val (.int (0 : Int32)), .val (.int (0 : Int32)), .val (.int (0 : Int32)), .val (.int (1 : Int32)), .val (.long (((ia).toInt64) &&& (2147483647 : Int64))), .second, .val (.long (((ib).toInt64) &&& (2147483647 : Int64))), .second, .unset, .unset, .unset, .unset, .unset]) rfl ?_
            refine g_iload cx d0_201 rfl ?_
            refine g_if_le cx d0_203 (fun q => absurd q (fun q => by revert q; decide)) (fun hc203 => ?_)
            refine g_iconst cx d0_206 (v := (1 : Int32)) rfl ?_
            refine g_goto cx d0_207 ?_
            refine g_istore cx d0_211 (Ls' := #[.val (.int ia), .val (.int ib), .val (.int ic), .val (.int iw), .val (.int ir), .val (.int ig), .val (.long (((ia).toInt64) &&& (2147483647 : Int64))), .second, .val (.long (((ib).toInt64) &&& (2147483647 : Int64))), .second, .val (.int (1 : Int32)), .val (.int (2 : Int32)), .val (.long ((ir).toInt64)), .second, .val (.long (((ir).toInt64) + (((ig).toInt64) &&& (2147483647 : Int64)))), .second, .val (.ref b239), .val (.int (0 : Int32)), .val (.int (0 : Int32)), .val (.int (0 : Int32)), .val (.int (1 : Int32)), .val (.long (((ia).toInt64) &&& (2147483647 : Int64))), .second, .val (.long (((ib).toInt64) &&& (2147483647 : Int64))), .second, .val (.int (1 : Int32)), .unset, .unset, .unset, .unset]) rfl ?_
            refine g_iload cx d0_213 rfl ?_
            refine g_iload cx d0_215 rfl ?_
            refine g_icmp_le cx d0_217 (fun q => absurd q (fun q => by revert q; decide)) (fun hc217 => ?_)
            refine g_iconst cx d0_220 (v := (1 : Int32)) rfl ?_
            refine g_goto cx d0_221 ?_
            refine g_istore cx d0_225 (Ls' := #[.val (.int ia), .val (.int ib), .val (.int ic), .val (.int iw), .val (.int ir), .val (.int ig), .val (.long (((ia).toInt64) &&& (2147483647 : Int64))), .second, .val (.long (((ib).toInt64) &&& (2147483647 : Int64))), .second, .val (.int (1 : Int32)), .val (.int (2 : Int32)), .val (.long ((ir).toInt64)), .second, .val (.long (((ir).toInt64) + (((ig).toInt64) &&& (2147483647 : Int64)))), .second, .val (.ref b239), .val (.int (0 : Int32)), .val (.int (0 : Int32)), .val (.int (0 : Int32)), .val (.int (1 : Int32)), .val (.long (((ia).toInt64) &&& (2147483647 : Int64))), .second, .val (.long (((ib).toInt64) &&& (2147483647 : Int64))), .second, .val (.int (1 : Int32)), .val (.int (1 : Int32)), .unset, .unset, .unset]) rfl ?_
            refine g_iload cx d0_227 rfl ?_
            refine g_if_eq cx d0_229 (fun q => absurd q (fun q => by revert q; decide)) (fun hc229 => ?_)
            refine g_iload cx d0_232 rfl ?_
            refine g_if_eq cx d0_234 (fun q => absurd q (fun q => by revert q; decide)) (fun hc234 => ?_)
            refine g_lload cx d0_237 rfl ?_
            refine g_lload cx d0_239 rfl ?_
            refine g_ldcJ cx d0_241 (hw _ (List.mem_of_getElem? (i := 151) rfl)) ?_
            refine g_lsub cx d0_244 ?_
            refine g_lif_ge cx d0_245 d0_246 (fun q => absurd q (fun q => q hq290)) (fun hc246 => ?_)
            refine g_iconst cx d0_249 (v := (1 : Int32)) rfl ?_
            refine g_goto cx d0_250 ?_
            refine g_istore cx d0_254 (Ls' := #[.val (.int ia), .val (.int ib), .val (.int ic), .val (.int iw), .val (.int ir), .val (.int ig), .val (.long (((ia).toInt64) &&& (2147483647 : Int64))), .second, .val (.long (((ib).toInt64) &&& (2147483647 : Int64))), .second, .val (.int (1 : Int32)), .val (.int (2 : Int32)), .val (.long ((ir).toInt64)), .second, .val (.long (((ir).toInt64) + (((ig).toInt64) &&& (2147483647 : Int64)))), .second, .val (.ref b239), .val (.int (0 : Int32)), .val (.int (0 : Int32)), .val (.int (0 : Int32)), .val (.int (1 : Int32)), .val (.long (((ia).toInt64) &&& (2147483647 : Int64))), .second, .val (.long (((ib).toInt64) &&& (2147483647 : Int64))), .second, .val (.int (1 : Int32)), .val (.int (1 : Int32)), .val (.int (1 : Int32)), .unset, .unset]) rfl ?_
            refine g_iload cx d0_256 rfl ?_
            refine g_if_eq cx d0_258 (fun q => absurd q (fun q => by revert q; decide)) (fun hc258 => ?_)
            refine g_iload cx d0_261 rfl ?_
            refine g_if_ne cx d0_263 (fun hc263 => ?_) (fun q => absurd q (fun q => by revert q; decide))
            refine g_lconst cx d0_271 (v := (0 : Int64)) rfl ?_
            refine g_iload cx d0_272 rfl ?_
            refine g_if_eq cx d0_274 (fun q => absurd q (fun q => by revert q; decide)) (fun hc274 => ?_)
            refine g_lload cx d0_277 rfl ?_
            refine g_goto cx d0_279 ?_
            refine g_ladd cx d0_283 ?_
            rw [Int64.zero_add]
            refine g_lstore cx d0_284 (Ls' := #[.val (.int ia), .val (.int ib), .val (.int ic), .val (.int iw), .val (.int ir), .val (.int ig), .val (.long (((ia).toInt64) &&& (2147483647 : Int64))), .second, .val (.long (((ib).toInt64) &&& (2147483647 : Int64))), .second, .val (.int (1 : Int32)), .val (.int (2 : Int32)), .val (.long ((ir).toInt64)), .second, .val (.long (((ir).toInt64) + (((ig).toInt64) &&& (2147483647 : Int64)))), .second, .val (.ref b239), .val (.int (0 : Int32)), .val (.int (0 : Int32)), .val (.int (0 : Int32)), .val (.int (1 : Int32)), .val (.long (((ia).toInt64) &&& (2147483647 : Int64))), .second, .val (.long (((ib).toInt64) &&& (2147483647 : Int64))), .second, .val (.int (1 : Int32)), .val (.int (1 : Int32)), .val (.int (1 : Int32)), .val (.long (((ib).toInt64) &&& (2147483647 : Int64))), .second]) rfl ?_
            refine g_iload cx d0_286 rfl ?_
            refine g_if_ne cx d0_288 (fun q => absurd q (fun q => by revert q; decide)) (fun hc288 => ?_)
            refine g_iload cx d0_291 rfl ?_
            refine g_if_ne cx d0_293 (fun q => absurd q (fun q => by revert q; decide)) (fun hc293 => ?_)
            refine g_iload cx d0_296 rfl ?_
            refine g_lload cx d0_298 rfl ?_
            refine g_lconst cx d0_300 (v := (0 : Int64)) rfl ?_
            refine g_lif_le cx d0_301 d0_302 (fun hc302 => ?_) (fun q => absurd q (fun q => hq279 q))
            refine g_iconst cx d0_309 (v := (0 : Int32)) rfl ?_
            refine g_icmp_ne cx d0_310 (fun q => absurd q (fun q => by revert q; decide)) (fun hc310 => ?_)
            refine g_iload cx d0_313 rfl ?_
            refine g_lload cx d0_315 rfl ?_
            refine g_lconst cx d0_317 (v := (0 : Int64)) rfl ?_
            refine g_lif_le cx d0_318 d0_319 (fun hc319 => ?_) (fun hc319 => ?_)
            · refine g_iconst cx d0_326 (v := (0 : Int32)) rfl ?_
              refine g_icmp_ne cx d0_327 (fun hc327 => ?_) (fun q => absurd q (fun q => by revert q; decide))
              refine g_iconst cx d0_334 (v := (0 : Int32)) rfl ?_
              refine g_retZ cx d0_335 rfl rfl (by decide) (by decide) ?_
              exfalso
              have i_hs1 : (((ic &&& (255 : Int32)) % (3 : Int32))).toInt = ((1 : Int32)).toInt := congrArg Int32.toInt hs1
              have i_hs167 : ((((((ic).toUInt32 >>> ((8 : Int32) &&& 31).toUInt32).toInt32) &&& (255 : Int32)) % (2 : Int32))).toInt = ((1 : Int32)).toInt := congrArg Int32.toInt hs167
              have i_hq279 : ¬ ((0 : Int64)).toInt < ((((ia).toInt64) &&& (2147483647 : Int64))).toInt := fun z => hq279 (Int64.lt_iff_toInt_lt.mpr z)
              have i_hq290 : (((ir).toInt64)).toInt < (((((ir).toInt64) + (((ig).toInt64) &&& (2147483647 : Int64))) - (2000000000 : Int64))).toInt := Int64.lt_iff_toInt_lt.mp hq290
              have i_hq304 : ((0 : Int64)).toInt < ((((((ia).toInt64) &&& (2147483647 : Int64)) + (((ib).toInt64) &&& (2147483647 : Int64))) - (((ia).toInt64) &&& (2147483647 : Int64)))).toInt := Int64.lt_iff_toInt_lt.mp hq304
              have i_hc138 : ¬ ((1 : Int32)).toInt < ((1 : Int32)).toInt := fun z => hc138 (Int32.lt_iff_toInt_lt.mpr z)
              have i_hc150 : ((1 : Int32)).toInt < ((2 : Int32)).toInt := Int32.lt_iff_toInt_lt.mp hc150
              have i_hc165 : ¬ ((1 : Int32)).toInt < ((1 : Int32)).toInt := fun z => hc165 (Int32.lt_iff_toInt_lt.mpr z)
              have i_hc183 : ((1 : Int32)).toInt < ((2 : Int32)).toInt := Int32.lt_iff_toInt_lt.mp hc183
              have i_hc189 : ¬ ((2 : Int32)).toInt < ((2 : Int32)).toInt := fun z => hc189 (Int32.lt_iff_toInt_lt.mpr z)
              have i_hc203 : ((0 : Int32)).toInt < ((1 : Int32)).toInt := Int32.lt_iff_toInt_lt.mp hc203
              have i_hc217 : ((1 : Int32)).toInt < ((2 : Int32)).toInt := Int32.lt_iff_toInt_lt.mp hc217
              have i_hc229 : ¬ ((1 : Int32)).toInt = ((0 : Int32)).toInt := fun z => hc229 (Int32.toInt_inj.mp z)
              have i_hc234 : ¬ ((1 : Int32)).toInt = ((0 : Int32)).toInt := fun z => hc234 (Int32.toInt_inj.mp z)
              have i_hc246 : (((ir).toInt64)).toInt < (((((ir).toInt64) + (((ig).toInt64) &&& (2147483647 : Int64))) - (2000000000 : Int64))).toInt := Int64.lt_iff_toInt_lt.mp hc246
              have i_hc258 : ¬ ((1 : Int32)).toInt = ((0 : Int32)).toInt := fun z => hc258 (Int32.toInt_inj.mp z)
              have i_hc263 : ¬ ((1 : Int32)).toInt = ((0 : Int32)).toInt := fun z => hc263 (Int32.toInt_inj.mp z)
              have i_hc274 : ¬ ((1 : Int32)).toInt = ((0 : Int32)).toInt := fun z => hc274 (Int32.toInt_inj.mp z)
              have i_hc288 : ((0 : Int32)).toInt = ((0 : Int32)).toInt := congrArg Int32.toInt hc288
              have i_hc293 : ((0 : Int32)).toInt = ((0 : Int32)).toInt := congrArg Int32.toInt hc293
              have i_hc302 : ¬ ((0 : Int64)).toInt < ((((ia).toInt64) &&& (2147483647 : Int64))).toInt := fun z => hc302 (Int64.lt_iff_toInt_lt.mpr z)
              have i_hc310 : ((0 : Int32)).toInt = ((0 : Int32)).toInt := congrArg Int32.toInt hc310
              have i_hc319 : ¬ ((0 : Int64)).toInt < ((((ib).toInt64) &&& (2147483647 : Int64))).toInt := fun z => hc319 (Int64.lt_iff_toInt_lt.mpr z)
              have i_hc327 : ¬ ((1 : Int32)).toInt = ((0 : Int32)).toInt := fun z => hc327 (Int32.toInt_inj.mp z)
              have r3 := rng32 ic
              have e2 : ((ic &&& (255 : Int32))).toInt = (ic).toInt % 256 := c_mask ic (255 : Int32) 8 (by decide) (by decide)
              have e1 : (0 ≤ ((ic &&& (255 : Int32))).toInt → (((ic &&& (255 : Int32)) % (3 : Int32))).toInt = ((ic &&& (255 : Int32))).toInt % 3) ∧ (((ic &&& (255 : Int32))).toInt < 0 → (((ic &&& (255 : Int32)) % (3 : Int32))).toInt = -((-((ic &&& (255 : Int32))).toInt) % 3)) := c_irem (ic &&& (255 : Int32)) (3 : Int32) 3 rfl
              have e4 : (1 : Int32).toInt = 1 := rfl
              have e7 : ((((ic).toUInt32 >>> ((8 : Int32) &&& 31).toUInt32).toInt32)).toInt = ((ic).toInt % 4294967296) / 256 := c_iushr ic (8 : Int32) 8 (by decide) (by decide)
              have e6 : (((((ic).toUInt32 >>> ((8 : Int32) &&& 31).toUInt32).toInt32) &&& (255 : Int32))).toInt = ((((ic).toUInt32 >>> ((8 : Int32) &&& 31).toUInt32).toInt32)).toInt % 256 := c_mask (((ic).toUInt32 >>> ((8 : Int32) &&& 31).toUInt32).toInt32) (255 : Int32) 8 (by decide) (by decide)
              have e5 : (0 ≤ (((((ic).toUInt32 >>> ((8 : Int32) &&& 31).toUInt32).toInt32) &&& (255 : Int32))).toInt → ((((((ic).toUInt32 >>> ((8 : Int32) &&& 31).toUInt32).toInt32) &&& (255 : Int32)) % (2 : Int32))).toInt = (((((ic).toUInt32 >>> ((8 : Int32) &&& 31).toUInt32).toInt32) &&& (255 : Int32))).toInt % 2) ∧ ((((((ic).toUInt32 >>> ((8 : Int32) &&& 31).toUInt32).toInt32) &&& (255 : Int32))).toInt < 0 → ((((((ic).toUInt32 >>> ((8 : Int32) &&& 31).toUInt32).toInt32) &&& (255 : Int32)) % (2 : Int32))).toInt = -((-(((((ic).toUInt32 >>> ((8 : Int32) &&& 31).toUInt32).toInt32) &&& (255 : Int32))).toInt) % 2)) := c_irem ((((ic).toUInt32 >>> ((8 : Int32) &&& 31).toUInt32).toInt32) &&& (255 : Int32)) (2 : Int32) 2 rfl
              have e8 : (0 : Int64).toInt = 0 := rfl
              have r11 := rng32 ia
              have e10 := c_i2l ia
              have e9 : ((((ia).toInt64) &&& (2147483647 : Int64))).toInt = (((ia).toInt64)).toInt % 2147483648 := c_maskL ((ia).toInt64) (2147483647 : Int64) 31 (by decide) (by decide)
              have r13 := rng32 ir
              have e12 := c_i2l ir
              have r18 := rng32 ig
              have e17 := c_i2l ig
              have e16 : ((((ig).toInt64) &&& (2147483647 : Int64))).toInt = (((ig).toInt64)).toInt % 2147483648 := c_maskL ((ig).toInt64) (2147483647 : Int64) 31 (by decide) (by decide)
              have e15 := c_ladd ((ir).toInt64) (((ig).toInt64) &&& (2147483647 : Int64))
              have r15 := rng64 (((ir).toInt64) + (((ig).toInt64) &&& (2147483647 : Int64)))
              have e19 : (2000000000 : Int64).toInt = 2000000000 := rfl
              have e14 := c_lsub (((ir).toInt64) + (((ig).toInt64) &&& (2147483647 : Int64))) (2000000000 : Int64)
              have r14 := rng64 ((((ir).toInt64) + (((ig).toInt64) &&& (2147483647 : Int64))) - (2000000000 : Int64))
              have r24 := rng32 ib
              have e23 := c_i2l ib
              have e22 : ((((ib).toInt64) &&& (2147483647 : Int64))).toInt = (((ib).toInt64)).toInt % 2147483648 := c_maskL ((ib).toInt64) (2147483647 : Int64) 31 (by decide) (by decide)
              have e21 := c_ladd (((ia).toInt64) &&& (2147483647 : Int64)) (((ib).toInt64) &&& (2147483647 : Int64))
              have r21 := rng64 ((((ia).toInt64) &&& (2147483647 : Int64)) + (((ib).toInt64) &&& (2147483647 : Int64)))
              have e20 := c_lsub ((((ia).toInt64) &&& (2147483647 : Int64)) + (((ib).toInt64) &&& (2147483647 : Int64))) (((ia).toInt64) &&& (2147483647 : Int64))
              have r20 := rng64 (((((ia).toInt64) &&& (2147483647 : Int64)) + (((ib).toInt64) &&& (2147483647 : Int64))) - (((ia).toInt64) &&& (2147483647 : Int64)))
              have e25 : (2 : Int32).toInt = 2 := rfl
              have e26 : (0 : Int32).toInt = 0 := rfl
              omega
            · refine g_iconst cx d0_322 (v := (1 : Int32)) rfl ?_
              refine g_goto cx d0_323 ?_
              refine g_icmp_ne cx d0_327 (fun q => absurd q (fun q => by revert q; decide)) (fun hc327 => ?_)
              refine g_iconst cx d0_330 (v := (1 : Int32)) rfl ?_
              refine g_goto cx d0_331 ?_
              refine g_retZ cx d0_335 rfl rfl (by decide) (by decide) ?_
              rfl
      · refine G.cast (st' := [(.int (1 : Int32))]) ?_ rfl
        refine g_istore cx d0_116 (Ls' := #[.val (.int ia), .val (.int ib), .val (.int ic), .val (.int iw), .val (.int ir), .val (.int ig), .val (.long (((ia).toInt64) &&& (2147483647 : Int64))), .second, .val (.long (((ib).toInt64) &&& (2147483647 : Int64))), .second, .val (.int (1 : Int32)), .val (.int (2 : Int32)), .val (.long ((ir).toInt64)), .second, .val (.long (((ir).toInt64) + (((ig).toInt64) &&& (2147483647 : Int64)))), .second, .val (.ref b239), .val (.int (0 : Int32)), .val (.int (0 : Int32)), .val (.int (1 : Int32)), .unset, .unset, .unset, .unset, .unset, .unset, .unset, .unset, .unset, .unset]) rfl ?_
        refine g_aload cx d0_118 rfl rfl ?_
        refine g_iload cx d0_120 rfl ?_
        refine g_i2l cx d0_122 ?_
        refine G.cast (st' := [(.long (2 : Int64)), (.ref b239)]) ?_ rfl
        refine g_lload cx d0_123 rfl ?_
        have lt_b239 := O_b239.lt
        have lt_b244 := O_b244.lt
        have lt_b245 := A_b245.lt
        have lt_b246 := O_b246.lt
        have lt_b247 := A_b247.lt
        refine g_virtual cx (y := (⟨"com/example/thalweg/thalweg/node/Pace", "taken", "(JJ)V"⟩ : MethodName)) (z := (⟨"com/example/thalweg/thalweg/node/Pace", "taken", "(JJ)V"⟩ : MethodName)) (a := b239) d0_125 (hw _ (List.mem_of_getElem? (i := 68) rfl)) (hw _ (List.mem_of_getElem? (i := 69) rfl)) (hw _ (List.mem_of_getElem? (i := 3) rfl)) (hw _ (List.mem_of_getElem? (i := 72) rfl)) (hw _ (List.mem_of_getElem? (i := 71) rfl)) (hw _ (List.mem_of_getElem? (i := 70) rfl)) rfl (by decide) O_b239.1 (bytes := prog_54_method_3_code) (maxL' := 10) (M := (ra33 l Z a0 hw  b239 b244 b245 b264 b246 b247 b274 (((ib).toInt64) &&& (2147483647 : Int64)) ((iw).toInt64) ((ir).toInt64) (((ia).toInt64) &&& (2147483647 : Int64)) (own_max (1 : Int64) (((ir).toInt64) - ((iw).toInt64))) (((ir).toInt64) - ((iw).toInt64)) (((((ia).toInt64) &&& (2147483647 : Int64)) + (((ib).toInt64) &&& (2147483647 : Int64))) - (((ia).toInt64) &&& (2147483647 : Int64))) (((ir).toInt64) + (((ig).toInt64) &&& (2147483647 : Int64))) cA248 cA265 cA249 _ O_b239 O_b244 O_b246 O_b274 A_b245 A_b264 A_b247 OV_b245 OV_b247 ne_b239_b244 ne_b239_b245 ne_b244_b245 ne_b239_b264 ne_b244_b264 ne_b245_b264 ne_b239_b246 ne_b244_b246 ne_b245_b246 (Ne.symm ne_b246_b264) ne_b239_b247 ne_b244_b247 ne_b245_b247 (Ne.symm ne_b247_b264) ne_b246_b247 ne_b239_b274 ne_b244_b274 ne_b245_b274 ne_b264_b274 ne_b246_b274 ne_b247_b274 g_b239 g_b244 g_b245 g_b264 g_b246 g_b247 g_b274 OL)) rfl (lenOf pd_4 rfl) (by decide) (W := 0) (Nat.le_of_eq rfl) (by decide) (k' := 9) (n' := 60) rfl rfl (by decide) (by decide) (argsL := [(.long (2 : Int64)), (.long (((ir).toInt64) + (((ig).toInt64) &&& (2147483647 : Int64))))]) (rest := []) rfl (fun v316 h315 q317 => ?_)
        rcases q317 with ⟨b309, hq310, rfl, K311, sq_b309, O_b309, O_b239, O_b244, A_b245, O_b246, A_b247⟩ | ⟨b312, hq313, rfl, K314, sq_b312, O_b312, O_b239, O_b244, A_b245, O_b246, A_b247⟩
        · have ne_b239_b309 : b239 ≠ b309 := Nat.ne_of_lt (Nat.lt_of_lt_of_le lt_b239 sq_b309)
          have ne_b244_b309 : b244 ≠ b309 := Nat.ne_of_lt (Nat.lt_of_lt_of_le lt_b244 sq_b309)
          have ne_b246_b309 : b246 ≠ b309 := Nat.ne_of_lt (Nat.lt_of_lt_of_le lt_b246 sq_b309)
          have ne_b274_b309 : b274 ≠ b309 := Nat.ne_of_lt (Nat.lt_of_lt_of_le O_b274.lt sq_b309)
          have ne_b245_b309 : b245 ≠ b309 := Nat.ne_of_lt (Nat.lt_of_lt_of_le lt_b245 sq_b309)
          have ne_b247_b309 : b247 ≠ b309 := Nat.ne_of_lt (Nat.lt_of_lt_of_le lt_b247 sq_b309)
          have ne_b258_b309 : b258 ≠ b309 := Nat.ne_of_lt (Nat.lt_of_lt_of_le A_b258.lt sq_b309)
          have ne_b264_b309 : b264 ≠ b309 := Nat.ne_of_lt (Nat.lt_of_lt_of_le A_b264.lt sq_b309)
          have g_b309 : Z.heap.size ≤ b309 := Nat.le_trans OL.2.1 sq_b309
          have O_b274 := O_b274.keep K311 (ninS (Ne.symm ne_b239_b274) (ninS (Ne.symm ne_b244_b274) (ninS (Ne.symm ne_b245_b274) (ninS (Ne.symm ne_b246_b274) (ninS (Ne.symm ne_b247_b274) nin0)))))
          have A_b258 := A_b258.keep K311 (ninS (Ne.symm ne_b239_b258) (ninS (Ne.symm ne_b244_b258) (ninS (Ne.symm ne_b245_b258) (ninS (Ne.symm ne_b246_b258) (ninS (Ne.symm ne_b247_b258) nin0)))))
          have A_b264 := A_b264.keep K311 (ninS (Ne.symm ne_b239_b264) (ninS (Ne.symm ne_b244_b264) (ninS (Ne.symm ne_b245_b264) (ninS (Ne.symm ne_b246_b264) (ninS (Ne.symm ne_b247_b264) nin0)))))
          have OL := OL.keep K311 (allS g_b239 (allS g_b244 (allS g_b245 (allS g_b246 (allS g_b247 all0)))))
          refine G.cast (st' := []) ?_ rfl
          refine g_aload cx d0_128 rfl rfl ?_
          refine g_virtual cx (y := (⟨"com/example/thalweg/thalweg/node/Pace", "known", "()Z"⟩ : MethodName)) (z := (⟨"com/example/thalweg/thalweg/node/Pace", "known", "()Z"⟩ : MethodName)) (a := b239) d0_130 (hw _ (List.mem_of_getElem? (i := 31) rfl)) (hw _ (List.mem_of_getElem? (i := 32) rfl)) (hw _ (List.mem_of_getElem? (i := 3) rfl)) (hw _ (List.mem_of_getElem? (i := 35) rfl)) (hw _ (List.mem_of_getElem? (i := 34) rfl)) (hw _ (List.mem_of_getElem? (i := 33) rfl)) rfl (by decide) O_b239.1 (bytes := prog_54_method_5_code) (maxL' := 1) (M := (ra45 l Z a0 hw  b239 b244 b245 b246 b247 b274 b309 ((ir).toInt64) (((ia).toInt64) &&& (2147483647 : Int64)) (own_max (1 : Int64) (((ir).toInt64) - ((iw).toInt64))) (((ir).toInt64) - ((iw).toInt64)) (((ir).toInt64) + (((ig).toInt64) &&& (2147483647 : Int64))) (((ib).toInt64) &&& (2147483647 : Int64)) (own_max (1 : Int64) ((((ir).toInt64) + (((ig).toInt64) &&& (2147483647 : Int64))) - ((ir).toInt64))) ((((ir).toInt64) + (((ig).toInt64) &&& (2147483647 : Int64))) - ((iw).toInt64)) ((((ia).toInt64) &&& (2147483647 : Int64)) + (((ib).toInt64) &&& (2147483647 : Int64))) ((((((ia).toInt64) &&& (2147483647 : Int64)) + (((ib).toInt64) &&& (2147483647 : Int64))) - (((ia).toInt64) &&& (2147483647 : Int64))) - (((ib).toInt64) &&& (2147483647 : Int64))) ((own_max (1 : Int64) (((ir).toInt64) - ((iw).toInt64))) + (own_max (1 : Int64) ((((ir).toInt64) + (((ig).toInt64) &&& (2147483647 : Int64))) - ((ir).toInt64)))) cA248 cA249 _ O_b239 O_b244 O_b246 O_b274 O_b309 A_b245 A_b247 OV_b245 OV_b247 ne_b239_b244 ne_b239_b245 ne_b244_b245 ne_b239_b246 ne_b244_b246 ne_b245_b246 ne_b239_b247 ne_b244_b247 ne_b245_b247 ne_b246_b247 ne_b239_b274 ne_b244_b274 ne_b245_b274 ne_b246_b274 ne_b247_b274 ne_b239_b309 ne_b244_b309 ne_b245_b309 ne_b246_b309 ne_b247_b309 ne_b274_b309 g_b239 g_b244 g_b245 g_b246 g_b247 g_b274 g_b309 OL)) rfl (lenOf pd_1 rfl) (by decide) (W := 0) (Nat.le_of_eq rfl) (by decide) (k' := 9) (n' := 60) rfl rfl (by decide) (by decide) (argsL := []) (rest := []) rfl (fun v323 h322 q324 => ?_)
          rcases q324 with ⟨hq318, rfl, rfl⟩ | ⟨hq320, rfl, rfl⟩
          · refine G.cast (st' := [(.int (0 : Int32))]) ?_ rfl
            refine g_istore cx d0_133 (Ls' := #[.val (.int ia), .val (.int ib), .val (.int ic), .val (.int iw), .val (.int ir), .val (.int ig), .val (.long (((ia).toInt64) &&& (2147483647 : Int64))), .second, .val (.long (((ib).toInt64) &&& (2147483647 : Int64))), .second, .val (.int (1 : Int32)), .val (.int (2 : Int32)), .val (.long ((ir).toInt64)), .second, .val (.long (((ir).toInt64) + (((ig).toInt64) &&& (2147483647 : Int64)))), .second, .val (.ref b239), .val (.int (0 : Int32)), .val (.int (0 : Int32)), .val (.int (1 : Int32)), .val (.int (0 : Int32)), .unset, .unset, .unset, .unset, .unset, .unset, .unset, .unset, .unset]) rfl ?_
            refine g_iload cx d0_135 rfl ?_
            refine g_iconst cx d0_137 (v := (1 : Int32)) rfl ?_
            refine g_icmp_lt cx d0_138 (fun q => absurd q (fun q => by revert q; decide)) (fun hc138 => ?_)
            refine g_lload cx d0_141 rfl ?_
            refine g_goto cx d0_143 ?_
            refine g_iload cx d0_147 rfl ?_
            refine g_iconst cx d0_149 (v := (2 : Int32)) rfl ?_
            refine g_icmp_lt cx d0_150 (fun hc150 => ?_) (fun q => absurd q (fun q => by revert q; decide))
            refine g_lconst cx d0_158 (v := (0 : Int64)) rfl ?_
            refine g_ladd cx d0_159 ?_
            rw [Int64.add_zero]
            refine g_lstore cx d0_160 (Ls' := #[.val (.int ia), .val (.int ib), .val (.int ic), .val (.int iw), .val (.int ir), .val (.int ig), .val (.long (((ia).toInt64) &&& (2147483647 : Int64))), .second, .val (.long (((ib).toInt64) &&& (2147483647 : Int64))), .second, .val (.int (1 : Int32)), .val (.int (2 : Int32)), .val (.long ((ir).toInt64)), .second, .val (.long (((ir).toInt64) + (((ig).toInt64) &&& (2147483647 : Int64)))), .second, .val (.ref b239), .val (.int (0 : Int32)), .val (.int (0 : Int32)), .val (.int (1 : Int32)), .val (.int (0 : Int32)), .val (.long (((ia).toInt64) &&& (2147483647 : Int64))), .second, .unset, .unset, .unset, .unset, .unset, .unset, .unset]) rfl ?_
            refine g_iload cx d0_162 rfl ?_
            refine g_iconst cx d0_164 (v := (1 : Int32)) rfl ?_
            refine g_icmp_ge cx d0_165 (fun hc165 => ?_) (fun q => absurd q (fun q => by revert q; decide))
            refine g_lconst cx d0_179 (v := (0 : Int64)) rfl ?_
            refine g_iload cx d0_180 rfl ?_
            refine g_iconst cx d0_182 (v := (2 : Int32)) rfl ?_
            refine g_icmp_ge cx d0_183 (fun q => absurd q (fun q => by revert q; decide)) (fun hc183 => ?_)
            refine g_iload cx d0_186 rfl ?_
            refine g_iconst cx d0_188 (v := (2 : Int32)) rfl ?_
            refine g_icmp_lt cx d0_189 (fun q => absurd q (fun q => by revert q; decide)) (fun hc189 => ?_)
            refine g_lload cx d0_192 rfl ?_
            refine g_goto cx d0_194 ?_
            refine g_ladd cx d0_198 ?_
            rw [Int64.zero_add]
            refine g_lstore cx d0_199 (Ls' := #[.val (.int ia), .val (.int ib), .val (.int ic), .val (.int iw), .val (.int ir), .val (.int ig), .val (.long (((ia).toInt64) &&& (2147483647 : Int64))), .second, .val (.long (((ib).toInt64) &&& (2147483647 : Int64))), .second, .val (.int (1 : Int32)), .val (.int (2 : Int32)), .val (.long ((ir).toInt64)), .second, .val (.long (((ir).toInt64) + (((ig).toInt64) &&& (2147483647 : Int64)))), .second, .val (.ref b239), .val (.int (0 : Int32)), .val (.int (0 : Int32)), .val (.int (1 : Int32)), .val (.int (0 : Int32)), .val (.long (((ia).toInt64) &&& (2147483647 : Int64))), .second, .val (.long (((ib).toInt64) &&& (2147483647 : Int64))), .second, .unset, .unset, .unset, .unset, .unset]) rfl ?_
            refine g_iload cx d0_201 rfl ?_
            refine g_if_le cx d0_203 (fun q => absurd q (fun q => by revert q; decide)) (fun hc203 => ?_)
            refine g_iconst cx d0_206 (v := (1 : Int32)) rfl ?_
            refine g_goto cx d0_207 ?_
            refine g_istore cx d0_211 (Ls' := #[.val (.int ia), .val (.int ib), .val (.int ic), .val (.int iw), .val (.int ir), .val (.int ig), .val (.long (((ia).toInt64) &&& (2147483647 : Int64))), .second, .val (.long (((ib).toInt64) &&& (2147483647 : Int64))), .second, .val (.int (1 : Int32)), .val (.int (2 : Int32)), .val (.long ((ir).toInt64)), .second, .val (.long (((ir).toInt64) + (((ig).toInt64) &&& (2147483647 : Int64)))), .second, .val (.ref b239), .val (.int (0 : Int32)), .val (.int (0 : Int32)), .val (.int (1 : Int32)), .val (.int (0 : Int32)), .val (.long (((ia).toInt64) &&& (2147483647 : Int64))), .second, .val (.long (((ib).toInt64) &&& (2147483647 : Int64))), .second, .val (.int (1 : Int32)), .unset, .unset, .unset, .unset]) rfl ?_
            refine g_iload cx d0_213 rfl ?_
            refine g_iload cx d0_215 rfl ?_
            refine g_icmp_le cx d0_217 (fun q => absurd q (fun q => by revert q; decide)) (fun hc217 => ?_)
            refine g_iconst cx d0_220 (v := (1 : Int32)) rfl ?_
            refine g_goto cx d0_221 ?_
            refine g_istore cx d0_225 (Ls' := #[.val (.int ia), .val (.int ib), .val (.int ic), .val (.int iw), .val (.int ir), .val (.int ig), .val (.long (((ia).toInt64) &&& (2147483647 : Int64))), .second, .val (.long (((ib).toInt64) &&& (2147483647 : Int64))), .second, .val (.int (1 : Int32)), .val (.int (2 : Int32)), .val (.long ((ir).toInt64)), .second, .val (.long (((ir).toInt64) + (((ig).toInt64) &&& (2147483647 : Int64)))), .second, .val (.ref b239), .val (.int (0 : Int32)), .val (.int (0 : Int32)), .val (.int (1 : Int32)), .val (.int (0 : Int32)), .val (.long (((ia).toInt64) &&& (2147483647 : Int64))), .second, .val (.long (((ib).toInt64) &&& (2147483647 : Int64))), .second, .val (.int (1 : Int32)), .val (.int (1 : Int32)), .unset, .unset, .unset]) rfl ?_
            refine g_iload cx d0_227 rfl ?_
            refine g_if_eq cx d0_229 (fun q => absurd q (fun q => by revert q; decide)) (fun hc229 => ?_)
            refine g_iload cx d0_232 rfl ?_
            refine g_if_eq cx d0_234 (fun q => absurd q (fun q => by revert q; decide)) (fun hc234 => ?_)
            refine g_lload cx d0_237 rfl ?_
            refine g_lload cx d0_239 rfl ?_
            refine g_ldcJ cx d0_241 (hw _ (List.mem_of_getElem? (i := 151) rfl)) ?_
            refine g_lsub cx d0_244 ?_
            refine g_lif_ge cx d0_245 d0_246 (fun hc246 => ?_) (fun q => absurd q (fun q => hq310 q))
            refine g_iconst cx d0_253 (v := (0 : Int32)) rfl ?_
            refine g_istore cx d0_254 (Ls' := #[.val (.int ia), .val (.int ib), .val (.int ic), .val (.int iw), .val (.int ir), .val (.int ig), .val (.long (((ia).toInt64) &&& (2147483647 : Int64))), .second, .val (.long (((ib).toInt64) &&& (2147483647 : Int64))), .second, .val (.int (1 : Int32)), .val (.int (2 : Int32)), .val (.long ((ir).toInt64)), .second, .val (.long (((ir).toInt64) + (((ig).toInt64) &&& (2147483647 : Int64)))), .second, .val (.ref b239), .val (.int (0 : Int32)), .val (.int (0 : Int32)), .val (.int (1 : Int32)), .val (.int (0 : Int32)), .val (.long (((ia).toInt64) &&& (2147483647 : Int64))), .second, .val (.long (((ib).toInt64) &&& (2147483647 : Int64))), .second, .val (.int (1 : Int32)), .val (.int (1 : Int32)), .val (.int (0 : Int32)), .unset, .unset]) rfl ?_
            refine g_iload cx d0_256 rfl ?_
            refine g_if_eq cx d0_258 (fun q => absurd q (fun q => by revert q; decide)) (fun hc258 => ?_)
            refine g_iload cx d0_261 rfl ?_
            refine g_if_ne cx d0_263 (fun q => absurd q (fun q => by revert q; decide)) (fun hc263 => ?_)
            refine g_lload cx d0_266 rfl ?_
            refine g_goto cx d0_268 ?_
            refine g_iload cx d0_272 rfl ?_
            refine g_if_eq cx d0_274 (fun q => absurd q (fun q => by revert q; decide)) (fun hc274 => ?_)
            refine g_lload cx d0_277 rfl ?_
            refine g_goto cx d0_279 ?_
            refine g_ladd cx d0_283 ?_
            refine g_lstore cx d0_284 (Ls' := #[.val (.int ia), .val (.int ib), .val (.int ic), .val (.int iw), .val (.int ir), .val (.int ig), .val (.long (((ia).toInt64) &&& (2147483647 : Int64))), .second, .val (.long (((ib).toInt64) &&& (2147483647 : Int64))), .second, .val (.int (1 : Int32)), .val (.int (2 : Int32)), .val (.long ((ir).toInt64)), .second, .val (.long (((ir).toInt64) + (((ig).toInt64) &&& (2147483647 : Int64)))), .second, .val (.ref b239), .val (.int (0 : Int32)), .val (.int (0 : Int32)), .val (.int (1 : Int32)), .val (.int (0 : Int32)), .val (.long (((ia).toInt64) &&& (2147483647 : Int64))), .second, .val (.long (((ib).toInt64) &&& (2147483647 : Int64))), .second, .val (.int (1 : Int32)), .val (.int (1 : Int32)), .val (.int (0 : Int32)), .val (.long ((((ia).toInt64) &&& (2147483647 : Int64)) + (((ib).toInt64) &&& (2147483647 : Int64)))), .second]) rfl ?_
            refine g_iload cx d0_286 rfl ?_
            refine g_if_ne cx d0_288 (fun q => absurd q (fun q => by revert q; decide)) (fun hc288 => ?_)
            refine g_iload cx d0_291 rfl ?_
            refine g_if_ne cx d0_293 (fun q => absurd q (fun q => by revert q; decide)) (fun hc293 => ?_)
            refine g_iload cx d0_296 rfl ?_
            refine g_lload cx d0_298 rfl ?_
            refine g_lconst cx d0_300 (v := (0 : Int64)) rfl ?_
            refine g_lif_le cx d0_301 d0_302 (fun q => absurd q (fun q => q hq281)) (fun hc302 => ?_)
            refine g_iconst cx d0_305 (v := (1 : Int32)) rfl ?_
            refine g_goto cx d0_306 ?_
            refine g_icmp_ne cx d0_310 (fun q => absurd q (fun q => by revert q; decide)) (fun hc310 => ?_)
            refine g_iload cx d0_313 rfl ?_
            refine g_lload cx d0_315 rfl ?_
            refine g_lconst cx d0_317 (v := (0 : Int64)) rfl ?_
            refine g_lif_le cx d0_318 d0_319 (fun hc319 => ?_) (fun q => absurd q (fun q => hq318 q))
            refine g_iconst cx d0_326 (v := (0 : Int32)) rfl ?_
            refine g_icmp_ne cx d0_327 (fun q => absurd q (fun q => by revert q; decide)) (fun hc327 => ?_)
            refine g_iconst cx d0_330 (v := (1 : Int32)) rfl ?_
            refine g_goto cx d0_331 ?_
            refine g_retZ cx d0_335 rfl rfl (by decide) (by decide) ?_
            rfl
          · refine G.cast (st' := [(.int (1 : Int32))]) ?_ rfl
            refine g_istore cx d0_133 (Ls' := #[.val (.int ia), .val (.int ib), .val (.int ic), .val (.int iw), .val (.int ir), .val (.int ig), .val (.long (((ia).toInt64) &&& (2147483647 : Int64))), .second, .val (.long (((ib).toInt64) &&& (2147483647 : Int64))), .second, .val (.int (1 : Int32)), .val (.int (2 : Int32)), .val (.long ((ir).toInt64)), .second, .val (.long (((ir).toInt64) + (((ig).toInt64) &&& (2147483647 : Int64)))), .second, .val (.ref b239), .val (.int (0 : Int32)), .val (.int (0 : Int32)), .val (.int (1 : Int32)), .val (.int (1 : Int32)), .unset, .unset, .unset, .unset, .unset, .unset, .unset, .unset, .unset]) rfl ?_
            refine g_iload cx d0_135 rfl ?_
            refine g_iconst cx d0_137 (v := (1 : Int32)) rfl ?_
            refine g_icmp_lt cx d0_138 (fun q => absurd q (fun q => by revert q; decide)) (fun hc138 => ?_)
            refine g_lload cx d0_141 rfl ?_
            refine g_goto cx d0_143 ?_
            refine g_iload cx d0_147 rfl ?_
            refine g_iconst cx d0_149 (v := (2 : Int32)) rfl ?_
            refine g_icmp_lt cx d0_150 (fun hc150 => ?_) (fun q => absurd q (fun q => by revert q; decide))
            refine g_lconst cx d0_158 (v := (0 : Int64)) rfl ?_
            refine g_ladd cx d0_159 ?_
            rw [Int64.add_zero]
            refine g_lstore cx d0_160 (Ls' := #[.val (.int ia), .val (.int ib), .val (.int ic), .val (.int iw), .val (.int ir), .val (.int ig), .val (.long (((ia).toInt64) &&& (2147483647 : Int64))), .second, .val (.long (((ib).toInt64) &&& (2147483647 : Int64))), .second, .val (.int (1 : Int32)), .val (.int (2 : Int32)), .val (.long ((ir).toInt64)), .second, .val (.long (((ir).toInt64) + (((ig).toInt64) &&& (2147483647 : Int64)))), .second, .val (.ref b239), .val (.int (0 : Int32)), .val (.int (0 : Int32)), .val (.int (1 : Int32)), .val (.int (1 : Int32)), .val (.long (((ia).toInt64) &&& (2147483647 : Int64))), .second, .unset, .unset, .unset, .unset, .unset, .unset, .unset]) rfl ?_
            refine g_iload cx d0_162 rfl ?_
            refine g_iconst cx d0_164 (v := (1 : Int32)) rfl ?_
            refine g_icmp_ge cx d0_165 (fun hc165 => ?_) (fun q => absurd q (fun q => by revert q; decide))
            refine g_lconst cx d0_179 (v := (0 : Int64)) rfl ?_
            refine g_iload cx d0_180 rfl ?_
            refine g_iconst cx d0_182 (v := (2 : Int32)) rfl ?_
            refine g_icmp_ge cx d0_183 (fun q => absurd q (fun q => by revert q; decide)) (fun hc183 => ?_)
            refine g_iload cx d0_186 rfl ?_
            refine g_iconst cx d0_188 (v := (2 : Int32)) rfl ?_
            refine g_icmp_lt cx d0_189 (fun q => absurd q (fun q => by revert q; decide)) (fun hc189 => ?_)
            refine g_lload cx d0_192 rfl ?_
            refine g_goto cx d0_194 ?_
            refine g_ladd cx d0_198 ?_
            rw [Int64.zero_add]
            refine g_lstore cx d0_199 (Ls' := #[.val (.int ia), .val (.int ib), .val (.int ic), .val (.int iw), .val (.int ir), .val (.int ig), .val (.long (((ia).toInt64) &&& (2147483647 : Int64))), .second, .val (.long (((ib).toInt64) &&& (2147483647 : Int64))), .second, .val (.int (1 : Int32)), .val (.int (2 : Int32)), .val (.long ((ir).toInt64)), .second, .val (.long (((ir).toInt64) + (((ig).toInt64) &&& (2147483647 : Int64)))), .second, .val (.ref b239), .val (.int (0 : Int32)), .val (.int (0 : Int32)), .val (.int (1 : Int32)), .val (.int (1 : Int32)), .val (.long (((ia).toInt64) &&& (2147483647 : Int64))), .second, .val (.long (((ib).toInt64) &&& (2147483647 : Int64))), .second, .unset, .unset, .unset, .unset, .unset]) rfl ?_
            refine g_iload cx d0_201 rfl ?_
            refine g_if_le cx d0_203 (fun q => absurd q (fun q => by revert q; decide)) (fun hc203 => ?_)
            refine g_iconst cx d0_206 (v := (1 : Int32)) rfl ?_
            refine g_goto cx d0_207 ?_
            refine g_istore cx d0_211 (Ls' := #[.val (.int ia), .val (.int ib), .val (.int ic), .val (.int iw), .val (.int ir), .val (.int ig), .val (.long (((ia).toInt64) &&& (2147483647 : Int64))), .second, .val (.long (((ib).toInt64) &&& (2147483647 : Int64))), .second, .val (.int (1 : Int32)), .val (.int (2 : Int32)), .val (.long ((ir).toInt64)), .second, .val (.long (((ir).toInt64) + (((ig).toInt64) &&& (2147483647 : Int64)))), .second, .val (.ref b239), .val (.int (0 : Int32)), .val (.int (0 : Int32)), .val (.int (1 : Int32)), .val (.int (1 : Int32)), .val (.long (((ia).toInt64) &&& (2147483647 : Int64))), .second, .val (.long (((ib).toInt64) &&& (2147483647 : Int64))), .second, .val (.int (1 : Int32)), .unset, .unset, .unset, .unset]) rfl ?_
            refine g_iload cx d0_213 rfl ?_
            refine g_iload cx d0_215 rfl ?_
            refine g_icmp_le cx d0_217 (fun q => absurd q (fun q => by revert q; decide)) (fun hc217 => ?_)
            refine g_iconst cx d0_220 (v := (1 : Int32)) rfl ?_
            refine g_goto cx d0_221 ?_
            refine g_istore cx d0_225 (Ls' := #[.val (.int ia), .val (.int ib), .val (.int ic), .val (.int iw), .val (.int ir), .val (.int ig), .val (.long (((ia).toInt64) &&& (2147483647 : Int64))), .second, .val (.long (((ib).toInt64) &&& (2147483647 : Int64))), .second, .val (.int (1 : Int32)), .val (.int (2 : Int32)), .val (.long ((ir).toInt64)), .second, .val (.long (((ir).toInt64) + (((ig).toInt64) &&& (2147483647 : Int64)))), .second, .val (.ref b239), .val (.int (0 : Int32)), .val (.int (0 : Int32)), .val (.int (1 : Int32)), .val (.int (1 : Int32)), .val (.long (((ia).toInt64) &&& (2147483647 : Int64))), .second, .val (.long (((ib).toInt64) &&& (2147483647 : Int64))), .second, .val (.int (1 : Int32)), .val (.int (1 : Int32)), .unset, .unset, .unset]) rfl ?_
            refine g_iload cx d0_227 rfl ?_
            refine g_if_eq cx d0_229 (fun q => absurd q (fun q => by revert q; decide)) (fun hc229 => ?_)
            refine g_iload cx d0_232 rfl ?_
            refine g_if_eq cx d0_234 (fun q => absurd q (fun q => by revert q; decide)) (fun hc234 => ?_)
            refine g_lload cx d0_237 rfl ?_
            refine g_lload cx d0_239 rfl ?_
            refine g_ldcJ cx d0_241 (hw _ (List.mem_of_getElem? (i := 151) rfl)) ?_
            refine g_lsub cx d0_244 ?_
            refine g_lif_ge cx d0_245 d0_246 (fun hc246 => ?_) (fun q => absurd q (fun q => hq310 q))
            refine g_iconst cx d0_253 (v := (0 : Int32)) rfl ?_
            refine g_istore cx d0_254 (Ls' := #[.val (.int ia), .val (.int ib), .val (.int ic), .val (.int iw), .val (.int ir), .val (.int ig), .val (.long (((ia).toInt64) &&& (2147483647 : Int64))), .second, .val (.long (((ib).toInt64) &&& (2147483647 : Int64))), .second, .val (.int (1 : Int32)), .val (.int (2 : Int32)), .val (.long ((ir).toInt64)), .second, .val (.long (((ir).toInt64) + (((ig).toInt64) &&& (2147483647 : Int64)))), .second, .val (.ref b239), .val (.int (0 : Int32)), .val (.int (0 : Int32)), .val (.int (1 : Int32)), .val (.int (1 : Int32)), .val (.long (((ia).toInt64) &&& (2147483647 : Int64))), .second, .val (.long (((ib).toInt64) &&& (2147483647 : Int64))), .second, .val (.int (1 : Int32)), .val (.int (1 : Int32)), .val (.int (0 : Int32)), .unset, .unset]) rfl ?_
            refine g_iload cx d0_256 rfl ?_
            refine g_if_eq cx d0_258 (fun q => absurd q (fun q => by revert q; decide)) (fun hc258 => ?_)
            refine g_iload cx d0_261 rfl ?_
            refine g_if_ne cx d0_263 (fun q => absurd q (fun q => by revert q; decide)) (fun hc263 => ?_)
            refine g_lload cx d0_266 rfl ?_
            refine g_goto cx d0_268 ?_
            refine g_iload cx d0_272 rfl ?_
            refine g_if_eq cx d0_274 (fun q => absurd q (fun q => by revert q; decide)) (fun hc274 => ?_)
            refine g_lload cx d0_277 rfl ?_
            refine g_goto cx d0_279 ?_
            refine g_ladd cx d0_283 ?_
            refine g_lstore cx d0_284 (Ls' := #[.val (.int ia), .val (.int ib), .val (.int ic), .val (.int iw), .val (.int ir), .val (.int ig), .val (.long (((ia).toInt64) &&& (2147483647 : Int64))), .second, .val (.long (((ib).toInt64) &&& (2147483647 : Int64))), .second, .val (.int (1 : Int32)), .val (.int (2 : Int32)), .val (.long ((ir).toInt64)), .second, .val (.long (((ir).toInt64) + (((ig).toInt64) &&& (2147483647 : Int64)))), .second, .val (.ref b239), .val (.int (0 : Int32)), .val (.int (0 : Int32)), .val (.int (1 : Int32)), .val (.int (1 : Int32)), .val (.long (((ia).toInt64) &&& (2147483647 : Int64))), .second, .val (.long (((ib).toInt64) &&& (2147483647 : Int64))), .second, .val (.int (1 : Int32)), .val (.int (1 : Int32)), .val (.int (0 : Int32)), .val (.long ((((ia).toInt64) &&& (2147483647 : Int64)) + (((ib).toInt64) &&& (2147483647 : Int64)))), .second]) rfl ?_
            refine g_iload cx d0_286 rfl ?_
            refine g_if_ne cx d0_288 (fun q => absurd q (fun q => by revert q; decide)) (fun hc288 => ?_)
            refine g_iload cx d0_291 rfl ?_
            refine g_if_ne cx d0_293 (fun q => absurd q (fun q => by revert q; decide)) (fun hc293 => ?_)
            refine g_iload cx d0_296 rfl ?_
            refine g_lload cx d0_298 rfl ?_
            refine g_lconst cx d0_300 (v := (0 : Int64)) rfl ?_
            refine g_lif_le cx d0_301 d0_302 (fun q => absurd q (fun q => q hq281)) (fun hc302 => ?_)
            refine g_iconst cx d0_305 (v := (1 : Int32)) rfl ?_
            refine g_goto cx d0_306 ?_
            refine g_icmp_ne cx d0_310 (fun q => absurd q (fun q => by revert q; decide)) (fun hc310 => ?_)
            refine g_iload cx d0_313 rfl ?_
            refine g_lload cx d0_315 rfl ?_
            refine g_lconst cx d0_317 (v := (0 : Int64)) rfl ?_
            refine g_lif_le cx d0_318 d0_319 (fun q => absurd q (fun q => q hq320)) (fun hc319 => ?_)
            refine g_iconst cx d0_322 (v := (1 : Int32)) rfl ?_
            refine g_goto cx d0_323 ?_
            refine g_icmp_ne cx d0_327 (fun q => absurd q (fun q => by revert q; decide)) (fun hc327 => ?_)
            refine g_iconst cx d0_330 (v := (1 : Int32)) rfl ?_
            refine g_goto cx d0_331 ?_
            refine g_retZ cx d0_335 rfl rfl (by decide) (by decide) ?_
            rfl
        · have ne_b239_b312 : b239 ≠ b312 := Nat.ne_of_lt (Nat.lt_of_lt_of_le lt_b239 sq_b312)
          have ne_b244_b312 : b244 ≠ b312 := Nat.ne_of_lt (Nat.lt_of_lt_of_le lt_b244 sq_b312)
          have ne_b246_b312 : b246 ≠ b312 := Nat.ne_of_lt (Nat.lt_of_lt_of_le lt_b246 sq_b312)
          have ne_b274_b312 : b274 ≠ b312 := Nat.ne_of_lt (Nat.lt_of_lt_of_le O_b274.lt sq_b312)
          have ne_b245_b312 : b245 ≠ b312 := Nat.ne_of_lt (Nat.lt_of_lt_of_le lt_b245 sq_b312)
          have ne_b247_b312 : b247 ≠ b312 := Nat.ne_of_lt (Nat.lt_of_lt_of_le lt_b247 sq_b312)
          have ne_b258_b312 : b258 ≠ b312 := Nat.ne_of_lt (Nat.lt_of_lt_of_le A_b258.lt sq_b312)
          have ne_b264_b312 : b264 ≠ b312 := Nat.ne_of_lt (Nat.lt_of_lt_of_le A_b264.lt sq_b312)
          have g_b312 : Z.heap.size ≤ b312 := Nat.le_trans OL.2.1 sq_b312
          have O_b274 := O_b274.keep K314 (ninS (Ne.symm ne_b239_b274) (ninS (Ne.symm ne_b244_b274) (ninS (Ne.symm ne_b245_b274) (ninS (Ne.symm ne_b246_b274) (ninS (Ne.symm ne_b247_b274) nin0)))))
          have A_b258 := A_b258.keep K314 (ninS (Ne.symm ne_b239_b258) (ninS (Ne.symm ne_b244_b258) (ninS (Ne.symm ne_b245_b258) (ninS (Ne.symm ne_b246_b258) (ninS (Ne.symm ne_b247_b258) nin0)))))
          have A_b264 := A_b264.keep K314 (ninS (Ne.symm ne_b239_b264) (ninS (Ne.symm ne_b244_b264) (ninS (Ne.symm ne_b245_b264) (ninS (Ne.symm ne_b246_b264) (ninS (Ne.symm ne_b247_b264) nin0)))))
          have OL := OL.keep K314 (allS g_b239 (allS g_b244 (allS g_b245 (allS g_b246 (allS g_b247 all0)))))
          refine G.cast (st' := []) ?_ rfl
          refine g_aload cx d0_128 rfl rfl ?_
          refine g_virtual cx (y := (⟨"com/example/thalweg/thalweg/node/Pace", "known", "()Z"⟩ : MethodName)) (z := (⟨"com/example/thalweg/thalweg/node/Pace", "known", "()Z"⟩ : MethodName)) (a := b239) d0_130 (hw _ (List.mem_of_getElem? (i := 31) rfl)) (hw _ (List.mem_of_getElem? (i := 32) rfl)) (hw _ (List.mem_of_getElem? (i := 3) rfl)) (hw _ (List.mem_of_getElem? (i := 35) rfl)) (hw _ (List.mem_of_getElem? (i := 34) rfl)) (hw _ (List.mem_of_getElem? (i := 33) rfl)) rfl (by decide) O_b239.1 (bytes := prog_54_method_5_code) (maxL' := 1) (M := (ra46 l Z a0 hw  b239 b244 b245 b246 b247 b312 (((ir).toInt64) + (((ig).toInt64) &&& (2147483647 : Int64))) (((ib).toInt64) &&& (2147483647 : Int64)) (own_max (1 : Int64) ((((ir).toInt64) + (((ig).toInt64) &&& (2147483647 : Int64))) - ((ir).toInt64))) ((((ir).toInt64) + (((ig).toInt64) &&& (2147483647 : Int64))) - ((iw).toInt64)) (((((ia).toInt64) &&& (2147483647 : Int64)) + (((ib).toInt64) &&& (2147483647 : Int64))) - (((ia).toInt64) &&& (2147483647 : Int64))) ((((((ia).toInt64) &&& (2147483647 : Int64)) + (((ib).toInt64) &&& (2147483647 : Int64))) - (((ia).toInt64) &&& (2147483647 : Int64))) - (((ib).toInt64) &&& (2147483647 : Int64))) (((own_max (1 : Int64) (((ir).toInt64) - ((iw).toInt64))) + (own_max (1 : Int64) ((((ir).toInt64) + (((ig).toInt64) &&& (2147483647 : Int64))) - ((ir).toInt64)))) - (own_max (1 : Int64) (((ir).toInt64) - ((iw).toInt64)))) cA248 cA249 _ O_b239 O_b244 O_b246 O_b312 A_b245 A_b247 OV_b245 OV_b247 ne_b239_b244 ne_b239_b245 ne_b244_b245 ne_b239_b246 ne_b244_b246 ne_b245_b246 ne_b239_b247 ne_b244_b247 ne_b245_b247 ne_b246_b247 ne_b239_b312 ne_b244_b312 ne_b245_b312 ne_b246_b312 ne_b247_b312 g_b239 g_b244 g_b245 g_b246 g_b247 g_b312 OL)) rfl (lenOf pd_1 rfl) (by decide) (W := 0) (Nat.le_of_eq rfl) (by decide) (k' := 9) (n' := 60) rfl rfl (by decide) (by decide) (argsL := []) (rest := []) rfl (fun v330 h329 q331 => ?_)
          rcases q331 with ⟨hq325, rfl, rfl⟩ | ⟨hq327, rfl, rfl⟩
          · refine G.cast (st' := [(.int (0 : Int32))]) ?_ rfl
            refine g_istore cx d0_133 (Ls' := #[.val (.int ia), .val (.int ib), .val (.int ic), .val (.int iw), .val (.int ir), .val (.int ig), .val (.long (((ia).toInt64) &&& (2147483647 : Int64))), .second, .val (.long (((ib).toInt64) &&& (2147483647 : Int64))), .second, .val (.int (1 : Int32)), .val (.int (2 : Int32)), .val (.long ((ir).toInt64)), .second, .val (.long (((ir).toInt64) + (((ig).toInt64) &&& (2147483647 : Int64)))), .second, .val (.ref b239), .val (.int (0 : Int32)), .val (.int (0 : Int32)), .val (.int (1 : Int32)), .val (.int (0 : Int32)), .unset, .unset, .unset, .unset, .unset, .unset, .unset, .unset, .unset]) rfl ?_
            refine g_iload cx d0_135 rfl ?_
            refine g_iconst cx d0_137 (v := (1 : Int32)) rfl ?_
            refine g_icmp_lt cx d0_138 (fun q => absurd q (fun q => by revert q; decide)) (fun hc138 => ?_)
            refine g_lload cx d0_141 rfl ?_
            refine g_goto cx d0_143 ?_
            refine g_iload cx d0_147 rfl ?_
            refine g_iconst cx d0_149 (v := (2 : Int32)) rfl ?_
            refine g_icmp_lt cx d0_150 (fun hc150 => ?_) (fun q => absurd q (fun q => by revert q; decide))
            refine g_lconst cx d0_158 (v := (0 : Int64)) rfl ?_
            refine g_ladd cx d0_159 ?_
            rw [Int64.add_zero]
            refine g_lstore cx d0_160 (Ls' := #[.val (.int ia), .val (.int ib), .val (.int ic), .val (.int iw), .val (.int ir), .val (.int ig), .val (.long (((ia).toInt64) &&& (2147483647 : Int64))), .second, .val (.long (((ib).toInt64) &&& (2147483647 : Int64))), .second, .val (.int (1 : Int32)), .val (.int (2 : Int32)), .val (.long ((ir).toInt64)), .second, .val (.long (((ir).toInt64) + (((ig).toInt64) &&& (2147483647 : Int64)))), .second, .val (.ref b239), .val (.int (0 : Int32)), .val (.int (0 : Int32)), .val (.int (1 : Int32)), .val (.int (0 : Int32)), .val (.long (((ia).toInt64) &&& (2147483647 : Int64))), .second, .unset, .unset, .unset, .unset, .unset, .unset, .unset]) rfl ?_
            refine g_iload cx d0_162 rfl ?_
            refine g_iconst cx d0_164 (v := (1 : Int32)) rfl ?_
            refine g_icmp_ge cx d0_165 (fun hc165 => ?_) (fun q => absurd q (fun q => by revert q; decide))
            refine g_lconst cx d0_179 (v := (0 : Int64)) rfl ?_
            refine g_iload cx d0_180 rfl ?_
            refine g_iconst cx d0_182 (v := (2 : Int32)) rfl ?_
            refine g_icmp_ge cx d0_183 (fun q => absurd q (fun q => by revert q; decide)) (fun hc183 => ?_)
            refine g_iload cx d0_186 rfl ?_
            refine g_iconst cx d0_188 (v := (2 : Int32)) rfl ?_
            refine g_icmp_lt cx d0_189 (fun q => absurd q (fun q => by revert q; decide)) (fun hc189 => ?_)
            refine g_lload cx d0_192 rfl ?_
            refine g_goto cx d0_194 ?_
            refine g_ladd cx d0_198 ?_
            rw [Int64.zero_add]
            refine g_lstore cx d0_199 (Ls' := #[.val (.int ia), .val (.int ib), .val (.int ic), .val (.int iw), .val (.int ir), .val (.int ig), .val (.long (((ia).toInt64) &&& (2147483647 : Int64))), .second, .val (.long (((ib).toInt64) &&& (2147483647 : Int64))), .second, .val (.int (1 : Int32)), .val (.int (2 : Int32)), .val (.long ((ir).toInt64)), .second, .val (.long (((ir).toInt64) + (((ig).toInt64) &&& (2147483647 : Int64)))), .second, .val (.ref b239), .val (.int (0 : Int32)), .val (.int (0 : Int32)), .val (.int (1 : Int32)), .val (.int (0 : Int32)), .val (.long (((ia).toInt64) &&& (2147483647 : Int64))), .second, .val (.long (((ib).toInt64) &&& (2147483647 : Int64))), .second, .unset, .unset, .unset, .unset, .unset]) rfl ?_
            refine g_iload cx d0_201 rfl ?_
            refine g_if_le cx d0_203 (fun q => absurd q (fun q => by revert q; decide)) (fun hc203 => ?_)
            refine g_iconst cx d0_206 (v := (1 : Int32)) rfl ?_
            refine g_goto cx d0_207 ?_
            refine g_istore cx d0_211 (Ls' := #[.val (.int ia), .val (.int ib), .val (.int ic), .val (.int iw), .val (.int ir), .val (.int ig), .val (.long (((ia).toInt64) &&& (2147483647 : Int64))), .second, .val (.long (((ib).toInt64) &&& (2147483647 : Int64))), .second, .val (.int (1 : Int32)), .val (.int (2 : Int32)), .val (.long ((ir).toInt64)), .second, .val (.long (((ir).toInt64) + (((ig).toInt64) &&& (2147483647 : Int64)))), .second, .val (.ref b239), .val (.int (0 : Int32)), .val (.int (0 : Int32)), .val (.int (1 : Int32)), .val (.int (0 : Int32)), .val (.long (((ia).toInt64) &&& (2147483647 : Int64))), .second, .val (.long (((ib).toInt64) &&& (2147483647 : Int64))), .second, .val (.int (1 : Int32)), .unset, .unset, .unset, .unset]) rfl ?_
            refine g_iload cx d0_213 rfl ?_
            refine g_iload cx d0_215 rfl ?_
            refine g_icmp_le cx d0_217 (fun q => absurd q (fun q => by revert q; decide)) (fun hc217 => ?_)
            refine g_iconst cx d0_220 (v := (1 : Int32)) rfl ?_
            refine g_goto cx d0_221 ?_
            refine g_istore cx d0_225 (Ls' := #[.val (.int ia), .val (.int ib), .val (.int ic), .val (.int iw), .val (.int ir), .val (.int ig), .val (.long (((ia).toInt64) &&& (2147483647 : Int64))), .second, .val (.long (((ib).toInt64) &&& (2147483647 : Int64))), .second, .val (.int (1 : Int32)), .val (.int (2 : Int32)), .val (.long ((ir).toInt64)), .second, .val (.long (((ir).toInt64) + (((ig).toInt64) &&& (2147483647 : Int64)))), .second, .val (.ref b239), .val (.int (0 : Int32)), .val (.int (0 : Int32)), .val (.int (1 : Int32)), .val (.int (0 : Int32)), .val (.long (((ia).toInt64) &&& (2147483647 : Int64))), .second, .val (.long (((ib).toInt64) &&& (2147483647 : Int64))), .second, .val (.int (1 : Int32)), .val (.int (1 : Int32)), .unset, .unset, .unset]) rfl ?_
            refine g_iload cx d0_227 rfl ?_
            refine g_if_eq cx d0_229 (fun q => absurd q (fun q => by revert q; decide)) (fun hc229 => ?_)
            refine g_iload cx d0_232 rfl ?_
            refine g_if_eq cx d0_234 (fun q => absurd q (fun q => by revert q; decide)) (fun hc234 => ?_)
            refine g_lload cx d0_237 rfl ?_
            refine g_lload cx d0_239 rfl ?_
            refine g_ldcJ cx d0_241 (hw _ (List.mem_of_getElem? (i := 151) rfl)) ?_
            refine g_lsub cx d0_244 ?_
            refine g_lif_ge cx d0_245 d0_246 (fun q => absurd q (fun q => q hq313)) (fun hc246 => ?_)
            refine g_iconst cx d0_249 (v := (1 : Int32)) rfl ?_
            refine g_goto cx d0_250 ?_
            refine g_istore cx d0_254 (Ls' := #[.val (.int ia), .val (.int ib), .val (.int ic), .val (.int iw), .val (.int ir), .val (.int ig), .val (.long (((ia).toInt64) &&& (2147483647 : Int64))), .second, .val (.long (((ib).toInt64) &&& (2147483647 : Int64))), .second, .val (.int (1 : Int32)), .val (.int (2 : Int32)), .val (.long ((ir).toInt64)), .second, .val (.long (((ir).toInt64) + (((ig).toInt64) &&& (2147483647 : Int64)))), .second, .val (.ref b239), .val (.int (0 : Int32)), .val (.int (0 : Int32)), .val (.int (1 : Int32)), .val (.int (0 : Int32)), .val (.long (((ia).toInt64) &&& (2147483647 : Int64))), .second, .val (.long (((ib).toInt64) &&& (2147483647 : Int64))), .second, .val (.int (1 : Int32)), .val (.int (1 : Int32)), .val (.int (1 : Int32)), .unset, .unset]) rfl ?_
            refine g_iload cx d0_256 rfl ?_
            refine g_if_eq cx d0_258 (fun q => absurd q (fun q => by revert q; decide)) (fun hc258 => ?_)
            refine g_iload cx d0_261 rfl ?_
            refine g_if_ne cx d0_263 (fun hc263 => ?_) (fun q => absurd q (fun q => by revert q; decide))
            refine g_lconst cx d0_271 (v := (0 : Int64)) rfl ?_
            refine g_iload cx d0_272 rfl ?_
            refine g_if_eq cx d0_274 (fun q => absurd q (fun q => by revert q; decide)) (fun hc274 => ?_)
            refine g_lload cx d0_277 rfl ?_
            refine g_goto cx d0_279 ?_
            refine g_ladd cx d0_283 ?_
            rw [Int64.zero_add]
            refine g_lstore cx d0_284 (Ls' := #[.val (.int ia), .val (.int ib), .val (.int ic), .val (.int iw), .val (.int ir), .val (.int ig), .val (.long (((ia).toInt64) &&& (2147483647 : Int64))), .second, .val (.long (((ib).toInt64) &&& (2147483647 : Int64))), .second, .val (.int (1 : Int32)), .val (.int (2 : Int32)), .val (.long ((ir).toInt64)), .second, .val (.long (((ir).toInt64) + (((ig).toInt64) &&& (2147483647 : Int64)))), .second, .val (.ref b239), .val (.int (0 : Int32)), .val (.int (0 : Int32)), .val (.int (1 : Int32)), .val (.int (0 : Int32)), .val (.long (((ia).toInt64) &&& (2147483647 : Int64))), .second, .val (.long (((ib).toInt64) &&& (2147483647 : Int64))), .second, .val (.int (1 : Int32)), .val (.int (1 : Int32)), .val (.int (1 : Int32)), .val (.long (((ib).toInt64) &&& (2147483647 : Int64))), .second]) rfl ?_
            refine g_iload cx d0_286 rfl ?_
            refine g_if_ne cx d0_288 (fun q => absurd q (fun q => by revert q; decide)) (fun hc288 => ?_)
            refine g_iload cx d0_291 rfl ?_
            refine g_if_ne cx d0_293 (fun q => absurd q (fun q => by revert q; decide)) (fun hc293 => ?_)
            refine g_iload cx d0_296 rfl ?_
            refine g_lload cx d0_298 rfl ?_
            refine g_lconst cx d0_300 (v := (0 : Int64)) rfl ?_
            refine g_lif_le cx d0_301 d0_302 (fun q => absurd q (fun q => q hq281)) (fun hc302 => ?_)
            refine g_iconst cx d0_305 (v := (1 : Int32)) rfl ?_
            refine g_goto cx d0_306 ?_
            refine g_icmp_ne cx d0_310 (fun q => absurd q (fun q => by revert q; decide)) (fun hc310 => ?_)
            refine g_iload cx d0_313 rfl ?_
            refine g_lload cx d0_315 rfl ?_
            refine g_lconst cx d0_317 (v := (0 : Int64)) rfl ?_
            refine g_lif_le cx d0_318 d0_319 (fun hc319 => ?_) (fun hc319 => ?_)
            · refine g_iconst cx d0_326 (v := (0 : Int32)) rfl ?_
              refine g_icmp_ne cx d0_327 (fun q => absurd q (fun q => by revert q; decide)) (fun hc327 => ?_)
              refine g_iconst cx d0_330 (v := (1 : Int32)) rfl ?_
              refine g_goto cx d0_331 ?_
              refine g_retZ cx d0_335 rfl rfl (by decide) (by decide) ?_
              rfl
            · refine g_iconst cx d0_322 (v := (1 : Int32)) rfl ?_
              refine g_goto cx d0_323 ?_
              refine g_icmp_ne cx d0_327 (fun hc327 => ?_) (fun q => absurd q (fun q => by revert q; decide))
              refine g_iconst cx d0_334 (v := (0 : Int32)) rfl ?_
              refine g_retZ cx d0_335 rfl rfl (by decide) (by decide) ?_
              exfalso
              have i_hs1 : (((ic &&& (255 : Int32)) % (3 : Int32))).toInt = ((1 : Int32)).toInt := congrArg Int32.toInt hs1
              have i_hs167 : ((((((ic).toUInt32 >>> ((8 : Int32) &&& 31).toUInt32).toInt32) &&& (255 : Int32)) % (2 : Int32))).toInt = ((1 : Int32)).toInt := congrArg Int32.toInt hs167
              have i_hq281 : ((0 : Int64)).toInt < ((((ia).toInt64) &&& (2147483647 : Int64))).toInt := Int64.lt_iff_toInt_lt.mp hq281
              have i_hq313 : (((ir).toInt64)).toInt < (((((ir).toInt64) + (((ig).toInt64) &&& (2147483647 : Int64))) - (2000000000 : Int64))).toInt := Int64.lt_iff_toInt_lt.mp hq313
              have i_hq325 : ¬ ((0 : Int64)).toInt < ((((((ia).toInt64) &&& (2147483647 : Int64)) + (((ib).toInt64) &&& (2147483647 : Int64))) - (((ia).toInt64) &&& (2147483647 : Int64)))).toInt := fun z => hq325 (Int64.lt_iff_toInt_lt.mpr z)
              have i_hc138 : ¬ ((1 : Int32)).toInt < ((1 : Int32)).toInt := fun z => hc138 (Int32.lt_iff_toInt_lt.mpr z)
              have i_hc150 : ((1 : Int32)).toInt < ((2 : Int32)).toInt := Int32.lt_iff_toInt_lt.mp hc150
              have i_hc165 : ¬ ((1 : Int32)).toInt < ((1 : Int32)).toInt := fun z => hc165 (Int32.lt_iff_toInt_lt.mpr z)
              have i_hc183 : ((1 : Int32)).toInt < ((2 : Int32)).toInt := Int32.lt_iff_toInt_lt.mp hc183
              have i_hc189 : ¬ ((2 : Int32)).toInt < ((2 : Int32)).toInt := fun z => hc189 (Int32.lt_iff_toInt_lt.mpr z)
              have i_hc203 : ((0 : Int32)).toInt < ((1 : Int32)).toInt := Int32.lt_iff_toInt_lt.mp hc203
              have i_hc217 : ((1 : Int32)).toInt < ((2 : Int32)).toInt := Int32.lt_iff_toInt_lt.mp hc217
              have i_hc229 : ¬ ((1 : Int32)).toInt = ((0 : Int32)).toInt := fun z => hc229 (Int32.toInt_inj.mp z)
              have i_hc234 : ¬ ((1 : Int32)).toInt = ((0 : Int32)).toInt := fun z => hc234 (Int32.toInt_inj.mp z)
              have i_hc246 : (((ir).toInt64)).toInt < (((((ir).toInt64) + (((ig).toInt64) &&& (2147483647 : Int64))) - (2000000000 : Int64))).toInt := Int64.lt_iff_toInt_lt.mp hc246
              have i_hc258 : ¬ ((1 : Int32)).toInt = ((0 : Int32)).toInt := fun z => hc258 (Int32.toInt_inj.mp z)
              have i_hc263 : ¬ ((1 : Int32)).toInt = ((0 : Int32)).toInt := fun z => hc263 (Int32.toInt_inj.mp z)
              have i_hc274 : ¬ ((1 : Int32)).toInt = ((0 : Int32)).toInt := fun z => hc274 (Int32.toInt_inj.mp z)
              have i_hc288 : ((0 : Int32)).toInt = ((0 : Int32)).toInt := congrArg Int32.toInt hc288
              have i_hc293 : ((0 : Int32)).toInt = ((0 : Int32)).toInt := congrArg Int32.toInt hc293
              have i_hc302 : ((0 : Int64)).toInt < ((((ia).toInt64) &&& (2147483647 : Int64))).toInt := Int64.lt_iff_toInt_lt.mp hc302
              have i_hc310 : ((1 : Int32)).toInt = ((1 : Int32)).toInt := congrArg Int32.toInt hc310
              have i_hc319 : ((0 : Int64)).toInt < ((((ib).toInt64) &&& (2147483647 : Int64))).toInt := Int64.lt_iff_toInt_lt.mp hc319
              have i_hc327 : ¬ ((0 : Int32)).toInt = ((1 : Int32)).toInt := fun z => hc327 (Int32.toInt_inj.mp z)
              have r3 := rng32 ic
              have e2 : ((ic &&& (255 : Int32))).toInt = (ic).toInt % 256 := c_mask ic (255 : Int32) 8 (by decide) (by decide)
              have e1 : (0 ≤ ((ic &&& (255 : Int32))).toInt → (((ic &&& (255 : Int32)) % (3 : Int32))).toInt = ((ic &&& (255 : Int32))).toInt % 3) ∧ (((ic &&& (255 : Int32))).toInt < 0 → (((ic &&& (255 : Int32)) % (3 : Int32))).toInt = -((-((ic &&& (255 : Int32))).toInt) % 3)) := c_irem (ic &&& (255 : Int32)) (3 : Int32) 3 rfl
              have e4 : (1 : Int32).toInt = 1 := rfl
              have e7 : ((((ic).toUInt32 >>> ((8 : Int32) &&& 31).toUInt32).toInt32)).toInt = ((ic).toInt % 4294967296) / 256 := c_iushr ic (8 : Int32) 8 (by decide) (by decide)
              have e6 : (((((ic).toUInt32 >>> ((8 : Int32) &&& 31).toUInt32).toInt32) &&& (255 : Int32))).toInt = ((((ic).toUInt32 >>> ((8 : Int32) &&& 31).toUInt32).toInt32)).toInt % 256 := c_mask (((ic).toUInt32 >>> ((8 : Int32) &&& 31).toUInt32).toInt32) (255 : Int32) 8 (by decide) (by decide)
              have e5 : (0 ≤ (((((ic).toUInt32 >>> ((8 : Int32) &&& 31).toUInt32).toInt32) &&& (255 : Int32))).toInt → ((((((ic).toUInt32 >>> ((8 : Int32) &&& 31).toUInt32).toInt32) &&& (255 : Int32)) % (2 : Int32))).toInt = (((((ic).toUInt32 >>> ((8 : Int32) &&& 31).toUInt32).toInt32) &&& (255 : Int32))).toInt % 2) ∧ ((((((ic).toUInt32 >>> ((8 : Int32) &&& 31).toUInt32).toInt32) &&& (255 : Int32))).toInt < 0 → ((((((ic).toUInt32 >>> ((8 : Int32) &&& 31).toUInt32).toInt32) &&& (255 : Int32)) % (2 : Int32))).toInt = -((-(((((ic).toUInt32 >>> ((8 : Int32) &&& 31).toUInt32).toInt32) &&& (255 : Int32))).toInt) % 2)) := c_irem ((((ic).toUInt32 >>> ((8 : Int32) &&& 31).toUInt32).toInt32) &&& (255 : Int32)) (2 : Int32) 2 rfl
              have e8 : (0 : Int64).toInt = 0 := rfl
              have r11 := rng32 ia
              have e10 := c_i2l ia
              have e9 : ((((ia).toInt64) &&& (2147483647 : Int64))).toInt = (((ia).toInt64)).toInt % 2147483648 := c_maskL ((ia).toInt64) (2147483647 : Int64) 31 (by decide) (by decide)
              have r13 := rng32 ir
              have e12 := c_i2l ir
              have r18 := rng32 ig
              have e17 := c_i2l ig
              have e16 : ((((ig).toInt64) &&& (2147483647 : Int64))).toInt = (((ig).toInt64)).toInt % 2147483648 := c_maskL ((ig).toInt64) (2147483647 : Int64) 31 (by decide) (by decide)
              have e15 := c_ladd ((ir).toInt64) (((ig).toInt64) &&& (2147483647 : Int64))
              have r15 := rng64 (((ir).toInt64) + (((ig).toInt64) &&& (2147483647 : Int64)))
              have e19 : (2000000000 : Int64).toInt = 2000000000 := rfl
              have e14 := c_lsub (((ir).toInt64) + (((ig).toInt64) &&& (2147483647 : Int64))) (2000000000 : Int64)
              have r14 := rng64 ((((ir).toInt64) + (((ig).toInt64) &&& (2147483647 : Int64))) - (2000000000 : Int64))
              have r24 := rng32 ib
              have e23 := c_i2l ib
              have e22 : ((((ib).toInt64) &&& (2147483647 : Int64))).toInt = (((ib).toInt64)).toInt % 2147483648 := c_maskL ((ib).toInt64) (2147483647 : Int64) 31 (by decide) (by decide)
              have e21 := c_ladd (((ia).toInt64) &&& (2147483647 : Int64)) (((ib).toInt64) &&& (2147483647 : Int64))
              have r21 := rng64 ((((ia).toInt64) &&& (2147483647 : Int64)) + (((ib).toInt64) &&& (2147483647 : Int64)))
              have e20 := c_lsub ((((ia).toInt64) &&& (2147483647 : Int64)) + (((ib).toInt64) &&& (2147483647 : Int64))) (((ia).toInt64) &&& (2147483647 : Int64))
              have r20 := rng64 (((((ia).toInt64) &&& (2147483647 : Int64)) + (((ib).toInt64) &&& (2147483647 : Int64))) - (((ia).toInt64) &&& (2147483647 : Int64)))
              have e25 : (2 : Int32).toInt = 2 := rfl
              have e26 : (0 : Int32).toInt = 0 := rfl
              omega
          · refine G.cast (st' := [(.int (1 : Int32))]) ?_ rfl
            refine g_istore cx d0_133 (Ls' := #[.val (.int ia), .val (.int ib), .val (.int ic), .val (.int iw), .val (.int ir), .val (.int ig), .val (.long (((ia).toInt64) &&& (2147483647 : Int64))), .second, .val (.long (((ib).toInt64) &&& (2147483647 : Int64))), .second, .val (.int (1 : Int32)), .val (.int (2 : Int32)), .val (.long ((ir).toInt64)), .second, .val (.long (((ir).toInt64) + (((ig).toInt64) &&& (2147483647 : Int64)))), .second, .val (.ref b239), .val (.int (0 : Int32)), .val (.int (0 : Int32)), .val (.int (1 : Int32)), .val (.int (1 : Int32)), .unset, .unset, .unset, .unset, .unset, .unset, .unset, .unset, .unset]) rfl ?_
            refine g_iload cx d0_135 rfl ?_
            refine g_iconst cx d0_137 (v := (1 : Int32)) rfl ?_
            refine g_icmp_lt cx d0_138 (fun q => absurd q (fun q => by revert q; decide)) (fun hc138 => ?_)
            refine g_lload cx d0_141 rfl ?_
            refine g_goto cx d0_143 ?_
            refine g_iload cx d0_147 rfl ?_
            refine g_iconst cx d0_149 (v := (2 : Int32)) rfl ?_
            refine g_icmp_lt cx d0_150 (fun hc150 => ?_) (fun q => absurd q (fun q => by revert q; decide))
            refine g_lconst cx d0_158 (v := (0 : Int64)) rfl ?_
            refine g_ladd cx d0_159 ?_
            rw [Int64.add_zero]
            refine g_lstore cx d0_160 (Ls' := #[.val (.int ia), .val (.int ib), .val (.int ic), .val (.int iw), .val (.int ir), .val (.int ig), .val (.long (((ia).toInt64) &&& (2147483647 : Int64))), .second, .val (.long (((ib).toInt64) &&& (2147483647 : Int64))), .second, .val (.int (1 : Int32)), .val (.int (2 : Int32)), .val (.long ((ir).toInt64)), .second, .val (.long (((ir).toInt64) + (((ig).toInt64) &&& (2147483647 : Int64)))), .second, .val (.ref b239), .val (.int (0 : Int32)), .val (.int (0 : Int32)), .val (.int (1 : Int32)), .val (.int (1 : Int32)), .val (.long (((ia).toInt64) &&& (2147483647 : Int64))), .second, .unset, .unset, .unset, .unset, .unset, .unset, .unset]) rfl ?_
            refine g_iload cx d0_162 rfl ?_
            refine g_iconst cx d0_164 (v := (1 : Int32)) rfl ?_
            refine g_icmp_ge cx d0_165 (fun hc165 => ?_) (fun q => absurd q (fun q => by revert q; decide))
            refine g_lconst cx d0_179 (v := (0 : Int64)) rfl ?_
            refine g_iload cx d0_180 rfl ?_
            refine g_iconst cx d0_182 (v := (2 : Int32)) rfl ?_
            refine g_icmp_ge cx d0_183 (fun q => absurd q (fun q => by revert q; decide)) (fun hc183 => ?_)
            refine g_iload cx d0_186 rfl ?_
            refine g_iconst cx d0_188 (v := (2 : Int32)) rfl ?_
            refine g_icmp_lt cx d0_189 (fun q => absurd q (fun q => by revert q; decide)) (fun hc189 => ?_)
            refine g_lload cx d0_192 rfl ?_
            refine g_goto cx d0_194 ?_
            refine g_ladd cx d0_198 ?_
            rw [Int64.zero_add]
            refine g_lstore cx d0_199 (Ls' := #[.val (.int ia), .val (.int ib), .val (.int ic), .val (.int iw), .val (.int ir), .val (.int ig), .val (.long (((ia).toInt64) &&& (2147483647 : Int64))), .second, .val (.long (((ib).toInt64) &&& (2147483647 : Int64))), .second, .val (.int (1 : Int32)), .val (.int (2 : Int32)), .val (.long ((ir).toInt64)), .second, .val (.long (((ir).toInt64) + (((ig).toInt64) &&& (2147483647 : Int64)))), .second, .val (.ref b239), .val (.int (0 : Int32)), .val (.int (0 : Int32)), .val (.int (1 : Int32)), .val (.int (1 : Int32)), .val (.long (((ia).toInt64) &&& (2147483647 : Int64))), .second, .val (.long (((ib).toInt64) &&& (2147483647 : Int64))), .second, .unset, .unset, .unset, .unset, .unset]) rfl ?_
            refine g_iload cx d0_201 rfl ?_
            refine g_if_le cx d0_203 (fun q => absurd q (fun q => by revert q; decide)) (fun hc203 => ?_)
            refine g_iconst cx d0_206 (v := (1 : Int32)) rfl ?_
            refine g_goto cx d0_207 ?_
            refine g_istore cx d0_211 (Ls' := #[.val (.int ia), .val (.int ib), .val (.int ic), .val (.int iw), .val (.int ir), .val (.int ig), .val (.long (((ia).toInt64) &&& (2147483647 : Int64))), .second, .val (.long (((ib).toInt64) &&& (2147483647 : Int64))), .second, .val (.int (1 : Int32)), .val (.int (2 : Int32)), .val (.long ((ir).toInt64)), .second, .val (.long (((ir).toInt64) + (((ig).toInt64) &&& (2147483647 : Int64)))), .second, .val (.ref b239), .val (.int (0 : Int32)), .val (.int (0 : Int32)), .val (.int (1 : Int32)), .val (.int (1 : Int32)), .val (.long (((ia).toInt64) &&& (2147483647 : Int64))), .second, .val (.long (((ib).toInt64) &&& (2147483647 : Int64))), .second, .val (.int (1 : Int32)), .unset, .unset, .unset, .unset]) rfl ?_
            refine g_iload cx d0_213 rfl ?_
            refine g_iload cx d0_215 rfl ?_
            refine g_icmp_le cx d0_217 (fun q => absurd q (fun q => by revert q; decide)) (fun hc217 => ?_)
            refine g_iconst cx d0_220 (v := (1 : Int32)) rfl ?_
            refine g_goto cx d0_221 ?_
            refine g_istore cx d0_225 (Ls' := #[.val (.int ia), .val (.int ib), .val (.int ic), .val (.int iw), .val (.int ir), .val (.int ig), .val (.long (((ia).toInt64) &&& (2147483647 : Int64))), .second, .val (.long (((ib).toInt64) &&& (2147483647 : Int64))), .second, .val (.int (1 : Int32)), .val (.int (2 : Int32)), .val (.long ((ir).toInt64)), .second, .val (.long (((ir).toInt64) + (((ig).toInt64) &&& (2147483647 : Int64)))), .second, .val (.ref b239), .val (.int (0 : Int32)), .val (.int (0 : Int32)), .val (.int (1 : Int32)), .val (.int (1 : Int32)), .val (.long (((ia).toInt64) &&& (2147483647 : Int64))), .second, .val (.long (((ib).toInt64) &&& (2147483647 : Int64))), .second, .val (.int (1 : Int32)), .val (.int (1 : Int32)), .unset, .unset, .unset]) rfl ?_
            refine g_iload cx d0_227 rfl ?_
            refine g_if_eq cx d0_229 (fun q => absurd q (fun q => by revert q; decide)) (fun hc229 => ?_)
            refine g_iload cx d0_232 rfl ?_
            refine g_if_eq cx d0_234 (fun q => absurd q (fun q => by revert q; decide)) (fun hc234 => ?_)
            refine g_lload cx d0_237 rfl ?_
            refine g_lload cx d0_239 rfl ?_
            refine g_ldcJ cx d0_241 (hw _ (List.mem_of_getElem? (i := 151) rfl)) ?_
            refine g_lsub cx d0_244 ?_
            refine g_lif_ge cx d0_245 d0_246 (fun q => absurd q (fun q => q hq313)) (fun hc246 => ?_)
            refine g_iconst cx d0_249 (v := (1 : Int32)) rfl ?_
            refine g_goto cx d0_250 ?_
            refine g_istore cx d0_254 (Ls' := #[.val (.int ia), .val (.int ib), .val (.int ic), .val (.int iw), .val (.int ir), .val (.int ig), .val (.long (((ia).toInt64) &&& (2147483647 : Int64))), .second, .val (.long (((ib).toInt64) &&& (2147483647 : Int64))), .second, .val (.int (1 : Int32)), .val (.int (2 : Int32)), .val (.long ((ir).toInt64)), .second, .val (.long (((ir).toInt64) + (((ig).toInt64) &&& (2147483647 : Int64)))), .second, .val (.ref b239), .val (.int (0 : Int32)), .val (.int (0 : Int32)), .val (.int (1 : Int32)), .val (.int (1 : Int32)), .val (.long (((ia).toInt64) &&& (2147483647 : Int64))), .second, .val (.long (((ib).toInt64) &&& (2147483647 : Int64))), .second, .val (.int (1 : Int32)), .val (.int (1 : Int32)), .val (.int (1 : Int32)), .unset, .unset]) rfl ?_
            refine g_iload cx d0_256 rfl ?_
            refine g_if_eq cx d0_258 (fun q => absurd q (fun q => by revert q; decide)) (fun hc258 => ?_)
            refine g_iload cx d0_261 rfl ?_
            refine g_if_ne cx d0_263 (fun hc263 => ?_) (fun q => absurd q (fun q => by revert q; decide))
            refine g_lconst cx d0_271 (v := (0 : Int64)) rfl ?_
            refine g_iload cx d0_272 rfl ?_
            refine g_if_eq cx d0_274 (fun q => absurd q (fun q => by revert q; decide)) (fun hc274 => ?_)
            refine g_lload cx d0_277 rfl ?_
            refine g_goto cx d0_279 ?_
            refine g_ladd cx d0_283 ?_
            rw [Int64.zero_add]
            refine g_lstore cx d0_284 (Ls' := #[.val (.int ia), .val (.int ib), .val (.int ic), .val (.int iw), .val (.int ir), .val (.int ig), .val (.long (((ia).toInt64) &&& (2147483647 : Int64))), .second, .val (.long (((ib).toInt64) &&& (2147483647 : Int64))), .second, .val (.int (1 : Int32)), .val (.int (2 : Int32)), .val (.long ((ir).toInt64)), .second, .val (.long (((ir).toInt64) + (((ig).toInt64) &&& (2147483647 : Int64)))), .second, .val (.ref b239), .val (.int (0 : Int32)), .val (.int (0 : Int32)), .val (.int (1 : Int32)), .val (.int (1 : Int32)), .val (.long (((ia).toInt64) &&& (2147483647 : Int64))), .second, .val (.long (((ib).toInt64) &&& (2147483647 : Int64))), .second, .val (.int (1 : Int32)), .val (.int (1 : Int32)), .val (.int (1 : Int32)), .val (.long (((ib).toInt64) &&& (2147483647 : Int64))), .second]) rfl ?_
            refine g_iload cx d0_286 rfl ?_
            refine g_if_ne cx d0_288 (fun q => absurd q (fun q => by revert q; decide)) (fun hc288 => ?_)
            refine g_iload cx d0_291 rfl ?_
            refine g_if_ne cx d0_293 (fun q => absurd q (fun q => by revert q; decide)) (fun hc293 => ?_)
            refine g_iload cx d0_296 rfl ?_
            refine g_lload cx d0_298 rfl ?_
            refine g_lconst cx d0_300 (v := (0 : Int64)) rfl ?_
            refine g_lif_le cx d0_301 d0_302 (fun q => absurd q (fun q => q hq281)) (fun hc302 => ?_)
            refine g_iconst cx d0_305 (v := (1 : Int32)) rfl ?_
            refine g_goto cx d0_306 ?_
            refine g_icmp_ne cx d0_310 (fun q => absurd q (fun q => by revert q; decide)) (fun hc310 => ?_)
            refine g_iload cx d0_313 rfl ?_
            refine g_lload cx d0_315 rfl ?_
            refine g_lconst cx d0_317 (v := (0 : Int64)) rfl ?_
            refine g_lif_le cx d0_318 d0_319 (fun hc319 => ?_) (fun hc319 => ?_)
            · refine g_iconst cx d0_326 (v := (0 : Int32)) rfl ?_
              refine g_icmp_ne cx d0_327 (fun hc327 => ?_) (fun q => absurd q (fun q => by revert q; decide))
              refine g_iconst cx d0_334 (v := (0 : Int32)) rfl ?_
              refine g_retZ cx d0_335 rfl rfl (by decide) (by decide) ?_
              exfalso
              have i_hs1 : (((ic &&& (255 : Int32)) % (3 : Int32))).toInt = ((1 : Int32)).toInt := congrArg Int32.toInt hs1
              have i_hs167 : ((((((ic).toUInt32 >>> ((8 : Int32) &&& 31).toUInt32).toInt32) &&& (255 : Int32)) % (2 : Int32))).toInt = ((1 : Int32)).toInt := congrArg Int32.toInt hs167
              have i_hq281 : ((0 : Int64)).toInt < ((((ia).toInt64) &&& (2147483647 : Int64))).toInt := Int64.lt_iff_toInt_lt.mp hq281
              have i_hq313 : (((ir).toInt64)).toInt < (((((ir).toInt64) + (((ig).toInt64) &&& (2147483647 : Int64))) - (2000000000 : Int64))).toInt := Int64.lt_iff_toInt_lt.mp hq313
              have i_hq327 : ((0 : Int64)).toInt < ((((((ia).toInt64) &&& (2147483647 : Int64)) + (((ib).toInt64) &&& (2147483647 : Int64))) - (((ia).toInt64) &&& (2147483647 : Int64)))).toInt := Int64.lt_iff_toInt_lt.mp hq327
              have i_hc138 : ¬ ((1 : Int32)).toInt < ((1 : Int32)).toInt := fun z => hc138 (Int32.lt_iff_toInt_lt.mpr z)
              have i_hc150 : ((1 : Int32)).toInt < ((2 : Int32)).toInt := Int32.lt_iff_toInt_lt.mp hc150
              have i_hc165 : ¬ ((1 : Int32)).toInt < ((1 : Int32)).toInt := fun z => hc165 (Int32.lt_iff_toInt_lt.mpr z)
              have i_hc183 : ((1 : Int32)).toInt < ((2 : Int32)).toInt := Int32.lt_iff_toInt_lt.mp hc183
              have i_hc189 : ¬ ((2 : Int32)).toInt < ((2 : Int32)).toInt := fun z => hc189 (Int32.lt_iff_toInt_lt.mpr z)
              have i_hc203 : ((0 : Int32)).toInt < ((1 : Int32)).toInt := Int32.lt_iff_toInt_lt.mp hc203
              have i_hc217 : ((1 : Int32)).toInt < ((2 : Int32)).toInt := Int32.lt_iff_toInt_lt.mp hc217
              have i_hc229 : ¬ ((1 : Int32)).toInt = ((0 : Int32)).toInt := fun z => hc229 (Int32.toInt_inj.mp z)
              have i_hc234 : ¬ ((1 : Int32)).toInt = ((0 : Int32)).toInt := fun z => hc234 (Int32.toInt_inj.mp z)
              have i_hc246 : (((ir).toInt64)).toInt < (((((ir).toInt64) + (((ig).toInt64) &&& (2147483647 : Int64))) - (2000000000 : Int64))).toInt := Int64.lt_iff_toInt_lt.mp hc246
              have i_hc258 : ¬ ((1 : Int32)).toInt = ((0 : Int32)).toInt := fun z => hc258 (Int32.toInt_inj.mp z)
              have i_hc263 : ¬ ((1 : Int32)).toInt = ((0 : Int32)).toInt := fun z => hc263 (Int32.toInt_inj.mp z)
              have i_hc274 : ¬ ((1 : Int32)).toInt = ((0 : Int32)).toInt := fun z => hc274 (Int32.toInt_inj.mp z)
              have i_hc288 : ((0 : Int32)).toInt = ((0 : Int32)).toInt := congrArg Int32.toInt hc288
              have i_hc293 : ((0 : Int32)).toInt = ((0 : Int32)).toInt := congrArg Int32.toInt hc293
              have i_hc302 : ((0 : Int64)).toInt < ((((ia).toInt64) &&& (2147483647 : Int64))).toInt := Int64.lt_iff_toInt_lt.mp hc302
              have i_hc310 : ((1 : Int32)).toInt = ((1 : Int32)).toInt := congrArg Int32.toInt hc310
              have i_hc319 : ¬ ((0 : Int64)).toInt < ((((ib).toInt64) &&& (2147483647 : Int64))).toInt := fun z => hc319 (Int64.lt_iff_toInt_lt.mpr z)
              have i_hc327 : ¬ ((1 : Int32)).toInt = ((0 : Int32)).toInt := fun z => hc327 (Int32.toInt_inj.mp z)
              have r3 := rng32 ic
              have e2 : ((ic &&& (255 : Int32))).toInt = (ic).toInt % 256 := c_mask ic (255 : Int32) 8 (by decide) (by decide)
              have e1 : (0 ≤ ((ic &&& (255 : Int32))).toInt → (((ic &&& (255 : Int32)) % (3 : Int32))).toInt = ((ic &&& (255 : Int32))).toInt % 3) ∧ (((ic &&& (255 : Int32))).toInt < 0 → (((ic &&& (255 : Int32)) % (3 : Int32))).toInt = -((-((ic &&& (255 : Int32))).toInt) % 3)) := c_irem (ic &&& (255 : Int32)) (3 : Int32) 3 rfl
              have e4 : (1 : Int32).toInt = 1 := rfl
              have e7 : ((((ic).toUInt32 >>> ((8 : Int32) &&& 31).toUInt32).toInt32)).toInt = ((ic).toInt % 4294967296) / 256 := c_iushr ic (8 : Int32) 8 (by decide) (by decide)
              have e6 : (((((ic).toUInt32 >>> ((8 : Int32) &&& 31).toUInt32).toInt32) &&& (255 : Int32))).toInt = ((((ic).toUInt32 >>> ((8 : Int32) &&& 31).toUInt32).toInt32)).toInt % 256 := c_mask (((ic).toUInt32 >>> ((8 : Int32) &&& 31).toUInt32).toInt32) (255 : Int32) 8 (by decide) (by decide)
              have e5 : (0 ≤ (((((ic).toUInt32 >>> ((8 : Int32) &&& 31).toUInt32).toInt32) &&& (255 : Int32))).toInt → ((((((ic).toUInt32 >>> ((8 : Int32) &&& 31).toUInt32).toInt32) &&& (255 : Int32)) % (2 : Int32))).toInt = (((((ic).toUInt32 >>> ((8 : Int32) &&& 31).toUInt32).toInt32) &&& (255 : Int32))).toInt % 2) ∧ ((((((ic).toUInt32 >>> ((8 : Int32) &&& 31).toUInt32).toInt32) &&& (255 : Int32))).toInt < 0 → ((((((ic).toUInt32 >>> ((8 : Int32) &&& 31).toUInt32).toInt32) &&& (255 : Int32)) % (2 : Int32))).toInt = -((-(((((ic).toUInt32 >>> ((8 : Int32) &&& 31).toUInt32).toInt32) &&& (255 : Int32))).toInt) % 2)) := c_irem ((((ic).toUInt32 >>> ((8 : Int32) &&& 31).toUInt32).toInt32) &&& (255 : Int32)) (2 : Int32) 2 rfl
              have e8 : (0 : Int64).toInt = 0 := rfl
              have r11 := rng32 ia
              have e10 := c_i2l ia
              have e9 : ((((ia).toInt64) &&& (2147483647 : Int64))).toInt = (((ia).toInt64)).toInt % 2147483648 := c_maskL ((ia).toInt64) (2147483647 : Int64) 31 (by decide) (by decide)
              have r13 := rng32 ir
              have e12 := c_i2l ir
              have r18 := rng32 ig
              have e17 := c_i2l ig
              have e16 : ((((ig).toInt64) &&& (2147483647 : Int64))).toInt = (((ig).toInt64)).toInt % 2147483648 := c_maskL ((ig).toInt64) (2147483647 : Int64) 31 (by decide) (by decide)
              have e15 := c_ladd ((ir).toInt64) (((ig).toInt64) &&& (2147483647 : Int64))
              have r15 := rng64 (((ir).toInt64) + (((ig).toInt64) &&& (2147483647 : Int64)))
              have e19 : (2000000000 : Int64).toInt = 2000000000 := rfl
              have e14 := c_lsub (((ir).toInt64) + (((ig).toInt64) &&& (2147483647 : Int64))) (2000000000 : Int64)
              have r14 := rng64 ((((ir).toInt64) + (((ig).toInt64) &&& (2147483647 : Int64))) - (2000000000 : Int64))
              have r24 := rng32 ib
              have e23 := c_i2l ib
              have e22 : ((((ib).toInt64) &&& (2147483647 : Int64))).toInt = (((ib).toInt64)).toInt % 2147483648 := c_maskL ((ib).toInt64) (2147483647 : Int64) 31 (by decide) (by decide)
              have e21 := c_ladd (((ia).toInt64) &&& (2147483647 : Int64)) (((ib).toInt64) &&& (2147483647 : Int64))
              have r21 := rng64 ((((ia).toInt64) &&& (2147483647 : Int64)) + (((ib).toInt64) &&& (2147483647 : Int64)))
              have e20 := c_lsub ((((ia).toInt64) &&& (2147483647 : Int64)) + (((ib).toInt64) &&& (2147483647 : Int64))) (((ia).toInt64) &&& (2147483647 : Int64))
              have r20 := rng64 (((((ia).toInt64) &&& (2147483647 : Int64)) + (((ib).toInt64) &&& (2147483647 : Int64))) - (((ia).toInt64) &&& (2147483647 : Int64)))
              have e25 : (2 : Int32).toInt = 2 := rfl
              have e26 : (0 : Int32).toInt = 0 := rfl
              omega
            · refine g_iconst cx d0_322 (v := (1 : Int32)) rfl ?_
              refine g_goto cx d0_323 ?_
              refine g_icmp_ne cx d0_327 (fun q => absurd q (fun q => by revert q; decide)) (fun hc327 => ?_)
              refine g_iconst cx d0_330 (v := (1 : Int32)) rfl ?_
              refine g_goto cx d0_331 ?_
              refine g_retZ cx d0_335 rfl rfl (by decide) (by decide) ?_
              rfl
  · rw [hs1]
    refine g_istore cx d0_23 (Ls' := #[.val (.int ia), .val (.int ib), .val (.int ic), .val (.int iw), .val (.int ir), .val (.int ig), .val (.long (((ia).toInt64) &&& (2147483647 : Int64))), .second, .val (.long (((ib).toInt64) &&& (2147483647 : Int64))), .second, .val (.int (2 : Int32)), .unset, .unset, .unset, .unset, .unset, .unset, .unset, .unset, .unset, .unset, .unset, .unset, .unset, .unset, .unset, .unset, .unset, .unset, .unset]) rfl ?_
    refine g_iload cx d0_25 rfl ?_
    refine g_iloadN cx d0_27 rfl ?_
    refine g_bipush cx d0_28 (v := (8 : Int32)) rfl ?_
    refine g_iushr cx d0_30 ?_
    refine g_sipush cx d0_31 (v := (255 : Int32)) rfl ?_
    refine g_iand cx d0_34 ?_
    refine g_iconst cx d0_35 (v := (3 : Int32)) rfl ?_
    refine g_iload cx d0_36 rfl ?_
    refine g_isub cx d0_38 ?_
    refine G.cast (st' := [(.int (1 : Int32)), (.int ((((ic).toUInt32 >>> ((8 : Int32) &&& 31).toUInt32).toInt32) &&& (255 : Int32))), (.int (2 : Int32))]) ?_ rfl
    refine g_irem cx d0_39 (by decide) ?_
    have Dhs332 : (((((ic).toUInt32 >>> ((8 : Int32) &&& 31).toUInt32).toInt32) &&& (255 : Int32)) % (1 : Int32)) = (0 : Int32) := by
      have r4 := rng32 ic
      have e3 : ((((ic).toUInt32 >>> ((8 : Int32) &&& 31).toUInt32).toInt32)).toInt = ((ic).toInt % 4294967296) / 256 := c_iushr ic (8 : Int32) 8 (by decide) (by decide)
      have e2 : (((((ic).toUInt32 >>> ((8 : Int32) &&& 31).toUInt32).toInt32) &&& (255 : Int32))).toInt = ((((ic).toUInt32 >>> ((8 : Int32) &&& 31).toUInt32).toInt32)).toInt % 256 := c_mask (((ic).toUInt32 >>> ((8 : Int32) &&& 31).toUInt32).toInt32) (255 : Int32) 8 (by decide) (by decide)
      have e1 : (0 ≤ (((((ic).toUInt32 >>> ((8 : Int32) &&& 31).toUInt32).toInt32) &&& (255 : Int32))).toInt → ((((((ic).toUInt32 >>> ((8 : Int32) &&& 31).toUInt32).toInt32) &&& (255 : Int32)) % (1 : Int32))).toInt = (((((ic).toUInt32 >>> ((8 : Int32) &&& 31).toUInt32).toInt32) &&& (255 : Int32))).toInt % 1) ∧ ((((((ic).toUInt32 >>> ((8 : Int32) &&& 31).toUInt32).toInt32) &&& (255 : Int32))).toInt < 0 → ((((((ic).toUInt32 >>> ((8 : Int32) &&& 31).toUInt32).toInt32) &&& (255 : Int32)) % (1 : Int32))).toInt = -((-(((((ic).toUInt32 >>> ((8 : Int32) &&& 31).toUInt32).toInt32) &&& (255 : Int32))).toInt) % 1)) := c_irem ((((ic).toUInt32 >>> ((8 : Int32) &&& 31).toUInt32).toInt32) &&& (255 : Int32)) (1 : Int32) 1 rfl
      have e5 : (0 : Int32).toInt = 0 := rfl
      simp only [← Int32.toInt_inj]
      omega
    have hs332 := Dhs332
    rw [hs332]
    refine g_iadd cx d0_40 ?_
    refine G.cast (st' := [(.int (2 : Int32))]) ?_ rfl
    refine g_istore cx d0_41 (Ls' := #[.val (.int ia), .val (.int ib), .val (.int ic), .val (.int iw), .val (.int ir), .val (.int ig), .val (.long (((ia).toInt64) &&& (2147483647 : Int64))), .second, .val (.long (((ib).toInt64) &&& (2147483647 : Int64))), .second, .val (.int (2 : Int32)), .val (.int (2 : Int32)), .unset, .unset, .unset, .unset, .unset, .unset, .unset, .unset, .unset, .unset, .unset, .unset, .unset, .unset, .unset, .unset, .unset, .unset]) rfl ?_
    refine g_iload cx d0_43 rfl ?_
    refine g_i2l cx d0_45 ?_
    refine g_lstore cx d0_46 (Ls' := #[.val (.int ia), .val (.int ib), .val (.int ic), .val (.int iw), .val (.int ir), .val (.int ig), .val (.long (((ia).toInt64) &&& (2147483647 : Int64))), .second, .val (.long (((ib).toInt64) &&& (2147483647 : Int64))), .second, .val (.int (2 : Int32)), .val (.int (2 : Int32)), .val (.long ((ir).toInt64)), .second, .unset, .unset, .unset, .unset, .unset, .unset, .unset, .unset, .unset, .unset, .unset, .unset, .unset, .unset, .unset, .unset]) rfl ?_
    refine g_lload cx d0_48 rfl ?_
    refine g_iload cx d0_50 rfl ?_
    refine g_i2l cx d0_52 ?_
    refine g_ldcJ cx d0_53 (hw _ (List.mem_of_getElem? (i := 0) rfl)) ?_
    refine g_land cx d0_56 ?_
    refine g_ladd cx d0_57 ?_
    refine g_lstore cx d0_58 (Ls' := #[.val (.int ia), .val (.int ib), .val (.int ic), .val (.int iw), .val (.int ir), .val (.int ig), .val (.long (((ia).toInt64) &&& (2147483647 : Int64))), .second, .val (.long (((ib).toInt64) &&& (2147483647 : Int64))), .second, .val (.int (2 : Int32)), .val (.int (2 : Int32)), .val (.long ((ir).toInt64)), .second, .val (.long (((ir).toInt64) + (((ig).toInt64) &&& (2147483647 : Int64)))), .second, .unset, .unset, .unset, .unset, .unset, .unset, .unset, .unset, .unset, .unset, .unset, .unset, .unset, .unset]) rfl ?_
    refine g_new cx d0_60 (hw _ (List.mem_of_getElem? (i := 1) rfl)) (hw _ (List.mem_of_getElem? (i := 2) rfl)) (hw _ (List.mem_of_getElem? (i := 3) rfl)) (k' := 1) (n' := 8) rfl rfl (by decide) (by decide) (fun h333 b334 gb335 E336 X337 D338 => ?_)
    have g_b334 : Z.heap.size ≤ b334 := by rw [gb335]; exact OL.2.1
    have OL := OL.ext E336
    have O_b334 := ObP.new hw X337 D338
    refine g_dup cx d0_63 rfl ?_
    have lt_b334 := O_b334.lt
    refine g_special cx (y := (⟨"com/example/thalweg/thalweg/node/Pace", "<init>", "()V"⟩ : MethodName)) (a := b334) d0_64 rfl rfl (hw _ (List.mem_of_getElem? (i := 4) rfl)) (hw _ (List.mem_of_getElem? (i := 5) rfl)) (hw _ (List.mem_of_getElem? (i := 3) rfl)) (hw _ (List.mem_of_getElem? (i := 6) rfl)) (by decide) (bytes := prog_54_method_1_code) (maxL' := 1) (M := (ra1 l Z a0 hw  b334 _ O_b334 g_b334 OL)) rfl (lenOf pd_0 rfl) (by decide) (W := 1) (Nat.le_of_eq rfl) (by decide) (k' := 5) (n' := 48) rfl rfl (by decide) (by decide) (argsL := []) (rest := [(.ref b334)]) rfl (fun v347 h346 q348 => ?_)
    obtain ⟨b339, b340, b341, b342, cA343, cA344, rfl, K345, sq_b339, sq_b340, sq_b341, sq_b342, ne_b339_b340, ne_b339_b341, ne_b340_b341, ne_b339_b342, ne_b340_b342, ne_b341_b342, O_b339, A_b340, O_b341, A_b342, OV_b340, OV_b342, O_b334⟩ := q348
    have ne_b334_b339 : b334 ≠ b339 := Nat.ne_of_lt (Nat.lt_of_lt_of_le lt_b334 sq_b339)
    have g_b339 : Z.heap.size ≤ b339 := Nat.le_trans OL.2.1 sq_b339
    have ne_b334_b340 : b334 ≠ b340 := Nat.ne_of_lt (Nat.lt_of_lt_of_le lt_b334 sq_b340)
    have g_b340 : Z.heap.size ≤ b340 := Nat.le_trans OL.2.1 sq_b340
    have ne_b334_b341 : b334 ≠ b341 := Nat.ne_of_lt (Nat.lt_of_lt_of_le lt_b334 sq_b341)
    have g_b341 : Z.heap.size ≤ b341 := Nat.le_trans OL.2.1 sq_b341
    have ne_b334_b342 : b334 ≠ b342 := Nat.ne_of_lt (Nat.lt_of_lt_of_le lt_b334 sq_b342)
    have g_b342 : Z.heap.size ≤ b342 := Nat.le_trans OL.2.1 sq_b342
    have OL := OL.keep K345 (allS g_b334 all0)
    refine G.cast (st' := [(.ref b334)]) ?_ rfl
    refine g_astore cx d0_67 rfl (Ls' := #[.val (.int ia), .val (.int ib), .val (.int ic), .val (.int iw), .val (.int ir), .val (.int ig), .val (.long (((ia).toInt64) &&& (2147483647 : Int64))), .second, .val (.long (((ib).toInt64) &&& (2147483647 : Int64))), .second, .val (.int (2 : Int32)), .val (.int (2 : Int32)), .val (.long ((ir).toInt64)), .second, .val (.long (((ir).toInt64) + (((ig).toInt64) &&& (2147483647 : Int64)))), .second, .val (.ref b334), .unset, .unset, .unset, .unset, .unset, .unset, .unset, .unset, .unset, .unset, .unset, .unset, .unset]) rfl ?_
    refine g_aload cx d0_69 rfl rfl ?_
    refine g_virtual cx (y := (⟨"com/example/thalweg/thalweg/node/Pace", "known", "()Z"⟩ : MethodName)) (z := (⟨"com/example/thalweg/thalweg/node/Pace", "known", "()Z"⟩ : MethodName)) (a := b334) d0_71 (hw _ (List.mem_of_getElem? (i := 31) rfl)) (hw _ (List.mem_of_getElem? (i := 32) rfl)) (hw _ (List.mem_of_getElem? (i := 3) rfl)) (hw _ (List.mem_of_getElem? (i := 35) rfl)) (hw _ (List.mem_of_getElem? (i := 34) rfl)) (hw _ (List.mem_of_getElem? (i := 33) rfl)) rfl (by decide) O_b334.1 (bytes := prog_54_method_5_code) (maxL' := 1) (M := (ra3 l Z a0 hw  b334 b339 b340 b341 b342 cA343 cA344 _ O_b334 O_b339 O_b341 A_b340 A_b342 OV_b340 OV_b342 ne_b334_b339 ne_b334_b340 ne_b339_b340 ne_b334_b341 ne_b339_b341 ne_b340_b341 ne_b334_b342 ne_b339_b342 ne_b340_b342 ne_b341_b342 g_b334 g_b339 g_b340 g_b341 g_b342 OL)) rfl (lenOf pd_1 rfl) (by decide) (W := 0) (Nat.le_of_eq rfl) (by decide) (k' := 5) (n' := 48) rfl rfl (by decide) (by decide) (argsL := []) (rest := []) rfl (fun v351 h350 q352 => ?_)
    obtain ⟨rfl, rfl⟩ := q352
    refine G.cast (st' := [(.int (0 : Int32))]) ?_ rfl
    refine g_istore cx d0_74 (Ls' := #[.val (.int ia), .val (.int ib), .val (.int ic), .val (.int iw), .val (.int ir), .val (.int ig), .val (.long (((ia).toInt64) &&& (2147483647 : Int64))), .second, .val (.long (((ib).toInt64) &&& (2147483647 : Int64))), .second, .val (.int (2 : Int32)), .val (.int (2 : Int32)), .val (.long ((ir).toInt64)), .second, .val (.long (((ir).toInt64) + (((ig).toInt64) &&& (2147483647 : Int64)))), .second, .val (.ref b334), .val (.int (0 : Int32)), .unset, .unset, .unset, .unset, .unset, .unset, .unset, .unset, .unset, .unset, .unset, .unset]) rfl ?_
    refine g_aload cx d0_76 rfl rfl ?_
    refine g_lload cx d0_78 rfl ?_
    refine g_iloadN cx d0_80 rfl ?_
    refine g_i2l cx d0_81 ?_
    have lt_b334 := O_b334.lt
    have lt_b339 := O_b339.lt
    have lt_b340 := A_b340.lt
    refine g_virtual cx (y := (⟨"com/example/thalweg/thalweg/node/Pace", "written", "(JJ)V"⟩ : MethodName)) (z := (⟨"com/example/thalweg/thalweg/node/Pace", "written", "(JJ)V"⟩ : MethodName)) (a := b334) d0_82 (hw _ (List.mem_of_getElem? (i := 38) rfl)) (hw _ (List.mem_of_getElem? (i := 39) rfl)) (hw _ (List.mem_of_getElem? (i := 3) rfl)) (hw _ (List.mem_of_getElem? (i := 42) rfl)) (hw _ (List.mem_of_getElem? (i := 41) rfl)) (hw _ (List.mem_of_getElem? (i := 40) rfl)) rfl (by decide) O_b334.1 (bytes := prog_54_method_2_code) (maxL' := 5) (M := (ra4 l Z a0 hw  b334 b339 b340 b341 b342 (((ia).toInt64) &&& (2147483647 : Int64)) ((iw).toInt64) cA343 cA344 _ O_b334 O_b339 O_b341 A_b340 A_b342 OV_b340 OV_b342 ne_b334_b339 ne_b334_b340 ne_b339_b340 ne_b334_b341 ne_b339_b341 ne_b340_b341 ne_b334_b342 ne_b339_b342 ne_b340_b342 ne_b341_b342 g_b334 g_b339 g_b340 g_b341 g_b342 OL)) rfl (lenOf pd_4 rfl) (by decide) (W := 0) (Nat.le_of_eq rfl) (by decide) (k' := 6) (n' := 50) rfl rfl (by decide) (by decide) (argsL := [(.long (((ia).toInt64) &&& (2147483647 : Int64))), (.long ((iw).toInt64))]) (rest := []) rfl (fun v357 h356 q358 => ?_)
    obtain ⟨b353, cA354, rfl, K355, sq_b353, A_b353, O_b334, O_b339, A_b340⟩ := q358
    have ne_b334_b353 : b334 ≠ b353 := Nat.ne_of_lt (Nat.lt_of_lt_of_le lt_b334 sq_b353)
    have ne_b339_b353 : b339 ≠ b353 := Nat.ne_of_lt (Nat.lt_of_lt_of_le lt_b339 sq_b353)
    have ne_b341_b353 : b341 ≠ b353 := Nat.ne_of_lt (Nat.lt_of_lt_of_le O_b341.lt sq_b353)
    have ne_b340_b353 : b340 ≠ b353 := Nat.ne_of_lt (Nat.lt_of_lt_of_le lt_b340 sq_b353)
    have ne_b342_b353 : b342 ≠ b353 := Nat.ne_of_lt (Nat.lt_of_lt_of_le A_b342.lt sq_b353)
    have g_b353 : Z.heap.size ≤ b353 := Nat.le_trans OL.2.1 sq_b353
    have O_b341 := O_b341.keep K355 (ninS (Ne.symm ne_b334_b341) (ninS (Ne.symm ne_b339_b341) (ninS (Ne.symm ne_b340_b341) nin0)))
    have A_b342 := A_b342.keep K355 (ninS (Ne.symm ne_b334_b342) (ninS (Ne.symm ne_b339_b342) (ninS (Ne.symm ne_b340_b342) nin0)))
    have OL := OL.keep K355 (allS g_b334 (allS g_b339 (allS g_b340 all0)))
    refine G.cast (st' := []) ?_ rfl
    refine g_aload cx d0_85 rfl rfl ?_
    refine g_lload cx d0_87 rfl ?_
    refine g_iloadN cx d0_89 rfl ?_
    refine g_i2l cx d0_90 ?_
    have lt_b334 := O_b334.lt
    have lt_b339 := O_b339.lt
    have lt_b340 := A_b340.lt
    refine g_virtual cx (y := (⟨"com/example/thalweg/thalweg/node/Pace", "written", "(JJ)V"⟩ : MethodName)) (z := (⟨"com/example/thalweg/thalweg/node/Pace", "written", "(JJ)V"⟩ : MethodName)) (a := b334) d0_91 (hw _ (List.mem_of_getElem? (i := 38) rfl)) (hw _ (List.mem_of_getElem? (i := 39) rfl)) (hw _ (List.mem_of_getElem? (i := 3) rfl)) (hw _ (List.mem_of_getElem? (i := 42) rfl)) (hw _ (List.mem_of_getElem? (i := 41) rfl)) (hw _ (List.mem_of_getElem? (i := 40) rfl)) rfl (by decide) O_b334.1 (bytes := prog_54_method_2_code) (maxL' := 5) (M := (ra8 l Z a0 hw  b334 b339 b340 b353 b341 b342 (((ia).toInt64) &&& (2147483647 : Int64)) ((iw).toInt64) (((ib).toInt64) &&& (2147483647 : Int64)) cA343 cA354 cA344 _ O_b334 O_b339 O_b341 A_b340 A_b353 A_b342 OV_b340 OV_b342 ne_b334_b339 ne_b334_b340 ne_b339_b340 ne_b334_b353 ne_b339_b353 ne_b340_b353 ne_b334_b341 ne_b339_b341 ne_b340_b341 (Ne.symm ne_b341_b353) ne_b334_b342 ne_b339_b342 ne_b340_b342 (Ne.symm ne_b342_b353) ne_b341_b342 g_b334 g_b339 g_b340 g_b353 g_b341 g_b342 OL)) rfl (lenOf pd_4 rfl) (by decide) (W := 0) (Nat.le_of_eq rfl) (by decide) (k' := 7) (n' := 52) rfl rfl (by decide) (by decide) (argsL := [(.long (((ib).toInt64) &&& (2147483647 : Int64))), (.long ((iw).toInt64))]) (rest := []) rfl (fun v363 h362 q364 => ?_)
    obtain ⟨b359, cA360, rfl, K361, sq_b359, A_b359, O_b334, O_b339, A_b340⟩ := q364
    have ne_b334_b359 : b334 ≠ b359 := Nat.ne_of_lt (Nat.lt_of_lt_of_le lt_b334 sq_b359)
    have ne_b339_b359 : b339 ≠ b359 := Nat.ne_of_lt (Nat.lt_of_lt_of_le lt_b339 sq_b359)
    have ne_b341_b359 : b341 ≠ b359 := Nat.ne_of_lt (Nat.lt_of_lt_of_le O_b341.lt sq_b359)
    have ne_b340_b359 : b340 ≠ b359 := Nat.ne_of_lt (Nat.lt_of_lt_of_le lt_b340 sq_b359)
    have ne_b342_b359 : b342 ≠ b359 := Nat.ne_of_lt (Nat.lt_of_lt_of_le A_b342.lt sq_b359)
    have ne_b353_b359 : b353 ≠ b359 := Nat.ne_of_lt (Nat.lt_of_lt_of_le A_b353.lt sq_b359)
    have g_b359 : Z.heap.size ≤ b359 := Nat.le_trans OL.2.1 sq_b359
    have O_b341 := O_b341.keep K361 (ninS (Ne.symm ne_b334_b341) (ninS (Ne.symm ne_b339_b341) (ninS (Ne.symm ne_b340_b341) nin0)))
    have A_b342 := A_b342.keep K361 (ninS (Ne.symm ne_b334_b342) (ninS (Ne.symm ne_b339_b342) (ninS (Ne.symm ne_b340_b342) nin0)))
    have A_b353 := A_b353.keep K361 (ninS (Ne.symm ne_b334_b353) (ninS (Ne.symm ne_b339_b353) (ninS (Ne.symm ne_b340_b353) nin0)))
    have OL := OL.keep K361 (allS g_b334 (allS g_b339 (allS g_b340 all0)))
    refine G.cast (st' := []) ?_ rfl
    refine g_aload cx d0_94 rfl rfl ?_
    refine g_virtual cx (y := (⟨"com/example/thalweg/thalweg/node/Pace", "known", "()Z"⟩ : MethodName)) (z := (⟨"com/example/thalweg/thalweg/node/Pace", "known", "()Z"⟩ : MethodName)) (a := b334) d0_96 (hw _ (List.mem_of_getElem? (i := 31) rfl)) (hw _ (List.mem_of_getElem? (i := 32) rfl)) (hw _ (List.mem_of_getElem? (i := 3) rfl)) (hw _ (List.mem_of_getElem? (i := 35) rfl)) (hw _ (List.mem_of_getElem? (i := 34) rfl)) (hw _ (List.mem_of_getElem? (i := 33) rfl)) rfl (by decide) O_b334.1 (bytes := prog_54_method_5_code) (maxL' := 1) (M := (ra12 l Z a0 hw  b334 b339 b340 b353 b359 b341 b342 (((ia).toInt64) &&& (2147483647 : Int64)) ((iw).toInt64) (((ib).toInt64) &&& (2147483647 : Int64)) ((((ia).toInt64) &&& (2147483647 : Int64)) + (((ib).toInt64) &&& (2147483647 : Int64))) cA343 cA354 cA360 cA344 _ O_b334 O_b339 O_b341 A_b340 A_b353 A_b359 A_b342 OV_b340 OV_b342 ne_b334_b339 ne_b334_b340 ne_b339_b340 ne_b334_b353 ne_b339_b353 ne_b340_b353 ne_b334_b359 ne_b339_b359 ne_b340_b359 ne_b353_b359 ne_b334_b341 ne_b339_b341 ne_b340_b341 (Ne.symm ne_b341_b353) (Ne.symm ne_b341_b359) ne_b334_b342 ne_b339_b342 ne_b340_b342 (Ne.symm ne_b342_b353) (Ne.symm ne_b342_b359) ne_b341_b342 g_b334 g_b339 g_b340 g_b353 g_b359 g_b341 g_b342 OL)) rfl (lenOf pd_1 rfl) (by decide) (W := 0) (Nat.le_of_eq rfl) (by decide) (k' := 7) (n' := 52) rfl rfl (by decide) (by decide) (argsL := []) (rest := []) rfl (fun v367 h366 q368 => ?_)
    obtain ⟨rfl, rfl⟩ := q368
    refine G.cast (st' := [(.int (0 : Int32))]) ?_ rfl
    refine g_istore cx d0_99 (Ls' := #[.val (.int ia), .val (.int ib), .val (.int ic), .val (.int iw), .val (.int ir), .val (.int ig), .val (.long (((ia).toInt64) &&& (2147483647 : Int64))), .second, .val (.long (((ib).toInt64) &&& (2147483647 : Int64))), .second, .val (.int (2 : Int32)), .val (.int (2 : Int32)), .val (.long ((ir).toInt64)), .second, .val (.long (((ir).toInt64) + (((ig).toInt64) &&& (2147483647 : Int64)))), .second, .val (.ref b334), .val (.int (0 : Int32)), .val (.int (0 : Int32)), .unset, .unset, .unset, .unset, .unset, .unset, .unset, .unset, .unset, .unset, .unset]) rfl ?_
    refine g_aload cx d0_101 rfl rfl ?_
    refine g_iload cx d0_103 rfl ?_
    refine g_i2l cx d0_105 ?_
    refine G.cast (st' := [(.long (2 : Int64)), (.ref b334)]) ?_ rfl
    refine g_lload cx d0_106 rfl ?_
    have lt_b334 := O_b334.lt
    have lt_b339 := O_b339.lt
    have lt_b340 := A_b340.lt
    have lt_b341 := O_b341.lt
    have lt_b342 := A_b342.lt
    refine g_virtual cx (y := (⟨"com/example/thalweg/thalweg/node/Pace", "taken", "(JJ)V"⟩ : MethodName)) (z := (⟨"com/example/thalweg/thalweg/node/Pace", "taken", "(JJ)V"⟩ : MethodName)) (a := b334) d0_108 (hw _ (List.mem_of_getElem? (i := 68) rfl)) (hw _ (List.mem_of_getElem? (i := 69) rfl)) (hw _ (List.mem_of_getElem? (i := 3) rfl)) (hw _ (List.mem_of_getElem? (i := 72) rfl)) (hw _ (List.mem_of_getElem? (i := 71) rfl)) (hw _ (List.mem_of_getElem? (i := 70) rfl)) rfl (by decide) O_b334.1 (bytes := prog_54_method_3_code) (maxL' := 10) (M := (ra26 l Z a0 hw  b334 b339 b340 b353 b359 b341 b342 (((ia).toInt64) &&& (2147483647 : Int64)) ((iw).toInt64) (((ib).toInt64) &&& (2147483647 : Int64)) ((((ia).toInt64) &&& (2147483647 : Int64)) + (((ib).toInt64) &&& (2147483647 : Int64))) ((ir).toInt64) cA343 cA354 cA360 cA344 _ O_b334 O_b339 O_b341 A_b340 A_b353 A_b359 A_b342 OV_b340 OV_b342 ne_b334_b339 ne_b334_b340 ne_b339_b340 ne_b334_b353 ne_b339_b353 ne_b340_b353 ne_b334_b359 ne_b339_b359 ne_b340_b359 ne_b353_b359 ne_b334_b341 ne_b339_b341 ne_b340_b341 (Ne.symm ne_b341_b353) (Ne.symm ne_b341_b359) ne_b334_b342 ne_b339_b342 ne_b340_b342 (Ne.symm ne_b342_b353) (Ne.symm ne_b342_b359) ne_b341_b342 g_b334 g_b339 g_b340 g_b353 g_b359 g_b341 g_b342 OL)) rfl (lenOf pd_4 rfl) (by decide) (W := 0) (Nat.le_of_eq rfl) (by decide) (k' := 8) (n' := 56) rfl rfl (by decide) (by decide) (argsL := [(.long (2 : Int64)), (.long ((ir).toInt64))]) (rest := []) rfl (fun v372 h371 q373 => ?_)
    obtain ⟨b369, rfl, K370, sq_b369, O_b369, O_b334, O_b339, A_b340, O_b341, A_b342⟩ := q373
    have ne_b334_b369 : b334 ≠ b369 := Nat.ne_of_lt (Nat.lt_of_lt_of_le lt_b334 sq_b369)
    have ne_b339_b369 : b339 ≠ b369 := Nat.ne_of_lt (Nat.lt_of_lt_of_le lt_b339 sq_b369)
    have ne_b341_b369 : b341 ≠ b369 := Nat.ne_of_lt (Nat.lt_of_lt_of_le lt_b341 sq_b369)
    have ne_b340_b369 : b340 ≠ b369 := Nat.ne_of_lt (Nat.lt_of_lt_of_le lt_b340 sq_b369)
    have ne_b342_b369 : b342 ≠ b369 := Nat.ne_of_lt (Nat.lt_of_lt_of_le lt_b342 sq_b369)
    have ne_b353_b369 : b353 ≠ b369 := Nat.ne_of_lt (Nat.lt_of_lt_of_le A_b353.lt sq_b369)
    have ne_b359_b369 : b359 ≠ b369 := Nat.ne_of_lt (Nat.lt_of_lt_of_le A_b359.lt sq_b369)
    have g_b369 : Z.heap.size ≤ b369 := Nat.le_trans OL.2.1 sq_b369
    have A_b353 := A_b353.keep K370 (ninS (Ne.symm ne_b334_b353) (ninS (Ne.symm ne_b339_b353) (ninS (Ne.symm ne_b340_b353) (ninS (Ne.symm ne_b341_b353) (ninS (Ne.symm ne_b342_b353) nin0)))))
    have A_b359 := A_b359.keep K370 (ninS (Ne.symm ne_b334_b359) (ninS (Ne.symm ne_b339_b359) (ninS (Ne.symm ne_b340_b359) (ninS (Ne.symm ne_b341_b359) (ninS (Ne.symm ne_b342_b359) nin0)))))
    have OL := OL.keep K370 (allS g_b334 (allS g_b339 (allS g_b340 (allS g_b341 (allS g_b342 all0)))))
    refine G.cast (st' := []) ?_ rfl
    refine g_aload cx d0_111 rfl rfl ?_
    refine g_virtual cx (y := (⟨"com/example/thalweg/thalweg/node/Pace", "known", "()Z"⟩ : MethodName)) (z := (⟨"com/example/thalweg/thalweg/node/Pace", "known", "()Z"⟩ : MethodName)) (a := b334) d0_113 (hw _ (List.mem_of_getElem? (i := 31) rfl)) (hw _ (List.mem_of_getElem? (i := 32) rfl)) (hw _ (List.mem_of_getElem? (i := 3) rfl)) (hw _ (List.mem_of_getElem? (i := 35) rfl)) (hw _ (List.mem_of_getElem? (i := 34) rfl)) (hw _ (List.mem_of_getElem? (i := 33) rfl)) rfl (by decide) O_b334.1 (bytes := prog_54_method_5_code) (maxL' := 1) (M := (ra31 l Z a0 hw  b334 b339 b340 b341 b342 b369 ((ir).toInt64) ((((ia).toInt64) &&& (2147483647 : Int64)) + (((ib).toInt64) &&& (2147483647 : Int64))) (own_max (1 : Int64) (((ir).toInt64) - ((iw).toInt64))) (((ir).toInt64) - ((iw).toInt64)) (((((ia).toInt64) &&& (2147483647 : Int64)) + (((ib).toInt64) &&& (2147483647 : Int64))) - ((((ia).toInt64) &&& (2147483647 : Int64)) + (((ib).toInt64) &&& (2147483647 : Int64)))) cA343 cA344 _ O_b334 O_b339 O_b341 O_b369 A_b340 A_b342 OV_b340 OV_b342 ne_b334_b339 ne_b334_b340 ne_b339_b340 ne_b334_b341 ne_b339_b341 ne_b340_b341 ne_b334_b342 ne_b339_b342 ne_b340_b342 ne_b341_b342 ne_b334_b369 ne_b339_b369 ne_b340_b369 ne_b341_b369 ne_b342_b369 g_b334 g_b339 g_b340 g_b341 g_b342 g_b369 OL)) rfl (lenOf pd_1 rfl) (by decide) (W := 0) (Nat.le_of_eq rfl) (by decide) (k' := 8) (n' := 56) rfl rfl (by decide) (by decide) (argsL := []) (rest := []) rfl (fun v379 h378 q380 => ?_)
    rcases q380 with ⟨hq374, rfl, rfl⟩ | ⟨hq376, rfl, rfl⟩
    · refine G.cast (st' := [(.int (0 : Int32))]) ?_ rfl
      refine g_istore cx d0_116 (Ls' := #[.val (.int ia), .val (.int ib), .val (.int ic), .val (.int iw), .val (.int ir), .val (.int ig), .val (.long (((ia).toInt64) &&& (2147483647 : Int64))), .second, .val (.long (((ib).toInt64) &&& (2147483647 : Int64))), .second, .val (.int (2 : Int32)), .val (.int (2 : Int32)), .val (.long ((ir).toInt64)), .second, .val (.long (((ir).toInt64) + (((ig).toInt64) &&& (2147483647 : Int64)))), .second, .val (.ref b334), .val (.int (0 : Int32)), .val (.int (0 : Int32)), .val (.int (0 : Int32)), .unset, .unset, .unset, .unset, .unset, .unset, .unset, .unset, .unset, .unset]) rfl ?_
      refine g_aload cx d0_118 rfl rfl ?_
      refine g_iload cx d0_120 rfl ?_
      refine g_i2l cx d0_122 ?_
      refine G.cast (st' := [(.long (2 : Int64)), (.ref b334)]) ?_ rfl
      refine g_lload cx d0_123 rfl ?_
      refine g_virtual cx (y := (⟨"com/example/thalweg/thalweg/node/Pace", "taken", "(JJ)V"⟩ : MethodName)) (z := (⟨"com/example/thalweg/thalweg/node/Pace", "taken", "(JJ)V"⟩ : MethodName)) (a := b334) d0_125 (hw _ (List.mem_of_getElem? (i := 68) rfl)) (hw _ (List.mem_of_getElem? (i := 69) rfl)) (hw _ (List.mem_of_getElem? (i := 3) rfl)) (hw _ (List.mem_of_getElem? (i := 72) rfl)) (hw _ (List.mem_of_getElem? (i := 71) rfl)) (hw _ (List.mem_of_getElem? (i := 70) rfl)) rfl (by decide) O_b334.1 (bytes := prog_54_method_3_code) (maxL' := 10) (M := (ra47 l Z a0 hw  b334 b339 b340 b341 b342 b369 ((ir).toInt64) ((((ia).toInt64) &&& (2147483647 : Int64)) + (((ib).toInt64) &&& (2147483647 : Int64))) (own_max (1 : Int64) (((ir).toInt64) - ((iw).toInt64))) (((ir).toInt64) - ((iw).toInt64)) (((((ia).toInt64) &&& (2147483647 : Int64)) + (((ib).toInt64) &&& (2147483647 : Int64))) - ((((ia).toInt64) &&& (2147483647 : Int64)) + (((ib).toInt64) &&& (2147483647 : Int64)))) (((ir).toInt64) + (((ig).toInt64) &&& (2147483647 : Int64))) cA343 cA344 _ O_b334 O_b339 O_b341 O_b369 A_b340 A_b342 OV_b340 OV_b342 ne_b334_b339 ne_b334_b340 ne_b339_b340 ne_b334_b341 ne_b339_b341 ne_b340_b341 ne_b334_b342 ne_b339_b342 ne_b340_b342 ne_b341_b342 ne_b334_b369 ne_b339_b369 ne_b340_b369 ne_b341_b369 ne_b342_b369 g_b334 g_b339 g_b340 g_b341 g_b342 g_b369 OL)) rfl (lenOf pd_4 rfl) (by decide) (W := 0) (Nat.le_of_eq rfl) (by decide) (k' := 8) (n' := 56) rfl rfl (by decide) (by decide) (argsL := [(.long (2 : Int64)), (.long (((ir).toInt64) + (((ig).toInt64) &&& (2147483647 : Int64))))]) (rest := []) rfl (fun v383 h382 q384 => ?_)
      obtain ⟨rfl, rfl⟩ := q384
      refine G.cast (st' := []) ?_ rfl
      refine g_aload cx d0_128 rfl rfl ?_
      refine g_virtual cx (y := (⟨"com/example/thalweg/thalweg/node/Pace", "known", "()Z"⟩ : MethodName)) (z := (⟨"com/example/thalweg/thalweg/node/Pace", "known", "()Z"⟩ : MethodName)) (a := b334) d0_130 (hw _ (List.mem_of_getElem? (i := 31) rfl)) (hw _ (List.mem_of_getElem? (i := 32) rfl)) (hw _ (List.mem_of_getElem? (i := 3) rfl)) (hw _ (List.mem_of_getElem? (i := 35) rfl)) (hw _ (List.mem_of_getElem? (i := 34) rfl)) (hw _ (List.mem_of_getElem? (i := 33) rfl)) rfl (by decide) O_b334.1 (bytes := prog_54_method_5_code) (maxL' := 1) (M := (ra31 l Z a0 hw  b334 b339 b340 b341 b342 b369 ((ir).toInt64) ((((ia).toInt64) &&& (2147483647 : Int64)) + (((ib).toInt64) &&& (2147483647 : Int64))) (own_max (1 : Int64) (((ir).toInt64) - ((iw).toInt64))) (((ir).toInt64) - ((iw).toInt64)) (((((ia).toInt64) &&& (2147483647 : Int64)) + (((ib).toInt64) &&& (2147483647 : Int64))) - ((((ia).toInt64) &&& (2147483647 : Int64)) + (((ib).toInt64) &&& (2147483647 : Int64)))) cA343 cA344 _ O_b334 O_b339 O_b341 O_b369 A_b340 A_b342 OV_b340 OV_b342 ne_b334_b339 ne_b334_b340 ne_b339_b340 ne_b334_b341 ne_b339_b341 ne_b340_b341 ne_b334_b342 ne_b339_b342 ne_b340_b342 ne_b341_b342 ne_b334_b369 ne_b339_b369 ne_b340_b369 ne_b341_b369 ne_b342_b369 g_b334 g_b339 g_b340 g_b341 g_b342 g_b369 OL)) rfl (lenOf pd_1 rfl) (by decide) (W := 0) (Nat.le_of_eq rfl) (by decide) (k' := 8) (n' := 56) rfl rfl (by decide) (by decide) (argsL := []) (rest := []) rfl (fun v390 h389 q391 => ?_)
      rcases q391 with ⟨hq385, rfl, rfl⟩ | ⟨hq387, rfl, rfl⟩
      · refine G.cast (st' := [(.int (0 : Int32))]) ?_ rfl
        refine g_istore cx d0_133 (Ls' := #[.val (.int ia), .val (.int ib), .val (.int ic), .val (.int iw), .val (.int ir), .val (.int ig), .val (.long (((ia).toInt64) &&& (2147483647 : Int64))), .second, .val (.long (((ib).toInt64) &&& (2147483647 : Int64))), .second, .val (.int (2 : Int32)), .val (.int (2 : Int32)), .val (.long ((ir).toInt64)), .second, .val (.long (((ir).toInt64) + (((ig).toInt64) &&& (2147483647 : Int64)))), .second, .val (.ref b334), .val (.int (0 : Int32)), .val (.int (0 : Int32)), .val (.int (0 : Int32)), .val (.int (0 : Int32)), .unset, .unset, .unset, .unset, .unset, .unset, .unset, .unset, .unset]) rfl ?_
        refine g_iload cx d0_135 rfl ?_
        refine g_iconst cx d0_137 (v := (1 : Int32)) rfl ?_
        refine g_icmp_lt cx d0_138 (fun q => absurd q (fun q => by revert q; decide)) (fun hc138 => ?_)
        refine g_lload cx d0_141 rfl ?_
        refine g_goto cx d0_143 ?_
        refine g_iload cx d0_147 rfl ?_
        refine g_iconst cx d0_149 (v := (2 : Int32)) rfl ?_
        refine g_icmp_lt cx d0_150 (fun q => absurd q (fun q => by revert q; decide)) (fun hc150 => ?_)
        refine g_lload cx d0_153 rfl ?_
        refine g_goto cx d0_155 ?_
        refine g_ladd cx d0_159 ?_
        refine g_lstore cx d0_160 (Ls' := #[.val (.int ia), .val (.int ib), .val (.int ic), .val (.int iw), .val (.int ir), .val (.int ig), .val (.long (((ia).toInt64) &&& (2147483647 : Int64))), .second, .val (.long (((ib).toInt64) &&& (2147483647 : Int64))), .second, .val (.int (2 : Int32)), .val (.int (2 : Int32)), .val (.long ((ir).toInt64)), .second, .val (.long (((ir).toInt64) + (((ig).toInt64) &&& (2147483647 : Int64)))), .second, .val (.ref b334), .val (.int (0 : Int32)), .val (.int (0 : Int32)), .val (.int (0 : Int32)), .val (.int (0 : Int32)), .val (.long ((((ia).toInt64) &&& (2147483647 : Int64)) + (((ib).toInt64) &&& (2147483647 : Int64)))), .second, .unset, .unset, .unset, .unset, .unset, .unset, .unset]) rfl ?_
        refine g_iload cx d0_162 rfl ?_
        refine g_iconst cx d0_164 (v := (1 : Int32)) rfl ?_
        refine g_icmp_ge cx d0_165 (fun hc165 => ?_) (fun q => absurd q (fun q => by revert q; decide))
        refine g_lconst cx d0_179 (v := (0 : Int64)) rfl ?_
        refine g_iload cx d0_180 rfl ?_
        refine g_iconst cx d0_182 (v := (2 : Int32)) rfl ?_
        refine g_icmp_ge cx d0_183 (fun hc183 => ?_) (fun q => absurd q (fun q => by revert q; decide))
        refine g_lconst cx d0_197 (v := (0 : Int64)) rfl ?_
        refine g_ladd cx d0_198 ?_
        refine G.cast (st' := [(.long (0 : Int64))]) ?_ rfl
        refine g_lstore cx d0_199 (Ls' := #[.val (.int ia), .val (.int ib), .val (.int ic), .val (.int iw), .val (.int ir), .val (.int ig), .val (.long (((ia).toInt64) &&& (2147483647 : Int64))), .second, .val (.long (((ib).toInt64) &&& (2147483647 : Int64))), .second, .val (.int (2 : Int32)), .val (.int (2 : Int32)), .val (.long ((ir).toInt64)), .second, .val (.long (((ir).toInt64) + (((ig).toInt64) &&& (2147483647 : Int64)))), .second, .val (.ref b334), .val (.int (0 : Int32)), .val (.int (0 : Int32)), .val (.int (0 : Int32)), .val (.int (0 : Int32)), .val (.long ((((ia).toInt64) &&& (2147483647 : Int64)) + (((ib).toInt64) &&& (2147483647 : Int64)))), .second, .val (.long (0 : Int64)), .second, .unset, .unset, .unset, .unset, .unset]) rfl ?_
        refine g_iload cx d0_201 rfl ?_
        refine g_if_le cx d0_203 (fun q => absurd q (fun q => by revert q; decide)) (fun hc203 => ?_)
        refine g_iconst cx d0_206 (v := (1 : Int32)) rfl ?_
        refine g_goto cx d0_207 ?_
        refine g_istore cx d0_211 (Ls' := #[.val (.int ia), .val (.int ib), .val (.int ic), .val (.int iw), .val (.int ir), .val (.int ig), .val (.long (((ia).toInt64) &&& (2147483647 : Int64))), .second, .val (.long (((ib).toInt64) &&& (2147483647 : Int64))), .second, .val (.int (2 : Int32)), .val (.int (2 : Int32)), .val (.long ((ir).toInt64)), .second, .val (.long (((ir).toInt64) + (((ig).toInt64) &&& (2147483647 : Int64)))), .second, .val (.ref b334), .val (.int (0 : Int32)), .val (.int (0 : Int32)), .val (.int (0 : Int32)), .val (.int (0 : Int32)), .val (.long ((((ia).toInt64) &&& (2147483647 : Int64)) + (((ib).toInt64) &&& (2147483647 : Int64)))), .second, .val (.long (0 : Int64)), .second, .val (.int (1 : Int32)), .unset, .unset, .unset, .unset]) rfl ?_
        refine g_iload cx d0_213 rfl ?_
        refine g_iload cx d0_215 rfl ?_
        refine g_icmp_le cx d0_217 (fun hc217 => ?_) (fun q => absurd q (fun q => by revert q; decide))
        refine g_iconst cx d0_224 (v := (0 : Int32)) rfl ?_
        refine g_istore cx d0_225 (Ls' := #[.val (.int ia), .val (.int ib), .val (.int ic), .val (.int iw), .val (.int ir), .val (.int ig), .val (.long (((ia).toInt64) &&& (2147483647 : Int64))), .second, .val (.long (((ib).toInt64) &&& (2147483647 : Int64))), .second, .val (.int (2 : Int32)), .val (.int (2 : Int32)), .val (.long ((ir).toInt64)), .second, .val (.long (((ir).toInt64) + (((ig).toInt64) &&& (2147483647 : Int64)))), .second, .val (.ref b334), .val (.int (0 : Int32)), .val (.int (0 : Int32)), .val (.int (0 : Int32)), .val (.int (0 : Int32)), .val (.long ((((ia).toInt64) &&& (2147483647 : Int64)) + (((ib).toInt64) &&& (2147483647 : Int64)))), .second, .val (.long (0 : Int64)), .second, .val (.int (1 : Int32)), .val (.int (0 : Int32)), .unset, .unset, .unset]) rfl ?_
        refine g_iload cx d0_227 rfl ?_
        refine g_if_eq cx d0_229 (fun q => absurd q (fun q => by revert q; decide)) (fun hc229 => ?_)
        refine g_iload cx d0_232 rfl ?_
        refine g_if_eq cx d0_234 (fun hc234 => ?_) (fun q => absurd q (fun q => by revert q; decide))
        refine g_iconst cx d0_253 (v := (0 : Int32)) rfl ?_
        refine g_istore cx d0_254 (Ls' := #[.val (.int ia), .val (.int ib), .val (.int ic), .val (.int iw), .val (.int ir), .val (.int ig), .val (.long (((ia).toInt64) &&& (2147483647 : Int64))), .second, .val (.long (((ib).toInt64) &&& (2147483647 : Int64))), .second, .val (.int (2 : Int32)), .val (.int (2 : Int32)), .val (.long ((ir).toInt64)), .second, .val (.long (((ir).toInt64) + (((ig).toInt64) &&& (2147483647 : Int64)))), .second, .val (.ref b334), .val (.int (0 : Int32)), .val (.int (0 : Int32)), .val (.int (0 : Int32)), .val (.int (0 : Int32)), .val (.long ((((ia).toInt64) &&& (2147483647 : Int64)) + (((ib).toInt64) &&& (2147483647 : Int64)))), .second, .val (.long (0 : Int64)), .second, .val (.int (1 : Int32)), .val (.int (0 : Int32)), .val (.int (0 : Int32)), .unset, .unset]) rfl ?_
        refine g_iload cx d0_256 rfl ?_
        refine g_if_eq cx d0_258 (fun q => absurd q (fun q => by revert q; decide)) (fun hc258 => ?_)
        refine g_iload cx d0_261 rfl ?_
        refine g_if_ne cx d0_263 (fun q => absurd q (fun q => by revert q; decide)) (fun hc263 => ?_)
        refine g_lload cx d0_266 rfl ?_
        refine g_goto cx d0_268 ?_
        refine g_iload cx d0_272 rfl ?_
        refine g_if_eq cx d0_274 (fun hc274 => ?_) (fun q => absurd q (fun q => by revert q; decide))
        refine g_lconst cx d0_282 (v := (0 : Int64)) rfl ?_
        refine g_ladd cx d0_283 ?_
        rw [Int64.add_zero]
        refine g_lstore cx d0_284 (Ls' := #[.val (.int ia), .val (.int ib), .val (.int ic), .val (.int iw), .val (.int ir), .val (.int ig), .val (.long (((ia).toInt64) &&& (2147483647 : Int64))), .second, .val (.long (((ib).toInt64) &&& (2147483647 : Int64))), .second, .val (.int (2 : Int32)), .val (.int (2 : Int32)), .val (.long ((ir).toInt64)), .second, .val (.long (((ir).toInt64) + (((ig).toInt64) &&& (2147483647 : Int64)))), .second, .val (.ref b334), .val (.int (0 : Int32)), .val (.int (0 : Int32)), .val (.int (0 : Int32)), .val (.int (0 : Int32)), .val (.long ((((ia).toInt64) &&& (2147483647 : Int64)) + (((ib).toInt64) &&& (2147483647 : Int64)))), .second, .val (.long (0 : Int64)), .second, .val (.int (1 : Int32)), .val (.int (0 : Int32)), .val (.int (0 : Int32)), .val (.long ((((ia).toInt64) &&& (2147483647 : Int64)) + (((ib).toInt64) &&& (2147483647 : Int64)))), .second]) rfl ?_
        refine g_iload cx d0_286 rfl ?_
        refine g_if_ne cx d0_288 (fun q => absurd q (fun q => by revert q; decide)) (fun hc288 => ?_)
        refine g_iload cx d0_291 rfl ?_
        refine g_if_ne cx d0_293 (fun q => absurd q (fun q => by revert q; decide)) (fun hc293 => ?_)
        refine g_iload cx d0_296 rfl ?_
        refine g_lload cx d0_298 rfl ?_
        refine g_lconst cx d0_300 (v := (0 : Int64)) rfl ?_
        refine g_lif_le cx d0_301 d0_302 (fun hc302 => ?_) (fun q => absurd q (fun q => hq385 q))
        refine g_iconst cx d0_309 (v := (0 : Int32)) rfl ?_
        refine g_icmp_ne cx d0_310 (fun q => absurd q (fun q => by revert q; decide)) (fun hc310 => ?_)
        refine g_iload cx d0_313 rfl ?_
        refine g_lload cx d0_315 rfl ?_
        refine g_lconst cx d0_317 (v := (0 : Int64)) rfl ?_
        refine g_lif_le cx d0_318 d0_319 (fun hc319 => ?_) (fun q => absurd q (fun q => hc302 q))
        refine g_iconst cx d0_326 (v := (0 : Int32)) rfl ?_
        refine g_icmp_ne cx d0_327 (fun q => absurd q (fun q => by revert q; decide)) (fun hc327 => ?_)
        refine g_iconst cx d0_330 (v := (1 : Int32)) rfl ?_
        refine g_goto cx d0_331 ?_
        refine g_retZ cx d0_335 rfl rfl (by decide) (by decide) ?_
        rfl
      · refine G.cast (st' := [(.int (1 : Int32))]) ?_ rfl
        refine g_istore cx d0_133 (Ls' := #[.val (.int ia), .val (.int ib), .val (.int ic), .val (.int iw), .val (.int ir), .val (.int ig), .val (.long (((ia).toInt64) &&& (2147483647 : Int64))), .second, .val (.long (((ib).toInt64) &&& (2147483647 : Int64))), .second, .val (.int (2 : Int32)), .val (.int (2 : Int32)), .val (.long ((ir).toInt64)), .second, .val (.long (((ir).toInt64) + (((ig).toInt64) &&& (2147483647 : Int64)))), .second, .val (.ref b334), .val (.int (0 : Int32)), .val (.int (0 : Int32)), .val (.int (0 : Int32)), .val (.int (1 : Int32)), .unset, .unset, .unset, .unset, .unset, .unset, .unset, .unset, .unset]) rfl ?_
        refine g_iload cx d0_135 rfl ?_
        refine g_iconst cx d0_137 (v := (1 : Int32)) rfl ?_
        refine g_icmp_lt cx d0_138 (fun q => absurd q (fun q => by revert q; decide)) (fun hc138 => ?_)
        refine g_lload cx d0_141 rfl ?_
        refine g_goto cx d0_143 ?_
        refine g_iload cx d0_147 rfl ?_
        refine g_iconst cx d0_149 (v := (2 : Int32)) rfl ?_
        refine g_icmp_lt cx d0_150 (fun q => absurd q (fun q => by revert q; decide)) (fun hc150 => ?_)
        refine g_lload cx d0_153 rfl ?_
        refine g_goto cx d0_155 ?_
        refine g_ladd cx d0_159 ?_
        refine g_lstore cx d0_160 (Ls' := #[.val (.int ia), .val (.int ib), .val (.int ic), .val (.int iw), .val (.int ir), .val (.int ig), .val (.long (((ia).toInt64) &&& (2147483647 : Int64))), .second, .val (.long (((ib).toInt64) &&& (2147483647 : Int64))), .second, .val (.int (2 : Int32)), .val (.int (2 : Int32)), .val (.long ((ir).toInt64)), .second, .val (.long (((ir).toInt64) + (((ig).toInt64) &&& (2147483647 : Int64)))), .second, .val (.ref b334), .val (.int (0 : Int32)), .val (.int (0 : Int32)), .val (.int (0 : Int32)), .val (.int (1 : Int32)), .val (.long ((((ia).toInt64) &&& (2147483647 : Int64)) + (((ib).toInt64) &&& (2147483647 : Int64)))), .second, .unset, .unset, .unset, .unset, .unset, .unset, .unset]) rfl ?_
        refine g_iload cx d0_162 rfl ?_
        refine g_iconst cx d0_164 (v := (1 : Int32)) rfl ?_
        refine g_icmp_ge cx d0_165 (fun hc165 => ?_) (fun q => absurd q (fun q => by revert q; decide))
        refine g_lconst cx d0_179 (v := (0 : Int64)) rfl ?_
        refine g_iload cx d0_180 rfl ?_
        refine g_iconst cx d0_182 (v := (2 : Int32)) rfl ?_
        refine g_icmp_ge cx d0_183 (fun hc183 => ?_) (fun q => absurd q (fun q => by revert q; decide))
        refine g_lconst cx d0_197 (v := (0 : Int64)) rfl ?_
        refine g_ladd cx d0_198 ?_
        refine G.cast (st' := [(.long (0 : Int64))]) ?_ rfl
        refine g_lstore cx d0_199 (Ls' := #[.val (.int ia), .val (.int ib), .val (.int ic), .val (.int iw), .val (.int ir), .val (.int ig), .val (.long (((ia).toInt64) &&& (2147483647 : Int64))), .second, .val (.long (((ib).toInt64) &&& (2147483647 : Int64))), .second, .val (.int (2 : Int32)), .val (.int (2 : Int32)), .val (.long ((ir).toInt64)), .second, .val (.long (((ir).toInt64) + (((ig).toInt64) &&& (2147483647 : Int64)))), .second, .val (.ref b334), .val (.int (0 : Int32)), .val (.int (0 : Int32)), .val (.int (0 : Int32)), .val (.int (1 : Int32)), .val (.long ((((ia).toInt64) &&& (2147483647 : Int64)) + (((ib).toInt64) &&& (2147483647 : Int64)))), .second, .val (.long (0 : Int64)), .second, .unset, .unset, .unset, .unset, .unset]) rfl ?_
        refine g_iload cx d0_201 rfl ?_
        refine g_if_le cx d0_203 (fun q => absurd q (fun q => by revert q; decide)) (fun hc203 => ?_)
        refine g_iconst cx d0_206 (v := (1 : Int32)) rfl ?_
        refine g_goto cx d0_207 ?_
        refine g_istore cx d0_211 (Ls' := #[.val (.int ia), .val (.int ib), .val (.int ic), .val (.int iw), .val (.int ir), .val (.int ig), .val (.long (((ia).toInt64) &&& (2147483647 : Int64))), .second, .val (.long (((ib).toInt64) &&& (2147483647 : Int64))), .second, .val (.int (2 : Int32)), .val (.int (2 : Int32)), .val (.long ((ir).toInt64)), .second, .val (.long (((ir).toInt64) + (((ig).toInt64) &&& (2147483647 : Int64)))), .second, .val (.ref b334), .val (.int (0 : Int32)), .val (.int (0 : Int32)), .val (.int (0 : Int32)), .val (.int (1 : Int32)), .val (.long ((((ia).toInt64) &&& (2147483647 : Int64)) + (((ib).toInt64) &&& (2147483647 : Int64)))), .second, .val (.long (0 : Int64)), .second, .val (.int (1 : Int32)), .unset, .unset, .unset, .unset]) rfl ?_
        refine g_iload cx d0_213 rfl ?_
        refine g_iload cx d0_215 rfl ?_
        refine g_icmp_le cx d0_217 (fun hc217 => ?_) (fun q => absurd q (fun q => by revert q; decide))
        refine g_iconst cx d0_224 (v := (0 : Int32)) rfl ?_
        refine g_istore cx d0_225 (Ls' := #[.val (.int ia), .val (.int ib), .val (.int ic), .val (.int iw), .val (.int ir), .val (.int ig), .val (.long (((ia).toInt64) &&& (2147483647 : Int64))), .second, .val (.long (((ib).toInt64) &&& (2147483647 : Int64))), .second, .val (.int (2 : Int32)), .val (.int (2 : Int32)), .val (.long ((ir).toInt64)), .second, .val (.long (((ir).toInt64) + (((ig).toInt64) &&& (2147483647 : Int64)))), .second, .val (.ref b334), .val (.int (0 : Int32)), .val (.int (0 : Int32)), .val (.int (0 : Int32)), .val (.int (1 : Int32)), .val (.long ((((ia).toInt64) &&& (2147483647 : Int64)) + (((ib).toInt64) &&& (2147483647 : Int64)))), .second, .val (.long (0 : Int64)), .second, .val (.int (1 : Int32)), .val (.int (0 : Int32)), .unset, .unset, .unset]) rfl ?_
        refine g_iload cx d0_227 rfl ?_
        refine g_if_eq cx d0_229 (fun q => absurd q (fun q => by revert q; decide)) (fun hc229 => ?_)
        refine g_iload cx d0_232 rfl ?_
        refine g_if_eq cx d0_234 (fun hc234 => ?_) (fun q => absurd q (fun q => by revert q; decide))
        refine g_iconst cx d0_253 (v := (0 : Int32)) rfl ?_
        refine g_istore cx d0_254 (Ls' := #[.val (.int ia), .val (.int ib), .val (.int ic), .val (.int iw), .val (.int ir), .val (.int ig), .val (.long (((ia).toInt64) &&& (2147483647 : Int64))), .second, .val (.long (((ib).toInt64) &&& (2147483647 : Int64))), .second, .val (.int (2 : Int32)), .val (.int (2 : Int32)), .val (.long ((ir).toInt64)), .second, .val (.long (((ir).toInt64) + (((ig).toInt64) &&& (2147483647 : Int64)))), .second, .val (.ref b334), .val (.int (0 : Int32)), .val (.int (0 : Int32)), .val (.int (0 : Int32)), .val (.int (1 : Int32)), .val (.long ((((ia).toInt64) &&& (2147483647 : Int64)) + (((ib).toInt64) &&& (2147483647 : Int64)))), .second, .val (.long (0 : Int64)), .second, .val (.int (1 : Int32)), .val (.int (0 : Int32)), .val (.int (0 : Int32)), .unset, .unset]) rfl ?_
        refine g_iload cx d0_256 rfl ?_
        refine g_if_eq cx d0_258 (fun q => absurd q (fun q => by revert q; decide)) (fun hc258 => ?_)
        refine g_iload cx d0_261 rfl ?_
        refine g_if_ne cx d0_263 (fun q => absurd q (fun q => by revert q; decide)) (fun hc263 => ?_)
        refine g_lload cx d0_266 rfl ?_
        refine g_goto cx d0_268 ?_
        refine g_iload cx d0_272 rfl ?_
        refine g_if_eq cx d0_274 (fun hc274 => ?_) (fun q => absurd q (fun q => by revert q; decide))
        refine g_lconst cx d0_282 (v := (0 : Int64)) rfl ?_
        refine g_ladd cx d0_283 ?_
        rw [Int64.add_zero]
        refine g_lstore cx d0_284 (Ls' := #[.val (.int ia), .val (.int ib), .val (.int ic), .val (.int iw), .val (.int ir), .val (.int ig), .val (.long (((ia).toInt64) &&& (2147483647 : Int64))), .second, .val (.long (((ib).toInt64) &&& (2147483647 : Int64))), .second, .val (.int (2 : Int32)), .val (.int (2 : Int32)), .val (.long ((ir).toInt64)), .second, .val (.long (((ir).toInt64) + (((ig).toInt64) &&& (2147483647 : Int64)))), .second, .val (.ref b334), .val (.int (0 : Int32)), .val (.int (0 : Int32)), .val (.int (0 : Int32)), .val (.int (1 : Int32)), .val (.long ((((ia).toInt64) &&& (2147483647 : Int64)) + (((ib).toInt64) &&& (2147483647 : Int64)))), .second, .val (.long (0 : Int64)), .second, .val (.int (1 : Int32)), .val (.int (0 : Int32)), .val (.int (0 : Int32)), .val (.long ((((ia).toInt64) &&& (2147483647 : Int64)) + (((ib).toInt64) &&& (2147483647 : Int64)))), .second]) rfl ?_
        refine g_iload cx d0_286 rfl ?_
        refine g_if_ne cx d0_288 (fun q => absurd q (fun q => by revert q; decide)) (fun hc288 => ?_)
        refine g_iload cx d0_291 rfl ?_
        refine g_if_ne cx d0_293 (fun q => absurd q (fun q => by revert q; decide)) (fun hc293 => ?_)
        refine g_iload cx d0_296 rfl ?_
        refine g_lload cx d0_298 rfl ?_
        refine g_lconst cx d0_300 (v := (0 : Int64)) rfl ?_
        refine g_lif_le cx d0_301 d0_302 (fun q => absurd q (fun q => q hq387)) (fun hc302 => ?_)
        refine g_iconst cx d0_305 (v := (1 : Int32)) rfl ?_
        refine g_goto cx d0_306 ?_
        refine g_icmp_ne cx d0_310 (fun hc310 => ?_) (fun q => absurd q (fun q => by revert q; decide))
        refine g_iconst cx d0_334 (v := (0 : Int32)) rfl ?_
        refine g_retZ cx d0_335 rfl rfl (by decide) (by decide) ?_
        exfalso
        have i_hs1 : (((ic &&& (255 : Int32)) % (3 : Int32))).toInt = ((2 : Int32)).toInt := congrArg Int32.toInt hs1
        have i_hs332 : ((((((ic).toUInt32 >>> ((8 : Int32) &&& 31).toUInt32).toInt32) &&& (255 : Int32)) % (1 : Int32))).toInt = ((0 : Int32)).toInt := congrArg Int32.toInt hs332
        have i_hq374 : ¬ ((0 : Int64)).toInt < (((((ia).toInt64) &&& (2147483647 : Int64)) + (((ib).toInt64) &&& (2147483647 : Int64)))).toInt := fun z => hq374 (Int64.lt_iff_toInt_lt.mpr z)
        have i_hq387 : ((0 : Int64)).toInt < (((((ia).toInt64) &&& (2147483647 : Int64)) + (((ib).toInt64) &&& (2147483647 : Int64)))).toInt := Int64.lt_iff_toInt_lt.mp hq387
        have i_hc138 : ¬ ((2 : Int32)).toInt < ((1 : Int32)).toInt := fun z => hc138 (Int32.lt_iff_toInt_lt.mpr z)
        have i_hc150 : ¬ ((2 : Int32)).toInt < ((2 : Int32)).toInt := fun z => hc150 (Int32.lt_iff_toInt_lt.mpr z)
        have i_hc165 : ¬ ((2 : Int32)).toInt < ((1 : Int32)).toInt := fun z => hc165 (Int32.lt_iff_toInt_lt.mpr z)
        have i_hc183 : ¬ ((2 : Int32)).toInt < ((2 : Int32)).toInt := fun z => hc183 (Int32.lt_iff_toInt_lt.mpr z)
        have i_hc203 : ((0 : Int32)).toInt < ((2 : Int32)).toInt := Int32.lt_iff_toInt_lt.mp hc203
        have i_hc217 : ¬ ((2 : Int32)).toInt < ((2 : Int32)).toInt := fun z => hc217 (Int32.lt_iff_toInt_lt.mpr z)
        have i_hc229 : ¬ ((1 : Int32)).toInt = ((0 : Int32)).toInt := fun z => hc229 (Int32.toInt_inj.mp z)
        have i_hc234 : ((0 : Int32)).toInt = ((0 : Int32)).toInt := congrArg Int32.toInt hc234
        have i_hc258 : ¬ ((1 : Int32)).toInt = ((0 : Int32)).toInt := fun z => hc258 (Int32.toInt_inj.mp z)
        have i_hc263 : ((0 : Int32)).toInt = ((0 : Int32)).toInt := congrArg Int32.toInt hc263
        have i_hc274 : ((0 : Int32)).toInt = ((0 : Int32)).toInt := congrArg Int32.toInt hc274
        have i_hc288 : ((0 : Int32)).toInt = ((0 : Int32)).toInt := congrArg Int32.toInt hc288
        have i_hc293 : ((0 : Int32)).toInt = ((0 : Int32)).toInt := congrArg Int32.toInt hc293
        have i_hc302 : ((0 : Int64)).toInt < (((((ia).toInt64) &&& (2147483647 : Int64)) + (((ib).toInt64) &&& (2147483647 : Int64)))).toInt := Int64.lt_iff_toInt_lt.mp hc302
        have i_hc310 : ¬ ((0 : Int32)).toInt = ((1 : Int32)).toInt := fun z => hc310 (Int32.toInt_inj.mp z)
        have r3 := rng32 ic
        have e2 : ((ic &&& (255 : Int32))).toInt = (ic).toInt % 256 := c_mask ic (255 : Int32) 8 (by decide) (by decide)
        have e1 : (0 ≤ ((ic &&& (255 : Int32))).toInt → (((ic &&& (255 : Int32)) % (3 : Int32))).toInt = ((ic &&& (255 : Int32))).toInt % 3) ∧ (((ic &&& (255 : Int32))).toInt < 0 → (((ic &&& (255 : Int32)) % (3 : Int32))).toInt = -((-((ic &&& (255 : Int32))).toInt) % 3)) := c_irem (ic &&& (255 : Int32)) (3 : Int32) 3 rfl
        have e4 : (2 : Int32).toInt = 2 := rfl
        have e7 : ((((ic).toUInt32 >>> ((8 : Int32) &&& 31).toUInt32).toInt32)).toInt = ((ic).toInt % 4294967296) / 256 := c_iushr ic (8 : Int32) 8 (by decide) (by decide)
        have e6 : (((((ic).toUInt32 >>> ((8 : Int32) &&& 31).toUInt32).toInt32) &&& (255 : Int32))).toInt = ((((ic).toUInt32 >>> ((8 : Int32) &&& 31).toUInt32).toInt32)).toInt % 256 := c_mask (((ic).toUInt32 >>> ((8 : Int32) &&& 31).toUInt32).toInt32) (255 : Int32) 8 (by decide) (by decide)
        have e5 : (0 ≤ (((((ic).toUInt32 >>> ((8 : Int32) &&& 31).toUInt32).toInt32) &&& (255 : Int32))).toInt → ((((((ic).toUInt32 >>> ((8 : Int32) &&& 31).toUInt32).toInt32) &&& (255 : Int32)) % (1 : Int32))).toInt = (((((ic).toUInt32 >>> ((8 : Int32) &&& 31).toUInt32).toInt32) &&& (255 : Int32))).toInt % 1) ∧ ((((((ic).toUInt32 >>> ((8 : Int32) &&& 31).toUInt32).toInt32) &&& (255 : Int32))).toInt < 0 → ((((((ic).toUInt32 >>> ((8 : Int32) &&& 31).toUInt32).toInt32) &&& (255 : Int32)) % (1 : Int32))).toInt = -((-(((((ic).toUInt32 >>> ((8 : Int32) &&& 31).toUInt32).toInt32) &&& (255 : Int32))).toInt) % 1)) := c_irem ((((ic).toUInt32 >>> ((8 : Int32) &&& 31).toUInt32).toInt32) &&& (255 : Int32)) (1 : Int32) 1 rfl
        have e8 : (0 : Int32).toInt = 0 := rfl
        have e9 : (0 : Int64).toInt = 0 := rfl
        have r13 := rng32 ia
        have e12 := c_i2l ia
        have e11 : ((((ia).toInt64) &&& (2147483647 : Int64))).toInt = (((ia).toInt64)).toInt % 2147483648 := c_maskL ((ia).toInt64) (2147483647 : Int64) 31 (by decide) (by decide)
        have r16 := rng32 ib
        have e15 := c_i2l ib
        have e14 : ((((ib).toInt64) &&& (2147483647 : Int64))).toInt = (((ib).toInt64)).toInt % 2147483648 := c_maskL ((ib).toInt64) (2147483647 : Int64) 31 (by decide) (by decide)
        have e10 := c_ladd (((ia).toInt64) &&& (2147483647 : Int64)) (((ib).toInt64) &&& (2147483647 : Int64))
        have r10 := rng64 ((((ia).toInt64) &&& (2147483647 : Int64)) + (((ib).toInt64) &&& (2147483647 : Int64)))
        have e17 : (1 : Int32).toInt = 1 := rfl
        omega
    · refine G.cast (st' := [(.int (1 : Int32))]) ?_ rfl
      refine g_istore cx d0_116 (Ls' := #[.val (.int ia), .val (.int ib), .val (.int ic), .val (.int iw), .val (.int ir), .val (.int ig), .val (.long (((ia).toInt64) &&& (2147483647 : Int64))), .second, .val (.long (((ib).toInt64) &&& (2147483647 : Int64))), .second, .val (.int (2 : Int32)), .val (.int (2 : Int32)), .val (.long ((ir).toInt64)), .second, .val (.long (((ir).toInt64) + (((ig).toInt64) &&& (2147483647 : Int64)))), .second, .val (.ref b334), .val (.int (0 : Int32)), .val (.int (0 : Int32)), .val (.int (1 : Int32)), .unset, .unset, .unset, .unset, .unset, .unset, .unset, .unset, .unset, .unset]) rfl ?_
      refine g_aload cx d0_118 rfl rfl ?_
      refine g_iload cx d0_120 rfl ?_
      refine g_i2l cx d0_122 ?_
      refine G.cast (st' := [(.long (2 : Int64)), (.ref b334)]) ?_ rfl
      refine g_lload cx d0_123 rfl ?_
      refine g_virtual cx (y := (⟨"com/example/thalweg/thalweg/node/Pace", "taken", "(JJ)V"⟩ : MethodName)) (z := (⟨"com/example/thalweg/thalweg/node/Pace", "taken", "(JJ)V"⟩ : MethodName)) (a := b334) d0_125 (hw _ (List.mem_of_getElem? (i := 68) rfl)) (hw _ (List.mem_of_getElem? (i := 69) rfl)) (hw _ (List.mem_of_getElem? (i := 3) rfl)) (hw _ (List.mem_of_getElem? (i := 72) rfl)) (hw _ (List.mem_of_getElem? (i := 71) rfl)) (hw _ (List.mem_of_getElem? (i := 70) rfl)) rfl (by decide) O_b334.1 (bytes := prog_54_method_3_code) (maxL' := 10) (M := (ra47 l Z a0 hw  b334 b339 b340 b341 b342 b369 ((ir).toInt64) ((((ia).toInt64) &&& (2147483647 : Int64)) + (((ib).toInt64) &&& (2147483647 : Int64))) (own_max (1 : Int64) (((ir).toInt64) - ((iw).toInt64))) (((ir).toInt64) - ((iw).toInt64)) (((((ia).toInt64) &&& (2147483647 : Int64)) + (((ib).toInt64) &&& (2147483647 : Int64))) - ((((ia).toInt64) &&& (2147483647 : Int64)) + (((ib).toInt64) &&& (2147483647 : Int64)))) (((ir).toInt64) + (((ig).toInt64) &&& (2147483647 : Int64))) cA343 cA344 _ O_b334 O_b339 O_b341 O_b369 A_b340 A_b342 OV_b340 OV_b342 ne_b334_b339 ne_b334_b340 ne_b339_b340 ne_b334_b341 ne_b339_b341 ne_b340_b341 ne_b334_b342 ne_b339_b342 ne_b340_b342 ne_b341_b342 ne_b334_b369 ne_b339_b369 ne_b340_b369 ne_b341_b369 ne_b342_b369 g_b334 g_b339 g_b340 g_b341 g_b342 g_b369 OL)) rfl (lenOf pd_4 rfl) (by decide) (W := 0) (Nat.le_of_eq rfl) (by decide) (k' := 8) (n' := 56) rfl rfl (by decide) (by decide) (argsL := [(.long (2 : Int64)), (.long (((ir).toInt64) + (((ig).toInt64) &&& (2147483647 : Int64))))]) (rest := []) rfl (fun v394 h393 q395 => ?_)
      obtain ⟨rfl, rfl⟩ := q395
      refine G.cast (st' := []) ?_ rfl
      refine g_aload cx d0_128 rfl rfl ?_
      refine g_virtual cx (y := (⟨"com/example/thalweg/thalweg/node/Pace", "known", "()Z"⟩ : MethodName)) (z := (⟨"com/example/thalweg/thalweg/node/Pace", "known", "()Z"⟩ : MethodName)) (a := b334) d0_130 (hw _ (List.mem_of_getElem? (i := 31) rfl)) (hw _ (List.mem_of_getElem? (i := 32) rfl)) (hw _ (List.mem_of_getElem? (i := 3) rfl)) (hw _ (List.mem_of_getElem? (i := 35) rfl)) (hw _ (List.mem_of_getElem? (i := 34) rfl)) (hw _ (List.mem_of_getElem? (i := 33) rfl)) rfl (by decide) O_b334.1 (bytes := prog_54_method_5_code) (maxL' := 1) (M := (ra31 l Z a0 hw  b334 b339 b340 b341 b342 b369 ((ir).toInt64) ((((ia).toInt64) &&& (2147483647 : Int64)) + (((ib).toInt64) &&& (2147483647 : Int64))) (own_max (1 : Int64) (((ir).toInt64) - ((iw).toInt64))) (((ir).toInt64) - ((iw).toInt64)) (((((ia).toInt64) &&& (2147483647 : Int64)) + (((ib).toInt64) &&& (2147483647 : Int64))) - ((((ia).toInt64) &&& (2147483647 : Int64)) + (((ib).toInt64) &&& (2147483647 : Int64)))) cA343 cA344 _ O_b334 O_b339 O_b341 O_b369 A_b340 A_b342 OV_b340 OV_b342 ne_b334_b339 ne_b334_b340 ne_b339_b340 ne_b334_b341 ne_b339_b341 ne_b340_b341 ne_b334_b342 ne_b339_b342 ne_b340_b342 ne_b341_b342 ne_b334_b369 ne_b339_b369 ne_b340_b369 ne_b341_b369 ne_b342_b369 g_b334 g_b339 g_b340 g_b341 g_b342 g_b369 OL)) rfl (lenOf pd_1 rfl) (by decide) (W := 0) (Nat.le_of_eq rfl) (by decide) (k' := 8) (n' := 56) rfl rfl (by decide) (by decide) (argsL := []) (rest := []) rfl (fun v401 h400 q402 => ?_)
      rcases q402 with ⟨hq396, rfl, rfl⟩ | ⟨hq398, rfl, rfl⟩
      · refine G.cast (st' := [(.int (0 : Int32))]) ?_ rfl
        refine g_istore cx d0_133 (Ls' := #[.val (.int ia), .val (.int ib), .val (.int ic), .val (.int iw), .val (.int ir), .val (.int ig), .val (.long (((ia).toInt64) &&& (2147483647 : Int64))), .second, .val (.long (((ib).toInt64) &&& (2147483647 : Int64))), .second, .val (.int (2 : Int32)), .val (.int (2 : Int32)), .val (.long ((ir).toInt64)), .second, .val (.long (((ir).toInt64) + (((ig).toInt64) &&& (2147483647 : Int64)))), .second, .val (.ref b334), .val (.int (0 : Int32)), .val (.int (0 : Int32)), .val (.int (1 : Int32)), .val (.int (0 : Int32)), .unset, .unset, .unset, .unset, .unset, .unset, .unset, .unset, .unset]) rfl ?_
        refine g_iload cx d0_135 rfl ?_
        refine g_iconst cx d0_137 (v := (1 : Int32)) rfl ?_
        refine g_icmp_lt cx d0_138 (fun q => absurd q (fun q => by revert q; decide)) (fun hc138 => ?_)
        refine g_lload cx d0_141 rfl ?_
        refine g_goto cx d0_143 ?_
        refine g_iload cx d0_147 rfl ?_
        refine g_iconst cx d0_149 (v := (2 : Int32)) rfl ?_
        refine g_icmp_lt cx d0_150 (fun q => absurd q (fun q => by revert q; decide)) (fun hc150 => ?_)
        refine g_lload cx d0_153 rfl ?_
        refine g_goto cx d0_155 ?_
        refine g_ladd cx d0_159 ?_
        refine g_lstore cx d0_160 (Ls' := #[.val (.int ia), .val (.int ib), .val (.int ic), .val (.int iw), .val (.int ir), .val (.int ig), .val (.long (((ia).toInt64) &&& (2147483647 : Int64))), .second, .val (.long (((ib).toInt64) &&& (2147483647 : Int64))), .second, .val (.int (2 : Int32)), .val (.int (2 : Int32)), .val (.long ((ir).toInt64)), .second, .val (.long (((ir).toInt64) + (((ig).toInt64) &&& (2147483647 : Int64)))), .second, .val (.ref b334), .val (.int (0 : Int32)), .val (.int (0 : Int32)), .val (.int (1 : Int32)), .val (.int (0 : Int32)), .val (.long ((((ia).toInt64) &&& (2147483647 : Int64)) + (((ib).toInt64) &&& (2147483647 : Int64)))), .second, .unset, .unset, .unset, .unset, .unset, .unset, .unset]) rfl ?_
        refine g_iload cx d0_162 rfl ?_
        refine g_iconst cx d0_164 (v := (1 : Int32)) rfl ?_
        refine g_icmp_ge cx d0_165 (fun hc165 => ?_) (fun q => absurd q (fun q => by revert q; decide))
        refine g_lconst cx d0_179 (v := (0 : Int64)) rfl ?_
        refine g_iload cx d0_180 rfl ?_
        refine g_iconst cx d0_182 (v := (2 : Int32)) rfl ?_
        refine g_icmp_ge cx d0_183 (fun hc183 => ?_) (fun q => absurd q (fun q => by revert q; decide))
        refine g_lconst cx d0_197 (v := (0 : Int64)) rfl ?_
        refine g_ladd cx d0_198 ?_
        refine G.cast (st' := [(.long (0 : Int64))]) ?_ rfl
        refine g_lstore cx d0_199 (Ls' := #[.val (.int ia), .val (.int ib), .val (.int ic), .val (.int iw), .val (.int ir), .val (.int ig), .val (.long (((ia).toInt64) &&& (2147483647 : Int64))), .second, .val (.long (((ib).toInt64) &&& (2147483647 : Int64))), .second, .val (.int (2 : Int32)), .val (.int (2 : Int32)), .val (.long ((ir).toInt64)), .second, .val (.long (((ir).toInt64) + (((ig).toInt64) &&& (2147483647 : Int64)))), .second, .val (.ref b334), .val (.int (0 : Int32)), .val (.int (0 : Int32)), .val (.int (1 : Int32)), .val (.int (0 : Int32)), .val (.long ((((ia).toInt64) &&& (2147483647 : Int64)) + (((ib).toInt64) &&& (2147483647 : Int64)))), .second, .val (.long (0 : Int64)), .second, .unset, .unset, .unset, .unset, .unset]) rfl ?_
        refine g_iload cx d0_201 rfl ?_
        refine g_if_le cx d0_203 (fun q => absurd q (fun q => by revert q; decide)) (fun hc203 => ?_)
        refine g_iconst cx d0_206 (v := (1 : Int32)) rfl ?_
        refine g_goto cx d0_207 ?_
        refine g_istore cx d0_211 (Ls' := #[.val (.int ia), .val (.int ib), .val (.int ic), .val (.int iw), .val (.int ir), .val (.int ig), .val (.long (((ia).toInt64) &&& (2147483647 : Int64))), .second, .val (.long (((ib).toInt64) &&& (2147483647 : Int64))), .second, .val (.int (2 : Int32)), .val (.int (2 : Int32)), .val (.long ((ir).toInt64)), .second, .val (.long (((ir).toInt64) + (((ig).toInt64) &&& (2147483647 : Int64)))), .second, .val (.ref b334), .val (.int (0 : Int32)), .val (.int (0 : Int32)), .val (.int (1 : Int32)), .val (.int (0 : Int32)), .val (.long ((((ia).toInt64) &&& (2147483647 : Int64)) + (((ib).toInt64) &&& (2147483647 : Int64)))), .second, .val (.long (0 : Int64)), .second, .val (.int (1 : Int32)), .unset, .unset, .unset, .unset]) rfl ?_
        refine g_iload cx d0_213 rfl ?_
        refine g_iload cx d0_215 rfl ?_
        refine g_icmp_le cx d0_217 (fun hc217 => ?_) (fun q => absurd q (fun q => by revert q; decide))
        refine g_iconst cx d0_224 (v := (0 : Int32)) rfl ?_
        refine g_istore cx d0_225 (Ls' := #[.val (.int ia), .val (.int ib), .val (.int ic), .val (.int iw), .val (.int ir), .val (.int ig), .val (.long (((ia).toInt64) &&& (2147483647 : Int64))), .second, .val (.long (((ib).toInt64) &&& (2147483647 : Int64))), .second, .val (.int (2 : Int32)), .val (.int (2 : Int32)), .val (.long ((ir).toInt64)), .second, .val (.long (((ir).toInt64) + (((ig).toInt64) &&& (2147483647 : Int64)))), .second, .val (.ref b334), .val (.int (0 : Int32)), .val (.int (0 : Int32)), .val (.int (1 : Int32)), .val (.int (0 : Int32)), .val (.long ((((ia).toInt64) &&& (2147483647 : Int64)) + (((ib).toInt64) &&& (2147483647 : Int64)))), .second, .val (.long (0 : Int64)), .second, .val (.int (1 : Int32)), .val (.int (0 : Int32)), .unset, .unset, .unset]) rfl ?_
        refine g_iload cx d0_227 rfl ?_
        refine g_if_eq cx d0_229 (fun q => absurd q (fun q => by revert q; decide)) (fun hc229 => ?_)
        refine g_iload cx d0_232 rfl ?_
        refine g_if_eq cx d0_234 (fun hc234 => ?_) (fun q => absurd q (fun q => by revert q; decide))
        refine g_iconst cx d0_253 (v := (0 : Int32)) rfl ?_
        refine g_istore cx d0_254 (Ls' := #[.val (.int ia), .val (.int ib), .val (.int ic), .val (.int iw), .val (.int ir), .val (.int ig), .val (.long (((ia).toInt64) &&& (2147483647 : Int64))), .second, .val (.long (((ib).toInt64) &&& (2147483647 : Int64))), .second, .val (.int (2 : Int32)), .val (.int (2 : Int32)), .val (.long ((ir).toInt64)), .second, .val (.long (((ir).toInt64) + (((ig).toInt64) &&& (2147483647 : Int64)))), .second, .val (.ref b334), .val (.int (0 : Int32)), .val (.int (0 : Int32)), .val (.int (1 : Int32)), .val (.int (0 : Int32)), .val (.long ((((ia).toInt64) &&& (2147483647 : Int64)) + (((ib).toInt64) &&& (2147483647 : Int64)))), .second, .val (.long (0 : Int64)), .second, .val (.int (1 : Int32)), .val (.int (0 : Int32)), .val (.int (0 : Int32)), .unset, .unset]) rfl ?_
        refine g_iload cx d0_256 rfl ?_
        refine g_if_eq cx d0_258 (fun q => absurd q (fun q => by revert q; decide)) (fun hc258 => ?_)
        refine g_iload cx d0_261 rfl ?_
        refine g_if_ne cx d0_263 (fun q => absurd q (fun q => by revert q; decide)) (fun hc263 => ?_)
        refine g_lload cx d0_266 rfl ?_
        refine g_goto cx d0_268 ?_
        refine g_iload cx d0_272 rfl ?_
        refine g_if_eq cx d0_274 (fun hc274 => ?_) (fun q => absurd q (fun q => by revert q; decide))
        refine g_lconst cx d0_282 (v := (0 : Int64)) rfl ?_
        refine g_ladd cx d0_283 ?_
        rw [Int64.add_zero]
        refine g_lstore cx d0_284 (Ls' := #[.val (.int ia), .val (.int ib), .val (.int ic), .val (.int iw), .val (.int ir), .val (.int ig), .val (.long (((ia).toInt64) &&& (2147483647 : Int64))), .second, .val (.long (((ib).toInt64) &&& (2147483647 : Int64))), .second, .val (.int (2 : Int32)), .val (.int (2 : Int32)), .val (.long ((ir).toInt64)), .second, .val (.long (((ir).toInt64) + (((ig).toInt64) &&& (2147483647 : Int64)))), .second, .val (.ref b334), .val (.int (0 : Int32)), .val (.int (0 : Int32)), .val (.int (1 : Int32)), .val (.int (0 : Int32)), .val (.long ((((ia).toInt64) &&& (2147483647 : Int64)) + (((ib).toInt64) &&& (2147483647 : Int64)))), .second, .val (.long (0 : Int64)), .second, .val (.int (1 : Int32)), .val (.int (0 : Int32)), .val (.int (0 : Int32)), .val (.long ((((ia).toInt64) &&& (2147483647 : Int64)) + (((ib).toInt64) &&& (2147483647 : Int64)))), .second]) rfl ?_
        refine g_iload cx d0_286 rfl ?_
        refine g_if_ne cx d0_288 (fun q => absurd q (fun q => by revert q; decide)) (fun hc288 => ?_)
        refine g_iload cx d0_291 rfl ?_
        refine g_if_ne cx d0_293 (fun q => absurd q (fun q => by revert q; decide)) (fun hc293 => ?_)
        refine g_iload cx d0_296 rfl ?_
        refine g_lload cx d0_298 rfl ?_
        refine g_lconst cx d0_300 (v := (0 : Int64)) rfl ?_
        refine g_lif_le cx d0_301 d0_302 (fun hc302 => ?_) (fun q => absurd q (fun q => hq396 q))
        refine g_iconst cx d0_309 (v := (0 : Int32)) rfl ?_
        refine g_icmp_ne cx d0_310 (fun hc310 => ?_) (fun q => absurd q (fun q => by revert q; decide))
        refine g_iconst cx d0_334 (v := (0 : Int32)) rfl ?_
        refine g_retZ cx d0_335 rfl rfl (by decide) (by decide) ?_
        exfalso
        have i_hs1 : (((ic &&& (255 : Int32)) % (3 : Int32))).toInt = ((2 : Int32)).toInt := congrArg Int32.toInt hs1
        have i_hs332 : ((((((ic).toUInt32 >>> ((8 : Int32) &&& 31).toUInt32).toInt32) &&& (255 : Int32)) % (1 : Int32))).toInt = ((0 : Int32)).toInt := congrArg Int32.toInt hs332
        have i_hq376 : ((0 : Int64)).toInt < (((((ia).toInt64) &&& (2147483647 : Int64)) + (((ib).toInt64) &&& (2147483647 : Int64)))).toInt := Int64.lt_iff_toInt_lt.mp hq376
        have i_hq396 : ¬ ((0 : Int64)).toInt < (((((ia).toInt64) &&& (2147483647 : Int64)) + (((ib).toInt64) &&& (2147483647 : Int64)))).toInt := fun z => hq396 (Int64.lt_iff_toInt_lt.mpr z)
        have i_hc138 : ¬ ((2 : Int32)).toInt < ((1 : Int32)).toInt := fun z => hc138 (Int32.lt_iff_toInt_lt.mpr z)
        have i_hc150 : ¬ ((2 : Int32)).toInt < ((2 : Int32)).toInt := fun z => hc150 (Int32.lt_iff_toInt_lt.mpr z)
        have i_hc165 : ¬ ((2 : Int32)).toInt < ((1 : Int32)).toInt := fun z => hc165 (Int32.lt_iff_toInt_lt.mpr z)
        have i_hc183 : ¬ ((2 : Int32)).toInt < ((2 : Int32)).toInt := fun z => hc183 (Int32.lt_iff_toInt_lt.mpr z)
        have i_hc203 : ((0 : Int32)).toInt < ((2 : Int32)).toInt := Int32.lt_iff_toInt_lt.mp hc203
        have i_hc217 : ¬ ((2 : Int32)).toInt < ((2 : Int32)).toInt := fun z => hc217 (Int32.lt_iff_toInt_lt.mpr z)
        have i_hc229 : ¬ ((1 : Int32)).toInt = ((0 : Int32)).toInt := fun z => hc229 (Int32.toInt_inj.mp z)
        have i_hc234 : ((0 : Int32)).toInt = ((0 : Int32)).toInt := congrArg Int32.toInt hc234
        have i_hc258 : ¬ ((1 : Int32)).toInt = ((0 : Int32)).toInt := fun z => hc258 (Int32.toInt_inj.mp z)
        have i_hc263 : ((0 : Int32)).toInt = ((0 : Int32)).toInt := congrArg Int32.toInt hc263
        have i_hc274 : ((0 : Int32)).toInt = ((0 : Int32)).toInt := congrArg Int32.toInt hc274
        have i_hc288 : ((0 : Int32)).toInt = ((0 : Int32)).toInt := congrArg Int32.toInt hc288
        have i_hc293 : ((0 : Int32)).toInt = ((0 : Int32)).toInt := congrArg Int32.toInt hc293
        have i_hc302 : ¬ ((0 : Int64)).toInt < (((((ia).toInt64) &&& (2147483647 : Int64)) + (((ib).toInt64) &&& (2147483647 : Int64)))).toInt := fun z => hc302 (Int64.lt_iff_toInt_lt.mpr z)
        have i_hc310 : ¬ ((1 : Int32)).toInt = ((0 : Int32)).toInt := fun z => hc310 (Int32.toInt_inj.mp z)
        have r3 := rng32 ic
        have e2 : ((ic &&& (255 : Int32))).toInt = (ic).toInt % 256 := c_mask ic (255 : Int32) 8 (by decide) (by decide)
        have e1 : (0 ≤ ((ic &&& (255 : Int32))).toInt → (((ic &&& (255 : Int32)) % (3 : Int32))).toInt = ((ic &&& (255 : Int32))).toInt % 3) ∧ (((ic &&& (255 : Int32))).toInt < 0 → (((ic &&& (255 : Int32)) % (3 : Int32))).toInt = -((-((ic &&& (255 : Int32))).toInt) % 3)) := c_irem (ic &&& (255 : Int32)) (3 : Int32) 3 rfl
        have e4 : (2 : Int32).toInt = 2 := rfl
        have e7 : ((((ic).toUInt32 >>> ((8 : Int32) &&& 31).toUInt32).toInt32)).toInt = ((ic).toInt % 4294967296) / 256 := c_iushr ic (8 : Int32) 8 (by decide) (by decide)
        have e6 : (((((ic).toUInt32 >>> ((8 : Int32) &&& 31).toUInt32).toInt32) &&& (255 : Int32))).toInt = ((((ic).toUInt32 >>> ((8 : Int32) &&& 31).toUInt32).toInt32)).toInt % 256 := c_mask (((ic).toUInt32 >>> ((8 : Int32) &&& 31).toUInt32).toInt32) (255 : Int32) 8 (by decide) (by decide)
        have e5 : (0 ≤ (((((ic).toUInt32 >>> ((8 : Int32) &&& 31).toUInt32).toInt32) &&& (255 : Int32))).toInt → ((((((ic).toUInt32 >>> ((8 : Int32) &&& 31).toUInt32).toInt32) &&& (255 : Int32)) % (1 : Int32))).toInt = (((((ic).toUInt32 >>> ((8 : Int32) &&& 31).toUInt32).toInt32) &&& (255 : Int32))).toInt % 1) ∧ ((((((ic).toUInt32 >>> ((8 : Int32) &&& 31).toUInt32).toInt32) &&& (255 : Int32))).toInt < 0 → ((((((ic).toUInt32 >>> ((8 : Int32) &&& 31).toUInt32).toInt32) &&& (255 : Int32)) % (1 : Int32))).toInt = -((-(((((ic).toUInt32 >>> ((8 : Int32) &&& 31).toUInt32).toInt32) &&& (255 : Int32))).toInt) % 1)) := c_irem ((((ic).toUInt32 >>> ((8 : Int32) &&& 31).toUInt32).toInt32) &&& (255 : Int32)) (1 : Int32) 1 rfl
        have e8 : (0 : Int32).toInt = 0 := rfl
        have e9 : (0 : Int64).toInt = 0 := rfl
        have r13 := rng32 ia
        have e12 := c_i2l ia
        have e11 : ((((ia).toInt64) &&& (2147483647 : Int64))).toInt = (((ia).toInt64)).toInt % 2147483648 := c_maskL ((ia).toInt64) (2147483647 : Int64) 31 (by decide) (by decide)
        have r16 := rng32 ib
        have e15 := c_i2l ib
        have e14 : ((((ib).toInt64) &&& (2147483647 : Int64))).toInt = (((ib).toInt64)).toInt % 2147483648 := c_maskL ((ib).toInt64) (2147483647 : Int64) 31 (by decide) (by decide)
        have e10 := c_ladd (((ia).toInt64) &&& (2147483647 : Int64)) (((ib).toInt64) &&& (2147483647 : Int64))
        have r10 := rng64 ((((ia).toInt64) &&& (2147483647 : Int64)) + (((ib).toInt64) &&& (2147483647 : Int64)))
        have e17 : (1 : Int32).toInt = 1 := rfl
        omega
      · refine G.cast (st' := [(.int (1 : Int32))]) ?_ rfl
        refine g_istore cx d0_133 (Ls' := #[.val (.int ia), .val (.int ib), .val (.int ic), .val (.int iw), .val (.int ir), .val (.int ig), .val (.long (((ia).toInt64) &&& (2147483647 : Int64))), .second, .val (.long (((ib).toInt64) &&& (2147483647 : Int64))), .second, .val (.int (2 : Int32)), .val (.int (2 : Int32)), .val (.long ((ir).toInt64)), .second, .val (.long (((ir).toInt64) + (((ig).toInt64) &&& (2147483647 : Int64)))), .second, .val (.ref b334), .val (.int (0 : Int32)), .val (.int (0 : Int32)), .val (.int (1 : Int32)), .val (.int (1 : Int32)), .unset, .unset, .unset, .unset, .unset, .unset, .unset, .unset, .unset]) rfl ?_
        refine g_iload cx d0_135 rfl ?_
        refine g_iconst cx d0_137 (v := (1 : Int32)) rfl ?_
        refine g_icmp_lt cx d0_138 (fun q => absurd q (fun q => by revert q; decide)) (fun hc138 => ?_)
        refine g_lload cx d0_141 rfl ?_
        refine g_goto cx d0_143 ?_
        refine g_iload cx d0_147 rfl ?_
        refine g_iconst cx d0_149 (v := (2 : Int32)) rfl ?_
        refine g_icmp_lt cx d0_150 (fun q => absurd q (fun q => by revert q; decide)) (fun hc150 => ?_)
        refine g_lload cx d0_153 rfl ?_
        refine g_goto cx d0_155 ?_
        refine g_ladd cx d0_159 ?_
        refine g_lstore cx d0_160 (Ls' := #[.val (.int ia), .val (.int ib), .val (.int ic), .val (.int iw), .val (.int ir), .val (.int ig), .val (.long (((ia).toInt64) &&& (2147483647 : Int64))), .second, .val (.long (((ib).toInt64) &&& (2147483647 : Int64))), .second, .val (.int (2 : Int32)), .val (.int (2 : Int32)), .val (.long ((ir).toInt64)), .second, .val (.long (((ir).toInt64) + (((ig).toInt64) &&& (2147483647 : Int64)))), .second, .val (.ref b334), .val (.int (0 : Int32)), .val (.int (0 : Int32)), .val (.int (1 : Int32)), .val (.int (1 : Int32)), .val (.long ((((ia).toInt64) &&& (2147483647 : Int64)) + (((ib).toInt64) &&& (2147483647 : Int64)))), .second, .unset, .unset, .unset, .unset, .unset, .unset, .unset]) rfl ?_
        refine g_iload cx d0_162 rfl ?_
        refine g_iconst cx d0_164 (v := (1 : Int32)) rfl ?_
        refine g_icmp_ge cx d0_165 (fun hc165 => ?_) (fun q => absurd q (fun q => by revert q; decide))
        refine g_lconst cx d0_179 (v := (0 : Int64)) rfl ?_
        refine g_iload cx d0_180 rfl ?_
        refine g_iconst cx d0_182 (v := (2 : Int32)) rfl ?_
        refine g_icmp_ge cx d0_183 (fun hc183 => ?_) (fun q => absurd q (fun q => by revert q; decide))
        refine g_lconst cx d0_197 (v := (0 : Int64)) rfl ?_
        refine g_ladd cx d0_198 ?_
        refine G.cast (st' := [(.long (0 : Int64))]) ?_ rfl
        refine g_lstore cx d0_199 (Ls' := #[.val (.int ia), .val (.int ib), .val (.int ic), .val (.int iw), .val (.int ir), .val (.int ig), .val (.long (((ia).toInt64) &&& (2147483647 : Int64))), .second, .val (.long (((ib).toInt64) &&& (2147483647 : Int64))), .second, .val (.int (2 : Int32)), .val (.int (2 : Int32)), .val (.long ((ir).toInt64)), .second, .val (.long (((ir).toInt64) + (((ig).toInt64) &&& (2147483647 : Int64)))), .second, .val (.ref b334), .val (.int (0 : Int32)), .val (.int (0 : Int32)), .val (.int (1 : Int32)), .val (.int (1 : Int32)), .val (.long ((((ia).toInt64) &&& (2147483647 : Int64)) + (((ib).toInt64) &&& (2147483647 : Int64)))), .second, .val (.long (0 : Int64)), .second, .unset, .unset, .unset, .unset, .unset]) rfl ?_
        refine g_iload cx d0_201 rfl ?_
        refine g_if_le cx d0_203 (fun q => absurd q (fun q => by revert q; decide)) (fun hc203 => ?_)
        refine g_iconst cx d0_206 (v := (1 : Int32)) rfl ?_
        refine g_goto cx d0_207 ?_
        refine g_istore cx d0_211 (Ls' := #[.val (.int ia), .val (.int ib), .val (.int ic), .val (.int iw), .val (.int ir), .val (.int ig), .val (.long (((ia).toInt64) &&& (2147483647 : Int64))), .second, .val (.long (((ib).toInt64) &&& (2147483647 : Int64))), .second, .val (.int (2 : Int32)), .val (.int (2 : Int32)), .val (.long ((ir).toInt64)), .second, .val (.long (((ir).toInt64) + (((ig).toInt64) &&& (2147483647 : Int64)))), .second, .val (.ref b334), .val (.int (0 : Int32)), .val (.int (0 : Int32)), .val (.int (1 : Int32)), .val (.int (1 : Int32)), .val (.long ((((ia).toInt64) &&& (2147483647 : Int64)) + (((ib).toInt64) &&& (2147483647 : Int64)))), .second, .val (.long (0 : Int64)), .second, .val (.int (1 : Int32)), .unset, .unset, .unset, .unset]) rfl ?_
        refine g_iload cx d0_213 rfl ?_
        refine g_iload cx d0_215 rfl ?_
        refine g_icmp_le cx d0_217 (fun hc217 => ?_) (fun q => absurd q (fun q => by revert q; decide))
        refine g_iconst cx d0_224 (v := (0 : Int32)) rfl ?_
        refine g_istore cx d0_225 (Ls' := #[.val (.int ia), .val (.int ib), .val (.int ic), .val (.int iw), .val (.int ir), .val (.int ig), .val (.long (((ia).toInt64) &&& (2147483647 : Int64))), .second, .val (.long (((ib).toInt64) &&& (2147483647 : Int64))), .second, .val (.int (2 : Int32)), .val (.int (2 : Int32)), .val (.long ((ir).toInt64)), .second, .val (.long (((ir).toInt64) + (((ig).toInt64) &&& (2147483647 : Int64)))), .second, .val (.ref b334), .val (.int (0 : Int32)), .val (.int (0 : Int32)), .val (.int (1 : Int32)), .val (.int (1 : Int32)), .val (.long ((((ia).toInt64) &&& (2147483647 : Int64)) + (((ib).toInt64) &&& (2147483647 : Int64)))), .second, .val (.long (0 : Int64)), .second, .val (.int (1 : Int32)), .val (.int (0 : Int32)), .unset, .unset, .unset]) rfl ?_
        refine g_iload cx d0_227 rfl ?_
        refine g_if_eq cx d0_229 (fun q => absurd q (fun q => by revert q; decide)) (fun hc229 => ?_)
        refine g_iload cx d0_232 rfl ?_
        refine g_if_eq cx d0_234 (fun hc234 => ?_) (fun q => absurd q (fun q => by revert q; decide))
        refine g_iconst cx d0_253 (v := (0 : Int32)) rfl ?_
        refine g_istore cx d0_254 (Ls' := #[.val (.int ia), .val (.int ib), .val (.int ic), .val (.int iw), .val (.int ir), .val (.int ig), .val (.long (((ia).toInt64) &&& (2147483647 : Int64))), .second, .val (.long (((ib).toInt64) &&& (2147483647 : Int64))), .second, .val (.int (2 : Int32)), .val (.int (2 : Int32)), .val (.long ((ir).toInt64)), .second, .val (.long (((ir).toInt64) + (((ig).toInt64) &&& (2147483647 : Int64)))), .second, .val (.ref b334), .val (.int (0 : Int32)), .val (.int (0 : Int32)), .val (.int (1 : Int32)), .val (.int (1 : Int32)), .val (.long ((((ia).toInt64) &&& (2147483647 : Int64)) + (((ib).toInt64) &&& (2147483647 : Int64)))), .second, .val (.long (0 : Int64)), .second, .val (.int (1 : Int32)), .val (.int (0 : Int32)), .val (.int (0 : Int32)), .unset, .unset]) rfl ?_
        refine g_iload cx d0_256 rfl ?_
        refine g_if_eq cx d0_258 (fun q => absurd q (fun q => by revert q; decide)) (fun hc258 => ?_)
        refine g_iload cx d0_261 rfl ?_
        refine g_if_ne cx d0_263 (fun q => absurd q (fun q => by revert q; decide)) (fun hc263 => ?_)
        refine g_lload cx d0_266 rfl ?_
        refine g_goto cx d0_268 ?_
        refine g_iload cx d0_272 rfl ?_
        refine g_if_eq cx d0_274 (fun hc274 => ?_) (fun q => absurd q (fun q => by revert q; decide))
        refine g_lconst cx d0_282 (v := (0 : Int64)) rfl ?_
        refine g_ladd cx d0_283 ?_
        rw [Int64.add_zero]
        refine g_lstore cx d0_284 (Ls' := #[.val (.int ia), .val (.int ib), .val (.int ic), .val (.int iw), .val (.int ir), .val (.int ig), .val (.long (((ia).toInt64) &&& (2147483647 : Int64))), .second, .val (.long (((ib).toInt64) &&& (2147483647 : Int64))), .second, .val (.int (2 : Int32)), .val (.int (2 : Int32)), .val (.long ((ir).toInt64)), .second, .val (.long (((ir).toInt64) + (((ig).toInt64) &&& (2147483647 : Int64)))), .second, .val (.ref b334), .val (.int (0 : Int32)), .val (.int (0 : Int32)), .val (.int (1 : Int32)), .val (.int (1 : Int32)), .val (.long ((((ia).toInt64) &&& (2147483647 : Int64)) + (((ib).toInt64) &&& (2147483647 : Int64)))), .second, .val (.long (0 : Int64)), .second, .val (.int (1 : Int32)), .val (.int (0 : Int32)), .val (.int (0 : Int32)), .val (.long ((((ia).toInt64) &&& (2147483647 : Int64)) + (((ib).toInt64) &&& (2147483647 : Int64)))), .second]) rfl ?_
        refine g_iload cx d0_286 rfl ?_
        refine g_if_ne cx d0_288 (fun q => absurd q (fun q => by revert q; decide)) (fun hc288 => ?_)
        refine g_iload cx d0_291 rfl ?_
        refine g_if_ne cx d0_293 (fun q => absurd q (fun q => by revert q; decide)) (fun hc293 => ?_)
        refine g_iload cx d0_296 rfl ?_
        refine g_lload cx d0_298 rfl ?_
        refine g_lconst cx d0_300 (v := (0 : Int64)) rfl ?_
        refine g_lif_le cx d0_301 d0_302 (fun q => absurd q (fun q => q hq398)) (fun hc302 => ?_)
        refine g_iconst cx d0_305 (v := (1 : Int32)) rfl ?_
        refine g_goto cx d0_306 ?_
        refine g_icmp_ne cx d0_310 (fun q => absurd q (fun q => by revert q; decide)) (fun hc310 => ?_)
        refine g_iload cx d0_313 rfl ?_
        refine g_lload cx d0_315 rfl ?_
        refine g_lconst cx d0_317 (v := (0 : Int64)) rfl ?_
        refine g_lif_le cx d0_318 d0_319 (fun q => absurd q (fun q => q hc302)) (fun hc319 => ?_)
        refine g_iconst cx d0_322 (v := (1 : Int32)) rfl ?_
        refine g_goto cx d0_323 ?_
        refine g_icmp_ne cx d0_327 (fun q => absurd q (fun q => by revert q; decide)) (fun hc327 => ?_)
        refine g_iconst cx d0_330 (v := (1 : Int32)) rfl ?_
        refine g_goto cx d0_331 ?_
        refine g_retZ cx d0_335 rfl rfl (by decide) (by decide) ?_
        rfl
set_option maxRecDepth 65536 in
set_option maxHeartbeats 40000000 in
theorem comes_1 {Post : Tables → Env → Array Value → State → Outcome → State → Prop} (hpost : ∀ tb e args s v u, (limb_1_1.after args s (.returned v) u = true ∧ limb_1_2.after args s (.returned v) u = true ∧ True) → FrameEnd s (.returned v) u (Jvm.fieldLocs frame_1_writes args s ++ Jvm.arrayLocs frame_1_arrays args s ++ Jvm.staticLocs frame_1_statics s) 32 192 → Post tb e args s (.returned v) u) :
    ArmFor flags0 classFile x code maxLocals ret World_1 tables_1 room_1 Calls_1 rest_1 Pre_1 Post := by
  intro l hfl _ _ p e ha hc hk s m args below hf hA hF happ hP
  obtain ⟨hcalls, hrest, hpre⟩ := hP
  obtain ⟨-, -, -, hnamed, -, -, -, hat⟩ := (Spec.applies_iff hf).mp happ
  obtain ⟨hg, hn⟩ := and_e (Cond.before_iff.mp (show (Jvm.Cond.and given_1 narrow_1).before args s = true from hpre))
  obtain ⟨g1, g2⟩ := and_e hg
  obtain ⟨g3, g4⟩ := and_e g2
  obtain ⟨g5, g6⟩ := and_e g4
  obtain ⟨g7, g8⟩ := and_e g6
  obtain ⟨g9, g10⟩ := and_e g8
  obtain ⟨g11, g12⟩ := and_e g10
  obtain ⟨w0, w1, w2, w3, w4, w5, rfl⟩ : ∃ w0 w1 w2 w3 w4 w5 : Value, args = #[w0, w1, w2, w3, w4, w5] := by
    have hs : args.size = 6 := by simpa [Cond.value, given_1] using g1
    obtain ⟨L⟩ := args
    match L, hs with
    | [w0, w1, w2, w3, w4, w5], _ => exact ⟨w0, w1, w2, w3, w4, w5, rfl⟩
  have hw := fun d (hd : d ∈ tables_1) => atoms_spec (ws := Jvm.Cond.code x code maxLocals ret :: tables_1) hat d (List.mem_cons_of_mem _ hd)
  have hfit : Fit s := fun {y c} hc i hi => by
    obtain ⟨ha, rfl⟩ := Array.getElem?_eq_some_iff.mp hc
    have q := List.all_eq_true.mp ((Array.all_eq_true_iff_forall_mem.mp hF) _ (Array.getElem_mem ha)) i (List.mem_range.mpr hi)
    simpa [Array.getElem?_eq_getElem hi] using q
  obtain ⟨i0, ei0⟩ := is_v g3
  obtain rfl : w0 = (.int i0) := Option.some.inj ei0
  obtain ⟨i1, ei1⟩ := is_v g5
  obtain rfl : w1 = (.int i1) := Option.some.inj ei1
  obtain ⟨i2, ei2⟩ := is_v g7
  obtain rfl : w2 = (.int i2) := Option.some.inj ei2
  obtain ⟨i3, ei3⟩ := is_v g9
  obtain rfl : w3 = (.int i3) := Option.some.inj ei3
  obtain ⟨i4, ei4⟩ := is_v g11
  obtain rfl : w4 = (.int i4) := Option.some.inj ei4
  obtain ⟨i5, ei5⟩ := is_v g12
  obtain rfl : w5 = (.int i5) := Option.some.inj ei5
  obtain ⟨n, o, h1, h2, h3, _, L, rfl, ⟨rfl, N⟩, hq⟩ := rm0 l s _ hw i0 i1 i2 i3 i4 i5 s.heap (Old.start s) tables_1 p e ha hc hk s m _ below hf ((Spec.applies_iff_loose hf).mp happ).1 ⟨rfl, State.Warmed39.refl s, rfl⟩ trivial
  refine ⟨n, _, h1, h2, h3, hpost _ _ _ _ _ _ ⟨Cond.after_iff.mpr rfl, Cond.after_iff.mpr (eq_i res_at (Term.int_eval (1)) rfl), trivial⟩ ⟨hq.1, hq.2.1, (hq.2.2.sift fun y hy => Or.inr (N y hy)).mono (by decide) (by decide)⟩⟩
theorem main_1_1 : Claimed_1_1 := comes_1 fun _ _ _ _ _ _ h hF => ⟨h.1, hF⟩
theorem main_1_2 : Claimed_1_2 := comes_1 fun _ _ _ _ _ _ h hF => ⟨h.2.1, hF⟩
end Jvm.Pilot.@@N@@
namespace Jvm.Pilot.@@N@@
open Jvm Jvm.ClassFile Sem Op Lib Jvm.Free Jvm.Stand Jvm.Pilot.@@N@@.Jvm.D
/-! MADE BY PROGRAM (witnessworld.py) out of the Statement's table words and the real class files: 22 classes; the members and pool entries that the words name. The judged class is class 1, her method 1. -/
namespace start1
open Jvm.ClassFile
def u (s : String) : CpInfo := .utf8 (stringToUtf16 s)
/-- a pool by its gaps: so many unusable entries, then the entry; so many at the end -/
def gap : Nat → List CpInfo → List CpInfo
  | 0, r => r
  | n + 1, r => .unusable :: gap n r
def poolList (es : List (Nat × CpInfo)) (last : Nat) : List CpInfo := es.foldr (fun e r => gap e.1 (e.2 :: r)) (gap last [])
def pool (es : List (Nat × CpInfo)) (last : Nat) : Array CpInfo := ⟨poolList es last⟩
def fileOf (pool : Array CpInfo) (this : Nat) (attrs : Array Attribute := #[]) (ms : Array MethodInfo := #[]) (fl : Nat := 33) (sup : Nat := 0) (ifs : Array Nat := #[]) (fds : Array FieldInfo := #[]) : ClassFile where
  minorVersion := 0
  majorVersion := 65
  constantPool := pool
  accessFlags := fl
  thisClass := this
  superClass := sup
  interfaces := ifs
  fields := fds
  methods := ms
  attributes := attrs
def plain (name : String) (sup : Option ClassId) : Class where
  name := name
  kind := .ordinary
  loader := none
  accessFlags := 33
  super := sup
  interfaces := #[]
  cf := none
  fields := #[]
  methods := #[]
  instanceTypes := #[]
  staticTypes := #[]
  resolved := #[]
  callSites := []
  init := .initialized
  statics := none
  mirror := none

def pool0 : Array CpInfo := pool [(5, u "<init>"), (0, u "()V"), (1, .class_ 10), (1, u "java/lang/Object")] 113

def k0c0 : Code := { maxStack := 0, maxLocals := 1, code := object_method_1_code, exceptionTable := #[], attributes := #[] }
def k0m0 : Method := { name := "<init>", desc := "()V", sig := { parameters := [], returnType := none }, accessFlags := 1, code := some k0c0 }
/-- java/lang/Object -/
def k0 : Class := { plain "java/lang/Object" none with
  accessFlags := 33
  interfaces := #[]
  cf := some (fileOf pool0 8 #[] #[{ accessFlags := 1, nameIndex := 5, descriptorIndex := 6, attributes := #[] }] 33 0 #[] #[])
  fields := #[]
  methods := #[k0m0]
  instanceTypes := #[]
  staticTypes := #[]
  resolved := Array.replicate 124 none
  statics := none }

def pool1 : Array CpInfo := pool [(2, .class_ 4), (0, .nameAndType 5 6), (0, u "java/lang/Object"), (0, u "<init>"), (0, u "()V"), (0, .long 2147483647), (1, .class_ 10), (0, u "com/example/thalweg/thalweg/node/Pace"), (0, .methodref 9 3), (0, .methodref 9 13), (0, .nameAndType 14 15), (0, u "known"), (0, u "()Z"), (0, .methodref 9 17), (0, .nameAndType 18 19), (0, u "written"), (0, u "(JJ)V"), (0, .methodref 9 21), (0, .nameAndType 22 19), (0, u "taken"), (0, .long 2000000000), (1, .class_ 26), (0, u "com/example/thalweg/thalweg/node/PaceKnownPinLaw"), (2, u "law"), (0, u "(IIIIII)Z")] 6

def k1m0 : Method := { name := "<init>", desc := "()V", sig := { parameters := [], returnType := none }, accessFlags := 1, code := none }
def k1c1 : Code := { maxStack := 6, maxLocals := 30, code := code, exceptionTable := #[], attributes := #[] }
def k1m1 : Method := { name := "law", desc := "(IIIIII)Z", sig := { parameters := [.int, .int, .int, .int, .int, .int], returnType := some .boolean }, accessFlags := 9, code := some k1c1 }
/-- com/example/thalweg/thalweg/node/PaceKnownPinLaw -/
def k1 : Class := { plain "com/example/thalweg/thalweg/node/PaceKnownPinLaw" (some 0) with
  accessFlags := 49
  interfaces := #[]
  cf := some (fileOf pool1 25 #[] #[{ accessFlags := 1, nameIndex := 5, descriptorIndex := 6, attributes := #[] }, { accessFlags := 9, nameIndex := 29, descriptorIndex := 30, attributes := #[] }] 49 2 #[] #[])
  fields := #[]
  methods := #[k1m0, k1m1]
  instanceTypes := #[]
  staticTypes := #[]
  resolved := Array.replicate 37 none
  statics := none }

def pool2 : Array CpInfo := pool [(1, .methodref 2 3), (0, .class_ 4), (0, .nameAndType 5 6), (0, u "java/lang/Object"), (0, u "<init>"), (0, u "()V"), (0, .class_ 8), (0, u "java/util/ArrayDeque"), (0, .methodref 7 3), (0, .fieldref 11 12), (0, .class_ 13), (0, .nameAndType 14 15), (0, u "com/example/thalweg/thalweg/node/Pace"), (0, u "onTheWay"), (0, u "Ljava/util/ArrayDeque;"), (0, .fieldref 11 17), (0, .nameAndType 18 15), (0, u "samples"), (0, .methodref 7 20), (0, .nameAndType 21 22), (0, u "isEmpty"), (0, u "()Z"), (0, .fieldref 11 24), (0, .nameAndType 25 26), (0, u "busySinceNs"), (0, u "J"), (0, .methodref 7 28), (0, .nameAndType 29 30), (0, u "addLast"), (0, u "(Ljava/lang/Object;)V"), (0, .fieldref 11 32), (0, .nameAndType 33 26), (0, u "bytes"), (0, .fieldref 11 35), (0, .nameAndType 36 26), (0, u "written"), (0, .fieldref 11 38), (0, .nameAndType 39 26), (0, u "taken"), (9, .methodref 7 50), (0, .nameAndType 51 52), (0, u "removeFirst"), (0, u "()Ljava/lang/Object;"), (0, .class_ 54), (0, u "[J"), (0, .class_ 56), (0, u "com/example/thalweg/thalweg/node/Pace$Sample"), (0, .methodref 58 59), (0, .class_ 60), (0, .nameAndType 61 62), (0, u "java/lang/Math"), (0, u "max"), (0, u "(JJ)J"), (0, .methodref 55 64), (0, .nameAndType 5 65), (0, u "(JJJJ)V"), (0, .methodref 11 67), (0, .nameAndType 68 69), (0, u "addSample"), (0, u "(Lcom/example/thalweg/thalweg/node/Pace$Sample;)V"), (2, .methodref 7 73), (0, .nameAndType 74 75), (0, u "size"), (0, u "()I"), (0, .fieldref 11 77), (0, .nameAndType 78 26), (0, u "sampleBytes"), (2, u "known"), (0, .fieldref 11 83), (0, .nameAndType 84 26), (0, u "sampleBusyNs"), (39, .methodref 55 125), (0, .nameAndType 33 126), (0, u "()J"), (0, .methodref 55 128), (0, .nameAndType 129 126), (0, u "busyNs"), (0, .methodref 7 131), (0, .nameAndType 132 52), (0, u "peekFirst"), (0, .methodref 55 134), (0, .nameAndType 135 126), (0, u "atNs"), (0, .long 2000000000), (1, u "RATE_WINDOW_NS"), (1, u "MIN_HORIZON_NS"), (0, u "COST_PER_WRITTEN"), (5, u "(JJ)V")] 40

def k2c0 : Code := { maxStack := 3, maxLocals := 1, code := prog_54_method_1_code, exceptionTable := #[], attributes := #[] }
def k2m0 : Method := { name := "<init>", desc := "()V", sig := { parameters := [], returnType := none }, accessFlags := 0, code := some k2c0 }
def k2c1 : Code := { maxStack := 6, maxLocals := 5, code := prog_54_method_2_code, exceptionTable := #[], attributes := #[] }
def k2m1 : Method := { name := "written", desc := "(JJ)V", sig := { parameters := [.long, .long], returnType := none }, accessFlags := 0, code := some k2c1 }
def k2c2 : Code := { maxStack := 13, maxLocals := 10, code := prog_54_method_3_code, exceptionTable := #[], attributes := #[] }
def k2m2 : Method := { name := "taken", desc := "(JJ)V", sig := { parameters := [.long, .long], returnType := none }, accessFlags := 0, code := some k2c2 }
def k2c3 : Code := { maxStack := 4, maxLocals := 1, code := prog_54_method_5_code, exceptionTable := #[], attributes := #[] }
def k2m3 : Method := { name := "known", desc := "()Z", sig := { parameters := [], returnType := some .boolean }, accessFlags := 0, code := some k2c3 }
def k2c4 : Code := { maxStack := 6, maxLocals := 3, code := prog_54_method_9_code, exceptionTable := #[], attributes := #[] }
def k2m4 : Method := { name := "addSample", desc := "(Lcom/example/thalweg/thalweg/node/Pace$Sample;)V", sig := { parameters := [(.object "com/example/thalweg/thalweg/node/Pace$Sample")], returnType := none }, accessFlags := 2, code := some k2c4 }
/-- com/example/thalweg/thalweg/node/Pace -/
def k2 : Class := { plain "com/example/thalweg/thalweg/node/Pace" (some 0) with
  accessFlags := 48
  interfaces := #[]
  cf := some (fileOf pool2 11 #[.nestMembers #[55]] #[{ accessFlags := 0, nameIndex := 5, descriptorIndex := 6, attributes := #[] }, { accessFlags := 0, nameIndex := 36, descriptorIndex := 147, attributes := #[] }, { accessFlags := 0, nameIndex := 39, descriptorIndex := 147, attributes := #[] }, { accessFlags := 0, nameIndex := 81, descriptorIndex := 22, attributes := #[] }, { accessFlags := 2, nameIndex := 68, descriptorIndex := 69, attributes := #[] }] 48 2 #[] #[{ accessFlags := 24, nameIndex := 138, descriptorIndex := 26, attributes := #[] }, { accessFlags := 24, nameIndex := 140, descriptorIndex := 26, attributes := #[] }, { accessFlags := 24, nameIndex := 141, descriptorIndex := 26, attributes := #[] }, { accessFlags := 18, nameIndex := 14, descriptorIndex := 15, attributes := #[] }, { accessFlags := 2, nameIndex := 33, descriptorIndex := 26, attributes := #[] }, { accessFlags := 2, nameIndex := 36, descriptorIndex := 26, attributes := #[] }, { accessFlags := 2, nameIndex := 39, descriptorIndex := 26, attributes := #[] }, { accessFlags := 2, nameIndex := 25, descriptorIndex := 26, attributes := #[] }, { accessFlags := 18, nameIndex := 18, descriptorIndex := 15, attributes := #[] }, { accessFlags := 2, nameIndex := 78, descriptorIndex := 26, attributes := #[] }, { accessFlags := 2, nameIndex := 84, descriptorIndex := 26, attributes := #[] }])
  fields := #[{ name := "RATE_WINDOW_NS", type := .long, accessFlags := 24, slot := 0, constantValue := 0 }, { name := "MIN_HORIZON_NS", type := .long, accessFlags := 24, slot := 1, constantValue := 0 }, { name := "COST_PER_WRITTEN", type := .long, accessFlags := 24, slot := 2, constantValue := 0 }, { name := "onTheWay", type := (.object "java/util/ArrayDeque"), accessFlags := 18, slot := 0, constantValue := 0 }, { name := "bytes", type := .long, accessFlags := 2, slot := 1, constantValue := 0 }, { name := "written", type := .long, accessFlags := 2, slot := 2, constantValue := 0 }, { name := "taken", type := .long, accessFlags := 2, slot := 3, constantValue := 0 }, { name := "busySinceNs", type := .long, accessFlags := 2, slot := 4, constantValue := 0 }, { name := "samples", type := (.object "java/util/ArrayDeque"), accessFlags := 18, slot := 5, constantValue := 0 }, { name := "sampleBytes", type := .long, accessFlags := 2, slot := 6, constantValue := 0 }, { name := "sampleBusyNs", type := .long, accessFlags := 2, slot := 7, constantValue := 0 }]
  methods := #[k2m0, k2m1, k2m2, k2m3, k2m4]
  instanceTypes := #[(.object "java/util/ArrayDeque"), .long, .long, .long, .long, (.object "java/util/ArrayDeque"), .long, .long]
  staticTypes := #[.long, .long, .long]
  resolved := ((Array.replicate 188 none).setIfInBounds 55 (some (.cls 13))).setIfInBounds 63 (some (.method ⟨13, 0⟩))
  statics := none }

def pool3 : Array CpInfo := pool [(8, .class_ 10), (1, u "java/lang/Iterable"), (24, .class_ 36), (0, u "java/lang/Object")] 25

/-- java/lang/Iterable -/
def k3 : Class := { plain "java/lang/Iterable" (some 0) with
  accessFlags := 1537
  interfaces := #[]
  cf := some (fileOf pool3 8 #[] #[] 1537 35 #[] #[])
  fields := #[]
  methods := #[]
  instanceTypes := #[]
  staticTypes := #[]
  resolved := Array.replicate 62 none
  statics := none }

def pool4 : Array CpInfo := pool [(10, .class_ 12), (1, u "java/util/Collection"), (47, .class_ 61), (0, u "java/lang/Object"), (0, .class_ 63), (0, u "java/lang/Iterable")] 51

/-- java/util/Collection -/
def k4 : Class := { plain "java/util/Collection" (some 0) with
  accessFlags := 1537
  interfaces := #[3]
  cf := some (fileOf pool4 10 #[] #[] 1537 60 #[62] #[])
  fields := #[]
  methods := #[]
  instanceTypes := #[]
  staticTypes := #[]
  resolved := Array.replicate 115 none
  statics := none }

def pool5 : Array CpInfo := pool [(1, .methodref 2 3), (0, .class_ 4), (0, .nameAndType 5 6), (0, u "java/lang/Object"), (0, u "<init>"), (0, u "()V"), (1, .class_ 10), (1, u "java/util/AbstractCollection"), (66, .class_ 78), (0, u "java/util/Collection")] 81

def k5c0 : Code := { maxStack := 1, maxLocals := 1, code := jdk_22_method_1_code, exceptionTable := #[], attributes := #[] }
def k5m0 : Method := { name := "<init>", desc := "()V", sig := { parameters := [], returnType := none }, accessFlags := 4, code := some k5c0 }
/-- java/util/AbstractCollection -/
def k5 : Class := { plain "java/util/AbstractCollection" (some 0) with
  accessFlags := 1057
  interfaces := #[4]
  cf := some (fileOf pool5 8 #[] #[{ accessFlags := 4, nameIndex := 5, descriptorIndex := 6, attributes := #[] }] 1057 2 #[77] #[])
  fields := #[]
  methods := #[k5m0]
  instanceTypes := #[]
  staticTypes := #[]
  resolved := Array.replicate 160 none
  statics := none }

def pool6 : Array CpInfo := pool [(1, .class_ 2), (0, u "java/util/Queue"), (0, .class_ 4), (0, u "java/lang/Object"), (0, .class_ 6), (0, u "java/util/Collection")] 14

/-- java/util/Queue -/
def k6 : Class := { plain "java/util/Queue" (some 0) with
  accessFlags := 1537
  interfaces := #[4]
  cf := some (fileOf pool6 1 #[] #[] 1537 3 #[5] #[])
  fields := #[]
  methods := #[]
  instanceTypes := #[]
  staticTypes := #[]
  resolved := Array.replicate 21 none
  statics := none }

def pool7 : Array CpInfo := pool [(8, .class_ 10), (1, u "java/util/SequencedCollection"), (15, .class_ 27), (0, u "java/lang/Object"), (0, .class_ 29), (0, u "java/util/Collection")] 27

/-- java/util/SequencedCollection -/
def k7 : Class := { plain "java/util/SequencedCollection" (some 0) with
  accessFlags := 1537
  interfaces := #[4]
  cf := some (fileOf pool7 8 #[] #[] 1537 26 #[28] #[])
  fields := #[]
  methods := #[]
  instanceTypes := #[]
  staticTypes := #[]
  resolved := Array.replicate 57 none
  statics := none }

def pool8 : Array CpInfo := pool [(8, .class_ 10), (1, u "java/util/Deque"), (2, .class_ 14), (0, u "java/lang/Object"), (0, .class_ 16), (0, u "java/util/Queue"), (0, .class_ 18), (0, u "java/util/SequencedCollection")] 51

/-- java/util/Deque -/
def k8 : Class := { plain "java/util/Deque" (some 0) with
  accessFlags := 1537
  interfaces := #[6, 7]
  cf := some (fileOf pool8 8 #[] #[] 1537 13 #[15, 17] #[])
  fields := #[]
  methods := #[]
  instanceTypes := #[]
  staticTypes := #[]
  resolved := Array.replicate 70 none
  statics := none }

def pool9 : Array CpInfo := pool [(1, .class_ 2), (0, u "java/lang/Cloneable"), (0, .class_ 4), (0, u "java/lang/Object")] 2

/-- java/lang/Cloneable -/
def k9 : Class := { plain "java/lang/Cloneable" (some 0) with
  accessFlags := 1537
  interfaces := #[]
  cf := some (fileOf pool9 1 #[] #[] 1537 3 #[] #[])
  fields := #[]
  methods := #[]
  instanceTypes := #[]
  staticTypes := #[]
  resolved := Array.replicate 7 none
  statics := none }

def pool10 : Array CpInfo := pool [(1, .class_ 2), (0, u "java/io/Serializable"), (0, .class_ 4), (0, u "java/lang/Object")] 2

/-- java/io/Serializable -/
def k10 : Class := { plain "java/io/Serializable" (some 0) with
  accessFlags := 1537
  interfaces := #[]
  cf := some (fileOf pool10 1 #[] #[] 1537 3 #[] #[])
  fields := #[]
  methods := #[]
  instanceTypes := #[]
  staticTypes := #[]
  resolved := Array.replicate 7 none
  statics := none }

def pool11 : Array CpInfo := pool [(3, .fieldref 4 5), (0, .class_ 6), (0, .nameAndType 7 8), (0, u "java/util/ArrayDeque"), (0, u "elements"), (0, u "[Ljava/lang/Object;"), (4, u "(II)I"), (6, .fieldref 4 21), (0, .nameAndType 22 23), (0, u "tail"), (0, u "I"), (0, .fieldref 4 25), (0, .nameAndType 26 23), (0, u "head"), (12, u "<init>"), (2, .methodref 43 44), (0, .class_ 45), (0, .nameAndType 39 46), (0, u "java/util/AbstractCollection"), (0, u "()V"), (0, .class_ 48), (0, u "java/lang/Object"), (4, u "size"), (0, u "()I"), (19, .methodref 4 75), (0, .nameAndType 76 13), (0, u "inc"), (12, u "(Ljava/lang/Object;)V"), (2, u "addLast"), (0, .methodref 4 94), (0, .nameAndType 95 96), (0, u "pollFirst"), (0, u "()Ljava/lang/Object;"), (6, .methodref 4 104), (0, .nameAndType 105 106), (0, u "elementAt"), (0, u "([Ljava/lang/Object;I)Ljava/lang/Object;"), (13, u "removeFirst"), (5, u "peekFirst"), (0, .methodref 4 128), (0, .nameAndType 129 130), (0, u "sub"), (0, u "(III)I"), (0, .class_ 132), (0, u "java/util/ArrayDeque$DeqIterator"), (3, .class_ 137), (0, u "java/util/ArrayDeque$DescendingIterator"), (1, .class_ 140), (0, u "java/util/ArrayDeque$DeqSpliterator"), (137, .class_ 279), (0, u "java/util/Deque"), (0, .class_ 281), (0, u "java/lang/Cloneable"), (0, .class_ 283), (0, u "java/io/Serializable"), (0, u "MAX_ARRAY_SIZE"), (1, u "serialVersionUID"), (0, u "J"), (59, u "isEmpty"), (0, u "()Z")] 89

def k11c0 : Code := { maxStack := 2, maxLocals := 1, code := jdk_21_method_3_code, exceptionTable := #[], attributes := #[] }
def k11m0 : Method := { name := "<init>", desc := "()V", sig := { parameters := [], returnType := none }, accessFlags := 1, code := some k11c0 }
def k11c1 : Code := { maxStack := 2, maxLocals := 2, code := jdk_21_method_6_code, exceptionTable := #[], attributes := #[] }
def k11m1 : Method := { name := "inc", desc := "(II)I", sig := { parameters := [.int, .int], returnType := some .int }, accessFlags := 24, code := some k11c1 }
def k11c2 : Code := { maxStack := 2, maxLocals := 3, code := jdk_21_method_9_code, exceptionTable := #[], attributes := #[] }
def k11m2 : Method := { name := "sub", desc := "(III)I", sig := { parameters := [.int, .int, .int], returnType := some .int }, accessFlags := 24, code := some k11c2 }
def k11c3 : Code := { maxStack := 2, maxLocals := 2, code := jdk_21_method_10_code, exceptionTable := #[], attributes := #[] }
def k11m3 : Method := { name := "elementAt", desc := "([Ljava/lang/Object;I)Ljava/lang/Object;", sig := { parameters := [(.array (.object "java/lang/Object")), .int], returnType := some (.object "java/lang/Object") }, accessFlags := 24, code := some k11c3 }
def k11c4 : Code := { maxStack := 4, maxLocals := 3, code := jdk_21_method_13_code, exceptionTable := #[], attributes := #[] }
def k11m4 : Method := { name := "addLast", desc := "(Ljava/lang/Object;)V", sig := { parameters := [(.object "java/lang/Object")], returnType := none }, accessFlags := 1, code := some k11c4 }
def k11c5 : Code := { maxStack := 2, maxLocals := 2, code := jdk_21_method_18_code, exceptionTable := #[], attributes := #[] }
def k11m5 : Method := { name := "removeFirst", desc := "()Ljava/lang/Object;", sig := { parameters := [], returnType := some (.object "java/lang/Object") }, accessFlags := 1, code := some k11c5 }
def k11c6 : Code := { maxStack := 3, maxLocals := 4, code := jdk_21_method_20_code, exceptionTable := #[], attributes := #[] }
def k11m6 : Method := { name := "pollFirst", desc := "()Ljava/lang/Object;", sig := { parameters := [], returnType := some (.object "java/lang/Object") }, accessFlags := 1, code := some k11c6 }
def k11c7 : Code := { maxStack := 2, maxLocals := 1, code := jdk_21_method_24_code, exceptionTable := #[], attributes := #[] }
def k11m7 : Method := { name := "peekFirst", desc := "()Ljava/lang/Object;", sig := { parameters := [], returnType := some (.object "java/lang/Object") }, accessFlags := 1, code := some k11c7 }
def k11c8 : Code := { maxStack := 3, maxLocals := 1, code := jdk_21_method_37_code, exceptionTable := #[], attributes := #[] }
def k11m8 : Method := { name := "size", desc := "()I", sig := { parameters := [], returnType := some .int }, accessFlags := 1, code := some k11c8 }
def k11c9 : Code := { maxStack := 2, maxLocals := 1, code := jdk_21_method_38_code, exceptionTable := #[], attributes := #[] }
def k11m9 : Method := { name := "isEmpty", desc := "()Z", sig := { parameters := [], returnType := some .boolean }, accessFlags := 1, code := some k11c9 }
/-- java/util/ArrayDeque -/
def k11 : Class := { plain "java/util/ArrayDeque" (some 5) with
  accessFlags := 33
  interfaces := #[8, 9, 10]
  cf := some (fileOf pool11 4 #[.nestMembers #[139, 136, 131]] #[{ accessFlags := 1, nameIndex := 39, descriptorIndex := 46, attributes := #[] }, { accessFlags := 24, nameIndex := 76, descriptorIndex := 13, attributes := #[] }, { accessFlags := 24, nameIndex := 129, descriptorIndex := 130, attributes := #[] }, { accessFlags := 24, nameIndex := 105, descriptorIndex := 106, attributes := #[] }, { accessFlags := 1, nameIndex := 92, descriptorIndex := 89, attributes := #[] }, { accessFlags := 1, nameIndex := 120, descriptorIndex := 96, attributes := #[] }, { accessFlags := 1, nameIndex := 95, descriptorIndex := 96, attributes := #[] }, { accessFlags := 1, nameIndex := 126, descriptorIndex := 96, attributes := #[] }, { accessFlags := 1, nameIndex := 53, descriptorIndex := 54, attributes := #[] }, { accessFlags := 1, nameIndex := 347, descriptorIndex := 348, attributes := #[] }] 33 43 #[278, 280, 282] #[{ accessFlags := 128, nameIndex := 7, descriptorIndex := 8, attributes := #[] }, { accessFlags := 128, nameIndex := 26, descriptorIndex := 23, attributes := #[] }, { accessFlags := 128, nameIndex := 22, descriptorIndex := 23, attributes := #[] }, { accessFlags := 26, nameIndex := 284, descriptorIndex := 23, attributes := #[] }, { accessFlags := 26, nameIndex := 286, descriptorIndex := 287, attributes := #[] }])
  fields := #[{ name := "elements", type := (.array (.object "java/lang/Object")), accessFlags := 128, slot := 0, constantValue := 0 }, { name := "head", type := .int, accessFlags := 128, slot := 1, constantValue := 0 }, { name := "tail", type := .int, accessFlags := 128, slot := 2, constantValue := 0 }, { name := "MAX_ARRAY_SIZE", type := .int, accessFlags := 26, slot := 0, constantValue := 0 }, { name := "serialVersionUID", type := .long, accessFlags := 26, slot := 1, constantValue := 0 }]
  methods := #[k11m0, k11m1, k11m2, k11m3, k11m4, k11m5, k11m6, k11m7, k11m8, k11m9]
  instanceTypes := #[(.array (.object "java/lang/Object")), .int, .int]
  staticTypes := #[.int, .long]
  resolved := Array.replicate 438 none
  statics := none }

def pool12 : Array CpInfo := pool [(1, .methodref 2 3), (0, .class_ 4), (0, .nameAndType 5 6), (0, u "java/lang/Object"), (0, u "<init>"), (0, u "()V"), (0, .class_ 8), (0, u "java/lang/Record")] 13

def k12c0 : Code := { maxStack := 1, maxLocals := 1, code := jdk_30_method_1_code, exceptionTable := #[], attributes := #[] }
def k12m0 : Method := { name := "<init>", desc := "()V", sig := { parameters := [], returnType := none }, accessFlags := 4, code := some k12c0 }
/-- java/lang/Record -/
def k12 : Class := { plain "java/lang/Record" (some 0) with
  accessFlags := 1057
  interfaces := #[]
  cf := some (fileOf pool12 7 #[] #[{ accessFlags := 4, nameIndex := 5, descriptorIndex := 6, attributes := #[] }] 1057 2 #[] #[])
  fields := #[]
  methods := #[k12m0]
  instanceTypes := #[]
  staticTypes := #[]
  resolved := Array.replicate 22 none
  statics := none }

def pool13 : Array CpInfo := pool [(1, .methodref 2 3), (0, .class_ 4), (0, .nameAndType 5 6), (0, u "java/lang/Record"), (0, u "<init>"), (0, u "()V"), (0, .fieldref 8 9), (0, .class_ 10), (0, .nameAndType 11 12), (0, u "com/example/thalweg/thalweg/node/Pace$Sample"), (0, u "atNs"), (0, u "J"), (0, .fieldref 8 14), (0, .nameAndType 15 12), (0, u "bytes"), (0, .fieldref 8 17), (0, .nameAndType 18 12), (0, u "busyNs"), (0, .fieldref 8 20), (0, .nameAndType 21 12), (0, u "turnNs"), (12, u "(JJJJ)V"), (6, u "()J"), (3, .class_ 46), (0, u "com/example/thalweg/thalweg/node/Pace")] 22

def k13c0 : Code := { maxStack := 3, maxLocals := 9, code := prog_55_method_1_code, exceptionTable := #[], attributes := #[] }
def k13m0 : Method := { name := "<init>", desc := "(JJJJ)V", sig := { parameters := [.long, .long, .long, .long], returnType := none }, accessFlags := 2, code := some k13c0 }
def k13c1 : Code := { maxStack := 2, maxLocals := 1, code := prog_55_method_5_code, exceptionTable := #[], attributes := #[] }
def k13m1 : Method := { name := "atNs", desc := "()J", sig := { parameters := [], returnType := some .long }, accessFlags := 1, code := some k13c1 }
def k13c2 : Code := { maxStack := 2, maxLocals := 1, code := prog_55_method_6_code, exceptionTable := #[], attributes := #[] }
def k13m2 : Method := { name := "bytes", desc := "()J", sig := { parameters := [], returnType := some .long }, accessFlags := 1, code := some k13c2 }
def k13c3 : Code := { maxStack := 2, maxLocals := 1, code := prog_55_method_7_code, exceptionTable := #[], attributes := #[] }
def k13m3 : Method := { name := "busyNs", desc := "()J", sig := { parameters := [], returnType := some .long }, accessFlags := 1, code := some k13c3 }
/-- com/example/thalweg/thalweg/node/Pace$Sample -/
def k13 : Class := { plain "com/example/thalweg/thalweg/node/Pace$Sample" (some 12) with
  accessFlags := 48
  interfaces := #[]
  cf := some (fileOf pool13 8 #[.nestHost 45] #[{ accessFlags := 2, nameIndex := 5, descriptorIndex := 34, attributes := #[] }, { accessFlags := 1, nameIndex := 11, descriptorIndex := 41, attributes := #[] }, { accessFlags := 1, nameIndex := 15, descriptorIndex := 41, attributes := #[] }, { accessFlags := 1, nameIndex := 18, descriptorIndex := 41, attributes := #[] }] 48 2 #[] #[{ accessFlags := 18, nameIndex := 11, descriptorIndex := 12, attributes := #[] }, { accessFlags := 18, nameIndex := 15, descriptorIndex := 12, attributes := #[] }, { accessFlags := 18, nameIndex := 18, descriptorIndex := 12, attributes := #[] }, { accessFlags := 18, nameIndex := 21, descriptorIndex := 12, attributes := #[] }])
  fields := #[{ name := "atNs", type := .long, accessFlags := 18, slot := 0, constantValue := 0 }, { name := "bytes", type := .long, accessFlags := 18, slot := 1, constantValue := 0 }, { name := "busyNs", type := .long, accessFlags := 18, slot := 2, constantValue := 0 }, { name := "turnNs", type := .long, accessFlags := 18, slot := 3, constantValue := 0 }]
  methods := #[k13m0, k13m1, k13m2, k13m3]
  instanceTypes := #[.long, .long, .long, .long]
  staticTypes := #[]
  resolved := Array.replicate 69 none
  statics := none }

def pool14 : Array CpInfo := pool [(1, .class_ 2), (0, u "java/lang/Math"), (1, .class_ 6), (1, u "java/lang/Object"), (0, u "<init>"), (0, u "()V"), (89, .class_ 100), (1, u "java/lang/Math$RandomNumberGeneratorHolder"), (20, u "(JJ)J"), (50, u "negativeZeroFloatBits"), (0, u "J"), (2, u "negativeZeroDoubleBits"), (21, u "max"), (46, u "$assertionsDisabled"), (0, u "Z"), (91, u "twoToTheDoubleScaleDown"), (0, u "D"), (4, u "twoToTheDoubleScaleUp"), (9, u "E"), (3, u "PI"), (2, u "TAU"), (2, u "DEGREES_TO_RADIANS"), (0, u "RADIANS_TO_DEGREES")] 94

def k14m0 : Method := { name := "<init>", desc := "()V", sig := { parameters := [], returnType := none }, accessFlags := 2, code := none }
def k14c1 : Code := { maxStack := 4, maxLocals := 4, code := jdk_29_method_66_code, exceptionTable := #[], attributes := #[] }
def k14m1 : Method := { name := "max", desc := "(JJ)J", sig := { parameters := [.long, .long], returnType := some .long }, accessFlags := 9, code := some k14c1 }
/-- java/lang/Math -/
def k14 : Class := { plain "java/lang/Math" (some 0) with
  accessFlags := 49
  interfaces := #[]
  cf := some (fileOf pool14 1 #[.nestMembers #[98]] #[{ accessFlags := 2, nameIndex := 7, descriptorIndex := 8, attributes := #[] }, { accessFlags := 9, nameIndex := 198, descriptorIndex := 121, attributes := #[] }] 49 4 #[] #[{ accessFlags := 25, nameIndex := 354, descriptorIndex := 339, attributes := #[] }, { accessFlags := 25, nameIndex := 358, descriptorIndex := 339, attributes := #[] }, { accessFlags := 25, nameIndex := 361, descriptorIndex := 339, attributes := #[] }, { accessFlags := 26, nameIndex := 364, descriptorIndex := 339, attributes := #[] }, { accessFlags := 26, nameIndex := 365, descriptorIndex := 339, attributes := #[] }, { accessFlags := 26, nameIndex := 172, descriptorIndex := 173, attributes := #[] }, { accessFlags := 26, nameIndex := 176, descriptorIndex := 173, attributes := #[] }, { accessFlags := 8, nameIndex := 344, descriptorIndex := 339, attributes := #[] }, { accessFlags := 8, nameIndex := 338, descriptorIndex := 339, attributes := #[] }, { accessFlags := 4120, nameIndex := 245, descriptorIndex := 246, attributes := #[] }])
  fields := #[{ name := "E", type := .double, accessFlags := 25, slot := 0, constantValue := 0 }, { name := "PI", type := .double, accessFlags := 25, slot := 1, constantValue := 0 }, { name := "TAU", type := .double, accessFlags := 25, slot := 2, constantValue := 0 }, { name := "DEGREES_TO_RADIANS", type := .double, accessFlags := 26, slot := 3, constantValue := 0 }, { name := "RADIANS_TO_DEGREES", type := .double, accessFlags := 26, slot := 4, constantValue := 0 }, { name := "negativeZeroFloatBits", type := .long, accessFlags := 26, slot := 5, constantValue := 0 }, { name := "negativeZeroDoubleBits", type := .long, accessFlags := 26, slot := 6, constantValue := 0 }, { name := "twoToTheDoubleScaleUp", type := .double, accessFlags := 8, slot := 7, constantValue := 0 }, { name := "twoToTheDoubleScaleDown", type := .double, accessFlags := 8, slot := 8, constantValue := 0 }, { name := "$assertionsDisabled", type := .boolean, accessFlags := 4120, slot := 9, constantValue := 0 }]
  methods := #[k14m0, k14m1]
  instanceTypes := #[]
  staticTypes := #[.double, .double, .double, .double, .double, .long, .long, .double, .double, .boolean]
  resolved := Array.replicate 460 none
  statics := none }

/-- the primitive byte -/
def k15 : Class := { plain "byte" none with kind := .primitive 'B', accessFlags := 0x411 }
/-- [B -/
def k16 : Class := { plain "[B" (some 0) with kind := .array 15 .byte, interfaces := #[9, 10], accessFlags := 1041 }

/-- the primitive int -/
def k17 : Class := { plain "int" none with kind := .primitive 'I', accessFlags := 0x411 }
/-- [I -/
def k18 : Class := { plain "[I" (some 0) with kind := .array 17 .int, interfaces := #[9, 10], accessFlags := 1041 }

/-- the primitive long -/
def k19 : Class := { plain "long" none with kind := .primitive 'J', accessFlags := 0x411 }
/-- [J -/
def k20 : Class := { plain "[J" (some 0) with kind := .array 19 .long, interfaces := #[9, 10], accessFlags := 1041 }

/-- [Ljava/lang/Object; -/
def k21 : Class := { plain "[Ljava/lang/Object;" (some 0) with kind := .array 0 (.object "java/lang/Object"), interfaces := #[9, 10], accessFlags := 1041 }

def heap : Heap := #[]
def classes : Array Class := #[k0, k1, k2, k3, k4, k5, k6, k7, k8, k9, k10, k11, k12, k13, k14, k15, k16, k17, k18, k19, k20, k21]
def interned : List (Array UInt16 × Addr) := []
def slotsUsed : Nat := 0
def theMethod : MethodId := ⟨1, 1⟩
def args0 : Array Value := #[.int 5, .int 7, .int 3, .int 4, .int 1, .int 2]
def aboutOver (below : List Frame) : State where
  vm := { classes := classes, interned := interned.toArray }
  heap := heap
  slotsUsed := slotsUsed
  threads := #[{ frames := .invoking theMethod args0 :: below }]
def below0 : List Frame := [.native { method := ⟨0, 0⟩, args := #[] }]
def about1 : State := aboutOver below0
def p0 : Program := .bare "" "" ""
def e0 : Env := launch0.env 0 0 0
theorem w_frames : about1.frames = Frame.invoking theMethod args0 :: below0 := rfl
set_option maxRecDepth 65536 in
theorem w_args : argsFit about1.vm theMethod args0 = true := by decide +kernel
set_option maxRecDepth 65536 in
theorem w_heap : heapFits about1 = true := by decide +kernel
set_option maxRecDepth 65536 in
theorem w_runnable : about1.curStatus? = some .runnable := by decide +kernel
set_option maxRecDepth 65536 in
theorem w_alone : about1.alone = true := by decide +kernel
set_option maxRecDepth 65536 in
theorem w_named : about1.methodNamed? x = some theMethod := by decide +kernel
set_option maxRecDepth 65536 in
theorem w_hears : about1.hears theMethod below0 = true := by decide +kernel
set_option maxRecDepth 65536 in
theorem w_ripe : about1.ripe theMethod args0 below0 = true := by decide +kernel
theorem w_running : about1.status = .running := rfl
set_option maxRecDepth 65536 in
theorem w_room : about1.hasRoom e0.platform room_1 = true :=
  launch0.hasRoom_least _ room_1 (by decide +kernel) (by decide +kernel) (by decide +kernel) (by decide +kernel) (by decide +kernel) (by decide +kernel)
theorem allAtoms_all (ts : List Jvm.Cond) (a : Array Jvm.Value) (st : Jvm.State) : (allAtoms ts).before a st = ts.all (fun c => c.before a st) := by
  induction ts with
  | nil => rfl
  | cons c t ih =>
    show (Jvm.Cond.and c (allAtoms t)).before a st = _
    rw [Jvm.Cond.before_and, ih, List.all_cons]
def words1 : List Jvm.Cond := Jvm.Cond.code x code maxLocals ret :: tables_1
/-- a 'code' word, met by the world's own term for the bytes: nothing is compared byte by byte -/
theorem code_word {y : MethodName} {bytes : ByteArray} {mx : Nat} {rt : Option FieldType} {a : Array Value} {s : State} {m : MethodId} {meth : Method} {c : Code} (h1 : s.methodNamed? y = some m) (h2 : s.vm.method? m = some meth) (h3 : meth.code = some c) (h4 : c.code = bytes)
    (h5 : (c.maxLocals == mx && c.exceptionTable.isEmpty && decide (c.maxStack ≤ mostOperands) && decide (meth.sig.returnType = rt) && !meth.locks && decide (parseMethodDescriptor y.desc = some meth.sig)) = true) : (Jvm.Cond.code y bytes mx rt).before a s = true := by
  simp only [Bool.and_eq_true, beq_iff_eq, Bool.not_eq_true', decide_eq_true_eq] at h5
  obtain ⟨⟨⟨⟨⟨g1, g2⟩, g3⟩, g4⟩, g5⟩, g6⟩ := h5
  simp [Cond.before, Cond.holds, Cond.value, h1, h2, h3, h4, g1, g2, g3, g4, g5, g6]
def isCode : Jvm.Cond → Bool
  | .code _ _ _ _ => true
  | _ => false
theorem all_split {L : List Jvm.Cond} {P : Jvm.Cond → Bool} (h1 : L.all (fun c => isCode c || P c) = true) (h2 : ∀ c ∈ L.filter isCode, P c = true) : L.all P = true := by
  refine List.all_eq_true.mpr fun c hc => ?_
  have h := List.all_eq_true.mp h1 c hc
  rcases Bool.eq_false_or_eq_true (isCode c) with hi | hi
  · exact h2 c (List.mem_filter.mpr ⟨hc, hi⟩)
  · simpa [hi] using h
set_option maxRecDepth 65536 in
theorem w_c0 : (Jvm.Cond.code x code maxLocals ret).before args0 about1 = true := code_word (m := ⟨1, 1⟩) (meth := k1m1) (c := k1c1) (by decide +kernel) rfl rfl rfl (by decide +kernel)
set_option maxRecDepth 65536 in
theorem w_c1 : (Jvm.Cond.code ({ cls := "com/example/thalweg/thalweg/node/Pace", name := "<init>", desc := "()V" } : Jvm.MethodName) prog_54_method_1_code (1 : Nat) (Option.none : Option Jvm.ClassFile.FieldType)).before args0 about1 = true := code_word (m := ⟨2, 0⟩) (meth := k2m0) (c := k2c0) (by decide +kernel) rfl rfl rfl (by decide +kernel)
set_option maxRecDepth 65536 in
theorem w_c2 : (Jvm.Cond.code ({ cls := "java/lang/Object", name := "<init>", desc := "()V" } : Jvm.MethodName) object_method_1_code (1 : Nat) (Option.none : Option Jvm.ClassFile.FieldType)).before args0 about1 = true := code_word (m := ⟨0, 0⟩) (meth := k0m0) (c := k0c0) (by decide +kernel) rfl rfl rfl (by decide +kernel)
set_option maxRecDepth 65536 in
theorem w_c3 : (Jvm.Cond.code ({ cls := "java/util/ArrayDeque", name := "<init>", desc := "()V" } : Jvm.MethodName) jdk_21_method_3_code (1 : Nat) (Option.none : Option Jvm.ClassFile.FieldType)).before args0 about1 = true := code_word (m := ⟨11, 0⟩) (meth := k11m0) (c := k11c0) (by decide +kernel) rfl rfl rfl (by decide +kernel)
set_option maxRecDepth 65536 in
theorem w_c4 : (Jvm.Cond.code ({ cls := "java/util/AbstractCollection", name := "<init>", desc := "()V" } : Jvm.MethodName) jdk_22_method_1_code (1 : Nat) (Option.none : Option Jvm.ClassFile.FieldType)).before args0 about1 = true := code_word (m := ⟨5, 0⟩) (meth := k5m0) (c := k5c0) (by decide +kernel) rfl rfl rfl (by decide +kernel)
set_option maxRecDepth 65536 in
theorem w_c5 : (Jvm.Cond.code ({ cls := "com/example/thalweg/thalweg/node/Pace", name := "known", desc := "()Z" } : Jvm.MethodName) prog_54_method_5_code (1 : Nat) (Option.some Jvm.ClassFile.FieldType.boolean)).before args0 about1 = true := code_word (m := ⟨2, 3⟩) (meth := k2m3) (c := k2c3) (by decide +kernel) rfl rfl rfl (by decide +kernel)
set_option maxRecDepth 65536 in
theorem w_c6 : (Jvm.Cond.code ({ cls := "com/example/thalweg/thalweg/node/Pace", name := "written", desc := "(JJ)V" } : Jvm.MethodName) prog_54_method_2_code (5 : Nat) (Option.none : Option Jvm.ClassFile.FieldType)).before args0 about1 = true := code_word (m := ⟨2, 1⟩) (meth := k2m1) (c := k2c1) (by decide +kernel) rfl rfl rfl (by decide +kernel)
set_option maxRecDepth 65536 in
theorem w_c7 : (Jvm.Cond.code ({ cls := "java/util/ArrayDeque", name := "isEmpty", desc := "()Z" } : Jvm.MethodName) jdk_21_method_38_code (1 : Nat) (Option.some Jvm.ClassFile.FieldType.boolean)).before args0 about1 = true := code_word (m := ⟨11, 9⟩) (meth := k11m9) (c := k11c9) (by decide +kernel) rfl rfl rfl (by decide +kernel)
set_option maxRecDepth 65536 in
theorem w_c8 : (Jvm.Cond.code ({ cls := "java/util/ArrayDeque", name := "addLast", desc := "(Ljava/lang/Object;)V" } : Jvm.MethodName) jdk_21_method_13_code (3 : Nat) (Option.none : Option Jvm.ClassFile.FieldType)).before args0 about1 = true := code_word (m := ⟨11, 4⟩) (meth := k11m4) (c := k11c4) (by decide +kernel) rfl rfl rfl (by decide +kernel)
set_option maxRecDepth 65536 in
theorem w_c9 : (Jvm.Cond.code ({ cls := "java/util/ArrayDeque", name := "inc", desc := "(II)I" } : Jvm.MethodName) jdk_21_method_6_code (2 : Nat) (Option.some Jvm.ClassFile.FieldType.int)).before args0 about1 = true := code_word (m := ⟨11, 1⟩) (meth := k11m1) (c := k11c1) (by decide +kernel) rfl rfl rfl (by decide +kernel)
set_option maxRecDepth 65536 in
theorem w_c10 : (Jvm.Cond.code ({ cls := "com/example/thalweg/thalweg/node/Pace", name := "taken", desc := "(JJ)V" } : Jvm.MethodName) prog_54_method_3_code (10 : Nat) (Option.none : Option Jvm.ClassFile.FieldType)).before args0 about1 = true := code_word (m := ⟨2, 2⟩) (meth := k2m2) (c := k2c2) (by decide +kernel) rfl rfl rfl (by decide +kernel)
set_option maxRecDepth 65536 in
theorem w_c11 : (Jvm.Cond.code ({ cls := "java/util/ArrayDeque", name := "removeFirst", desc := "()Ljava/lang/Object;" } : Jvm.MethodName) jdk_21_method_18_code (2 : Nat) (Option.some (Jvm.ClassFile.FieldType.object "java/lang/Object"))).before args0 about1 = true := code_word (m := ⟨11, 5⟩) (meth := k11m5) (c := k11c5) (by decide +kernel) rfl rfl rfl (by decide +kernel)
set_option maxRecDepth 65536 in
theorem w_c12 : (Jvm.Cond.code ({ cls := "java/util/ArrayDeque", name := "pollFirst", desc := "()Ljava/lang/Object;" } : Jvm.MethodName) jdk_21_method_20_code (4 : Nat) (Option.some (Jvm.ClassFile.FieldType.object "java/lang/Object"))).before args0 about1 = true := code_word (m := ⟨11, 6⟩) (meth := k11m6) (c := k11c6) (by decide +kernel) rfl rfl rfl (by decide +kernel)
set_option maxRecDepth 65536 in
theorem w_c13 : (Jvm.Cond.code ({ cls := "java/util/ArrayDeque", name := "elementAt", desc := "([Ljava/lang/Object;I)Ljava/lang/Object;" } : Jvm.MethodName) jdk_21_method_10_code (2 : Nat) (Option.some (Jvm.ClassFile.FieldType.object "java/lang/Object"))).before args0 about1 = true := code_word (m := ⟨11, 3⟩) (meth := k11m3) (c := k11c3) (by decide +kernel) rfl rfl rfl (by decide +kernel)
set_option maxRecDepth 65536 in
theorem w_c14 : (Jvm.Cond.code ({ cls := "java/lang/Math", name := "max", desc := "(JJ)J" } : Jvm.MethodName) jdk_29_method_66_code (4 : Nat) (Option.some Jvm.ClassFile.FieldType.long)).before args0 about1 = true := code_word (m := ⟨14, 1⟩) (meth := k14m1) (c := k14c1) (by decide +kernel) rfl rfl rfl (by decide +kernel)
set_option maxRecDepth 65536 in
theorem w_c15 : (Jvm.Cond.code ({ cls := "com/example/thalweg/thalweg/node/Pace$Sample", name := "<init>", desc := "(JJJJ)V" } : Jvm.MethodName) prog_55_method_1_code (9 : Nat) (Option.none : Option Jvm.ClassFile.FieldType)).before args0 about1 = true := code_word (m := ⟨13, 0⟩) (meth := k13m0) (c := k13c0) (by decide +kernel) rfl rfl rfl (by decide +kernel)
set_option maxRecDepth 65536 in
theorem w_c16 : (Jvm.Cond.code ({ cls := "java/lang/Record", name := "<init>", desc := "()V" } : Jvm.MethodName) jdk_30_method_1_code (1 : Nat) (Option.none : Option Jvm.ClassFile.FieldType)).before args0 about1 = true := code_word (m := ⟨12, 0⟩) (meth := k12m0) (c := k12c0) (by decide +kernel) rfl rfl rfl (by decide +kernel)
set_option maxRecDepth 65536 in
theorem w_c17 : (Jvm.Cond.code ({ cls := "com/example/thalweg/thalweg/node/Pace", name := "addSample", desc := "(Lcom/example/thalweg/thalweg/node/Pace$Sample;)V" } : Jvm.MethodName) prog_54_method_9_code (3 : Nat) (Option.none : Option Jvm.ClassFile.FieldType)).before args0 about1 = true := code_word (m := ⟨2, 4⟩) (meth := k2m4) (c := k2c4) (by decide +kernel) rfl rfl rfl (by decide +kernel)
set_option maxRecDepth 65536 in
theorem w_c18 : (Jvm.Cond.code ({ cls := "com/example/thalweg/thalweg/node/Pace$Sample", name := "bytes", desc := "()J" } : Jvm.MethodName) prog_55_method_6_code (1 : Nat) (Option.some Jvm.ClassFile.FieldType.long)).before args0 about1 = true := code_word (m := ⟨13, 2⟩) (meth := k13m2) (c := k13c2) (by decide +kernel) rfl rfl rfl (by decide +kernel)
set_option maxRecDepth 65536 in
theorem w_c19 : (Jvm.Cond.code ({ cls := "com/example/thalweg/thalweg/node/Pace$Sample", name := "busyNs", desc := "()J" } : Jvm.MethodName) prog_55_method_7_code (1 : Nat) (Option.some Jvm.ClassFile.FieldType.long)).before args0 about1 = true := code_word (m := ⟨13, 3⟩) (meth := k13m3) (c := k13c3) (by decide +kernel) rfl rfl rfl (by decide +kernel)
set_option maxRecDepth 65536 in
theorem w_c20 : (Jvm.Cond.code ({ cls := "java/util/ArrayDeque", name := "size", desc := "()I" } : Jvm.MethodName) jdk_21_method_37_code (1 : Nat) (Option.some Jvm.ClassFile.FieldType.int)).before args0 about1 = true := code_word (m := ⟨11, 8⟩) (meth := k11m8) (c := k11c8) (by decide +kernel) rfl rfl rfl (by decide +kernel)
set_option maxRecDepth 65536 in
theorem w_c21 : (Jvm.Cond.code ({ cls := "java/util/ArrayDeque", name := "sub", desc := "(III)I" } : Jvm.MethodName) jdk_21_method_9_code (3 : Nat) (Option.some Jvm.ClassFile.FieldType.int)).before args0 about1 = true := code_word (m := ⟨11, 2⟩) (meth := k11m2) (c := k11c2) (by decide +kernel) rfl rfl rfl (by decide +kernel)
set_option maxRecDepth 65536 in
theorem w_c22 : (Jvm.Cond.code ({ cls := "java/util/ArrayDeque", name := "peekFirst", desc := "()Ljava/lang/Object;" } : Jvm.MethodName) jdk_21_method_24_code (1 : Nat) (Option.some (Jvm.ClassFile.FieldType.object "java/lang/Object"))).before args0 about1 = true := code_word (m := ⟨11, 7⟩) (meth := k11m7) (c := k11c7) (by decide +kernel) rfl rfl rfl (by decide +kernel)
set_option maxRecDepth 65536 in
theorem w_c23 : (Jvm.Cond.code ({ cls := "com/example/thalweg/thalweg/node/Pace$Sample", name := "atNs", desc := "()J" } : Jvm.MethodName) prog_55_method_5_code (1 : Nat) (Option.some Jvm.ClassFile.FieldType.long)).before args0 about1 = true := code_word (m := ⟨13, 1⟩) (meth := k13m1) (c := k13c1) (by decide +kernel) rfl rfl rfl (by decide +kernel)
def codes1 : List Jvm.Cond := [Jvm.Cond.code x code maxLocals ret, Jvm.Cond.code ({ cls := "com/example/thalweg/thalweg/node/Pace", name := "<init>", desc := "()V" } : Jvm.MethodName) prog_54_method_1_code (1 : Nat) (Option.none : Option Jvm.ClassFile.FieldType), Jvm.Cond.code ({ cls := "java/lang/Object", name := "<init>", desc := "()V" } : Jvm.MethodName) object_method_1_code (1 : Nat) (Option.none : Option Jvm.ClassFile.FieldType), Jvm.Cond.code ({ cls := "java/util/ArrayDeque", name := "<init>", desc := "()V" } : Jvm.MethodName) jdk_21_method_3_code (1 : Nat) (Option.none : Option Jvm.ClassFile.FieldType), Jvm.Cond.code ({ cls := "java/util/AbstractCollection", name := "<init>", desc := "()V" } : Jvm.MethodName) jdk_22_method_1_code (1 : Nat) (Option.none : Option Jvm.ClassFile.FieldType), Jvm.Cond.code ({ cls := "com/example/thalweg/thalweg/node/Pace", name := "known", desc := "()Z" } : Jvm.MethodName) prog_54_method_5_code (1 : Nat) (Option.some Jvm.ClassFile.FieldType.boolean), Jvm.Cond.code ({ cls := "com/example/thalweg/thalweg/node/Pace", name := "written", desc := "(JJ)V" } : Jvm.MethodName) prog_54_method_2_code (5 : Nat) (Option.none : Option Jvm.ClassFile.FieldType), Jvm.Cond.code ({ cls := "java/util/ArrayDeque", name := "isEmpty", desc := "()Z" } : Jvm.MethodName) jdk_21_method_38_code (1 : Nat) (Option.some Jvm.ClassFile.FieldType.boolean), Jvm.Cond.code ({ cls := "java/util/ArrayDeque", name := "addLast", desc := "(Ljava/lang/Object;)V" } : Jvm.MethodName) jdk_21_method_13_code (3 : Nat) (Option.none : Option Jvm.ClassFile.FieldType), Jvm.Cond.code ({ cls := "java/util/ArrayDeque", name := "inc", desc := "(II)I" } : Jvm.MethodName) jdk_21_method_6_code (2 : Nat) (Option.some Jvm.ClassFile.FieldType.int), Jvm.Cond.code ({ cls := "com/example/thalweg/thalweg/node/Pace", name := "taken", desc := "(JJ)V" } : Jvm.MethodName) prog_54_method_3_code (10 : Nat) (Option.none : Option Jvm.ClassFile.FieldType), Jvm.Cond.code ({ cls := "java/util/ArrayDeque", name := "removeFirst", desc := "()Ljava/lang/Object;" } : Jvm.MethodName) jdk_21_method_18_code (2 : Nat) (Option.some (Jvm.ClassFile.FieldType.object "java/lang/Object")), Jvm.Cond.code ({ cls := "java/util/ArrayDeque", name := "pollFirst", desc := "()Ljava/lang/Object;" } : Jvm.MethodName) jdk_21_method_20_code (4 : Nat) (Option.some (Jvm.ClassFile.FieldType.object "java/lang/Object")), Jvm.Cond.code ({ cls := "java/util/ArrayDeque", name := "elementAt", desc := "([Ljava/lang/Object;I)Ljava/lang/Object;" } : Jvm.MethodName) jdk_21_method_10_code (2 : Nat) (Option.some (Jvm.ClassFile.FieldType.object "java/lang/Object")), Jvm.Cond.code ({ cls := "java/lang/Math", name := "max", desc := "(JJ)J" } : Jvm.MethodName) jdk_29_method_66_code (4 : Nat) (Option.some Jvm.ClassFile.FieldType.long), Jvm.Cond.code ({ cls := "com/example/thalweg/thalweg/node/Pace$Sample", name := "<init>", desc := "(JJJJ)V" } : Jvm.MethodName) prog_55_method_1_code (9 : Nat) (Option.none : Option Jvm.ClassFile.FieldType), Jvm.Cond.code ({ cls := "java/lang/Record", name := "<init>", desc := "()V" } : Jvm.MethodName) jdk_30_method_1_code (1 : Nat) (Option.none : Option Jvm.ClassFile.FieldType), Jvm.Cond.code ({ cls := "com/example/thalweg/thalweg/node/Pace", name := "addSample", desc := "(Lcom/example/thalweg/thalweg/node/Pace$Sample;)V" } : Jvm.MethodName) prog_54_method_9_code (3 : Nat) (Option.none : Option Jvm.ClassFile.FieldType), Jvm.Cond.code ({ cls := "com/example/thalweg/thalweg/node/Pace$Sample", name := "bytes", desc := "()J" } : Jvm.MethodName) prog_55_method_6_code (1 : Nat) (Option.some Jvm.ClassFile.FieldType.long), Jvm.Cond.code ({ cls := "com/example/thalweg/thalweg/node/Pace$Sample", name := "busyNs", desc := "()J" } : Jvm.MethodName) prog_55_method_7_code (1 : Nat) (Option.some Jvm.ClassFile.FieldType.long), Jvm.Cond.code ({ cls := "java/util/ArrayDeque", name := "size", desc := "()I" } : Jvm.MethodName) jdk_21_method_37_code (1 : Nat) (Option.some Jvm.ClassFile.FieldType.int), Jvm.Cond.code ({ cls := "java/util/ArrayDeque", name := "sub", desc := "(III)I" } : Jvm.MethodName) jdk_21_method_9_code (3 : Nat) (Option.some Jvm.ClassFile.FieldType.int), Jvm.Cond.code ({ cls := "java/util/ArrayDeque", name := "peekFirst", desc := "()Ljava/lang/Object;" } : Jvm.MethodName) jdk_21_method_24_code (1 : Nat) (Option.some (Jvm.ClassFile.FieldType.object "java/lang/Object")), Jvm.Cond.code ({ cls := "com/example/thalweg/thalweg/node/Pace$Sample", name := "atNs", desc := "()J" } : Jvm.MethodName) prog_55_method_5_code (1 : Nat) (Option.some Jvm.ClassFile.FieldType.long)]
set_option maxRecDepth 65536 in
theorem codes_eq : words1.filter isCode = codes1 := rfl
theorem w_codes : ∀ c ∈ words1.filter isCode, c.before args0 about1 = true := by
  rw [codes_eq]
  intro c hc
  simp only [codes1, List.mem_cons, List.not_mem_nil, or_false] at hc
  rcases hc with rfl | rfl | rfl | rfl | rfl | rfl | rfl | rfl | rfl | rfl | rfl | rfl | rfl | rfl | rfl | rfl | rfl | rfl | rfl | rfl | rfl | rfl | rfl | rfl
  · exact w_c0
  · exact w_c1
  · exact w_c2
  · exact w_c3
  · exact w_c4
  · exact w_c5
  · exact w_c6
  · exact w_c7
  · exact w_c8
  · exact w_c9
  · exact w_c10
  · exact w_c11
  · exact w_c12
  · exact w_c13
  · exact w_c14
  · exact w_c15
  · exact w_c16
  · exact w_c17
  · exact w_c18
  · exact w_c19
  · exact w_c20
  · exact w_c21
  · exact w_c22
  · exact w_c23
set_option maxRecDepth 65536 in
theorem w_t1 : (words1.take 24).all (fun c => isCode c || c.before args0 about1) = true := by decide +kernel
set_option maxRecDepth 65536 in
theorem w_t2 : ((words1.drop 24).take 24).all (fun c => isCode c || c.before args0 about1) = true := by decide +kernel
set_option maxRecDepth 65536 in
theorem w_t3 : (((words1.drop 24).drop 24).take 24).all (fun c => isCode c || c.before args0 about1) = true := by decide +kernel
set_option maxRecDepth 65536 in
theorem w_t4 : ((((words1.drop 24).drop 24).drop 24).take 24).all (fun c => isCode c || c.before args0 about1) = true := by decide +kernel
set_option maxRecDepth 65536 in
theorem w_t5 : (((((words1.drop 24).drop 24).drop 24).drop 24).take 24).all (fun c => isCode c || c.before args0 about1) = true := by decide +kernel
set_option maxRecDepth 65536 in
theorem w_t6 : ((((((words1.drop 24).drop 24).drop 24).drop 24).drop 24).take 24).all (fun c => isCode c || c.before args0 about1) = true := by decide +kernel
set_option maxRecDepth 65536 in
theorem w_t7 : ((((((words1.drop 24).drop 24).drop 24).drop 24).drop 24).drop 24).all (fun c => isCode c || c.before args0 about1) = true := by decide +kernel
theorem w_tables : (allAtoms (Jvm.Cond.code x code maxLocals ret :: tables_1)).before args0 about1 = true := by
  rw [allAtoms_all]
  show words1.all (fun c => c.before args0 about1) = true
  refine all_split ?_ w_codes
  rw [← List.take_append_drop 24 words1, List.all_append, w_t1, ← List.take_append_drop 24 (words1.drop 24), List.all_append, w_t2, ← List.take_append_drop 24 ((words1.drop 24).drop 24), List.all_append, w_t3, ← List.take_append_drop 24 (((words1.drop 24).drop 24).drop 24), List.all_append, w_t4, ← List.take_append_drop 24 ((((words1.drop 24).drop 24).drop 24).drop 24), List.all_append, w_t5, ← List.take_append_drop 24 (((((words1.drop 24).drop 24).drop 24).drop 24).drop 24), List.all_append, w_t6, w_t7]
  rfl
set_option maxRecDepth 65536 in
theorem w_case : (Jvm.Cond.and given_1 narrow_1).before args0 about1 = true := by decide +kernel
theorem w_applies : (headSpec (Jvm.Cond.code x code maxLocals ret :: tables_1) room_1).applies x e0.platform about1 = true :=
  (Spec.applies_iff w_frames).mpr ⟨w_running, w_runnable, w_alone, w_named, w_hears, w_ripe, w_room, w_tables⟩
theorem atStart : AtStart classFile x code maxLocals ret World_1 tables_1 room_1 Calls_1 rest_1 Pre_1 launch0 p0 e0 about1 theMethod args0 below0 :=
  ⟨lists_1, trivial, launch0.admits_env _ _ _, launch0.least_env, fairChoices_fair.cas, fairChoices_fair.clock, w_frames, w_args, w_heap, w_applies, trivial, trivial, w_case⟩
end start1
theorem witness_1 : WitnessClaimed_1 := ⟨start1.p0, start1.e0, start1.about1, start1.theMethod, start1.args0, start1.below0, start1.atStart⟩
end Jvm.Pilot.@@N@@
