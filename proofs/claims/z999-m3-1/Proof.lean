import JvmDerived
import JvmDerived.Pilot.@@N@@Statement
import JvmDerived.Pilot.@@N@@Code
set_option linter.unusedVariables false
set_option linter.unusedSimpArgs false
namespace Jvm.Pilot.@@N@@
open Jvm Jvm.ClassFile Sem Op Lib Jvm.Free Jvm.Stand Jvm.LawKit Jvm.RoadKit Bundle Jvm.Pilot.@@N@@.Jvm.D
def G (p : Program) (l : Launch) (e : Env) (R : Room) (s : State) (m : MethodId) (args : Array Value) (below : List Frame) (meth : Method) (c : Code) (n0 : Nat) (Q : Option Value → Heap → Prop) (h : Heap) (k n : Nat) (pc : Nat) (Ls : Array Slot) (st : List Value) : Prop :=
  ∀ T locs cells slots, Stand p l e R s m args below meth c T locs cells slots → Fr n0 locs → T.heap = h → cells ≤ k → slots ≤ n →
    ∃ s₂ o, Steps p.tables e below (T.setTop (mkF m pc Ls st)) s₂ ∧ s₂.status = .running ∧ Ended s₂ below o ∧ ∃ v L, o = .returned v ∧ (Q v s₂.heap ∧ Fr n0 L) ∧ FrameEnd s o s₂ L R.cells R.slots
def Cx (Z : State) (p : Program) (s : State) (m : MethodId) (meth : Method) (c : Code) (R : Room) (k n : Nat) (own nm : String) (code : ByteArray) (maxL : Nat) (ret : Option FieldType) : Prop :=
  p.tables.exec = Jvm.exec ∧ Z.Warmed39 s.vm ∧ s.vm.findClass own = some m.cls ∧ c.code = code ∧ c.maxLocals = maxL ∧ meth.sig.returnType = ret ∧ meth.name = nm ∧ meth.locks = false
def Dc (code : ByteArray) (pc : Nat) (i : Instr) (len pc' : Nat) : Prop := decode code pc = .ok (i, len) ∧ pc + len = pc'
def Bi (code : ByteArray) (pc : Nat) (f : Int → Instr) (pcY pcN : Nat) : Prop := ∃ o, decode code pc = .ok (f o, 3) ∧ 0 ≤ (pc : Int) + o ∧ ((pc : Int) + o).toNat = pcY ∧ pc + 3 = pcN
def Met (l : Launch) (Z : State) (y : MethodName) (bytes : ByteArray) (maxL : Nat) (ret : Option FieldType) (rm : Room) (as : Array Value) (h0 : Heap) (Q : Option Value → Heap → Prop) : Prop :=
  ∀ ws, MetFree l y (head1 (Jvm.Cond.code y bytes maxL ret :: ws) rm) (fun a U => a = as ∧ Z.Warmed39 U.vm ∧ U.heap = h0) (fun _ _ _ _ _ => True) (fun _ U o U' => ∃ v L, o = .returned v ∧ (Q v U'.heap ∧ Fr Z.heap.size L) ∧ FrameEnd U o U' L rm.cells rm.slots)

def Arx (Z : State) (h : Heap) (a : Addr) (k : ClassId) (ty : FieldType) (z : Int32) (vs : List Value) (dv : Value) (ad : String) : Prop := Arv Z h a k ty z vs dv ∧ Exa Z h a ad
section ArxS
variable {Z : State} {h h' : Heap} {a x : Addr} {k : ClassId} {ty : FieldType} {z : Int32} {vs vs' : List Value} {dv w : Value} {ad : String} {sl : Nat} {ws : List Addr}
theorem Arx.ext (F : Arx Z h a k ty z vs dv ad) (E : Ext h h') : Arx Z h' a k ty z vs dv ad := ⟨F.1.ext E, F.2.ext E⟩
theorem Arx.other (F : Arx Z h a k ty z vs dv ad) (W : Wr h h' x sl w) (q : a ≠ x) : Arx Z h' a k ty z vs dv ad := ⟨F.1.other W q, F.2.wr W⟩
theorem Arx.keep (F : Arx Z h a k ty z vs dv ad) (K : Keep h h' ws) (q : a ∉ ws) : Arx Z h' a k ty z vs dv ad := ⟨F.1.keep K q, F.2.keep K⟩
theorem Arx.lt (F : Arx Z h a k ty z vs dv ad) : a < h.size := F.1.lt
theorem Arx.pad (F : Arx Z h a k ty z vs dv ad) (q : ∀ i, vs'.getD i dv = vs.getD i dv) : Arx Z h a k ty z vs' dv ad := ⟨F.1.pad q, F.2⟩
theorem sto_of {C : String} {y : Addr} (A : Arx Z h a k ty z vs dv ad) (O : Ovr Z k C) (I : Ins Z h y C true) : Sto Z h a (.ref y) := by
  obtain ⟨⟨c, Ar, q, -⟩, -⟩ := A; exact Sto.ofV Ar q O I
theorem sto_ofA {C : String} {y : Addr} {t : FieldType} (A : Arx Z h a k ty z vs dv ad) (O : OvrA Z k t C) (I : Ins Z h y C true) : Sto Z h a (.ref y) := by
  obtain ⟨⟨c, Ar, q, -⟩, -⟩ := A; exact Sto.ofVA Ar q O I
end ArxS
section Walk
variable {p : Program} {l : Launch} {e : Env} {R : Room} {s : State} {m : MethodId} {args : Array Value} {below : List Frame} {meth : Method} {c : Code} {Z : State} {a0 : Array Value} {k n : Nat} {own nm : String} {code : ByteArray} {maxL : Nat} {ret : Option FieldType} {n0 : Nat} {Q : Option Value → Heap → Prop} {h : Heap} {pc pc' pcY pcN : Nat} {Ls : Array Slot} {st rest : List Value}
theorem G.mono {k' n' : Nat} (H : G p l e R s m args below meth c Z.heap.size Q h k n pc Ls st) (hk : k' ≤ k) (hn : n' ≤ n) : G p l e R s m args below meth c Z.heap.size Q h k' n' pc Ls st :=
  fun T locs cells slots X N eT a b => H T locs cells slots X N eT (Nat.le_trans a hk) (Nat.le_trans b hn)
theorem G.cast {st' : List Value} (H : G p l e R s m args below meth c Z.heap.size Q h k n pc Ls st') (q : st = st') : G p l e R s m args below meth c Z.heap.size Q h k n pc Ls st := q ▸ H
theorem G.post {Q' : Option Value → Heap → Prop} (H : G p l e R s m args below meth c Z.heap.size Q h k n pc Ls st) (q : ∀ v h, Q v h → Q' v h) : G p l e R s m args below meth c Z.heap.size Q' h k n pc Ls st :=
  fun T locs cells slots X N eT a b => by
    obtain ⟨s₂, o, h1, h2, h3, v, L, h4, ⟨h5, h6⟩, h7⟩ := H T locs cells slots X N eT a b
    exact ⟨s₂, o, h1, h2, h3, v, L, h4, ⟨q _ _ h5, h6⟩, h7⟩
theorem met_of {y : MethodName} {bytes : ByteArray} {rm : Room} {as : Array Value} {h0 : Heap} (pn : plainFor y = true) (ef : ∀ m, entryFrame m as maxL = mkF m 0 Ls [])
    (body : ∀ p e s m below meth c, Cx Z p s m meth c rm 0 0 y.cls y.name bytes maxL ret → G p l e rm s m as below meth c Z.heap.size Q h0 0 0 0 Ls []) : Met l Z y bytes maxL ret rm as h0 Q := by
  intro ws
  refine MetFree.of_bodySF pn hisR ?_
  intro p e s m args below meth c s₁ Bd hml0 hP hK
  obtain ⟨rfl, hZ, hh⟩ := hP
  have e0 : s₁.heap = h0 := by rw [← hh, Bd.state]; rfl
  have X0 : Stand p l e rm s m args below meth c s₁ [] 0 0 := Stand.of_body Bd
  rw [ef m]
  exact body p e s m below meth c ⟨Bd.exec, hZ, findClass_of_methodNamed Bd.named, Bd.bytes, hml0, Bd.returns, (name_of_methodNamed Bd.named Bd.method).1, BodyLoose.notSynchronized Bd⟩ s₁ [] 0 0 X0 (Fr.nil _) e0 (Nat.le_refl _) (Nat.le_refl _)
theorem g_iloadN {kx nx : Nat} (cx : Cx Z p s m meth c R kx nx own nm code maxL ret) {i : Fin 4} {v : Int32} (d : Dc code pc (.iload_n i) 1 pc') (hl : Ls[i.val]? = some (.val (.int v))) (H : G p l e R s m args below meth c Z.heap.size Q h k n pc' Ls (.int v :: st)) : G p l e R s m args below meth c Z.heap.size Q h k n pc Ls st := by
  obtain ⟨hx, hZ, hown, rfl, hml, hret, hnm, -⟩ := cx
  obtain ⟨d, rfl⟩ := d
  intro T locs cells slots X N eT hk hn
  obtain ⟨s₂, o, st2, r⟩ := H T locs cells slots X N eT hk hn
  exact ⟨s₂, o, Jvm.Free.XS.iloadN X.here hx rfl d hl st2, r⟩
theorem g_iload {kx nx : Nat} (cx : Cx Z p s m meth c R kx nx own nm code maxL ret) {i : Nat} {v : Int32} (d : Dc code pc (.iload i) 2 pc') (hl : Ls[i]? = some (.val (.int v))) (H : G p l e R s m args below meth c Z.heap.size Q h k n pc' Ls (.int v :: st)) : G p l e R s m args below meth c Z.heap.size Q h k n pc Ls st := by
  obtain ⟨hx, hZ, hown, rfl, hml, hret, hnm, -⟩ := cx
  obtain ⟨d, rfl⟩ := d
  intro T locs cells slots X N eT hk hn
  obtain ⟨s₂, o, st2, r⟩ := H T locs cells slots X N eT hk hn
  exact ⟨s₂, o, Jvm.Free.XS.iload X.here hx rfl d hl st2, r⟩
theorem g_istoreN {kx nx : Nat} (cx : Cx Z p s m meth c R kx nx own nm code maxL ret) {i : Fin 4} {v : Int32} {Ls' : Array Slot} (d : Dc code pc (.istore_n i) 1 pc') (hl : storeLocals Ls i.val (.int v) = some Ls') (H : G p l e R s m args below meth c Z.heap.size Q h k n pc' Ls' st) : G p l e R s m args below meth c Z.heap.size Q h k n pc Ls (.int v :: st) := by
  obtain ⟨hx, hZ, hown, rfl, hml, hret, hnm, -⟩ := cx
  obtain ⟨d, rfl⟩ := d
  intro T locs cells slots X N eT hk hn
  obtain ⟨s₂, o, st2, r⟩ := H T locs cells slots X N eT hk hn
  exact ⟨s₂, o, Jvm.Free.XS.istoreN X.here hx rfl d rfl hl st2, r⟩
theorem g_istore {kx nx : Nat} (cx : Cx Z p s m meth c R kx nx own nm code maxL ret) {i : Nat} {v : Int32} {Ls' : Array Slot} (d : Dc code pc (.istore i) 2 pc') (hl : storeLocals Ls i (.int v) = some Ls') (H : G p l e R s m args below meth c Z.heap.size Q h k n pc' Ls' st) : G p l e R s m args below meth c Z.heap.size Q h k n pc Ls (.int v :: st) := by
  obtain ⟨hx, hZ, hown, rfl, hml, hret, hnm, -⟩ := cx
  obtain ⟨d, rfl⟩ := d
  intro T locs cells slots X N eT hk hn
  obtain ⟨s₂, o, st2, r⟩ := H T locs cells slots X N eT hk hn
  exact ⟨s₂, o, Jvm.Free.XS.istore X.here hx rfl d rfl hl st2, r⟩
theorem g_lloadN {kx nx : Nat} (cx : Cx Z p s m meth c R kx nx own nm code maxL ret) {i : Fin 4} {v : Int64} (d : Dc code pc (.lload_n i) 1 pc') (hl : Ls[i.val]? = some (.val (.long v))) (H : G p l e R s m args below meth c Z.heap.size Q h k n pc' Ls (.long v :: st)) : G p l e R s m args below meth c Z.heap.size Q h k n pc Ls st := by
  obtain ⟨hx, hZ, hown, rfl, hml, hret, hnm, -⟩ := cx
  obtain ⟨d, rfl⟩ := d
  intro T locs cells slots X N eT hk hn
  obtain ⟨s₂, o, st2, r⟩ := H T locs cells slots X N eT hk hn
  exact ⟨s₂, o, Jvm.Free.XS.lloadN X.here hx rfl d hl st2, r⟩
theorem g_lload {kx nx : Nat} (cx : Cx Z p s m meth c R kx nx own nm code maxL ret) {i : Nat} {v : Int64} (d : Dc code pc (.lload i) 2 pc') (hl : Ls[i]? = some (.val (.long v))) (H : G p l e R s m args below meth c Z.heap.size Q h k n pc' Ls (.long v :: st)) : G p l e R s m args below meth c Z.heap.size Q h k n pc Ls st := by
  obtain ⟨hx, hZ, hown, rfl, hml, hret, hnm, -⟩ := cx
  obtain ⟨d, rfl⟩ := d
  intro T locs cells slots X N eT hk hn
  obtain ⟨s₂, o, st2, r⟩ := H T locs cells slots X N eT hk hn
  exact ⟨s₂, o, Jvm.Free.XS.lload X.here hx rfl d hl st2, r⟩
theorem g_lstoreN {kx nx : Nat} (cx : Cx Z p s m meth c R kx nx own nm code maxL ret) {i : Fin 4} {v : Int64} {Ls' : Array Slot} (d : Dc code pc (.lstore_n i) 1 pc') (hl : storeLocals Ls i.val (.long v) = some Ls') (H : G p l e R s m args below meth c Z.heap.size Q h k n pc' Ls' st) : G p l e R s m args below meth c Z.heap.size Q h k n pc Ls (.long v :: st) := by
  obtain ⟨hx, hZ, hown, rfl, hml, hret, hnm, -⟩ := cx
  obtain ⟨d, rfl⟩ := d
  intro T locs cells slots X N eT hk hn
  obtain ⟨s₂, o, st2, r⟩ := H T locs cells slots X N eT hk hn
  exact ⟨s₂, o, Jvm.Free.XS.lstoreN X.here hx rfl d rfl hl st2, r⟩
theorem g_lstore {kx nx : Nat} (cx : Cx Z p s m meth c R kx nx own nm code maxL ret) {i : Nat} {v : Int64} {Ls' : Array Slot} (d : Dc code pc (.lstore i) 2 pc') (hl : storeLocals Ls i (.long v) = some Ls') (H : G p l e R s m args below meth c Z.heap.size Q h k n pc' Ls' st) : G p l e R s m args below meth c Z.heap.size Q h k n pc Ls (.long v :: st) := by
  obtain ⟨hx, hZ, hown, rfl, hml, hret, hnm, -⟩ := cx
  obtain ⟨d, rfl⟩ := d
  intro T locs cells slots X N eT hk hn
  obtain ⟨s₂, o, st2, r⟩ := H T locs cells slots X N eT hk hn
  exact ⟨s₂, o, Jvm.Free.XS.lstore X.here hx rfl d rfl hl st2, r⟩
theorem g_aloadN {kx nx : Nat} (cx : Cx Z p s m meth c R kx nx own nm code maxL ret) {i : Fin 4} {v : Value} (d : Dc code pc (.aload_n i) 1 pc') (hl : Ls[i.val]? = some (.val v)) (hv : v.isRef = true) (H : G p l e R s m args below meth c Z.heap.size Q h k n pc' Ls (v :: st)) : G p l e R s m args below meth c Z.heap.size Q h k n pc Ls st := by
  obtain ⟨hx, hZ, hown, rfl, hml, hret, hnm, -⟩ := cx
  obtain ⟨d, rfl⟩ := d
  intro T locs cells slots X N eT hk hn
  obtain ⟨s₂, o, st2, r⟩ := H T locs cells slots X N eT hk hn
  exact ⟨s₂, o, Jvm.Free.XS.aloadN X.here hx rfl d hl hv st2, r⟩
theorem g_aload {kx nx : Nat} (cx : Cx Z p s m meth c R kx nx own nm code maxL ret) {i : Nat} {v : Value} (d : Dc code pc (.aload i) 2 pc') (hl : Ls[i]? = some (.val v)) (hv : v.isRef = true) (H : G p l e R s m args below meth c Z.heap.size Q h k n pc' Ls (v :: st)) : G p l e R s m args below meth c Z.heap.size Q h k n pc Ls st := by
  obtain ⟨hx, hZ, hown, rfl, hml, hret, hnm, -⟩ := cx
  obtain ⟨d, rfl⟩ := d
  intro T locs cells slots X N eT hk hn
  obtain ⟨s₂, o, st2, r⟩ := H T locs cells slots X N eT hk hn
  exact ⟨s₂, o, Jvm.Free.XS.aload X.here hx rfl d hl hv st2, r⟩
theorem g_astoreN {kx nx : Nat} (cx : Cx Z p s m meth c R kx nx own nm code maxL ret) {i : Fin 4} {v : Value} {Ls' : Array Slot} (d : Dc code pc (.astore_n i) 1 pc') (hv : v.isRef = true) (hl : storeLocals Ls i.val v = some Ls') (H : G p l e R s m args below meth c Z.heap.size Q h k n pc' Ls' st) : G p l e R s m args below meth c Z.heap.size Q h k n pc Ls (v :: st) := by
  obtain ⟨hx, hZ, hown, rfl, hml, hret, hnm, -⟩ := cx
  obtain ⟨d, rfl⟩ := d
  intro T locs cells slots X N eT hk hn
  obtain ⟨s₂, o, st2, r⟩ := H T locs cells slots X N eT hk hn
  exact ⟨s₂, o, Jvm.Free.XS.astoreN X.here hx rfl d rfl hv hl st2, r⟩
theorem g_astore {kx nx : Nat} (cx : Cx Z p s m meth c R kx nx own nm code maxL ret) {i : Nat} {v : Value} {Ls' : Array Slot} (d : Dc code pc (.astore i) 2 pc') (hv : v.isRef = true) (hl : storeLocals Ls i v = some Ls') (H : G p l e R s m args below meth c Z.heap.size Q h k n pc' Ls' st) : G p l e R s m args below meth c Z.heap.size Q h k n pc Ls (v :: st) := by
  obtain ⟨hx, hZ, hown, rfl, hml, hret, hnm, -⟩ := cx
  obtain ⟨d, rfl⟩ := d
  intro T locs cells slots X N eT hk hn
  obtain ⟨s₂, o, st2, r⟩ := H T locs cells slots X N eT hk hn
  exact ⟨s₂, o, Jvm.Free.XS.astore X.here hx rfl d rfl hv hl st2, r⟩
theorem g_iconst {kx nx : Nat} (cx : Cx Z p s m meth c R kx nx own nm code maxL ret) {i : Int} {v : Int32} (d : Dc code pc (.iconst i) 1 pc') (hv : Int32.ofInt i = v) (H : G p l e R s m args below meth c Z.heap.size Q h k n pc' Ls (.int v :: st)) : G p l e R s m args below meth c Z.heap.size Q h k n pc Ls st := by
  obtain ⟨hx, hZ, hown, rfl, hml, hret, hnm, -⟩ := cx
  obtain ⟨d, rfl⟩ := d
  intro T locs cells slots X N eT hk hn
  obtain ⟨s₂, o, st2, r⟩ := H T locs cells slots X N eT hk hn
  exact ⟨s₂, o, Jvm.Free.XS.iconst X.here hx rfl d (by rw [hv]; exact st2), r⟩
theorem g_bipush {kx nx : Nat} (cx : Cx Z p s m meth c R kx nx own nm code maxL ret) {i : Int} {v : Int32} (d : Dc code pc (.bipush i) 2 pc') (hv : (Int8.ofInt i).toInt32 = v) (H : G p l e R s m args below meth c Z.heap.size Q h k n pc' Ls (.int v :: st)) : G p l e R s m args below meth c Z.heap.size Q h k n pc Ls st := by
  obtain ⟨hx, hZ, hown, rfl, hml, hret, hnm, -⟩ := cx
  obtain ⟨d, rfl⟩ := d
  intro T locs cells slots X N eT hk hn
  obtain ⟨s₂, o, st2, r⟩ := H T locs cells slots X N eT hk hn
  exact ⟨s₂, o, Jvm.Free.XS.bipush X.here hx rfl d (by rw [hv]; exact st2), r⟩
theorem g_sipush {kx nx : Nat} (cx : Cx Z p s m meth c R kx nx own nm code maxL ret) {i : Int} {v : Int32} (d : Dc code pc (.sipush i) 3 pc') (hv : (Int16.ofInt i).toInt32 = v) (H : G p l e R s m args below meth c Z.heap.size Q h k n pc' Ls (.int v :: st)) : G p l e R s m args below meth c Z.heap.size Q h k n pc Ls st := by
  obtain ⟨hx, hZ, hown, rfl, hml, hret, hnm, -⟩ := cx
  obtain ⟨d, rfl⟩ := d
  intro T locs cells slots X N eT hk hn
  obtain ⟨s₂, o, st2, r⟩ := H T locs cells slots X N eT hk hn
  exact ⟨s₂, o, Jvm.Free.XS.sipush X.here hx rfl d (by rw [hv]; exact st2), r⟩
theorem g_lconst {kx nx : Nat} (cx : Cx Z p s m meth c R kx nx own nm code maxL ret) {i : Fin 2} {v : Int64} (d : Dc code pc (.lconst i) 1 pc') (hv : Int64.ofNat i = v) (H : G p l e R s m args below meth c Z.heap.size Q h k n pc' Ls (.long v :: st)) : G p l e R s m args below meth c Z.heap.size Q h k n pc Ls st := by
  obtain ⟨hx, hZ, hown, rfl, hml, hret, hnm, -⟩ := cx
  obtain ⟨d, rfl⟩ := d
  intro T locs cells slots X N eT hk hn
  obtain ⟨s₂, o, st2, r⟩ := H T locs cells slots X N eT hk hn
  exact ⟨s₂, o, Jvm.Free.XS.lconst X.here hx rfl d (by rw [hv]; exact st2), r⟩
theorem g_aconst_null {kx nx : Nat} (cx : Cx Z p s m meth c R kx nx own nm code maxL ret)  (d : Dc code pc .aconst_null 1 pc') (H : G p l e R s m args below meth c Z.heap.size Q h k n pc' Ls (.null :: st)) : G p l e R s m args below meth c Z.heap.size Q h k n pc Ls st := by
  obtain ⟨hx, hZ, hown, rfl, hml, hret, hnm, -⟩ := cx
  obtain ⟨d, rfl⟩ := d
  intro T locs cells slots X N eT hk hn
  obtain ⟨s₂, o, st2, r⟩ := H T locs cells slots X N eT hk hn
  exact ⟨s₂, o, Jvm.Free.XS.aconstNull X.here hx rfl d  st2, r⟩
theorem g_iadd {kx nx : Nat} (cx : Cx Z p s m meth c R kx nx own nm code maxL ret) {x y : Int32} (d : Dc code pc .iadd 1 pc') (H : G p l e R s m args below meth c Z.heap.size Q h k n pc' Ls (.int (x + y) :: st)) : G p l e R s m args below meth c Z.heap.size Q h k n pc Ls (.int y :: .int x :: st) := by
  obtain ⟨hx, hZ, hown, rfl, hml, hret, hnm, -⟩ := cx
  obtain ⟨d, rfl⟩ := d
  intro T locs cells slots X N eT hk hn
  obtain ⟨s₂, o, st2, r⟩ := H T locs cells slots X N eT hk hn
  exact ⟨s₂, o, Jvm.Free.XS.iadd X.here hx rfl d rfl st2, r⟩
theorem g_ladd {kx nx : Nat} (cx : Cx Z p s m meth c R kx nx own nm code maxL ret) {x y : Int64} (d : Dc code pc .ladd 1 pc') (H : G p l e R s m args below meth c Z.heap.size Q h k n pc' Ls (.long (x + y) :: st)) : G p l e R s m args below meth c Z.heap.size Q h k n pc Ls (.long y :: .long x :: st) := by
  obtain ⟨hx, hZ, hown, rfl, hml, hret, hnm, -⟩ := cx
  obtain ⟨d, rfl⟩ := d
  intro T locs cells slots X N eT hk hn
  obtain ⟨s₂, o, st2, r⟩ := H T locs cells slots X N eT hk hn
  exact ⟨s₂, o, Jvm.Free.XS.ladd X.here hx rfl d rfl st2, r⟩
theorem g_isub {kx nx : Nat} (cx : Cx Z p s m meth c R kx nx own nm code maxL ret) {x y : Int32} (d : Dc code pc .isub 1 pc') (H : G p l e R s m args below meth c Z.heap.size Q h k n pc' Ls (.int (x - y) :: st)) : G p l e R s m args below meth c Z.heap.size Q h k n pc Ls (.int y :: .int x :: st) := by
  obtain ⟨hx, hZ, hown, rfl, hml, hret, hnm, -⟩ := cx
  obtain ⟨d, rfl⟩ := d
  intro T locs cells slots X N eT hk hn
  obtain ⟨s₂, o, st2, r⟩ := H T locs cells slots X N eT hk hn
  exact ⟨s₂, o, Jvm.Free.XS.isub X.here hx rfl d rfl st2, r⟩
theorem g_lsub {kx nx : Nat} (cx : Cx Z p s m meth c R kx nx own nm code maxL ret) {x y : Int64} (d : Dc code pc .lsub 1 pc') (H : G p l e R s m args below meth c Z.heap.size Q h k n pc' Ls (.long (x - y) :: st)) : G p l e R s m args below meth c Z.heap.size Q h k n pc Ls (.long y :: .long x :: st) := by
  obtain ⟨hx, hZ, hown, rfl, hml, hret, hnm, -⟩ := cx
  obtain ⟨d, rfl⟩ := d
  intro T locs cells slots X N eT hk hn
  obtain ⟨s₂, o, st2, r⟩ := H T locs cells slots X N eT hk hn
  exact ⟨s₂, o, Jvm.Free.XS.lsub X.here hx rfl d rfl st2, r⟩
theorem g_imul {kx nx : Nat} (cx : Cx Z p s m meth c R kx nx own nm code maxL ret) {x y : Int32} (d : Dc code pc .imul 1 pc') (H : G p l e R s m args below meth c Z.heap.size Q h k n pc' Ls (.int (x * y) :: st)) : G p l e R s m args below meth c Z.heap.size Q h k n pc Ls (.int y :: .int x :: st) := by
  obtain ⟨hx, hZ, hown, rfl, hml, hret, hnm, -⟩ := cx
  obtain ⟨d, rfl⟩ := d
  intro T locs cells slots X N eT hk hn
  obtain ⟨s₂, o, st2, r⟩ := H T locs cells slots X N eT hk hn
  exact ⟨s₂, o, Jvm.Free.XS.imul X.here hx rfl d rfl st2, r⟩
theorem g_lmul {kx nx : Nat} (cx : Cx Z p s m meth c R kx nx own nm code maxL ret) {x y : Int64} (d : Dc code pc .lmul 1 pc') (H : G p l e R s m args below meth c Z.heap.size Q h k n pc' Ls (.long (x * y) :: st)) : G p l e R s m args below meth c Z.heap.size Q h k n pc Ls (.long y :: .long x :: st) := by
  obtain ⟨hx, hZ, hown, rfl, hml, hret, hnm, -⟩ := cx
  obtain ⟨d, rfl⟩ := d
  intro T locs cells slots X N eT hk hn
  obtain ⟨s₂, o, st2, r⟩ := H T locs cells slots X N eT hk hn
  exact ⟨s₂, o, Jvm.Free.XS.lmul X.here hx rfl d rfl st2, r⟩
theorem g_iand {kx nx : Nat} (cx : Cx Z p s m meth c R kx nx own nm code maxL ret) {x y : Int32} (d : Dc code pc .iand 1 pc') (H : G p l e R s m args below meth c Z.heap.size Q h k n pc' Ls (.int (x &&& y) :: st)) : G p l e R s m args below meth c Z.heap.size Q h k n pc Ls (.int y :: .int x :: st) := by
  obtain ⟨hx, hZ, hown, rfl, hml, hret, hnm, -⟩ := cx
  obtain ⟨d, rfl⟩ := d
  intro T locs cells slots X N eT hk hn
  obtain ⟨s₂, o, st2, r⟩ := H T locs cells slots X N eT hk hn
  exact ⟨s₂, o, Jvm.Free.XS.iand X.here hx rfl d rfl st2, r⟩
theorem g_land {kx nx : Nat} (cx : Cx Z p s m meth c R kx nx own nm code maxL ret) {x y : Int64} (d : Dc code pc .land 1 pc') (H : G p l e R s m args below meth c Z.heap.size Q h k n pc' Ls (.long (x &&& y) :: st)) : G p l e R s m args below meth c Z.heap.size Q h k n pc Ls (.long y :: .long x :: st) := by
  obtain ⟨hx, hZ, hown, rfl, hml, hret, hnm, -⟩ := cx
  obtain ⟨d, rfl⟩ := d
  intro T locs cells slots X N eT hk hn
  obtain ⟨s₂, o, st2, r⟩ := H T locs cells slots X N eT hk hn
  exact ⟨s₂, o, Jvm.Free.XS.land X.here hx rfl d rfl st2, r⟩
theorem g_ior {kx nx : Nat} (cx : Cx Z p s m meth c R kx nx own nm code maxL ret) {x y : Int32} (d : Dc code pc .ior 1 pc') (H : G p l e R s m args below meth c Z.heap.size Q h k n pc' Ls (.int (x ||| y) :: st)) : G p l e R s m args below meth c Z.heap.size Q h k n pc Ls (.int y :: .int x :: st) := by
  obtain ⟨hx, hZ, hown, rfl, hml, hret, hnm, -⟩ := cx
  obtain ⟨d, rfl⟩ := d
  intro T locs cells slots X N eT hk hn
  obtain ⟨s₂, o, st2, r⟩ := H T locs cells slots X N eT hk hn
  exact ⟨s₂, o, Jvm.Free.XS.ior X.here hx rfl d rfl st2, r⟩
theorem g_lor {kx nx : Nat} (cx : Cx Z p s m meth c R kx nx own nm code maxL ret) {x y : Int64} (d : Dc code pc .lor 1 pc') (H : G p l e R s m args below meth c Z.heap.size Q h k n pc' Ls (.long (x ||| y) :: st)) : G p l e R s m args below meth c Z.heap.size Q h k n pc Ls (.long y :: .long x :: st) := by
  obtain ⟨hx, hZ, hown, rfl, hml, hret, hnm, -⟩ := cx
  obtain ⟨d, rfl⟩ := d
  intro T locs cells slots X N eT hk hn
  obtain ⟨s₂, o, st2, r⟩ := H T locs cells slots X N eT hk hn
  exact ⟨s₂, o, Jvm.Free.XS.lor X.here hx rfl d rfl st2, r⟩
theorem g_ixor {kx nx : Nat} (cx : Cx Z p s m meth c R kx nx own nm code maxL ret) {x y : Int32} (d : Dc code pc .ixor 1 pc') (H : G p l e R s m args below meth c Z.heap.size Q h k n pc' Ls (.int (x ^^^ y) :: st)) : G p l e R s m args below meth c Z.heap.size Q h k n pc Ls (.int y :: .int x :: st) := by
  obtain ⟨hx, hZ, hown, rfl, hml, hret, hnm, -⟩ := cx
  obtain ⟨d, rfl⟩ := d
  intro T locs cells slots X N eT hk hn
  obtain ⟨s₂, o, st2, r⟩ := H T locs cells slots X N eT hk hn
  exact ⟨s₂, o, Jvm.Free.XS.ixor X.here hx rfl d rfl st2, r⟩
theorem g_lxor {kx nx : Nat} (cx : Cx Z p s m meth c R kx nx own nm code maxL ret) {x y : Int64} (d : Dc code pc .lxor 1 pc') (H : G p l e R s m args below meth c Z.heap.size Q h k n pc' Ls (.long (x ^^^ y) :: st)) : G p l e R s m args below meth c Z.heap.size Q h k n pc Ls (.long y :: .long x :: st) := by
  obtain ⟨hx, hZ, hown, rfl, hml, hret, hnm, -⟩ := cx
  obtain ⟨d, rfl⟩ := d
  intro T locs cells slots X N eT hk hn
  obtain ⟨s₂, o, st2, r⟩ := H T locs cells slots X N eT hk hn
  exact ⟨s₂, o, Jvm.Free.XS.lxor X.here hx rfl d rfl st2, r⟩
theorem g_ishl {kx nx : Nat} (cx : Cx Z p s m meth c R kx nx own nm code maxL ret) {x : Int32} {y : Int32} (d : Dc code pc .ishl 1 pc') (H : G p l e R s m args below meth c Z.heap.size Q h k n pc' Ls (.int (x <<< (y &&& 31)) :: st)) : G p l e R s m args below meth c Z.heap.size Q h k n pc Ls (.int y :: .int x :: st) := by
  obtain ⟨hx, hZ, hown, rfl, hml, hret, hnm, -⟩ := cx
  obtain ⟨d, rfl⟩ := d
  intro T locs cells slots X N eT hk hn
  obtain ⟨s₂, o, st2, r⟩ := H T locs cells slots X N eT hk hn
  exact ⟨s₂, o, Jvm.Free.XS.ishl X.here hx rfl d rfl st2, r⟩
theorem g_ishr {kx nx : Nat} (cx : Cx Z p s m meth c R kx nx own nm code maxL ret) {x : Int32} {y : Int32} (d : Dc code pc .ishr 1 pc') (H : G p l e R s m args below meth c Z.heap.size Q h k n pc' Ls (.int (x >>> (y &&& 31)) :: st)) : G p l e R s m args below meth c Z.heap.size Q h k n pc Ls (.int y :: .int x :: st) := by
  obtain ⟨hx, hZ, hown, rfl, hml, hret, hnm, -⟩ := cx
  obtain ⟨d, rfl⟩ := d
  intro T locs cells slots X N eT hk hn
  obtain ⟨s₂, o, st2, r⟩ := H T locs cells slots X N eT hk hn
  exact ⟨s₂, o, Jvm.Free.XS.ishr X.here hx rfl d rfl st2, r⟩
theorem g_iushr {kx nx : Nat} (cx : Cx Z p s m meth c R kx nx own nm code maxL ret) {x : Int32} {y : Int32} (d : Dc code pc .iushr 1 pc') (H : G p l e R s m args below meth c Z.heap.size Q h k n pc' Ls (.int ((x.toUInt32 >>> (y &&& 31).toUInt32).toInt32) :: st)) : G p l e R s m args below meth c Z.heap.size Q h k n pc Ls (.int y :: .int x :: st) := by
  obtain ⟨hx, hZ, hown, rfl, hml, hret, hnm, -⟩ := cx
  obtain ⟨d, rfl⟩ := d
  intro T locs cells slots X N eT hk hn
  obtain ⟨s₂, o, st2, r⟩ := H T locs cells slots X N eT hk hn
  exact ⟨s₂, o, Jvm.Free.XS.iushr X.here hx rfl d rfl st2, r⟩
theorem g_lshl {kx nx : Nat} (cx : Cx Z p s m meth c R kx nx own nm code maxL ret) {x : Int64} {y : Int32} (d : Dc code pc .lshl 1 pc') (H : G p l e R s m args below meth c Z.heap.size Q h k n pc' Ls (.long (x <<< (y &&& 0x3f).toInt64) :: st)) : G p l e R s m args below meth c Z.heap.size Q h k n pc Ls (.int y :: .long x :: st) := by
  obtain ⟨hx, hZ, hown, rfl, hml, hret, hnm, -⟩ := cx
  obtain ⟨d, rfl⟩ := d
  intro T locs cells slots X N eT hk hn
  obtain ⟨s₂, o, st2, r⟩ := H T locs cells slots X N eT hk hn
  exact ⟨s₂, o, Jvm.Free.XS.lshl X.here hx rfl d rfl st2, r⟩
theorem g_lshr {kx nx : Nat} (cx : Cx Z p s m meth c R kx nx own nm code maxL ret) {x : Int64} {y : Int32} (d : Dc code pc .lshr 1 pc') (H : G p l e R s m args below meth c Z.heap.size Q h k n pc' Ls (.long (x >>> (y &&& 0x3f).toInt64) :: st)) : G p l e R s m args below meth c Z.heap.size Q h k n pc Ls (.int y :: .long x :: st) := by
  obtain ⟨hx, hZ, hown, rfl, hml, hret, hnm, -⟩ := cx
  obtain ⟨d, rfl⟩ := d
  intro T locs cells slots X N eT hk hn
  obtain ⟨s₂, o, st2, r⟩ := H T locs cells slots X N eT hk hn
  exact ⟨s₂, o, Jvm.Free.XS.lshr X.here hx rfl d rfl st2, r⟩
theorem g_lushr {kx nx : Nat} (cx : Cx Z p s m meth c R kx nx own nm code maxL ret) {x : Int64} {y : Int32} (d : Dc code pc .lushr 1 pc') (H : G p l e R s m args below meth c Z.heap.size Q h k n pc' Ls (.long ((x.toUInt64 >>> (y &&& 0x3f).toInt64.toUInt64).toInt64) :: st)) : G p l e R s m args below meth c Z.heap.size Q h k n pc Ls (.int y :: .long x :: st) := by
  obtain ⟨hx, hZ, hown, rfl, hml, hret, hnm, -⟩ := cx
  obtain ⟨d, rfl⟩ := d
  intro T locs cells slots X N eT hk hn
  obtain ⟨s₂, o, st2, r⟩ := H T locs cells slots X N eT hk hn
  exact ⟨s₂, o, Jvm.Free.XS.lushr X.here hx rfl d rfl st2, r⟩
theorem g_ineg {kx nx : Nat} (cx : Cx Z p s m meth c R kx nx own nm code maxL ret) {x : Int32} (d : Dc code pc .ineg 1 pc') (H : G p l e R s m args below meth c Z.heap.size Q h k n pc' Ls (.int (-x) :: st)) : G p l e R s m args below meth c Z.heap.size Q h k n pc Ls (.int x :: st) := by
  obtain ⟨hx, hZ, hown, rfl, hml, hret, hnm, -⟩ := cx
  obtain ⟨d, rfl⟩ := d
  intro T locs cells slots X N eT hk hn
  obtain ⟨s₂, o, st2, r⟩ := H T locs cells slots X N eT hk hn
  exact ⟨s₂, o, Jvm.Free.XS.ineg X.here hx rfl d rfl st2, r⟩
theorem g_lneg {kx nx : Nat} (cx : Cx Z p s m meth c R kx nx own nm code maxL ret) {x : Int64} (d : Dc code pc .lneg 1 pc') (H : G p l e R s m args below meth c Z.heap.size Q h k n pc' Ls (.long (-x) :: st)) : G p l e R s m args below meth c Z.heap.size Q h k n pc Ls (.long x :: st) := by
  obtain ⟨hx, hZ, hown, rfl, hml, hret, hnm, -⟩ := cx
  obtain ⟨d, rfl⟩ := d
  intro T locs cells slots X N eT hk hn
  obtain ⟨s₂, o, st2, r⟩ := H T locs cells slots X N eT hk hn
  exact ⟨s₂, o, Jvm.Free.XS.lneg X.here hx rfl d rfl st2, r⟩
theorem g_i2l {kx nx : Nat} (cx : Cx Z p s m meth c R kx nx own nm code maxL ret) {x : Int32} (d : Dc code pc .i2l 1 pc') (H : G p l e R s m args below meth c Z.heap.size Q h k n pc' Ls (.long (x.toInt64) :: st)) : G p l e R s m args below meth c Z.heap.size Q h k n pc Ls (.int x :: st) := by
  obtain ⟨hx, hZ, hown, rfl, hml, hret, hnm, -⟩ := cx
  obtain ⟨d, rfl⟩ := d
  intro T locs cells slots X N eT hk hn
  obtain ⟨s₂, o, st2, r⟩ := H T locs cells slots X N eT hk hn
  exact ⟨s₂, o, Jvm.Free.XS.i2l X.here hx rfl d rfl st2, r⟩
theorem g_l2i {kx nx : Nat} (cx : Cx Z p s m meth c R kx nx own nm code maxL ret) {x : Int64} (d : Dc code pc .l2i 1 pc') (H : G p l e R s m args below meth c Z.heap.size Q h k n pc' Ls (.int (x.toInt32) :: st)) : G p l e R s m args below meth c Z.heap.size Q h k n pc Ls (.long x :: st) := by
  obtain ⟨hx, hZ, hown, rfl, hml, hret, hnm, -⟩ := cx
  obtain ⟨d, rfl⟩ := d
  intro T locs cells slots X N eT hk hn
  obtain ⟨s₂, o, st2, r⟩ := H T locs cells slots X N eT hk hn
  exact ⟨s₂, o, Jvm.Free.XS.l2i X.here hx rfl d rfl st2, r⟩
theorem g_i2b {kx nx : Nat} (cx : Cx Z p s m meth c R kx nx own nm code maxL ret) {x : Int32} (d : Dc code pc .i2b 1 pc') (H : G p l e R s m args below meth c Z.heap.size Q h k n pc' Ls (.int (x.toInt8.toInt32) :: st)) : G p l e R s m args below meth c Z.heap.size Q h k n pc Ls (.int x :: st) := by
  obtain ⟨hx, hZ, hown, rfl, hml, hret, hnm, -⟩ := cx
  obtain ⟨d, rfl⟩ := d
  intro T locs cells slots X N eT hk hn
  obtain ⟨s₂, o, st2, r⟩ := H T locs cells slots X N eT hk hn
  exact ⟨s₂, o, Jvm.Free.XS.i2b X.here hx rfl d rfl st2, r⟩
theorem g_i2s {kx nx : Nat} (cx : Cx Z p s m meth c R kx nx own nm code maxL ret) {x : Int32} (d : Dc code pc .i2s 1 pc') (H : G p l e R s m args below meth c Z.heap.size Q h k n pc' Ls (.int (x.toInt16.toInt32) :: st)) : G p l e R s m args below meth c Z.heap.size Q h k n pc Ls (.int x :: st) := by
  obtain ⟨hx, hZ, hown, rfl, hml, hret, hnm, -⟩ := cx
  obtain ⟨d, rfl⟩ := d
  intro T locs cells slots X N eT hk hn
  obtain ⟨s₂, o, st2, r⟩ := H T locs cells slots X N eT hk hn
  exact ⟨s₂, o, Jvm.Free.XS.i2s X.here hx rfl d rfl st2, r⟩
theorem g_i2c {kx nx : Nat} (cx : Cx Z p s m meth c R kx nx own nm code maxL ret) {x : Int32} (d : Dc code pc .i2c 1 pc') (H : G p l e R s m args below meth c Z.heap.size Q h k n pc' Ls (.int (x.toUInt32.toUInt16.toUInt32.toInt32) :: st)) : G p l e R s m args below meth c Z.heap.size Q h k n pc Ls (.int x :: st) := by
  obtain ⟨hx, hZ, hown, rfl, hml, hret, hnm, -⟩ := cx
  obtain ⟨d, rfl⟩ := d
  intro T locs cells slots X N eT hk hn
  obtain ⟨s₂, o, st2, r⟩ := H T locs cells slots X N eT hk hn
  exact ⟨s₂, o, Jvm.Free.XS.i2c X.here hx rfl d rfl st2, r⟩
theorem g_idiv {kx nx : Nat} (cx : Cx Z p s m meth c R kx nx own nm code maxL ret) {x y : Int32} (d : Dc code pc .idiv 1 pc') (hy : y ≠ 0) (H : G p l e R s m args below meth c Z.heap.size Q h k n pc' Ls (.int (x / y) :: st)) : G p l e R s m args below meth c Z.heap.size Q h k n pc Ls (.int y :: .int x :: st) := by
  obtain ⟨hx, hZ, hown, rfl, hml, hret, hnm, -⟩ := cx
  obtain ⟨d, rfl⟩ := d
  intro T locs cells slots X N eT hk hn
  obtain ⟨s₂, o, st2, r⟩ := H T locs cells slots X N eT hk hn
  exact ⟨s₂, o, Jvm.Free.XS.idiv X.here hx rfl d rfl hy st2, r⟩
theorem g_ldiv {kx nx : Nat} (cx : Cx Z p s m meth c R kx nx own nm code maxL ret) {x y : Int64} (d : Dc code pc .ldiv 1 pc') (hy : y ≠ 0) (H : G p l e R s m args below meth c Z.heap.size Q h k n pc' Ls (.long (x / y) :: st)) : G p l e R s m args below meth c Z.heap.size Q h k n pc Ls (.long y :: .long x :: st) := by
  obtain ⟨hx, hZ, hown, rfl, hml, hret, hnm, -⟩ := cx
  obtain ⟨d, rfl⟩ := d
  intro T locs cells slots X N eT hk hn
  obtain ⟨s₂, o, st2, r⟩ := H T locs cells slots X N eT hk hn
  exact ⟨s₂, o, Jvm.Free.XS.ldiv X.here hx rfl d rfl hy st2, r⟩
theorem g_irem {kx nx : Nat} (cx : Cx Z p s m meth c R kx nx own nm code maxL ret) {x y : Int32} (d : Dc code pc .irem 1 pc') (hy : y ≠ 0) (H : G p l e R s m args below meth c Z.heap.size Q h k n pc' Ls (.int (x % y) :: st)) : G p l e R s m args below meth c Z.heap.size Q h k n pc Ls (.int y :: .int x :: st) := by
  obtain ⟨hx, hZ, hown, rfl, hml, hret, hnm, -⟩ := cx
  obtain ⟨d, rfl⟩ := d
  intro T locs cells slots X N eT hk hn
  obtain ⟨s₂, o, st2, r⟩ := H T locs cells slots X N eT hk hn
  exact ⟨s₂, o, Jvm.Free.XS.irem X.here hx rfl d rfl hy (by rw [irem_eq_mod]; exact st2), r⟩
theorem g_lrem {kx nx : Nat} (cx : Cx Z p s m meth c R kx nx own nm code maxL ret) {x y : Int64} (d : Dc code pc .lrem 1 pc') (hy : y ≠ 0) (H : G p l e R s m args below meth c Z.heap.size Q h k n pc' Ls (.long (x % y) :: st)) : G p l e R s m args below meth c Z.heap.size Q h k n pc Ls (.long y :: .long x :: st) := by
  obtain ⟨hx, hZ, hown, rfl, hml, hret, hnm, -⟩ := cx
  obtain ⟨d, rfl⟩ := d
  intro T locs cells slots X N eT hk hn
  obtain ⟨s₂, o, st2, r⟩ := H T locs cells slots X N eT hk hn
  exact ⟨s₂, o, Jvm.Free.XS.lrem X.here hx rfl d rfl hy (by rw [lrem_mod]; exact st2), r⟩
theorem g_iinc {kx nx : Nat} (cx : Cx Z p s m meth c R kx nx own nm code maxL ret) {i : Nat} {z : Int} {x v : Int32} {Ls' : Array Slot} (d : Dc code pc (.iinc i z) 3 pc') (hl : Ls[i]? = some (.val (.int x))) (hv : Int32.ofInt z = v) (hl' : storeLocals Ls i (.int (x + v)) = some Ls') (H : G p l e R s m args below meth c Z.heap.size Q h k n pc' Ls' st) : G p l e R s m args below meth c Z.heap.size Q h k n pc Ls st := by
  obtain ⟨hx, hZ, hown, rfl, hml, hret, hnm, -⟩ := cx
  obtain ⟨d, rfl⟩ := d
  intro T locs cells slots X N eT hk hn
  obtain ⟨s₂, o, st2, r⟩ := H T locs cells slots X N eT hk hn
  exact ⟨s₂, o, Jvm.Free.XS.iinc X.here hx rfl d hl (by rw [hv]; exact hl') st2, r⟩
theorem g_dup {kx nx : Nat} (cx : Cx Z p s m meth c R kx nx own nm code maxL ret) {v : Value} (d : Dc code pc .dup 1 pc') (hc : v.category = 1) (H : G p l e R s m args below meth c Z.heap.size Q h k n pc' Ls (v :: v :: st)) : G p l e R s m args below meth c Z.heap.size Q h k n pc Ls (v :: st) := by
  obtain ⟨hx, hZ, hown, rfl, hml, hret, hnm, -⟩ := cx
  obtain ⟨d, rfl⟩ := d
  intro T locs cells slots X N eT hk hn
  obtain ⟨s₂, o, st2, r⟩ := H T locs cells slots X N eT hk hn
  exact ⟨s₂, o, Jvm.Free.XS.dup X.here hx rfl d rfl hc st2, r⟩
theorem g_pop {kx nx : Nat} (cx : Cx Z p s m meth c R kx nx own nm code maxL ret) {v : Value} (d : Dc code pc .pop 1 pc') (hc : v.category = 1) (H : G p l e R s m args below meth c Z.heap.size Q h k n pc' Ls st) : G p l e R s m args below meth c Z.heap.size Q h k n pc Ls (v :: st) := by
  obtain ⟨hx, hZ, hown, rfl, hml, hret, hnm, -⟩ := cx
  obtain ⟨d, rfl⟩ := d
  intro T locs cells slots X N eT hk hn
  obtain ⟨s₂, o, st2, r⟩ := H T locs cells slots X N eT hk hn
  exact ⟨s₂, o, Jvm.Free.XS.pop X.here hx rfl d rfl hc st2, r⟩
theorem g_dup_x1 {kx nx : Nat} (cx : Cx Z p s m meth c R kx nx own nm code maxL ret) {v w : Value} (d : Dc code pc .dup_x1 1 pc') (hc : v.category = 1) (hc2 : w.category = 1) (H : G p l e R s m args below meth c Z.heap.size Q h k n pc' Ls (v :: w :: v :: st)) : G p l e R s m args below meth c Z.heap.size Q h k n pc Ls (v :: w :: st) := by
  obtain ⟨hx, hZ, hown, rfl, hml, hret, hnm, -⟩ := cx
  obtain ⟨d, rfl⟩ := d
  intro T locs cells slots X N eT hk hn
  obtain ⟨s₂, o, st2, r⟩ := H T locs cells slots X N eT hk hn
  exact ⟨s₂, o, Jvm.Free.XS.dupX1 X.here hx rfl d rfl hc hc2 st2, r⟩
theorem g_dup2 {kx nx : Nat} (cx : Cx Z p s m meth c R kx nx own nm code maxL ret) {v w : Value} (d : Dc code pc .dup2 1 pc') (hc : v.category = 1) (hc2 : w.category = 1) (H : G p l e R s m args below meth c Z.heap.size Q h k n pc' Ls (v :: w :: v :: w :: st)) : G p l e R s m args below meth c Z.heap.size Q h k n pc Ls (v :: w :: st) := by
  obtain ⟨hx, hZ, hown, rfl, hml, hret, hnm, -⟩ := cx
  obtain ⟨d, rfl⟩ := d
  intro T locs cells slots X N eT hk hn
  obtain ⟨s₂, o, st2, r⟩ := H T locs cells slots X N eT hk hn
  exact ⟨s₂, o, Jvm.Free.XT.dup2 X.here hx rfl d rfl hc hc2 st2, r⟩
theorem g_dup2L {kx nx : Nat} (cx : Cx Z p s m meth c R kx nx own nm code maxL ret) {v : Int64} (d : Dc code pc .dup2 1 pc') (H : G p l e R s m args below meth c Z.heap.size Q h k n pc' Ls (.long v :: .long v :: st)) : G p l e R s m args below meth c Z.heap.size Q h k n pc Ls (.long v :: st) := by
  obtain ⟨hx, hZ, hown, rfl, hml, hret, hnm, -⟩ := cx
  obtain ⟨d, rfl⟩ := d
  intro T locs cells slots X N eT hk hn
  obtain ⟨s₂, o, st2, r⟩ := H T locs cells slots X N eT hk hn
  exact ⟨s₂, o, Jvm.Free.XT.dup2L X.here hx rfl d rfl st2, r⟩
theorem g_goto {kx nx : Nat} (cx : Cx Z p s m meth c R kx nx own nm code maxL ret) (d : Bi code pc Instr.goto pcY pcN) (H : G p l e R s m args below meth c Z.heap.size Q h k n pcY Ls st) : G p l e R s m args below meth c Z.heap.size Q h k n pc Ls st := by
  obtain ⟨hx, hZ, hown, rfl, hml, hret, hnm, -⟩ := cx
  obtain ⟨o', d, ho, rfl, rfl⟩ := d
  intro T locs cells slots X N eT hk hn
  obtain ⟨s₂, o, st2, r⟩ := H T locs cells slots X N eT hk hn
  exact ⟨s₂, o, Jvm.Free.XS.goto X.here hx rfl (pc0 := pc) rfl d ho rfl st2, r⟩
theorem g_ifB {kx nx : Nat} (cx : Cx Z p s m meth c R kx nx own nm code maxL ret) {cd : ClassFile.Cond} {x : Int32} (d : Bi code pc (Instr.ifCond cd) pcY pcN) (HY : if_icmp.holds cd x 0 = true → G p l e R s m args below meth c Z.heap.size Q h k n pcY Ls st) (HN : if_icmp.holds cd x 0 = false → G p l e R s m args below meth c Z.heap.size Q h k n pcN Ls st) : G p l e R s m args below meth c Z.heap.size Q h k n pc Ls (.int x :: st) := by
  obtain ⟨hx, hZ, hown, rfl, hml, hret, hnm, -⟩ := cx
  obtain ⟨o', d, ho, rfl, rfl⟩ := d
  intro T locs cells slots X N eT hk hn
  cases hc : if_icmp.holds cd x 0
  · obtain ⟨s₂, o, st2, r⟩ := HN hc T locs cells slots X N eT hk hn
    exact ⟨s₂, o, Jvm.Free.XS.ifNo X.here hx rfl d rfl ((if0 _ _).trans hc) st2, r⟩
  · obtain ⟨s₂, o, st2, r⟩ := HY hc T locs cells slots X N eT hk hn
    exact ⟨s₂, o, Jvm.Free.XS.ifYes X.here hx rfl (pc0 := pc) rfl d rfl ((if0 _ _).trans hc) ho rfl st2, r⟩
theorem g_icmpB {kx nx : Nat} (cx : Cx Z p s m meth c R kx nx own nm code maxL ret) {cd : ClassFile.Cond} {x y : Int32} (d : Bi code pc (Instr.if_icmp cd) pcY pcN) (HY : if_icmp.holds cd x y = true → G p l e R s m args below meth c Z.heap.size Q h k n pcY Ls st) (HN : if_icmp.holds cd x y = false → G p l e R s m args below meth c Z.heap.size Q h k n pcN Ls st) : G p l e R s m args below meth c Z.heap.size Q h k n pc Ls (.int y :: .int x :: st) := by
  obtain ⟨hx, hZ, hown, rfl, hml, hret, hnm, -⟩ := cx
  obtain ⟨o', d, ho, rfl, rfl⟩ := d
  intro T locs cells slots X N eT hk hn
  cases hc : if_icmp.holds cd x y
  · obtain ⟨s₂, o, st2, r⟩ := HN hc T locs cells slots X N eT hk hn
    exact ⟨s₂, o, Jvm.Free.XS.icmpNo X.here hx rfl d rfl hc st2, r⟩
  · obtain ⟨s₂, o, st2, r⟩ := HY hc T locs cells slots X N eT hk hn
    exact ⟨s₂, o, Jvm.Free.XS.icmpYes X.here hx rfl (pc0 := pc) rfl d rfl hc ho rfl st2, r⟩
theorem h_eq {x y : Int32} : if_icmp.holds .eq x y = decide (x = y) := by by_cases h : x = y <;> simp [if_icmp.holds, h]
theorem h_ne {x y : Int32} : if_icmp.holds .ne x y = !decide (x = y) := by by_cases h : x = y <;> simp [if_icmp.holds, h]
theorem h_lt {x y : Int32} : if_icmp.holds .lt x y = decide (x < y) := by by_cases h : x < y <;> simp [if_icmp.holds, h]
theorem h_ge {x y : Int32} : if_icmp.holds .ge x y = !decide (x < y) := by by_cases h : x < y <;> simp [if_icmp.holds, h, Int32.not_le.mpr, Int32.not_lt.mp]
theorem h_gt {x y : Int32} : if_icmp.holds .gt x y = decide (y < x) := by by_cases h : y < x <;> simp [if_icmp.holds, h]
theorem h_le {x y : Int32} : if_icmp.holds .le x y = !decide (y < x) := by by_cases h : y < x <;> simp [if_icmp.holds, h, Int32.not_le.mpr, Int32.not_lt.mp]
theorem g_if_eq {kx nx : Nat} (cx : Cx Z p s m meth c R kx nx own nm code maxL ret) {x : Int32} (d : Bi code pc (Instr.ifCond .eq) pcY pcN) (HY : x = 0 → G p l e R s m args below meth c Z.heap.size Q h k n pcY Ls st) (HN : ¬ x = 0 → G p l e R s m args below meth c Z.heap.size Q h k n pcN Ls st) : G p l e R s m args below meth c Z.heap.size Q h k n pc Ls (.int x :: st) :=
  g_ifB cx d (fun q => HY (by rw [h_eq] at q; simpa using q)) (fun q => HN (by rw [h_eq] at q; simpa using q))
theorem g_icmp_eq {kx nx : Nat} (cx : Cx Z p s m meth c R kx nx own nm code maxL ret) {x y : Int32} (d : Bi code pc (Instr.if_icmp .eq) pcY pcN) (HY : x = y → G p l e R s m args below meth c Z.heap.size Q h k n pcY Ls st) (HN : ¬ x = y → G p l e R s m args below meth c Z.heap.size Q h k n pcN Ls st) : G p l e R s m args below meth c Z.heap.size Q h k n pc Ls (.int y :: .int x :: st) :=
  g_icmpB cx d (fun q => HY (by rw [h_eq] at q; simpa using q)) (fun q => HN (by rw [h_eq] at q; simpa using q))
theorem g_if_ne {kx nx : Nat} (cx : Cx Z p s m meth c R kx nx own nm code maxL ret) {x : Int32} (d : Bi code pc (Instr.ifCond .ne) pcY pcN) (HY : ¬ x = 0 → G p l e R s m args below meth c Z.heap.size Q h k n pcY Ls st) (HN : x = 0 → G p l e R s m args below meth c Z.heap.size Q h k n pcN Ls st) : G p l e R s m args below meth c Z.heap.size Q h k n pc Ls (.int x :: st) :=
  g_ifB cx d (fun q => HY (by rw [h_ne] at q; simpa using q)) (fun q => HN (by rw [h_ne] at q; simpa using q))
theorem g_icmp_ne {kx nx : Nat} (cx : Cx Z p s m meth c R kx nx own nm code maxL ret) {x y : Int32} (d : Bi code pc (Instr.if_icmp .ne) pcY pcN) (HY : ¬ x = y → G p l e R s m args below meth c Z.heap.size Q h k n pcY Ls st) (HN : x = y → G p l e R s m args below meth c Z.heap.size Q h k n pcN Ls st) : G p l e R s m args below meth c Z.heap.size Q h k n pc Ls (.int y :: .int x :: st) :=
  g_icmpB cx d (fun q => HY (by rw [h_ne] at q; simpa using q)) (fun q => HN (by rw [h_ne] at q; simpa using q))
theorem g_if_lt {kx nx : Nat} (cx : Cx Z p s m meth c R kx nx own nm code maxL ret) {x : Int32} (d : Bi code pc (Instr.ifCond .lt) pcY pcN) (HY : x < 0 → G p l e R s m args below meth c Z.heap.size Q h k n pcY Ls st) (HN : ¬ x < 0 → G p l e R s m args below meth c Z.heap.size Q h k n pcN Ls st) : G p l e R s m args below meth c Z.heap.size Q h k n pc Ls (.int x :: st) :=
  g_ifB cx d (fun q => HY (by rw [h_lt] at q; simpa using q)) (fun q => HN (by rw [h_lt] at q; simpa using q))
theorem g_icmp_lt {kx nx : Nat} (cx : Cx Z p s m meth c R kx nx own nm code maxL ret) {x y : Int32} (d : Bi code pc (Instr.if_icmp .lt) pcY pcN) (HY : x < y → G p l e R s m args below meth c Z.heap.size Q h k n pcY Ls st) (HN : ¬ x < y → G p l e R s m args below meth c Z.heap.size Q h k n pcN Ls st) : G p l e R s m args below meth c Z.heap.size Q h k n pc Ls (.int y :: .int x :: st) :=
  g_icmpB cx d (fun q => HY (by rw [h_lt] at q; simpa using q)) (fun q => HN (by rw [h_lt] at q; simpa using q))
theorem g_if_ge {kx nx : Nat} (cx : Cx Z p s m meth c R kx nx own nm code maxL ret) {x : Int32} (d : Bi code pc (Instr.ifCond .ge) pcY pcN) (HY : ¬ x < 0 → G p l e R s m args below meth c Z.heap.size Q h k n pcY Ls st) (HN : x < 0 → G p l e R s m args below meth c Z.heap.size Q h k n pcN Ls st) : G p l e R s m args below meth c Z.heap.size Q h k n pc Ls (.int x :: st) :=
  g_ifB cx d (fun q => HY (by rw [h_ge] at q; simpa using q)) (fun q => HN (by rw [h_ge] at q; simpa using q))
theorem g_icmp_ge {kx nx : Nat} (cx : Cx Z p s m meth c R kx nx own nm code maxL ret) {x y : Int32} (d : Bi code pc (Instr.if_icmp .ge) pcY pcN) (HY : ¬ x < y → G p l e R s m args below meth c Z.heap.size Q h k n pcY Ls st) (HN : x < y → G p l e R s m args below meth c Z.heap.size Q h k n pcN Ls st) : G p l e R s m args below meth c Z.heap.size Q h k n pc Ls (.int y :: .int x :: st) :=
  g_icmpB cx d (fun q => HY (by rw [h_ge] at q; simpa using q)) (fun q => HN (by rw [h_ge] at q; simpa using q))
theorem g_if_gt {kx nx : Nat} (cx : Cx Z p s m meth c R kx nx own nm code maxL ret) {x : Int32} (d : Bi code pc (Instr.ifCond .gt) pcY pcN) (HY : 0 < x → G p l e R s m args below meth c Z.heap.size Q h k n pcY Ls st) (HN : ¬ 0 < x → G p l e R s m args below meth c Z.heap.size Q h k n pcN Ls st) : G p l e R s m args below meth c Z.heap.size Q h k n pc Ls (.int x :: st) :=
  g_ifB cx d (fun q => HY (by rw [h_gt] at q; simpa using q)) (fun q => HN (by rw [h_gt] at q; simpa using q))
theorem g_icmp_gt {kx nx : Nat} (cx : Cx Z p s m meth c R kx nx own nm code maxL ret) {x y : Int32} (d : Bi code pc (Instr.if_icmp .gt) pcY pcN) (HY : y < x → G p l e R s m args below meth c Z.heap.size Q h k n pcY Ls st) (HN : ¬ y < x → G p l e R s m args below meth c Z.heap.size Q h k n pcN Ls st) : G p l e R s m args below meth c Z.heap.size Q h k n pc Ls (.int y :: .int x :: st) :=
  g_icmpB cx d (fun q => HY (by rw [h_gt] at q; simpa using q)) (fun q => HN (by rw [h_gt] at q; simpa using q))
theorem g_if_le {kx nx : Nat} (cx : Cx Z p s m meth c R kx nx own nm code maxL ret) {x : Int32} (d : Bi code pc (Instr.ifCond .le) pcY pcN) (HY : ¬ 0 < x → G p l e R s m args below meth c Z.heap.size Q h k n pcY Ls st) (HN : 0 < x → G p l e R s m args below meth c Z.heap.size Q h k n pcN Ls st) : G p l e R s m args below meth c Z.heap.size Q h k n pc Ls (.int x :: st) :=
  g_ifB cx d (fun q => HY (by rw [h_le] at q; simpa using q)) (fun q => HN (by rw [h_le] at q; simpa using q))
theorem g_icmp_le {kx nx : Nat} (cx : Cx Z p s m meth c R kx nx own nm code maxL ret) {x y : Int32} (d : Bi code pc (Instr.if_icmp .le) pcY pcN) (HY : ¬ y < x → G p l e R s m args below meth c Z.heap.size Q h k n pcY Ls st) (HN : y < x → G p l e R s m args below meth c Z.heap.size Q h k n pcN Ls st) : G p l e R s m args below meth c Z.heap.size Q h k n pc Ls (.int y :: .int x :: st) :=
  g_icmpB cx d (fun q => HY (by rw [h_le] at q; simpa using q)) (fun q => HN (by rw [h_le] at q; simpa using q))
theorem g_lcmp {kx nx : Nat} (cx : Cx Z p s m meth c R kx nx own nm code maxL ret) {x y : Int64} (d : Dc code pc .lcmp 1 pc') (H : G p l e R s m args below meth c Z.heap.size Q h k n pc' Ls (.int (lcmpW x y) :: st)) : G p l e R s m args below meth c Z.heap.size Q h k n pc Ls (.long y :: .long x :: st) := by
  obtain ⟨hx, hZ, hown, rfl, hml, hret, hnm, -⟩ := cx
  obtain ⟨d, rfl⟩ := d
  intro T locs cells slots X N eT hk hn
  obtain ⟨s₂, o, st2, r⟩ := H T locs cells slots X N eT hk hn
  exact ⟨s₂, o, Jvm.Free.XS.lcmp X.here hx rfl d rfl st2, r⟩
theorem g_lif_eq {kx nx : Nat} (cx : Cx Z p s m meth c R kx nx own nm code maxL ret) {x y : Int64} (d0 : Dc code pc .lcmp 1 pc') (d : Bi code pc' (Instr.ifCond .eq) pcY pcN) (HY : x = y → G p l e R s m args below meth c Z.heap.size Q h k n pcY Ls st) (HN : ¬ x = y → G p l e R s m args below meth c Z.heap.size Q h k n pcN Ls st) : G p l e R s m args below meth c Z.heap.size Q h k n pc Ls (.long y :: .long x :: st) :=
  g_lcmp cx d0 (g_if_eq cx d (fun q => HY ((lw_eq x y).mp q)) (fun q => HN (fun z => q ((lw_eq x y).mpr z))))
theorem g_lif_ne {kx nx : Nat} (cx : Cx Z p s m meth c R kx nx own nm code maxL ret) {x y : Int64} (d0 : Dc code pc .lcmp 1 pc') (d : Bi code pc' (Instr.ifCond .ne) pcY pcN) (HY : ¬ x = y → G p l e R s m args below meth c Z.heap.size Q h k n pcY Ls st) (HN : x = y → G p l e R s m args below meth c Z.heap.size Q h k n pcN Ls st) : G p l e R s m args below meth c Z.heap.size Q h k n pc Ls (.long y :: .long x :: st) :=
  g_lcmp cx d0 (g_if_ne cx d (fun q => HY (fun z => q ((lw_eq x y).mpr z))) (fun q => HN ((lw_eq x y).mp q)))
theorem g_lif_lt {kx nx : Nat} (cx : Cx Z p s m meth c R kx nx own nm code maxL ret) {x y : Int64} (d0 : Dc code pc .lcmp 1 pc') (d : Bi code pc' (Instr.ifCond .lt) pcY pcN) (HY : x < y → G p l e R s m args below meth c Z.heap.size Q h k n pcY Ls st) (HN : ¬ x < y → G p l e R s m args below meth c Z.heap.size Q h k n pcN Ls st) : G p l e R s m args below meth c Z.heap.size Q h k n pc Ls (.long y :: .long x :: st) :=
  g_lcmp cx d0 (g_if_lt cx d (fun q => HY ((lw_lt x y).mp q)) (fun q => HN (fun z => q ((lw_lt x y).mpr z))))
theorem g_lif_ge {kx nx : Nat} (cx : Cx Z p s m meth c R kx nx own nm code maxL ret) {x y : Int64} (d0 : Dc code pc .lcmp 1 pc') (d : Bi code pc' (Instr.ifCond .ge) pcY pcN) (HY : ¬ x < y → G p l e R s m args below meth c Z.heap.size Q h k n pcY Ls st) (HN : x < y → G p l e R s m args below meth c Z.heap.size Q h k n pcN Ls st) : G p l e R s m args below meth c Z.heap.size Q h k n pc Ls (.long y :: .long x :: st) :=
  g_lcmp cx d0 (g_if_ge cx d (fun q => HY (fun z => q ((lw_lt x y).mpr z))) (fun q => HN ((lw_lt x y).mp q)))
theorem g_lif_gt {kx nx : Nat} (cx : Cx Z p s m meth c R kx nx own nm code maxL ret) {x y : Int64} (d0 : Dc code pc .lcmp 1 pc') (d : Bi code pc' (Instr.ifCond .gt) pcY pcN) (HY : y < x → G p l e R s m args below meth c Z.heap.size Q h k n pcY Ls st) (HN : ¬ y < x → G p l e R s m args below meth c Z.heap.size Q h k n pcN Ls st) : G p l e R s m args below meth c Z.heap.size Q h k n pc Ls (.long y :: .long x :: st) :=
  g_lcmp cx d0 (g_if_gt cx d (fun q => HY ((lw_gt x y).mp q)) (fun q => HN (fun z => q ((lw_gt x y).mpr z))))
theorem g_lif_le {kx nx : Nat} (cx : Cx Z p s m meth c R kx nx own nm code maxL ret) {x y : Int64} (d0 : Dc code pc .lcmp 1 pc') (d : Bi code pc' (Instr.ifCond .le) pcY pcN) (HY : ¬ y < x → G p l e R s m args below meth c Z.heap.size Q h k n pcY Ls st) (HN : y < x → G p l e R s m args below meth c Z.heap.size Q h k n pcN Ls st) : G p l e R s m args below meth c Z.heap.size Q h k n pc Ls (.long y :: .long x :: st) :=
  g_lcmp cx d0 (g_if_le cx d (fun q => HY (fun z => q ((lw_gt x y).mpr z))) (fun q => HN ((lw_gt x y).mp q)))
theorem g_acmp {kx nx : Nat} (cx : Cx Z p s m meth c R kx nx own nm code maxL ret) {cd : ACond} {x y : Value} (h1 : x.isRef = true) (h2 : y.isRef = true) (d : Bi code pc (Instr.if_acmp cd) pcY pcN) (HY : x = y → G p l e R s m args below meth c Z.heap.size Q h k n (if acV cd true = true then pcY else pcN) Ls st) (HN : ¬ x = y → G p l e R s m args below meth c Z.heap.size Q h k n (if acV cd false = true then pcY else pcN) Ls st) : G p l e R s m args below meth c Z.heap.size Q h k n pc Ls (y :: x :: st) := by
  obtain ⟨hx, hZ, hown, rfl, hml, hret, hnm, -⟩ := cx
  obtain ⟨o', d, ho, rfl, rfl⟩ := d
  intro T locs cells slots X N eT hk hn
  by_cases hc : x = y
  · obtain ⟨s₂, o, st2, r⟩ := HY hc T locs cells slots X N eT hk hn
    exact ⟨s₂, o, Jvm.RoadKit.acmp (g := mkF m pc Ls (y :: x :: st)) X hx rfl h1 h2 (pc0 := pc) (same := true) rfl d rfl (decide_eq_true hc) ho rfl st2, r⟩
  · obtain ⟨s₂, o, st2, r⟩ := HN hc T locs cells slots X N eT hk hn
    exact ⟨s₂, o, Jvm.RoadKit.acmp (g := mkF m pc Ls (y :: x :: st)) X hx rfl h1 h2 (pc0 := pc) (same := false) rfl d rfl (decide_eq_false hc) ho rfl st2, r⟩
theorem g_acmp_eq {kx nx : Nat} (cx : Cx Z p s m meth c R kx nx own nm code maxL ret) {x y : Value} (h1 : x.isRef = true) (h2 : y.isRef = true) (d : Bi code pc (Instr.if_acmp .eq) pcY pcN) (HY : x = y → G p l e R s m args below meth c Z.heap.size Q h k n pcY Ls st) (HN : ¬ x = y → G p l e R s m args below meth c Z.heap.size Q h k n pcN Ls st) : G p l e R s m args below meth c Z.heap.size Q h k n pc Ls (y :: x :: st) := g_acmp cx h1 h2 d HY HN
theorem g_acmp_ne {kx nx : Nat} (cx : Cx Z p s m meth c R kx nx own nm code maxL ret) {x y : Value} (h1 : x.isRef = true) (h2 : y.isRef = true) (d : Bi code pc (Instr.if_acmp .ne) pcY pcN) (HY : ¬ x = y → G p l e R s m args below meth c Z.heap.size Q h k n pcY Ls st) (HN : x = y → G p l e R s m args below meth c Z.heap.size Q h k n pcN Ls st) : G p l e R s m args below meth c Z.heap.size Q h k n pc Ls (y :: x :: st) := g_acmp cx h1 h2 d HN HY
theorem g_ifnull_null {kx nx : Nat} (cx : Cx Z p s m meth c R kx nx own nm code maxL ret) (d : Bi code pc Instr.ifnull pcY pcN) (H : G p l e R s m args below meth c Z.heap.size Q h k n pcY Ls st) : G p l e R s m args below meth c Z.heap.size Q h k n pc Ls (.null :: st) := by
  obtain ⟨hx, hZ, hown, rfl, hml, hret, hnm, -⟩ := cx
  obtain ⟨o', d, ho, rfl, rfl⟩ := d
  intro T locs cells slots X N eT hk hn
  obtain ⟨s₂, o, st2, r⟩ := H T locs cells slots X N eT hk hn
  exact ⟨s₂, o, Jvm.Free.XS.ifnullYes X.here hx rfl (pc0 := pc) rfl d rfl ho rfl st2, r⟩
theorem g_ifnull_ref {kx nx : Nat} (cx : Cx Z p s m meth c R kx nx own nm code maxL ret) {a : Addr} (d : Bi code pc Instr.ifnull pcY pcN) (H : G p l e R s m args below meth c Z.heap.size Q h k n pcN Ls st) : G p l e R s m args below meth c Z.heap.size Q h k n pc Ls (.ref a :: st) := by
  obtain ⟨hx, hZ, hown, rfl, hml, hret, hnm, -⟩ := cx
  obtain ⟨o', d, ho, rfl, rfl⟩ := d
  intro T locs cells slots X N eT hk hn
  obtain ⟨s₂, o, st2, r⟩ := H T locs cells slots X N eT hk hn
  exact ⟨s₂, o, Jvm.Free.XS.ifnullNo X.here hx rfl d rfl st2, r⟩
theorem g_ifnonnull_ref {kx nx : Nat} (cx : Cx Z p s m meth c R kx nx own nm code maxL ret) {a : Addr} (d : Bi code pc Instr.ifnonnull pcY pcN) (H : G p l e R s m args below meth c Z.heap.size Q h k n pcY Ls st) : G p l e R s m args below meth c Z.heap.size Q h k n pc Ls (.ref a :: st) := by
  obtain ⟨hx, hZ, hown, rfl, hml, hret, hnm, -⟩ := cx
  obtain ⟨o', d, ho, rfl, rfl⟩ := d
  intro T locs cells slots X N eT hk hn
  obtain ⟨s₂, o, st2, r⟩ := H T locs cells slots X N eT hk hn
  exact ⟨s₂, o, Jvm.Free.XS.ifnonnullYes X.here hx rfl (pc0 := pc) rfl d rfl ho rfl st2, r⟩
theorem g_ifnonnull_null {kx nx : Nat} (cx : Cx Z p s m meth c R kx nx own nm code maxL ret) (d : Bi code pc Instr.ifnonnull pcY pcN) (H : G p l e R s m args below meth c Z.heap.size Q h k n pcN Ls st) : G p l e R s m args below meth c Z.heap.size Q h k n pc Ls (.null :: st) := by
  obtain ⟨hx, hZ, hown, rfl, hml, hret, hnm, -⟩ := cx
  obtain ⟨o', d, ho, rfl, rfl⟩ := d
  intro T locs cells slots X N eT hk hn
  obtain ⟨s₂, o, st2, r⟩ := H T locs cells slots X N eT hk hn
  exact ⟨s₂, o, Jvm.Free.XS.ifnonnullNo X.here hx rfl d rfl st2, r⟩
theorem g_ldcI {kx nx : Nat} (cx : Cx Z p s m meth c R kx nx own nm code maxL ret) {i : Nat} {v : Int32} (d : Dc code pc (.ldc i) 2 pc') (w : (Jvm.Cond.constant own i v).before a0 Z = true) (H : G p l e R s m args below meth c Z.heap.size Q h k n pc' Ls (.int v :: st)) : G p l e R s m args below meth c Z.heap.size Q h k n pc Ls st := by
  obtain ⟨hx, hZ, hown, rfl, hml, hret, hnm, -⟩ := cx
  obtain ⟨d, rfl⟩ := d
  intro T locs cells slots X N eT hk hn
  obtain ⟨s₂, o, st2, r⟩ := H T locs cells slots X N eT hk hn
  exact ⟨s₂, o, X.ldcInt hx hown (mvT hZ w) (g := mkF m pc Ls st) rfl d _ st2, r⟩
theorem g_ldcJ {kx nx : Nat} (cx : Cx Z p s m meth c R kx nx own nm code maxL ret) {i : Nat} {v : Int64} (d : Dc code pc (.ldc2_w i) 3 pc') (w : (Jvm.Cond.constantLong own i v).before a0 Z = true) (H : G p l e R s m args below meth c Z.heap.size Q h k n pc' Ls (.long v :: st)) : G p l e R s m args below meth c Z.heap.size Q h k n pc Ls st := by
  obtain ⟨hx, hZ, hown, rfl, hml, hret, hnm, -⟩ := cx
  obtain ⟨d, rfl⟩ := d
  intro T locs cells slots X N eT hk hn
  obtain ⟨s₂, o, st2, r⟩ := H T locs cells slots X N eT hk hn
  exact ⟨s₂, o, X.ldc2Long hx hown (mvT hZ w) (g := mkF m pc Ls st) rfl d _ st2, r⟩
theorem g_getF {kx nx : Nat} (cx : Cx Z p s m meth c R kx nx own nm code maxL ret) {R0 O f ds host : String} {i : Nat} {a : Addr} {v : Value} (d : Dc code pc (.getfield i) 3 pc') (w : (Jvm.Cond.fieldLink own i R0 f ds).before a0 Z = true ∨ (Jvm.Cond.fieldLinkNest own i R0 f ds host).before a0 Z = true) (via : Via Z R0 O f ds) (F : Fld Z h a O f ds v) (H : G p l e R s m args below meth c Z.heap.size Q h k n pc' Ls (v :: st)) : G p l e R s m args below meth c Z.heap.size Q h k n pc Ls (.ref a :: st) := by
  obtain ⟨hx, hZ, hown, rfl, hml, hret, hnm, -⟩ := cx
  obtain ⟨d, rfl⟩ := d
  intro T locs cells slots X N eT hk hn
  obtain ⟨T', X', e', stp⟩ := getF X hx hZ hown w via eT F (g := mkF m pc Ls (.ref a :: st)) rfl rfl d
  obtain ⟨s₂, o, st2, r⟩ := H T' locs cells slots X' N e' hk hn
  exact ⟨s₂, o, stp _ st2, r⟩
theorem g_getS {kx nx : Nat} (cx : Cx Z p s m meth c R kx nx own nm code maxL ret) {R0 O f ds host : String} {i : Nat} {v : Value} (d : Dc code pc (.getstatic i) 3 pc') (w : (Jvm.Cond.fieldLink own i R0 f ds).before a0 Z = true ∨ (Jvm.Cond.fieldLinkNest own i R0 f ds host).before a0 Z = true) (via : Via Z R0 O f ds) (F : Sta Z h O f ds v) (H : G p l e R s m args below meth c Z.heap.size Q h k n pc' Ls (v :: st)) : G p l e R s m args below meth c Z.heap.size Q h k n pc Ls st := by
  obtain ⟨hx, hZ, hown, rfl, hml, hret, hnm, -⟩ := cx
  obtain ⟨d, rfl⟩ := d
  intro T locs cells slots X N eT hk hn
  obtain ⟨T', X', e', stp⟩ := getS2 X hx hZ hown w via eT F (g := mkF m pc Ls st) rfl d
  obtain ⟨s₂, o, st2, r⟩ := H T' locs cells slots X' N e' hk hn
  exact ⟨s₂, o, stp _ st2, r⟩
theorem g_putF {kx nx : Nat} (cx : Cx Z p s m meth c R kx nx own nm code maxL ret) {R0 O f ds host C : String} {i kk : Nat} {ty : FieldType} {a : Addr} {v old : Value} (d : Dc code pc (.putfield i) 3 pc') (w : (Jvm.Cond.fieldLink own i R0 f ds).before a0 Z = true ∨ (Jvm.Cond.fieldLinkNest own i R0 f ds host).before a0 Z = true) (via : Via Z R0 O f ds) (F : Fld Z h a O f ds old) (E : Exa Z h a C)
    (L : (Jvm.Cond.lays C O f ds).before a0 Z = true ∨ ((Jvm.Cond.laysFinal C O f ds).before a0 Z = true ∧ own = O ∧ nm = "<init>")) (wi : (Jvm.Cond.instantiable C kk).before a0 Z = true) (hty : parseFieldDescriptor ds = some ty) (hnar : narrow ty v = v) (hfit : fits ty v = true) (g : Z.heap.size ≤ a)
    (H : ∀ h', Wr h h' a (Jvm.RoadKit.slotOf Z O f ds) v → G p l e R s m args below meth c Z.heap.size Q h' k n pc' Ls st) : G p l e R s m args below meth c Z.heap.size Q h k n pc Ls (v :: .ref a :: st) := by
  obtain ⟨hx, hZ, hown, rfl, hml, hret, rfl, -⟩ := cx
  obtain ⟨d, rfl⟩ := d
  intro T locs cells slots X N eT hk hn
  obtain ⟨T', h', X', e', W, stp⟩ := putF X hx hZ hown w via eT F E L wi hty hnar hfit (g := mkF m pc Ls (v :: .ref a :: st)) rfl rfl d
  obtain ⟨s₂, o, st2, r⟩ := H h' W T' _ cells slots X' (Fr.snoc X' N g) e' hk hn
  exact ⟨s₂, o, stp _ st2, r⟩
theorem g_putFN {kx nx : Nat} (cx : Cx Z p s m meth c R kx nx own nm code maxL ret) {R0 O f ds C : String} {i kk : Nat} {ty : FieldType} {a : Addr} {v v' old : Value} (d : Dc code pc (.putfield i) 3 pc') (w : (Jvm.Cond.fieldLink own i R0 f ds).before a0 Z = true) (via : Via Z R0 O f ds) (F : Fld Z h a O f ds old) (E : Exa Z h a C)
    (L : (Jvm.Cond.lays C O f ds).before a0 Z = true ∨ ((Jvm.Cond.laysFinal C O f ds).before a0 Z = true ∧ own = O ∧ nm = "<init>")) (wi : (Jvm.Cond.instantiable C kk).before a0 Z = true) (hty : parseFieldDescriptor ds = some ty) (hnar : narrow ty v = v') (hfit : fits ty v' = true) (g : Z.heap.size ≤ a)
    (H : ∀ h', Wr h h' a (Jvm.RoadKit.slotOf Z O f ds) v' → G p l e R s m args below meth c Z.heap.size Q h' k n pc' Ls st) : G p l e R s m args below meth c Z.heap.size Q h k n pc Ls (v :: .ref a :: st) := by
  obtain ⟨hx, hZ, hown, rfl, hml, hret, rfl, -⟩ := cx
  obtain ⟨d, rfl⟩ := d
  intro T locs cells slots X N eT hk hn
  obtain ⟨T', h', X', e', W, stp⟩ := putFN X hx hZ hown w via eT F E L wi hty hnar hfit (g := mkF m pc Ls (v :: .ref a :: st)) rfl rfl d
  obtain ⟨s₂, o, st2, r⟩ := H h' W T' _ cells slots X' (Fr.snoc X' N g) e' hk hn
  exact ⟨s₂, o, stp _ st2, r⟩
theorem g_new {kx nx : Nat} (cx : Cx Z p s m meth c R kx nx own nm code maxL ret) {C : String} {i sl : Nat} {k' n' : Nat} (d : Dc code pc (.new i) 3 pc') (w : (Jvm.Cond.classLink own i C).before a0 Z = true) (wi : (Jvm.Cond.instantiable C sl).before a0 Z = true) (wz : (Jvm.Cond.initialized C).before a0 Z = true) (hk1 : k + 1 = k') (hn1 : n + sl = n') (hkR : k' ≤ R.cells) (hnR : n' ≤ R.slots)
    (H : ∀ h' b, b = h.size → Ext h h' → Exa Z h' b C → (∀ {O nm d : String} {ty : FieldType}, Laid Z a0 C O nm d → parseFieldDescriptor d = some ty → Fld Z h' b O nm d (defaultValue ty)) → G p l e R s m args below meth c Z.heap.size Q h' k' n' pc' Ls (.ref b :: st)) : G p l e R s m args below meth c Z.heap.size Q h k n pc Ls st := by
  obtain ⟨hx, hZ, hown, rfl, hml, hret, hnm, -⟩ := cx
  obtain ⟨d, rfl⟩ := d
  subst hk1 hn1
  intro T locs cells slots X N eT hk hn
  obtain ⟨T', h', X', e', E, A, D, -, stp⟩ := newO X hx hZ hown w wi wz eT (g := mkF m pc Ls st) rfl d (by omega) (by omega)
  obtain ⟨s₂, o, st2, r⟩ := H h' _ rfl E A D T' locs _ _ X' N e' (by omega) (by omega)
  exact ⟨s₂, o, stp _ st2, r⟩
theorem g_newarray {kx nx : Nat} (cx : Cx Z p s m meth c R kx nx own nm code maxL ret) {aty : ArrayType} {z : Int32} {cap k' n' : Nat} {ad : String} (had : "[" ++ (newarray.typeOf aty).toString = ad) (d : Dc code pc (.newarray aty) 2 pc') (w : (Jvm.Cond.arrayClass (newarray.typeOf aty)).before a0 Z = true) (hz : ¬ z < 0) (hcap : z.toNatClampNeg ≤ cap) (hb : cap * 8 ≤ 536870912) (hk1 : k + 1 = k') (hn1 : n + cap = n') (hkR : k' ≤ R.cells) (hnR : n' ≤ R.slots)
    (H : ∀ h' b cA, b = h.size → Ext h h' → Arx Z h' b cA (newarray.typeOf aty) z [] (defaultValue (newarray.typeOf aty)) ad → G p l e R s m args below meth c Z.heap.size Q h' k' n' pc' Ls (.ref b :: st)) : G p l e R s m args below meth c Z.heap.size Q h k n pc Ls (.int z :: st) := by
  obtain ⟨hx, hZ, hown, rfl, hml, hret, hnm, -⟩ := cx
  obtain ⟨d, rfl⟩ := d
  subst hk1 hn1
  intro T locs cells slots X N eT hk hn
  obtain ⟨T', h', cA, X', e', E, A, Ex, stp⟩ := newPE X hx hZ w eT (g := mkF m pc Ls (.int z :: st)) rfl d rfl hz hcap hb (by omega) (by omega) had
  obtain ⟨s₂, o, st2, r⟩ := H h' _ cA rfl E ⟨Arv.new A hz, Ex⟩ T' locs _ _ X' N e' (by omega) (by omega)
  exact ⟨s₂, o, stp _ st2, r⟩
theorem g_anewarray {kx nx : Nat} (cx : Cx Z p s m meth c R kx nx own nm code maxL ret) {C ad : String} {i : Nat} {z : Int32} {cap k' n' : Nat} (had : "[" ++ (FieldType.object C).toString = ad) (d : Dc code pc (.anewarray i) 3 pc') (w1 : (Jvm.Cond.classLink own i C).before a0 Z = true) (w2 : (Jvm.Cond.arrayOver (.object C)).before a0 Z = true) (hz : ¬ z < 0) (hcap : z.toNatClampNeg ≤ cap) (hb : cap * 8 ≤ 536870912) (hk1 : k + 1 = k') (hn1 : n + cap = n') (hkR : k' ≤ R.cells) (hnR : n' ≤ R.slots)
    (H : ∀ h' b cA, b = h.size → Ext h h' → Arx Z h' b cA (.object C) z [] .null ad → Ovr Z cA C → G p l e R s m args below meth c Z.heap.size Q h' k' n' pc' Ls (.ref b :: st)) : G p l e R s m args below meth c Z.heap.size Q h k n pc Ls (.int z :: st) := by
  obtain ⟨hx, hZ, hown, rfl, hml, hret, hnm, -⟩ := cx
  obtain ⟨d, rfl⟩ := d
  subst hk1 hn1
  intro T locs cells slots X N eT hk hn
  obtain ⟨T', h', cA, X', e', E, A, Ex, O, stp⟩ := newRE X hx hZ hown w1 w2 eT (g := mkF m pc Ls (.int z :: st)) rfl d rfl hz hcap hb (by omega) (by omega) had
  obtain ⟨s₂, o, st2, r⟩ := H h' _ cA rfl E ⟨Arv.new A hz, Ex⟩ O T' locs _ _ X' N e' (by omega) (by omega)
  exact ⟨s₂, o, stp _ st2, r⟩
theorem g_anewarrayA {kx nx : Nat} (cx : Cx Z p s m meth c R kx nx own nm code maxL ret) {C ad : String} {t : FieldType} {i : Nat} {z : Int32} {cap k' n' : Nat} (hC : (FieldType.array t).toString = C) (had : "[" ++ C = ad) (d : Dc code pc (.anewarray i) 3 pc') (w1 : (Jvm.Cond.classLink own i C).before a0 Z = true) (w2 : (Jvm.Cond.arrayOver (.array t)).before a0 Z = true) (hz : ¬ z < 0) (hcap : z.toNatClampNeg ≤ cap) (hb : cap * 8 ≤ 536870912) (hk1 : k + 1 = k') (hn1 : n + cap = n') (hkR : k' ≤ R.cells) (hnR : n' ≤ R.slots)
    (H : ∀ h' b cA, b = h.size → Ext h h' → Arx Z h' b cA (.array t) z [] .null ad → OvrA Z cA t C → G p l e R s m args below meth c Z.heap.size Q h' k' n' pc' Ls (.ref b :: st)) : G p l e R s m args below meth c Z.heap.size Q h k n pc Ls (.int z :: st) := by
  obtain ⟨hx, hZ, hown, rfl, hml, hret, hnm, -⟩ := cx
  obtain ⟨d, rfl⟩ := d
  subst hk1 hn1
  intro T locs cells slots X N eT hk hn
  obtain ⟨T', h', cA, X', e', E, A, Ex, O, stp⟩ := newRA X hx hZ hown hC w1 w2 eT (g := mkF m pc Ls (.int z :: st)) rfl d rfl hz hcap hb (by omega) (by omega) had
  obtain ⟨s₂, o, st2, r⟩ := H h' _ cA rfl E ⟨Arv.new A hz, Ex⟩ O T' locs _ _ X' N e' (by omega) (by omega)
  exact ⟨s₂, o, stp _ st2, r⟩
theorem g_iastore {kx nx : Nat} (cx : Cx Z p s m meth c R kx nx own nm code maxL ret) {a : Addr} {cA : ClassId} {z j : Int32} {ad : String} {vs : List Value} {dv : Value} {x : Int32} (d : Dc code pc .iastore 1 pc') (A : Arx Z h a cA .int z vs dv ad) (hj : ¬ j < 0 ∧ j < z) (hl : j.toNatClampNeg < vs.length) (g : Z.heap.size ≤ a) (H : ∀ h', Wr h h' a j.toNatClampNeg (.int x) → Arx Z h' a cA .int z (vs.set j.toNatClampNeg (.int x)) dv ad → G p l e R s m args below meth c Z.heap.size Q h' k n pc' Ls st) : G p l e R s m args below meth c Z.heap.size Q h k n pc Ls (.int x :: .int j :: .ref a :: st) := by
  obtain ⟨hx, hZ, hown, rfl, hml, hret, hnm, -⟩ := cx
  obtain ⟨d, rfl⟩ := d
  intro T locs cells slots X N eT hk hn
  obtain ⟨⟨cl, Ar, q, S, Nz, Hs, Gf⟩, Ex⟩ := A
  obtain ⟨T', h', X', e', W, stp⟩ := stI X hx hZ eT Ar (j := j) (inb_of S hj) (g := mkF m pc Ls (.int x :: .int j :: .ref a :: st)) rfl rfl d
  obtain ⟨s₂, o, st2, r⟩ := H h' W ⟨Arv.set Ar q S Nz Hs Gf rfl W _ rfl hl, Ex.wr W⟩ T' _ cells slots X' (Fr.snoc X' N g) e' hk hn
  exact ⟨s₂, o, stp _ st2, r⟩
theorem g_lastore {kx nx : Nat} (cx : Cx Z p s m meth c R kx nx own nm code maxL ret) {a : Addr} {cA : ClassId} {z j : Int32} {ad : String} {vs : List Value} {dv : Value} {x : Int64} (d : Dc code pc .lastore 1 pc') (A : Arx Z h a cA .long z vs dv ad) (hj : ¬ j < 0 ∧ j < z) (hl : j.toNatClampNeg < vs.length) (g : Z.heap.size ≤ a) (H : ∀ h', Wr h h' a j.toNatClampNeg (.long x) → Arx Z h' a cA .long z (vs.set j.toNatClampNeg (.long x)) dv ad → G p l e R s m args below meth c Z.heap.size Q h' k n pc' Ls st) : G p l e R s m args below meth c Z.heap.size Q h k n pc Ls (.long x :: .int j :: .ref a :: st) := by
  obtain ⟨hx, hZ, hown, rfl, hml, hret, hnm, -⟩ := cx
  obtain ⟨d, rfl⟩ := d
  intro T locs cells slots X N eT hk hn
  obtain ⟨⟨cl, Ar, q, S, Nz, Hs, Gf⟩, Ex⟩ := A
  obtain ⟨T', h', X', e', W, stp⟩ := stJ X hx hZ eT Ar (j := j) (inb_of S hj) (g := mkF m pc Ls (.long x :: .int j :: .ref a :: st)) rfl rfl d
  obtain ⟨s₂, o, st2, r⟩ := H h' W ⟨Arv.set Ar q S Nz Hs Gf rfl W _ rfl hl, Ex.wr W⟩ T' _ cells slots X' (Fr.snoc X' N g) e' hk hn
  exact ⟨s₂, o, stp _ st2, r⟩
theorem g_castore {kx nx : Nat} (cx : Cx Z p s m meth c R kx nx own nm code maxL ret) {a : Addr} {cA : ClassId} {z j : Int32} {ad : String} {vs : List Value} {dv : Value} {x : Int32} (d : Dc code pc .castore 1 pc') (A : Arx Z h a cA .char z vs dv ad) (hj : ¬ j < 0 ∧ j < z) (hl : j.toNatClampNeg < vs.length) (g : Z.heap.size ≤ a) (H : ∀ h', Wr h h' a j.toNatClampNeg (.int (nar .char x)) → Arx Z h' a cA .char z (vs.set j.toNatClampNeg (.int (nar .char x))) dv ad → G p l e R s m args below meth c Z.heap.size Q h' k n pc' Ls st) : G p l e R s m args below meth c Z.heap.size Q h k n pc Ls (.int x :: .int j :: .ref a :: st) := by
  obtain ⟨hx, hZ, hown, rfl, hml, hret, hnm, -⟩ := cx
  obtain ⟨d, rfl⟩ := d
  intro T locs cells slots X N eT hk hn
  obtain ⟨⟨cl, Ar, q, S, Nz, Hs, Gf⟩, Ex⟩ := A
  obtain ⟨T', h', X', e', W, stp⟩ := stC X hx hZ eT Ar (j := j) (inb_of S hj) (g := mkF m pc Ls (.int x :: .int j :: .ref a :: st)) rfl rfl d
  obtain ⟨s₂, o, st2, r⟩ := H h' W ⟨Arv.set Ar q S Nz Hs Gf (fits_nar_char _) W _ rfl hl, Ex.wr W⟩ T' _ cells slots X' (Fr.snoc X' N g) e' hk hn
  exact ⟨s₂, o, stp _ st2, r⟩
theorem g_bastore {kx nx : Nat} (cx : Cx Z p s m meth c R kx nx own nm code maxL ret) {a : Addr} {cA : ClassId} {z j : Int32} {ad : String} {vs : List Value} {dv : Value} {x : Int32} (d : Dc code pc .bastore 1 pc') (A : Arx Z h a cA .byte z vs dv ad) (hj : ¬ j < 0 ∧ j < z) (hl : j.toNatClampNeg < vs.length) (g : Z.heap.size ≤ a) (H : ∀ h', Wr h h' a j.toNatClampNeg (.int (nar .byte x)) → Arx Z h' a cA .byte z (vs.set j.toNatClampNeg (.int (nar .byte x))) dv ad → G p l e R s m args below meth c Z.heap.size Q h' k n pc' Ls st) : G p l e R s m args below meth c Z.heap.size Q h k n pc Ls (.int x :: .int j :: .ref a :: st) := by
  obtain ⟨hx, hZ, hown, rfl, hml, hret, hnm, -⟩ := cx
  obtain ⟨d, rfl⟩ := d
  intro T locs cells slots X N eT hk hn
  obtain ⟨⟨cl, Ar, q, S, Nz, Hs, Gf⟩, Ex⟩ := A
  obtain ⟨T', h', X', e', W, stp⟩ := stB X hx hZ eT Ar (j := j) (inb_of S hj) (g := mkF m pc Ls (.int x :: .int j :: .ref a :: st)) rfl rfl d
  obtain ⟨s₂, o, st2, r⟩ := H h' W ⟨Arv.set Ar q S Nz Hs Gf (fits_nar_byte _) W _ rfl hl, Ex.wr W⟩ T' _ cells slots X' (Fr.snoc X' N g) e' hk hn
  exact ⟨s₂, o, stp _ st2, r⟩
theorem g_aastore {kx nx : Nat} (cx : Cx Z p s m meth c R kx nx own nm code maxL ret) {a : Addr} {cA : ClassId} {z j : Int32} {ad : String} {vs : List Value} {dv v : Value} {ty : FieldType} (d : Dc code pc .aastore 1 pc') (A : Arx Z h a cA ty z vs dv ad) (hty : ty.isReference = true) (hf : fits ty v = true) (So : Sto Z h a v) (hj : ¬ j < 0 ∧ j < z) (hl : j.toNatClampNeg < vs.length) (g : Z.heap.size ≤ a) (H : ∀ h', Wr h h' a j.toNatClampNeg v → Arx Z h' a cA ty z (vs.set j.toNatClampNeg v) dv ad → G p l e R s m args below meth c Z.heap.size Q h' k n pc' Ls st) : G p l e R s m args below meth c Z.heap.size Q h k n pc Ls (v :: .int j :: .ref a :: st) := by
  obtain ⟨hx, hZ, hown, rfl, hml, hret, hnm, -⟩ := cx
  obtain ⟨d, rfl⟩ := d
  intro T locs cells slots X N eT hk hn
  obtain ⟨⟨cl, Ar, q, S, Nz, Hs, Gf⟩, Ex⟩ := A
  obtain ⟨T', h', X', e', W, stp⟩ := stR X hx hZ eT Ar (j := j) (inb_of S hj) hty So (g := mkF m pc Ls (v :: .int j :: .ref a :: st)) rfl rfl d
  obtain ⟨s₂, o, st2, r⟩ := H h' W ⟨Arv.set Ar q S Nz Hs Gf hf W _ rfl hl, Ex.wr W⟩ T' _ cells slots X' (Fr.snoc X' N g) e' hk hn
  exact ⟨s₂, o, stp _ st2, r⟩
theorem g_iaload {kx nx : Nat} (cx : Cx Z p s m meth c R kx nx own nm code maxL ret) {a : Addr} {cA : ClassId} {z j : Int32} {vs : List Value} {dv v : Value} (d : Dc code pc .iaload 1 pc') (A : Arv Z h a cA .int z vs dv) (hj : ¬ j < 0 ∧ j < z) (hv : vs.getD j.toNatClampNeg dv = v) (H : G p l e R s m args below meth c Z.heap.size Q h k n pc' Ls (v :: st)) : G p l e R s m args below meth c Z.heap.size Q h k n pc Ls (.int j :: .ref a :: st) := by
  obtain ⟨hx, hZ, hown, rfl, hml, hret, hnm, -⟩ := cx
  obtain ⟨d, rfl⟩ := d
  intro T locs cells slots X N eT hk hn
  obtain ⟨cl, Ar, q, S, Nz, Hs, Gf⟩ := A
  obtain ⟨s₂, o, st2, r⟩ := H T _ cells slots X N eT hk hn
  exact ⟨s₂, o, X.iaload hx (j := j) (v := v) (by rw [eT]; exact Ar.1) (State.isArrayOf_alike hZ.alike Ar.2.1) Ar.2.2 (inb_of S hj) (Hs.at (inb_of S hj) hv) (g := mkF m pc Ls (.int j :: .ref a :: st)) rfl rfl d _ st2, r⟩
theorem g_laload {kx nx : Nat} (cx : Cx Z p s m meth c R kx nx own nm code maxL ret) {a : Addr} {cA : ClassId} {z j : Int32} {vs : List Value} {dv v : Value} (d : Dc code pc .laload 1 pc') (A : Arv Z h a cA .long z vs dv) (hj : ¬ j < 0 ∧ j < z) (hv : vs.getD j.toNatClampNeg dv = v) (H : G p l e R s m args below meth c Z.heap.size Q h k n pc' Ls (v :: st)) : G p l e R s m args below meth c Z.heap.size Q h k n pc Ls (.int j :: .ref a :: st) := by
  obtain ⟨hx, hZ, hown, rfl, hml, hret, hnm, -⟩ := cx
  obtain ⟨d, rfl⟩ := d
  intro T locs cells slots X N eT hk hn
  obtain ⟨cl, Ar, q, S, Nz, Hs, Gf⟩ := A
  obtain ⟨s₂, o, st2, r⟩ := H T _ cells slots X N eT hk hn
  exact ⟨s₂, o, X.laload hx (j := j) (v := v) (by rw [eT]; exact Ar.1) (State.isArrayOf_alike hZ.alike Ar.2.1) Ar.2.2 (inb_of S hj) (Hs.at (inb_of S hj) hv) (g := mkF m pc Ls (.int j :: .ref a :: st)) rfl rfl d _ st2, r⟩
theorem g_caload {kx nx : Nat} (cx : Cx Z p s m meth c R kx nx own nm code maxL ret) {a : Addr} {cA : ClassId} {z j : Int32} {vs : List Value} {dv v : Value} (d : Dc code pc .caload 1 pc') (A : Arv Z h a cA .char z vs dv) (hj : ¬ j < 0 ∧ j < z) (hv : vs.getD j.toNatClampNeg dv = v) (H : G p l e R s m args below meth c Z.heap.size Q h k n pc' Ls (v :: st)) : G p l e R s m args below meth c Z.heap.size Q h k n pc Ls (.int j :: .ref a :: st) := by
  obtain ⟨hx, hZ, hown, rfl, hml, hret, hnm, -⟩ := cx
  obtain ⟨d, rfl⟩ := d
  intro T locs cells slots X N eT hk hn
  obtain ⟨cl, Ar, q, S, Nz, Hs, Gf⟩ := A
  obtain ⟨s₂, o, st2, r⟩ := H T _ cells slots X N eT hk hn
  exact ⟨s₂, o, X.caload hx (j := j) (v := v) (by rw [eT]; exact Ar.1) (State.isArrayOf_alike hZ.alike Ar.2.1) Ar.2.2 (inb_of S hj) (Hs.at (inb_of S hj) hv) (g := mkF m pc Ls (.int j :: .ref a :: st)) rfl rfl d _ st2, r⟩
theorem g_baload {kx nx : Nat} (cx : Cx Z p s m meth c R kx nx own nm code maxL ret) {a : Addr} {cA : ClassId} {z j : Int32} {vs : List Value} {dv v : Value} (d : Dc code pc .baload 1 pc') (A : Arv Z h a cA .byte z vs dv) (hj : ¬ j < 0 ∧ j < z) (hv : vs.getD j.toNatClampNeg dv = v) (H : G p l e R s m args below meth c Z.heap.size Q h k n pc' Ls (v :: st)) : G p l e R s m args below meth c Z.heap.size Q h k n pc Ls (.int j :: .ref a :: st) := by
  obtain ⟨hx, hZ, hown, rfl, hml, hret, hnm, -⟩ := cx
  obtain ⟨d, rfl⟩ := d
  intro T locs cells slots X N eT hk hn
  obtain ⟨cl, Ar, q, S, Nz, Hs, Gf⟩ := A
  obtain ⟨s₂, o, st2, r⟩ := H T _ cells slots X N eT hk hn
  exact ⟨s₂, o, X.baloadBytes hx (j := j) (v := v) (by rw [eT]; exact Ar.1) (State.isArrayOf_alike hZ.alike Ar.2.1) Ar.2.2 (inb_of S hj) (Hs.at (inb_of S hj) hv) (g := mkF m pc Ls (.int j :: .ref a :: st)) rfl rfl d _ st2, r⟩
theorem g_aaload {kx nx : Nat} (cx : Cx Z p s m meth c R kx nx own nm code maxL ret) {a : Addr} {cA : ClassId} {z j : Int32} {vs : List Value} {dv v : Value} {ty : FieldType} (d : Dc code pc .aaload 1 pc') (A : Arv Z h a cA ty z vs dv) (hty : ty.isReference = true) (hj : ¬ j < 0 ∧ j < z) (hv : vs.getD j.toNatClampNeg dv = v) (H : G p l e R s m args below meth c Z.heap.size Q h k n pc' Ls (v :: st)) : G p l e R s m args below meth c Z.heap.size Q h k n pc Ls (.int j :: .ref a :: st) := by
  obtain ⟨hx, hZ, hown, rfl, hml, hret, hnm, -⟩ := cx
  obtain ⟨d, rfl⟩ := d
  intro T locs cells slots X N eT hk hn
  obtain ⟨cl, Ar, q, S, Nz, Hs, Gf⟩ := A
  obtain ⟨s₂, o, st2, r⟩ := H T _ cells slots X N eT hk hn
  exact ⟨s₂, o, X.aaload hx (j := j) (v := v) (by rw [eT]; exact Ar.1) (State.isArrayOf_alike hZ.alike Ar.2.1) hty Ar.2.2 (inb_of S hj) (Hs.at (inb_of S hj) hv) (g := mkF m pc Ls (.int j :: .ref a :: st)) rfl rfl d _ st2, r⟩
theorem g_arraylength {kx nx : Nat} (cx : Cx Z p s m meth c R kx nx own nm code maxL ret) {a : Addr} {cA : ClassId} {z : Int32} {vs : List Value} {dv : Value} {ty : FieldType} (d : Dc code pc .arraylength 1 pc') (A : Arv Z h a cA ty z vs dv) (H : G p l e R s m args below meth c Z.heap.size Q h k n pc' Ls (.int z :: st)) : G p l e R s m args below meth c Z.heap.size Q h k n pc Ls (.ref a :: st) := by
  obtain ⟨hx, hZ, hown, rfl, hml, hret, hnm, -⟩ := cx
  obtain ⟨d, rfl⟩ := d
  intro T locs cells slots X N eT hk hn
  obtain ⟨cl, Ar, q, S, Nz, Hs, Gf⟩ := A
  obtain ⟨s₂, o, st2, r⟩ := H T _ cells slots X N eT hk hn
  exact ⟨s₂, o, X.arraylength hx (by rw [eT]; exact Ar.1) (State.isArrayOf_alike hZ.alike Ar.2.1) (g := mkF m pc Ls (.ref a :: st)) rfl rfl d _ (by rw [len_of S Nz]; exact st2), r⟩
theorem g_checkcast {kx nx : Nat} (cx : Cx Z p s m meth c R kx nx own nm code maxL ret) {K : String} {i : Nat} {a : Addr} (d : Dc code pc (.checkcast i) 3 pc') (w : (Jvm.Cond.classLink own i K).before a0 Z = true) (F : Ins Z h a K true) (H : G p l e R s m args below meth c Z.heap.size Q h k n pc' Ls (.ref a :: st)) : G p l e R s m args below meth c Z.heap.size Q h k n pc Ls (.ref a :: st) := by
  obtain ⟨hx, hZ, hown, rfl, hml, hret, hnm, -⟩ := cx
  obtain ⟨d, rfl⟩ := d
  intro T locs cells slots X N eT hk hn
  obtain ⟨T', X', e', stp⟩ := castY X hx hZ hown w eT F (g := mkF m pc Ls (.ref a :: st)) rfl rfl d
  obtain ⟨s₂, o, st2, r⟩ := H T' _ cells slots X' N e' hk hn
  exact ⟨s₂, o, stp _ st2, r⟩
theorem g_instanceY {kx nx : Nat} (cx : Cx Z p s m meth c R kx nx own nm code maxL ret) {K : String} {i : Nat} {a : Addr} (d : Dc code pc (.instanceof i) 3 pc') (w : (Jvm.Cond.classLink own i K).before a0 Z = true) (F : Ins Z h a K true) (H : G p l e R s m args below meth c Z.heap.size Q h k n pc' Ls (.int 1 :: st)) : G p l e R s m args below meth c Z.heap.size Q h k n pc Ls (.ref a :: st) := by
  obtain ⟨hx, hZ, hown, rfl, hml, hret, hnm, -⟩ := cx
  obtain ⟨d, rfl⟩ := d
  intro T locs cells slots X N eT hk hn
  obtain ⟨T', X', e', stp⟩ := instY X hx hZ hown w eT F (g := mkF m pc Ls (.ref a :: st)) rfl rfl d
  obtain ⟨s₂, o, st2, r⟩ := H T' _ cells slots X' N e' hk hn
  exact ⟨s₂, o, stp _ st2, r⟩
theorem g_ret {kx nx : Nat} (cx : Cx Z p s m meth c R kx nx own nm code maxL ret) {t : FieldType} {w v : Value} {i : Instr} (d : Dc code pc i 1 pc') (hR : ret = some t)
    (hs : ∀ T locs cells slots, Stand p l e R s m args below meth c T locs cells slots → ∀ fs, (∀ (f : JFrame) (acts : List Action), f.method = m → f.locked = none → f.entered = [] → (doReturn e (T.setTop f) acts (some v)).1 = T.setFrames fs) → Steps p.tables e below (T.setTop (mkF m pc Ls (w :: st))) (T.setFrames fs))
    (hk : k ≤ R.cells) (hn : n ≤ R.slots) (q : Q (some v) h) : G p l e R s m args below meth c Z.heap.size Q h k n pc Ls (w :: st) := by
  obtain ⟨hx, hZ, hown, rfl, hml, rfl, hnm, hlk⟩ := cx
  intro T locs cells slots X N eT hk' hn'
  obtain ⟨fs, hr, hrun, hended, hW, hsame⟩ := X.leave (v := some v) (fun h => by rw [hR] at h; cases h) hlk
  exact ⟨_, _, hs T locs cells slots X fs hr, hrun, hended, _, locs, rfl, ⟨by show Q _ T.heap; rw [eT]; exact q, N⟩, ⟨_, rfl⟩, hW, hsame.mono (by omega) (by omega)⟩
theorem g_retI {kx nx : Nat} (cx : Cx Z p s m meth c R kx nx own nm code maxL ret) {x : Int32} (d : Dc code pc .ireturn 1 pc') (hR : ret = some .int) (hk : k ≤ R.cells) (hn : n ≤ R.slots) (q : Q (some (.int x)) h) : G p l e R s m args below meth c Z.heap.size Q h k n pc Ls (.int x :: st) :=
  g_ret cx (t := .int) d hR (fun T locs cells slots X fs hl => retOut X cx.1 (cx.2.2.2.2.2.1.trans hR) rfl (Or.inl ⟨rfl, Or.inl rfl, _, rfl⟩) (by rw [cx.2.2.2.1]; exact d.1) hl) hk hn q
theorem g_retJ {kx nx : Nat} (cx : Cx Z p s m meth c R kx nx own nm code maxL ret) {x : Int64} (d : Dc code pc .lreturn 1 pc') (hR : ret = some .long) (hk : k ≤ R.cells) (hn : n ≤ R.slots) (q : Q (some (.long x)) h) : G p l e R s m args below meth c Z.heap.size Q h k n pc Ls (.long x :: st) :=
  g_ret cx (t := .long) d hR (fun T locs cells slots X fs hl => retOut X cx.1 (cx.2.2.2.2.2.1.trans hR) rfl (Or.inr (Or.inl ⟨rfl, rfl, _, rfl⟩)) (by rw [cx.2.2.2.1]; exact d.1) hl) hk hn q
theorem g_retN {kx nx : Nat} (cx : Cx Z p s m meth c R kx nx own nm code maxL ret) {x : Int32} {t : FieldType} (d : Dc code pc .ireturn 1 pc') (hR : ret = some t) (ht : t = .boolean ∨ t = .byte ∨ t = .char ∨ t = .short) (hk : k ≤ R.cells) (hn : n ≤ R.slots) (q : Q (some (.int (nar t x))) h) : G p l e R s m args below meth c Z.heap.size Q h k n pc Ls (.int x :: st) :=
  g_ret cx (t := t) d hR (fun T locs cells slots X fs hl => retN X cx.1 (cx.2.2.2.2.2.1.trans hR) ht (by rw [cx.2.2.2.1]; exact d.1) hl) hk hn q
theorem g_retZ {kx nx : Nat} (cx : Cx Z p s m meth c R kx nx own nm code maxL ret) {x : Int32} (d : Dc code pc .ireturn 1 pc') (hR : ret = some .boolean) (hx01 : nar .boolean x = x) (hk : k ≤ R.cells) (hn : n ≤ R.slots) (q : Q (some (.int x)) h) : G p l e R s m args below meth c Z.heap.size Q h k n pc Ls (.int x :: st) :=
  g_retN cx d hR (Or.inl rfl) hk hn (by rw [hx01]; exact q)
theorem g_retA {kx nx : Nat} (cx : Cx Z p s m meth c R kx nx own nm code maxL ret) {w : Value} {t : FieldType} (d : Dc code pc .areturn 1 pc') (hR : ret = some t) (ht : t.isReference = true) (hw : w.isRef = true) (hnar : narrow t w = w) (hk : k ≤ R.cells) (hn : n ≤ R.slots) (q : Q (some w) h) : G p l e R s m args below meth c Z.heap.size Q h k n pc Ls (w :: st) :=
  g_ret cx (t := t) d hR (fun T locs cells slots X fs hl => retOut X cx.1 (cx.2.2.2.2.2.1.trans hR) hnar (Or.inr (Or.inr (Or.inr (Or.inr ⟨rfl, ht, hw⟩)))) (by rw [cx.2.2.2.1]; exact d.1) hl) hk hn q
theorem g_retV {kx nx : Nat} (cx : Cx Z p s m meth c R kx nx own nm code maxL ret) (d : Dc code pc .return_ 1 pc') (hR : ret = none) (hk : k ≤ R.cells) (hn : n ≤ R.slots) (q : Q none h) : G p l e R s m args below meth c Z.heap.size Q h k n pc Ls [] := by
  obtain ⟨hx, hZ, hown, rfl, hml, rfl, hnm, hlk⟩ := cx
  intro T locs cells slots X N eT hk' hn'
  obtain ⟨fs, hr, hrun, hended, hW, hsame⟩ := X.leave (v := none) (fun _ => rfl) hlk
  exact ⟨_, _, X.returnOut hx hR d.1 hr, hrun, hended, _, locs, rfl, ⟨by show Q _ T.heap; rw [eT]; exact q, N⟩, ⟨_, rfl⟩, hW, hsame.mono (by omega) (by omega)⟩
theorem g_initO {kx nx : Nat} (cx : Cx Z p s m meth c R kx nx own nm code maxL ret) {i W : Nat} {a : Addr} (d : Dc code pc (.invokespecial i) 3 pc') (w1 : (Jvm.Cond.methodLink own i Lib.objectInit).before a0 Z = true) (w2 : (Jvm.Cond.instanceMethod Lib.objectInit).before a0 Z = true) (w3 : (Jvm.Cond.code Lib.objectInit ⟨#[0xb1]⟩ 1 none).before a0 Z = true) (hsz : Ls.size = maxL) (hf : 1 ≤ R.frames) (hW : (st.map fun v => v.category).sum ≤ W) (hl : W + 12 ≤ R.locals)
    (H : G p l e R s m args below meth c Z.heap.size Q h k n pc' Ls st) : G p l e R s m args below meth c Z.heap.size Q h k n pc Ls (.ref a :: st) := by
  obtain ⟨hx, hZ, hown, rfl, hml, hret, hnm, -⟩ := cx
  obtain ⟨d, rfl⟩ := d
  intro T locs cells slots X N eT hk hn
  obtain ⟨T', X', e', stp⟩ := initO X hx hZ hown w1 w2 w3 eT (g := mkF m pc Ls (.ref a :: st)) rfl (by rw [hml]; exact hsz) rfl d hf (W := W) (by show 2 * 0 + _ ≤ _; omega) hl
  obtain ⟨s₂, o, st2, r⟩ := H T' locs cells slots X' N e' hk hn
  exact ⟨s₂, o, stp _ st2, r⟩
theorem own_dummy : True := trivial
theorem g_static {kx nx : Nat} (cx : Cx Z p s m meth c R kx nx own nm code maxL ret) {i W k' n' maxL' : Nat} {bytes : ByteArray} {ret' : Option FieldType} {rm : Room} {argsL : List Value} {Q' : Option Value → Heap → Prop} {y : MethodName} (d : Dc code pc (.invokestatic i) 3 pc') (w1 : (Jvm.Cond.methodLink own i y).before a0 Z = true) (w2 : (Jvm.Cond.static y).before a0 Z = true) (w3 : (Jvm.Cond.initialized y.cls).before a0 Z = true) (w4 : (Jvm.Cond.code y bytes maxL' ret').before a0 Z = true) (hy : y.cls ≠ "java/lang/invoke/MethodHandle" ∧ y.cls ≠ "java/lang/invoke/VarHandle") (M : Met l Z y bytes maxL' ret' rm argsL.toArray h Q') (hsz : Ls.size = maxL) (hlen : ∀ sig, parseMethodDescriptor y.desc = some sig → argsL.length = sig.parameters.length) (hf : rm.frames + 1 ≤ R.frames) (hW : (rest.map fun v => v.category).sum ≤ W) (hl : W + (maxL' + 11) + rm.locals ≤ R.locals) (hk1 : k + rm.cells = k') (hn1 : n + rm.slots = n') (hkR : k' ≤ R.cells) (hnR : n' ≤ R.slots)
    (hst : st = argsL.reverse ++ rest) (H : ∀ v h', Q' v h' → G p l e R s m args below meth c Z.heap.size Q h' k' n' pc' Ls (v.toList ++ rest)) : G p l e R s m args below meth c Z.heap.size Q h k n pc Ls st := by
  obtain ⟨hx, hZ, hown, rfl, hml, hret, hnm, -⟩ := cx
  obtain ⟨d, rfl⟩ := d
  subst hk1 hn1 hst
  intro T locs cells slots X N eT hk hn
  obtain ⟨v, _, ⟨T', L', k1', n1'⟩, -, X', ⟨Lc, hQ, l1, l2, l3⟩, stp⟩ := Jvm.LawKit.callS X hx (y := y) hown (mvT hZ w1) (mvT hZ w2) (mvT hZ w3) (mvT hZ w4) hy (backOf (W := W) (Q := fun v h L => Q' v h ∧ Fr Z.heap.size L) (M []) hZ w4 w3 hf hl) (g := mkF m pc Ls (argsL.reverse ++ rest)) rfl (by rw [hml]; exact hsz)  (argsL := argsL) (rest := rest) hlen rfl (by show 2 * 0 + _ ≤ _; omega) d (fun _ _ => ⟨rfl, eT, (by show cells + rm.cells ≤ _; omega), (by show slots + rm.slots ≤ _; omega)⟩)
  dsimp only [Pt.U, Pt.locs, Pt.cells, Pt.slots] at X' l1 l2 l3 stp hQ
  subst l1 l2 l3
  obtain ⟨s₂, o, st2, r⟩ := H v T'.heap hQ.1 T' _ _ _ X' (Fr.app N hQ.2) rfl (by omega) (by omega)
  exact ⟨s₂, o, stp _ st2, r⟩
theorem g_special {kx nx : Nat} (cx : Cx Z p s m meth c R kx nx own nm code maxL ret) {i W k' n' maxL' : Nat} {bytes : ByteArray} {ret' : Option FieldType} {rm : Room} {argsL : List Value} {Q' : Option Value → Heap → Prop} {y : MethodName} {a : Addr} (d : Dc code pc (.invokespecial i) 3 pc') (hyn : y.name = "<init>") (hr0 : ret' = none) (w1 : (Jvm.Cond.methodLink own i y).before a0 Z = true) (w2 : (Jvm.Cond.instanceMethod y).before a0 Z = true) (w3 : (Jvm.Cond.initialized y.cls).before a0 Z = true) (w4 : (Jvm.Cond.code y bytes maxL' ret').before a0 Z = true) (hy : y.cls ≠ "java/lang/invoke/MethodHandle" ∧ y.cls ≠ "java/lang/invoke/VarHandle") (M : Met l Z y bytes maxL' ret' rm (.ref a :: argsL).toArray h Q') (hsz : Ls.size = maxL) (hlen : ∀ sig, parseMethodDescriptor y.desc = some sig → argsL.length = sig.parameters.length) (hf : rm.frames + 1 ≤ R.frames) (hW : (rest.map fun v => v.category).sum ≤ W) (hl : W + (maxL' + 11) + rm.locals ≤ R.locals) (hk1 : k + rm.cells = k') (hn1 : n + rm.slots = n') (hkR : k' ≤ R.cells) (hnR : n' ≤ R.slots)
    (hst : st = argsL.reverse ++ .ref a :: rest) (H : ∀ v h', Q' v h' → G p l e R s m args below meth c Z.heap.size Q h' k' n' pc' Ls (v.toList ++ rest)) : G p l e R s m args below meth c Z.heap.size Q h k n pc Ls st := by
  obtain ⟨hx, hZ, hown, rfl, hml, hret, hnm, -⟩ := cx
  obtain ⟨d, rfl⟩ := d
  subst hk1 hn1 hst
  intro T locs cells slots X N eT hk hn
  subst hr0
  obtain ⟨v, _, ⟨T', L', k1', n1'⟩, -, X', ⟨Lc, hQ, l1, l2, l3⟩, stp⟩ := X.specialBack hx (y := y) hyn hown (mvT hZ w1) (mvT hZ w2) (mvT hZ w4) hy (backOf (W := W) (Q := fun v h L => Q' v h ∧ Fr Z.heap.size L) (M []) hZ w4 w3 hf hl) (g := mkF m pc Ls (argsL.reverse ++ .ref a :: rest)) rfl (by rw [hml]; exact hsz) (Steps.refl _) (a := a) (argsL := argsL) (rest := rest) hlen rfl (by show 2 * 0 + _ ≤ _; omega) d (fun _ _ => ⟨rfl, eT, (by show cells + rm.cells ≤ _; omega), (by show slots + rm.slots ≤ _; omega)⟩)
  dsimp only [Pt.U, Pt.locs, Pt.cells, Pt.slots] at X' l1 l2 l3 stp hQ
  subst l1 l2 l3
  obtain ⟨s₂, o, st2, r⟩ := H v T'.heap hQ.1 T' _ _ _ X' (Fr.app N hQ.2) rfl (by omega) (by omega)
  exact ⟨s₂, o, stp.trans st2, r⟩
theorem g_virtual {kx nx : Nat} (cx : Cx Z p s m meth c R kx nx own nm code maxL ret) {i W k' n' maxL' : Nat} {bytes : ByteArray} {ret' : Option FieldType} {rm : Room} {argsL : List Value} {Q' : Option Value → Heap → Prop} {y z : MethodName} {a : Addr} {C : String} (d : Dc code pc (.invokevirtual i) 3 pc') (w1 : (Jvm.Cond.methodLink own i y).before a0 Z = true) (w2 : (Jvm.Cond.declares y).before a0 Z = true) (w3 : (Jvm.Cond.initialized z.cls).before a0 Z = true) (w4 : (Jvm.Cond.code z bytes maxL' ret').before a0 Z = true) (w5 : (Jvm.Cond.selects C y z).before a0 Z = true) (w6 : (Jvm.Cond.instanceMethod z).before a0 Z = true) (hnf : y = z) (hy : y.cls ≠ "java/lang/invoke/MethodHandle" ∧ y.cls ≠ "java/lang/invoke/VarHandle") (E : Exa Z h a C) (M : Met l Z z bytes maxL' ret' rm (.ref a :: argsL).toArray h Q') (hsz : Ls.size = maxL) (hlen : ∀ sig, parseMethodDescriptor y.desc = some sig → argsL.length = sig.parameters.length) (hf : rm.frames + 1 ≤ R.frames) (hW : (rest.map fun v => v.category).sum ≤ W) (hl : W + (maxL' + 11) + rm.locals ≤ R.locals) (hk1 : k + rm.cells = k') (hn1 : n + rm.slots = n') (hkR : k' ≤ R.cells) (hnR : n' ≤ R.slots)
    (hst : st = argsL.reverse ++ .ref a :: rest) (H : ∀ v h', Q' v h' → G p l e R s m args below meth c Z.heap.size Q h' k' n' pc' Ls (v.toList ++ rest)) : G p l e R s m args below meth c Z.heap.size Q h k n pc Ls st := by
  obtain ⟨hx, hZ, hown, rfl, hml, hret, hnm, -⟩ := cx
  obtain ⟨d, rfl⟩ := d
  subst hk1 hn1 hst
  intro T locs cells slots X N eT hk hn
  subst hnf
  obtain ⟨cq, kq, q1, q2, q3⟩ := isOf hZ eT E
  obtain ⟨v, _, ⟨T', L', k1', n1'⟩, -, X', ⟨Lc, hQ, l1, l2, l3⟩, stp⟩ := X.virtualBack hx (y := y) (z := y) hown (mvT hZ w1) (mvT hZ w2) (notFace_of_selects (args := #[]) (mvT hZ w5)) (mvT hZ w5) (mvT hZ w6) hy (backOf (W := W) (Q := fun v h L => Q' v h ∧ Fr Z.heap.size L) (M []) hZ w4 w3 hf hl) q1 q3 (g := mkF m pc Ls (argsL.reverse ++ .ref a :: rest)) rfl (by rw [hml]; exact hsz) (Steps.refl _) (argsL := argsL) (rest := rest) hlen rfl (by show 2 * 0 + _ ≤ _; omega) d (fun _ _ => ⟨rfl, eT, (by show cells + rm.cells ≤ _; omega), (by show slots + rm.slots ≤ _; omega)⟩)
  dsimp only [Pt.U, Pt.locs, Pt.cells, Pt.slots] at X' l1 l2 l3 stp hQ
  subst l1 l2 l3
  obtain ⟨s₂, o, st2, r⟩ := H v T'.heap hQ.1 T' _ _ _ X' (Fr.app N hQ.2) rfl (by omega) (by omega)
  exact ⟨s₂, o, stp.trans st2, r⟩
theorem g_private {kx nx : Nat} (cx : Cx Z p s m meth c R kx nx own nm code maxL ret) {i W k' n' maxL' : Nat} {bytes : ByteArray} {ret' : Option FieldType} {rm : Room} {argsL : List Value} {Q' : Option Value → Heap → Prop} {y : MethodName} {a : Addr} (d : Dc code pc (.invokevirtual i) 3 pc') (w1 : (Jvm.Cond.methodLink own i y).before a0 Z = true) (w2 : (Jvm.Cond.instanceMethod y).before a0 Z = true) (w3 : (Jvm.Cond.initialized y.cls).before a0 Z = true) (w4 : (Jvm.Cond.code y bytes maxL' ret').before a0 Z = true) (w5 : (Jvm.Cond.selects y.cls y y).before a0 Z = true) (w6 : (Jvm.Cond.privateMethod y).before a0 Z = true) (hy : y.cls ≠ "java/lang/invoke/MethodHandle" ∧ y.cls ≠ "java/lang/invoke/VarHandle") {C : String} (E : Exa Z h a C) (M : Met l Z y bytes maxL' ret' rm (.ref a :: argsL).toArray h Q') (hsz : Ls.size = maxL) (hlen : ∀ sig, parseMethodDescriptor y.desc = some sig → argsL.length = sig.parameters.length) (hf : rm.frames + 1 ≤ R.frames) (hW : (rest.map fun v => v.category).sum ≤ W) (hl : W + (maxL' + 11) + rm.locals ≤ R.locals) (hk1 : k + rm.cells = k') (hn1 : n + rm.slots = n') (hkR : k' ≤ R.cells) (hnR : n' ≤ R.slots)
    (hst : st = argsL.reverse ++ .ref a :: rest) (H : ∀ v h', Q' v h' → G p l e R s m args below meth c Z.heap.size Q h' k' n' pc' Ls (v.toList ++ rest)) : G p l e R s m args below meth c Z.heap.size Q h k n pc Ls st := by
  obtain ⟨hx, hZ, hown, rfl, hml, hret, hnm, -⟩ := cx
  obtain ⟨d, rfl⟩ := d
  subst hk1 hn1 hst
  intro T locs cells slots X N eT hk hn
  obtain ⟨cq, q1, q2⟩ := E.cell
  obtain ⟨v, _, ⟨T', L', k1', n1'⟩, -, X', ⟨Lc, hQ, l1, l2, l3⟩, stp⟩ := X.privateBack hx (y := y) hown (mvT hZ w1) (mvT hZ w2) (mvT hZ w5) (Cond.privateMethod_at (mvP hZ w6 (args := #[]))) (mvT hZ w4) hy (backOf (W := W) (Q := fun v h L => Q' v h ∧ Fr Z.heap.size L) (M []) hZ w4 w3 hf hl) (g := mkF m pc Ls (argsL.reverse ++ .ref a :: rest)) rfl (by rw [hml]; exact hsz) (Steps.refl _) (a := a) (by rw [eT]; exact q1) q2 (argsL := argsL) (rest := rest) hlen rfl (by show 2 * 0 + _ ≤ _; omega) d (fun _ _ => ⟨rfl, eT, (by show cells + rm.cells ≤ _; omega), (by show slots + rm.slots ≤ _; omega)⟩)
  dsimp only [Pt.U, Pt.locs, Pt.cells, Pt.slots] at X' l1 l2 l3 stp hQ
  subst l1 l2 l3
  obtain ⟨s₂, o, st2, r⟩ := H v T'.heap hQ.1 T' _ _ _ X' (Fr.app N hQ.2) rfl (by omega) (by omega)
  exact ⟨s₂, o, stp.trans st2, r⟩
theorem g_virtualUp {kx nx : Nat} (cx : Cx Z p s m meth c R kx nx own nm code maxL ret) {i W k' n' maxL' : Nat} {bytes : ByteArray} {ret' : Option FieldType} {rm : Room} {argsL : List Value} {Q' : Option Value → Heap → Prop} {x y : MethodName} {a : Addr} {C owner : String} (d : Dc code pc (.invokevirtual i) 3 pc') (w1 : (Jvm.Cond.methodLink own i x).before a0 Z = true) (w0 : (Jvm.Cond.sameMethod x.cls owner x.name x.desc).before a0 Z = true) (w2 : (Jvm.Cond.declares ⟨owner, x.name, x.desc⟩).before a0 Z = true) (w3 : (Jvm.Cond.initialized y.cls).before a0 Z = true) (w4 : (Jvm.Cond.code y bytes maxL' ret').before a0 Z = true) (w5 : (Jvm.Cond.selects C x y).before a0 Z = true) (w6 : (Jvm.Cond.instanceMethod y).before a0 Z = true) (hy : owner ≠ "java/lang/invoke/MethodHandle" ∧ owner ≠ "java/lang/invoke/VarHandle") (E : Exa Z h a C) (M : Met l Z y bytes maxL' ret' rm (.ref a :: argsL).toArray h Q') (hsz : Ls.size = maxL) (hlen : ∀ sig, parseMethodDescriptor x.desc = some sig → argsL.length = sig.parameters.length) (hf : rm.frames + 1 ≤ R.frames) (hW : (rest.map fun v => v.category).sum ≤ W) (hl : W + (maxL' + 11) + rm.locals ≤ R.locals) (hk1 : k + rm.cells = k') (hn1 : n + rm.slots = n') (hkR : k' ≤ R.cells) (hnR : n' ≤ R.slots)
    (hst : st = argsL.reverse ++ .ref a :: rest) (H : ∀ v h', Q' v h' → G p l e R s m args below meth c Z.heap.size Q h' k' n' pc' Ls (v.toList ++ rest)) : G p l e R s m args below meth c Z.heap.size Q h k n pc Ls st := by
  obtain ⟨hx, hZ, hown, rfl, hml, hret, hnm, -⟩ := cx
  obtain ⟨d, rfl⟩ := d
  subst hk1 hn1 hst
  intro T locs cells slots X N eT hk hn
  obtain ⟨cq, kq, q1, q2, q3⟩ := isOf hZ eT E
  obtain ⟨v, _, ⟨T', L', k1', n1'⟩, -, X', ⟨Lc, hQ, l1, l2, l3⟩, stp⟩ := X.virtualBackUp hx (x := x) (y := y) hown (mvT hZ w1) (mvT hZ w0) (mvT hZ w2) hy (mvT hZ w5) (mvT hZ w6) (backOf (W := W) (Q := fun v h L => Q' v h ∧ Fr Z.heap.size L) (M []) hZ w4 w3 hf hl) q1 q3 (g := mkF m pc Ls (argsL.reverse ++ .ref a :: rest)) rfl (by rw [hml]; exact hsz) (Steps.refl _) (argsL := argsL) (rest := rest) hlen rfl (by show 2 * 0 + _ ≤ _; omega) d (fun _ _ => ⟨rfl, eT, (by show cells + rm.cells ≤ _; omega), (by show slots + rm.slots ≤ _; omega)⟩)
  dsimp only [Pt.U, Pt.locs, Pt.cells, Pt.slots] at X' l1 l2 l3 stp hQ
  subst l1 l2 l3
  obtain ⟨s₂, o, st2, r⟩ := H v T'.heap hQ.1 T' _ _ _ X' (Fr.app N hQ.2) rfl (by omega) (by omega)
  exact ⟨s₂, o, stp.trans st2, r⟩
theorem specialRef {T : State} {locs : List Loc} {cells slots : Nat} (X : Stand p l e R s m args below meth c T locs cells slots) (hexec : p.tables.exec = Jvm.exec) (hZ : Z.Warmed39 s.vm) {index : Nat} {y : MethodName} (hy1 : y.name = "<init>") (hown : s.vm.findClass own = some m.cls)
    (href : (Jvm.Cond.methodRef own index y).before a0 Z = true) (hinst : (Jvm.Cond.instanceMethod y).before a0 Z = true) {bytes : ByteArray} {mL : Nat} (hcode : (Jvm.Cond.code y bytes mL none).before a0 Z = true) (hy : y.cls ≠ "java/lang/invoke/MethodHandle" ∧ y.cls ≠ "java/lang/invoke/VarHandle")
    {W : Nat} {Pre : Pt → Array Value → Prop} {Post : Pt → Array Value → Option Value → Pt → Prop} (hK : Back l R p e below s args y 3 W Pre Post)
    {g : JFrame} (hg : g.method = m) (hsize : g.locals.size = c.maxLocals) {a : Addr} {argsL rest : List Value}
    (hlen : ∀ sig, parseMethodDescriptor y.desc = some sig → argsL.length = sig.parameters.length) (hstack : g.stack = argsL.reverse ++ .ref a :: rest) (hW : 2 * g.monitorRoom + (rest.map fun v => v.category).sum ≤ W)
    (hdg : decode c.code g.pc = .ok (.invokespecial index, 3)) (hpre : Pre ⟨T, locs, cells, slots⟩ (.ref a :: argsL).toArray) :
    ∃ (v : Option Value) (B : Pt), Stand p l e R s m args below meth c B.U B.locs B.cells B.slots ∧ Post ⟨T, locs, cells, slots⟩ (.ref a :: argsL).toArray v B ∧
      Steps p.tables e below (T.setTop g) (B.U.setTop { g with pc := g.pc + 3, stack := v.toList ++ rest }) := by
  have hZT : Z.Warmed39 T.vm := wtrans hZ X.warmed
  have hinst' : (Jvm.Cond.instanceMethod y).before args s = true := mvT hZ hinst
  have hcode' : (Jvm.Cond.code y bytes mL none).before args s = true := mvT hZ hcode
  obtain ⟨obj, methO, hnO, hmO, hstO, habO⟩ := Cond.instanceMethod_spec hinst'
  obtain ⟨methO', cO, hmO', hcO, hbO, hlO, -, hlockO, -, hsigO⟩ := Cond.code_spec hnO hcode'
  cases hmO.symm.trans hmO'
  obtain ⟨kO, hkO, hnameO⟩ := className_of_methodNamed hnO
  obtain ⟨hnameMO, hdescO⟩ := name_of_methodNamed hnO hmO
  obtain ⟨objZ, _, hnZ, -⟩ := Cond.instanceMethod_spec hinst
  have hr : (Jvm.Cond.methodRef own index y).before a0 (Z.setVm T.vm) = true := Cond.methodRef_warmed39 hZT hnZ hy href
  have hownT : (Z.setVm T.vm).vm.findClass own = some m.cls := by show T.vm.findClass own = _; rw [X.warmed.alike.findClass]; exact hown
  obtain ⟨m', c', hm', hready, hfind, hnamed⟩ := Cond.methodRef_named e hownT hr
  have hf0 : s.methodFound? y.cls y.name y.desc = some obj := State.methodFound?_of_named hnO hy
  have hf1 : (s.setVm T.vm).methodFound? y.cls y.name y.desc = some obj := (State.methodFound?_setVm_of_named X.warmed.alike hnO hy).trans hf0
  have hf2 : (Z.setVm T.vm).methodFound? y.cls y.name y.desc = some obj := hf1
  cases hf2.symm.trans hm'
  have hcc : c' = obj.cls := by
    have h1 : T.vm.findClass y.cls = some c' := hfind
    rw [X.warmed.alike.findClass, findClass_of_methodNamed hnO] at h1
    exact (Option.some.inj h1).symm
  subst hcc
  obtain ⟨kO₂, hkO₂, heO₂⟩ := X.warmed.alike.2.2 _ _ hkO
  have hmO₂ : T.vm.method? obj = some methO := by rw [X.warmed.alike.method?]; exact hmO
  have hfound : lookupSpecial T.vm obj.cls "<init>" methO.desc = .method obj := by
    rw [X.warmed.alike.lookupSpecial, hdescO, ← hy1]; exact lookupSpecial_of_named hnO hmO hstO
  obtain ⟨v, B, X', hpost, hsteps⟩ := hK m meth c ⟨T, locs, cells, slots⟩ { g with stack := rest } (.invokespecial index) obj (.ref a :: argsL).toArray X hg hsize hdg hW (X.named hnO) hpre
  refine ⟨v, B, X', hpost, Steps.trans ?_ hsteps⟩
  subst hg
  jvm_step X.here [hexec, hdg, invokespecial.wp_init (e := e) (s := T) (k := kO₂) (meth := methO) (m := obj) (a := a) (args := argsL) (rest := rest) (f := g) X.here.top hnamed hready hkO₂ hmO₂ (by rw [hnameMO]; exact hy1) hstO habO hfound (hlen _ hsigO) hstack]
  intro acts
  rw [doInvoke_state]
  exact Steps.refl _
theorem g_specialRef {kx nx : Nat} (cx : Cx Z p s m meth c R kx nx own nm code maxL ret) {i W k' n' maxL' : Nat} {bytes : ByteArray} {ret' : Option FieldType} {rm : Room} {argsL : List Value} {Q' : Option Value → Heap → Prop} {y : MethodName} {a : Addr} (d : Dc code pc (.invokespecial i) 3 pc') (hyn : y.name = "<init>") (hr0 : ret' = none) (w1 : (Jvm.Cond.methodRef own i y).before a0 Z = true) (w2 : (Jvm.Cond.instanceMethod y).before a0 Z = true) (w3 : (Jvm.Cond.initialized y.cls).before a0 Z = true) (w4 : (Jvm.Cond.code y bytes maxL' ret').before a0 Z = true) (hy : y.cls ≠ "java/lang/invoke/MethodHandle" ∧ y.cls ≠ "java/lang/invoke/VarHandle") (M : Met l Z y bytes maxL' ret' rm (.ref a :: argsL).toArray h Q') (hsz : Ls.size = maxL) (hlen : ∀ sig, parseMethodDescriptor y.desc = some sig → argsL.length = sig.parameters.length) (hf : rm.frames + 1 ≤ R.frames) (hW : (rest.map fun v => v.category).sum ≤ W) (hl : W + (maxL' + 11) + rm.locals ≤ R.locals) (hk1 : k + rm.cells = k') (hn1 : n + rm.slots = n') (hkR : k' ≤ R.cells) (hnR : n' ≤ R.slots)
    (hst : st = argsL.reverse ++ .ref a :: rest) (H : ∀ v h', Q' v h' → G p l e R s m args below meth c Z.heap.size Q h' k' n' pc' Ls (v.toList ++ rest)) : G p l e R s m args below meth c Z.heap.size Q h k n pc Ls st := by
  obtain ⟨hx, hZ, hown, rfl, hml, hret, hnm, -⟩ := cx
  obtain ⟨d, rfl⟩ := d
  subst hk1 hn1 hst
  intro T locs cells slots X N eT hk hn
  subst hr0
  obtain ⟨v, ⟨T', L', k1', n1'⟩, X', ⟨Lc, hQ, l1, l2, l3⟩, stp⟩ := specialRef X hx hZ (y := y) hyn hown w1 w2 w4 hy (backOf (W := W) (Q := fun v h L => Q' v h ∧ Fr Z.heap.size L) (M []) hZ w4 w3 hf hl) (g := mkF m pc Ls (argsL.reverse ++ .ref a :: rest)) rfl (by rw [hml]; exact hsz) (a := a) (argsL := argsL) (rest := rest) hlen rfl (by show 2 * 0 + _ ≤ _; omega) d ⟨rfl, eT, (by show cells + rm.cells ≤ _; omega), (by show slots + rm.slots ≤ _; omega)⟩
  dsimp only [Pt.U, Pt.locs, Pt.cells, Pt.slots] at X' l1 l2 l3 stp hQ
  subst l1 l2 l3
  obtain ⟨s₂, o, st2, r⟩ := H v T'.heap hQ.1 T' _ _ _ X' (Fr.app N hQ.2) rfl (by omega) (by omega)
  exact ⟨s₂, o, stp.trans st2, r⟩
theorem g_lsw {kx nx : Nat} (cx : Cx Z p s m meth c R kx nx own nm code maxL ret) {x : Int32} {dflt : Int} {pairs : Array (Int × Int)} {len : Nat} (d : decode code pc = .ok (.lookupswitch dflt pairs, len)) (hs : (pairs.toList.zip (pairs.toList.drop 1)).all (fun (a, next) => a.1 < next.1) = true) {off : Int} (hf : ((pairs.find? (·.1 == x.toInt)).map (·.2)).getD dflt = off) (h0 : 0 ≤ (pc : Int) + off) (hp : ((pc : Int) + off).toNat = pc') (H : G p l e R s m args below meth c Z.heap.size Q h k n pc' Ls st) : G p l e R s m args below meth c Z.heap.size Q h k n pc Ls (.int x :: st) := by
  obtain ⟨hx, hZ, hown, rfl, hml, hret, hnm, -⟩ := cx
  subst hp
  intro T locs cells slots X N eT hk hn
  obtain ⟨s₂, o, st2, r⟩ := H T locs cells slots X N eT hk hn
  cases hq : pairs.find? (·.1 == x.toInt) with
  | none =>
    rw [hq] at hf
    have hf' : dflt = off := hf
    subst hf'
    exact ⟨s₂, o, X.lookupswitchMiss hx (g := mkF m pc Ls (.int x :: st)) rfl rfl d hs hq h0 _ st2, r⟩
  | some ao =>
    rw [hq] at hf
    have hf' : ao.2 = off := hf
    subst hf'
    exact ⟨s₂, o, X.lookupswitchHit hx (g := mkF m pc Ls (.int x :: st)) rfl rfl d hs (a := ao.1) (off := ao.2) hq h0 _ st2, r⟩
theorem lsw_miss {x : Int32} {dflt : Int} {pairs : Array (Int × Int)} (q : ∀ a ∈ pairs.toList, a.1 ≠ x.toInt) : ((pairs.find? (·.1 == x.toInt)).map (·.2)).getD dflt = dflt := by rw [find_miss q]; rfl
theorem g_aaloadR {kx nx : Nat} (cx : Cx Z p s m meth c R kx nx own nm code maxL ret) {a : Addr} {cl : Cell} {j : Int32} {v : Value} {ty : FieldType} (d : Dc code pc .aaload 1 pc') (A : Arr Z h a cl ty) (hty : ty.isReference = true) (hj : ¬ (j < 0 ∨ cl.slots.size ≤ j.toNatClampNeg)) (hv : cl.slots[j.toNatClampNeg]? = some v) (H : G p l e R s m args below meth c Z.heap.size Q h k n pc' Ls (v :: st)) : G p l e R s m args below meth c Z.heap.size Q h k n pc Ls (.int j :: .ref a :: st) := by
  obtain ⟨hx, hZ, hown, rfl, hml, hret, hnm, -⟩ := cx
  obtain ⟨d, rfl⟩ := d
  intro T locs cells slots X N eT hk hn
  obtain ⟨s₂, o, st2, r⟩ := H T _ cells slots X N eT hk hn
  exact ⟨s₂, o, X.aaload hx (j := j) (v := v) (by rw [eT]; exact A.1) (State.isArrayOf_alike hZ.alike A.2.1) hty A.2.2 hj hv (g := mkF m pc Ls (.int j :: .ref a :: st)) rfl rfl d _ st2, r⟩
theorem arr_len {t : Term} {a : Addr} {cl : Cell} {ty : FieldType} {z : Int32} (ev : t.eval args Z none [] Z = some (.ref a)) (A : Arr Z Z.heap a cl ty) (h3 : (Jvm.Cond.eq (.length t) (.int z)).value args Z none Z [] = some true) : cl.slots.size < 2 ^ 31 ∧ cl.slots.size.toInt32 = z := by
  have ex := eqv_i (F := .int z) rfl h3
  have A1 := A.fin (Vm.Alike.refl _)
  have hl : cl.slots.size < 2 ^ 31 := by
    refine Decidable.byContradiction fun hc => ?_
    simp [Term.eval, ev, A1, hc] at ex
  rw [len_f ev A1 hl] at ex
  exact ⟨hl, by simpa using ex⟩
theorem sta_arr {C f d : String} {ty : FieldType} {z : Int32} (hi : (Jvm.Cond.initializedFor C f d).before args Z = true ∨ ((Jvm.Cond.initialized C).before args Z = true ∧ (Jvm.Cond.laysStatic C f d).before args Z = true)) (h1 : (Jvm.Cond.arrayOf (.static C f d) ty).value args Z none Z [] = some true) (h3 : (Jvm.Cond.eq (.length (.static C f d)) (.int z)).value args Z none Z [] = some true) :
    ∃ a cl, Sta Z Z.heap C f d (.ref a) ∧ (Term.static C f d).eval args Z none [] Z = some (.ref a) ∧ Arr Z Z.heap a cl ty ∧ cl.slots.size < 2 ^ 31 ∧ cl.slots.size.toInt32 = z := by
  obtain ⟨a, ev⟩ := arr_v h1
  obtain ⟨cl, A⟩ := Arr.start ev h1
  obtain ⟨q1, q2⟩ := arr_len ev A h3
  exact ⟨a, cl, Sta.start ev hi, ev, A, q1, q2⟩
theorem fld_exa {t : Term} {C f d K : String} {a : Addr} (ev : t.eval args Z none [] Z = some (.ref a)) (h : (Jvm.Cond.exactly (.field t C f d) K).value args Z none Z [] = some true) : ∃ b, Fld Z Z.heap a C f d (.ref b) ∧ Exa Z Z.heap b K ∧ (Term.field t C f d).eval args Z none [] Z = some (.ref b) := by
  obtain ⟨b, eb⟩ := exa_v h
  exact ⟨b, Fld.start ((fld_at ev).symm.trans eb), Exa.start eb h, eb⟩
theorem fld_arr {t : Term} {C f d : String} {a : Addr} {ty : FieldType} {z : Int32} (ev : t.eval args Z none [] Z = some (.ref a)) (h : (Jvm.Cond.arrayOf (.field t C f d) ty).value args Z none Z [] = some true) (h3 : (Jvm.Cond.eq (.length (.field t C f d)) (.int z)).value args Z none Z [] = some true) : ∃ b cl, Fld Z Z.heap a C f d (.ref b) ∧ (Term.field t C f d).eval args Z none [] Z = some (.ref b) ∧ Arr Z Z.heap b cl ty ∧ cl.slots.size < 2 ^ 31 ∧ cl.slots.size.toInt32 = z := by
  obtain ⟨b, eb⟩ := arr_v h
  obtain ⟨cl, A⟩ := Arr.start eb h
  obtain ⟨q1, q2⟩ := arr_len eb A h3
  exact ⟨b, cl, Fld.start ((fld_at ev).symm.trans eb), eb, A, q1, q2⟩
theorem elem_eq {t : Term} {a : Addr} {cl : Cell} {ty : FieldType} {j v : Int32} (ev : t.eval args Z none [] Z = some (.ref a)) (A : Arr Z Z.heap a cl ty) (h : (Jvm.Cond.eq (.elem t (.int j)) (.int v)).value args Z none Z [] = some true) : cl.slots[j.toNatClampNeg]? = some (.int v) := (elem_in (eqv_i (F := .int v) rfl h) ev rfl A.1).2
theorem own_selpriv {y : MethodName} {sl : Nat} (hins : (Jvm.Cond.instantiable y.cls sl).before a0 Z = true) (hpriv : (Jvm.Cond.privateMethod y).before a0 Z = true) (hinst : (Jvm.Cond.instanceMethod y).before a0 Z = true) (hy : y.cls ≠ "java/lang/invoke/MethodHandle" ∧ y.cls ≠ "java/lang/invoke/VarHandle") : (Jvm.Cond.selects y.cls y y).before a0 Z = true := by
  obtain ⟨c, k, hc, hk, -, hniab, -, -⟩ := Cond.instantiable_spec hins
  have hni : k.isInterface = false := (Bool.or_eq_false_iff.mp hniab).1
  obtain ⟨mk, methM, hnamed, hmethM, -, -⟩ := Cond.instanceMethod_spec hinst
  have hfound : Z.methodFound? y.cls y.name y.desc = some mk := State.methodFound?_of_named hnamed hy
  have hcls : mk.cls = c := Option.some.inj ((findClass_of_methodNamed hnamed).symm.trans hc)
  have hsel : selectMethod {} Z.vm c mk = .method mk := selectMethod_private hmethM (Cond.privateMethod_at hpriv mk methM hnamed hmethM)
  simp only [Cond.before, Cond.holds, Cond.value, hc, hfound, hnamed, hsel, hcls, hk]
  simp; exact hni
theorem nar1 : nar .boolean 1 = 1 := rfl
theorem nar0 : nar .boolean 0 = 0 := rfl
theorem sta_exa {C f d K : String} (hx : (Jvm.Cond.exactly (.static C f d) K).value args Z none Z [] = some true) (wi : (Jvm.Cond.initialized C).before args Z = true) (wl : (Jvm.Cond.laysStatic C f d).before args Z = true) : ∃ a, Sta Z Z.heap C f d (.ref a) ∧ Exa Z Z.heap a K ∧ (Term.static C f d).eval args Z none [] Z = some (.ref a) := by
  obtain ⟨a, ev⟩ := exa_v hx
  exact ⟨a, Sta.start ev (Or.inr ⟨wi, wl⟩), Exa.start ev hx, ev⟩
theorem fld_eq {t : Term} {C f d : String} {a : Addr} {v : Int32} (ev : t.eval args Z none [] Z = some (.ref a)) (h : (Jvm.Cond.eq (.field t C f d) (.int v)).value args Z none Z [] = some true) : Fld Z Z.heap a C f d (.int v) := by
  obtain ⟨x, y, ex, ey, -, k2⟩ := cmp_v (Or.inl h)
  have e2 : y = .int v := by simpa [Term.eval] using ey.symm
  subst e2
  obtain ⟨z, rfl⟩ := k2
  have hz : z = v := by simpa [Cond.value, ex, ey] using h
  subst hz
  rw [fld_at ev] at ex
  exact Fld.start ex
theorem sta_int {C f d : String} (hi : (Jvm.Cond.initializedFor C f d).before args Z = true) (h1 : (Jvm.Cond.isInt (.static C f d)).before args Z = true) : ∃ v, Sta Z Z.heap C f d (.int v) ∧ (Term.static C f d).eval args Z none [] Z = some (.int v) := by
  obtain ⟨v, ev⟩ := is_v (Cond.before_iff.mp h1)
  exact ⟨v, Sta.start ev (Or.inl hi), ev⟩
theorem ne_of_not {t : Term} {z v : Int32} (ev : t.eval args Z none [] Z = some (.int z)) (h : (Jvm.Cond.not (.eq t (.int v))).before args Z = true) : ¬ z = v := by
  have h2 := not_v (Cond.before_iff.mp h)
  intro q
  subst q
  simp [Cond.value, ev, Term.eval] at h2
theorem own_lrem (x y : Int64) (d : Int) (hy : y.toInt = d) : (0 ≤ x.toInt → (x % y).toInt = x.toInt % d) ∧ (x.toInt < 0 → (x % y).toInt = -((-x.toInt) % d)) := by
  rw [← lrem_mod]; exact c_lrem x y d hy
end Walk
section WalkX
variable {p : Program} {l : Launch} {e : Env} {R : Room} {s : State} {m : MethodId} {args : Array Value} {below : List Frame} {meth : Method} {c : Code} {Z : State} {a0 : Array Value} {k n : Nat} {own nm : String} {code : ByteArray} {maxL : Nat} {ret : Option FieldType} {n0 : Nat} {Q : Option Value → Heap → Prop} {h : Heap} {pc pc' pcY pcN : Nat} {Ls : Array Slot} {st rest : List Value}
def own_nz (x : Int32) : Int32 := if x = 0 then 0 else 1
theorem own_nz_b (x : Int32) : 0 ≤ (own_nz x).toInt ∧ (own_nz x).toInt ≤ 1 := by
  unfold own_nz; split <;> decide
theorem g_tern {kx nx : Nat} (cx : Cx Z p s m meth c R kx nx own nm code maxL ret) {x : Int32} {pc1 pc2 pcB pcZ : Nat} (d : Bi code pc (Instr.ifCond .eq) pcY pc1) (d1 : Dc code pc1 (.iconst 1) 1 pc2) (d2 : Bi code pc2 Instr.goto pcB pcZ) (d0 : Dc code pcY (.iconst 0) 1 pcB) (H : G p l e R s m args below meth c Z.heap.size Q h k n pcB Ls (.int (own_nz x) :: st)) : G p l e R s m args below meth c Z.heap.size Q h k n pc Ls (.int x :: st) :=
  g_if_eq cx d (fun q => g_iconst cx d0 (v := 0) rfl (by rw [show own_nz x = 0 from if_pos q] at H; exact H)) (fun q => g_iconst cx d1 (v := 1) rfl (g_goto cx d2 (by rw [show own_nz x = 1 from if_neg q] at H; exact H)))
theorem g_copy {kx nx : Nat} (cx : Cx Z p s m meth c R kx nx own nm code maxL ret) {i W : Nat} {a b : Addr} {k1 k' : ClassId} {ty : FieldType} {z z' sp dp nn : Int32} {vs vd us : List Value} {dv dd : Value} {ad : String} (d : Dc code pc (.invokestatic i) 3 pc') (w1 : (Jvm.Cond.methodLink own i Jvm.Stand.acN).before a0 Z = true) (w2 : (Jvm.Cond.native Jvm.Stand.acN).before a0 Z = true) (w3 : (Jvm.Cond.static Jvm.Stand.acN).before a0 Z = true) (w4 : (Jvm.Cond.initialized "java/lang/System").before a0 Z = true) (A : Arv Z h a k1 ty z vs dv) (B : Arx Z h b k' ty z' vd dd ad) (hty : refKind ty = false) (h1 : ¬ sp < 0) (h2 : ¬ dp < 0) (h3 : ¬ nn < 0) (h4 : sp.toNatClampNeg + nn.toNatClampNeg ≤ z.toNatClampNeg) (h5 : dp.toNatClampNeg + nn.toNatClampNeg ≤ z'.toNatClampNeg)
    (hus : us = (List.range nn.toNatClampNeg).map fun i => vs.getD (sp.toNatClampNeg + i) dv) (hl : dp.toNatClampNeg + nn.toNatClampNeg ≤ vd.length) (ge : Z.heap.size ≤ b) (hsz : Ls.size = maxL) (hf : 1 ≤ R.frames) (hW : (rest.map fun v => v.category).sum ≤ W) (hlo : W + 18 ≤ R.locals)
    (H : ∀ h', Keep h h' [b] → Arx Z h' b k' ty z' (vd.take dp.toNatClampNeg ++ us ++ vd.drop (dp.toNatClampNeg + nn.toNatClampNeg)) dd ad → G p l e R s m args below meth c Z.heap.size Q h' k n pc' Ls rest) : G p l e R s m args below meth c Z.heap.size Q h k n pc Ls (.int nn :: .int dp :: .ref b :: .int sp :: .ref a :: rest) := by
  obtain ⟨hx, hZ, hown, rfl, hml, hret, hnm, -⟩ := cx
  obtain ⟨d, rfl⟩ := d
  intro T locs cells slots X N eT hk hn
  obtain ⟨T', h', L, X', e', N', K, A', stp⟩ := cpA X hx hZ hown w1 w2 w3 w4 eT A B.1 (Or.inl ⟨rfl, hty⟩) h1 h2 h3 h4 h5 hus hl N ge (g := mkF m pc Ls (.int nn :: .int dp :: .ref b :: .int sp :: .ref a :: rest)) rfl (by rw [hml]; exact hsz) (rest := rest) rfl d hf (W := W) (by show 2 * 0 + _ ≤ _; omega) hlo
  obtain ⟨s₂, o, st2, r⟩ := H h' K ⟨A', B.2.keep K⟩ T' L cells slots X' N' e' hk hn
  exact ⟨s₂, o, stp _ st2, r⟩
theorem g_ldcwI {kx nx : Nat} (cx : Cx Z p s m meth c R kx nx own nm code maxL ret) {i : Nat} {v : Int32} (d : Dc code pc (.ldc_w i) 3 pc') (w : (Jvm.Cond.constant own i v).before a0 Z = true) (H : G p l e R s m args below meth c Z.heap.size Q h k n pc' Ls (.int v :: st)) : G p l e R s m args below meth c Z.heap.size Q h k n pc Ls st := by
  obtain ⟨hx, hZ, hown, rfl, hml, hret, hnm, -⟩ := cx
  obtain ⟨d, rfl⟩ := d
  intro T locs cells slots X N eT hk hn
  obtain ⟨s₂, o, st2, r⟩ := H T locs cells slots X N eT hk hn
  exact ⟨s₂, o, X.ldcwInt hx hown (mvT hZ w) (g := mkF m pc Ls st) rfl d _ st2, r⟩
end WalkX
def ObD (Z : State) (h : Heap) (a : Addr) (v1 v2 v3 : Value) : Prop := Exa Z h a "com/example/dyn_authz/dynauthz/service/Decisions" ∧ Fld Z h a "com/example/dyn_authz/dynauthz/service/Decisions" "_permits" "Ljava/util/BitSet;" v1 ∧ Fld Z h a "com/example/dyn_authz/dynauthz/service/Decisions" "_count" "I" v2 ∧ Fld Z h a "com/example/dyn_authz/dynauthz/service/Decisions" "_permitCount" "I" v3
theorem ObD.ext {h' : Heap} {Z : State} {h : Heap} {a : Addr} {v1 v2 v3 : Value} (F : ObD Z h a v1 v2 v3) (E : Ext h h') : ObD Z h' a v1 v2 v3 := ⟨F.1.ext E, F.2.1.ext E, F.2.2.1.ext E, F.2.2.2.ext E⟩
theorem ObD.keep {h' : Heap} {Z : State} {h : Heap} {a : Addr} {v1 v2 v3 : Value} {ws : List Addr} (F : ObD Z h a v1 v2 v3) (K : Keep h h' ws) (q : a ∉ ws) : ObD Z h' a v1 v2 v3 := ⟨F.1.keep K, F.2.1.keep K q, F.2.2.1.keep K q, F.2.2.2.keep K q⟩
theorem ObD.oth {x : Addr} {sl : Nat} {w : Value} {h' : Heap} {Z : State} {h : Heap} {a : Addr} {v1 v2 v3 : Value} (F : ObD Z h a v1 v2 v3) (W : Wr h h' x sl w) (q : a ≠ x) : ObD Z h' a v1 v2 v3 := ⟨F.1.wr W, F.2.1.other W (Or.inl q), F.2.2.1.other W (Or.inl q), F.2.2.2.other W (Or.inl q)⟩
theorem ObD.lt {Z : State} {h : Heap} {a : Addr} {v1 v2 v3 : Value} (F : ObD Z h a v1 v2 v3) : a < h.size := F.1.lt
theorem ObD.put1 {v : Value} {h' : Heap} {Z : State} {h : Heap} {a : Addr} {v1 v2 v3 : Value} {a0 : Array Value} (hw : ∀ d ∈ tables_1, d.before a0 Z = true) (F : ObD Z h a v1 v2 v3) (W : Wr h h' a (Jvm.RoadKit.slotOf Z "com/example/dyn_authz/dynauthz/service/Decisions" "_permits" "Ljava/util/BitSet;") v) : ObD Z h' a v v2 v3 := ⟨F.1.wr W, F.2.1.same W, F.2.2.1.other W (Or.inr (slot_ne (Or.inl (hw _ (List.mem_of_getElem? (i := 49) rfl))) (Or.inr (hw _ (List.mem_of_getElem? (i := 32) rfl))) (by decide) (t := .int) (t' := (.object "java/util/BitSet")) (by decide) (by decide))), F.2.2.2.other W (Or.inr (slot_ne (Or.inl (hw _ (List.mem_of_getElem? (i := 88) rfl))) (Or.inr (hw _ (List.mem_of_getElem? (i := 32) rfl))) (by decide) (t := .int) (t' := (.object "java/util/BitSet")) (by decide) (by decide)))⟩
theorem ObD.put2 {v : Value} {h' : Heap} {Z : State} {h : Heap} {a : Addr} {v1 v2 v3 : Value} {a0 : Array Value} (hw : ∀ d ∈ tables_1, d.before a0 Z = true) (F : ObD Z h a v1 v2 v3) (W : Wr h h' a (Jvm.RoadKit.slotOf Z "com/example/dyn_authz/dynauthz/service/Decisions" "_count" "I") v) : ObD Z h' a v1 v v3 := ⟨F.1.wr W, F.2.1.other W (Or.inr (slot_ne (Or.inr (hw _ (List.mem_of_getElem? (i := 32) rfl))) (Or.inl (hw _ (List.mem_of_getElem? (i := 49) rfl))) (by decide) (t := (.object "java/util/BitSet")) (t' := .int) (by decide) (by decide))), F.2.2.1.same W, F.2.2.2.other W (Or.inr (slot_ne (Or.inl (hw _ (List.mem_of_getElem? (i := 88) rfl))) (Or.inl (hw _ (List.mem_of_getElem? (i := 49) rfl))) (by decide) (t := .int) (t' := .int) (by decide) (by decide)))⟩
theorem ObD.put3 {v : Value} {h' : Heap} {Z : State} {h : Heap} {a : Addr} {v1 v2 v3 : Value} {a0 : Array Value} (hw : ∀ d ∈ tables_1, d.before a0 Z = true) (F : ObD Z h a v1 v2 v3) (W : Wr h h' a (Jvm.RoadKit.slotOf Z "com/example/dyn_authz/dynauthz/service/Decisions" "_permitCount" "I") v) : ObD Z h' a v1 v2 v := ⟨F.1.wr W, F.2.1.other W (Or.inr (slot_ne (Or.inr (hw _ (List.mem_of_getElem? (i := 32) rfl))) (Or.inl (hw _ (List.mem_of_getElem? (i := 88) rfl))) (by decide) (t := (.object "java/util/BitSet")) (t' := .int) (by decide) (by decide))), F.2.2.1.other W (Or.inr (slot_ne (Or.inl (hw _ (List.mem_of_getElem? (i := 49) rfl))) (Or.inl (hw _ (List.mem_of_getElem? (i := 88) rfl))) (by decide) (t := .int) (t' := .int) (by decide) (by decide))), F.2.2.2.same W⟩
theorem ObD.new {Z : State} {h : Heap} {b : Addr} {a0 : Array Value} (hw : ∀ d ∈ tables_1, d.before a0 Z = true) (E : Exa Z h b "com/example/dyn_authz/dynauthz/service/Decisions") (D : ∀ {O nm d : String} {ty : FieldType}, Laid Z a0 "com/example/dyn_authz/dynauthz/service/Decisions" O nm d → parseFieldDescriptor d = some ty → Fld Z h b O nm d (defaultValue ty)) : ObD Z h b .null (.int (0 : Int32)) (.int (0 : Int32)) := ⟨E, D (Or.inr (hw _ (List.mem_of_getElem? (i := 32) rfl))) (ty := (.object "java/util/BitSet")) (by decide), D (Or.inl (hw _ (List.mem_of_getElem? (i := 49) rfl))) (ty := .int) (by decide), D (Or.inl (hw _ (List.mem_of_getElem? (i := 88) rfl))) (ty := .int) (by decide)⟩
def ObB (Z : State) (h : Heap) (a : Addr) (v1 v2 v3 : Value) : Prop := Exa Z h a "java/util/BitSet" ∧ Fld Z h a "java/util/BitSet" "wordsInUse" "I" v1 ∧ Fld Z h a "java/util/BitSet" "sizeIsSticky" "Z" v2 ∧ Fld Z h a "java/util/BitSet" "words" "[J" v3
theorem ObB.ext {h' : Heap} {Z : State} {h : Heap} {a : Addr} {v1 v2 v3 : Value} (F : ObB Z h a v1 v2 v3) (E : Ext h h') : ObB Z h' a v1 v2 v3 := ⟨F.1.ext E, F.2.1.ext E, F.2.2.1.ext E, F.2.2.2.ext E⟩
theorem ObB.keep {h' : Heap} {Z : State} {h : Heap} {a : Addr} {v1 v2 v3 : Value} {ws : List Addr} (F : ObB Z h a v1 v2 v3) (K : Keep h h' ws) (q : a ∉ ws) : ObB Z h' a v1 v2 v3 := ⟨F.1.keep K, F.2.1.keep K q, F.2.2.1.keep K q, F.2.2.2.keep K q⟩
theorem ObB.oth {x : Addr} {sl : Nat} {w : Value} {h' : Heap} {Z : State} {h : Heap} {a : Addr} {v1 v2 v3 : Value} (F : ObB Z h a v1 v2 v3) (W : Wr h h' x sl w) (q : a ≠ x) : ObB Z h' a v1 v2 v3 := ⟨F.1.wr W, F.2.1.other W (Or.inl q), F.2.2.1.other W (Or.inl q), F.2.2.2.other W (Or.inl q)⟩
theorem ObB.lt {Z : State} {h : Heap} {a : Addr} {v1 v2 v3 : Value} (F : ObB Z h a v1 v2 v3) : a < h.size := F.1.lt
theorem ObB.put1 {v : Value} {h' : Heap} {Z : State} {h : Heap} {a : Addr} {v1 v2 v3 : Value} {a0 : Array Value} (hw : ∀ d ∈ tables_1, d.before a0 Z = true) (F : ObB Z h a v1 v2 v3) (W : Wr h h' a (Jvm.RoadKit.slotOf Z "java/util/BitSet" "wordsInUse" "I") v) : ObB Z h' a v v2 v3 := ⟨F.1.wr W, F.2.1.same W, F.2.2.1.other W (Or.inr (slot_ne (Or.inl (hw _ (List.mem_of_getElem? (i := 19) rfl))) (Or.inl (hw _ (List.mem_of_getElem? (i := 17) rfl))) (by decide) (t := .boolean) (t' := .int) (by decide) (by decide))), F.2.2.2.other W (Or.inr (slot_ne (Or.inl (hw _ (List.mem_of_getElem? (i := 30) rfl))) (Or.inl (hw _ (List.mem_of_getElem? (i := 17) rfl))) (by decide) (t := (.array .long)) (t' := .int) (by decide) (by decide)))⟩
theorem ObB.put2 {v : Value} {h' : Heap} {Z : State} {h : Heap} {a : Addr} {v1 v2 v3 : Value} {a0 : Array Value} (hw : ∀ d ∈ tables_1, d.before a0 Z = true) (F : ObB Z h a v1 v2 v3) (W : Wr h h' a (Jvm.RoadKit.slotOf Z "java/util/BitSet" "sizeIsSticky" "Z") v) : ObB Z h' a v1 v v3 := ⟨F.1.wr W, F.2.1.other W (Or.inr (slot_ne (Or.inl (hw _ (List.mem_of_getElem? (i := 17) rfl))) (Or.inl (hw _ (List.mem_of_getElem? (i := 19) rfl))) (by decide) (t := .int) (t' := .boolean) (by decide) (by decide))), F.2.2.1.same W, F.2.2.2.other W (Or.inr (slot_ne (Or.inl (hw _ (List.mem_of_getElem? (i := 30) rfl))) (Or.inl (hw _ (List.mem_of_getElem? (i := 19) rfl))) (by decide) (t := (.array .long)) (t' := .boolean) (by decide) (by decide)))⟩
theorem ObB.put3 {v : Value} {h' : Heap} {Z : State} {h : Heap} {a : Addr} {v1 v2 v3 : Value} {a0 : Array Value} (hw : ∀ d ∈ tables_1, d.before a0 Z = true) (F : ObB Z h a v1 v2 v3) (W : Wr h h' a (Jvm.RoadKit.slotOf Z "java/util/BitSet" "words" "[J") v) : ObB Z h' a v1 v2 v := ⟨F.1.wr W, F.2.1.other W (Or.inr (slot_ne (Or.inl (hw _ (List.mem_of_getElem? (i := 17) rfl))) (Or.inl (hw _ (List.mem_of_getElem? (i := 30) rfl))) (by decide) (t := .int) (t' := (.array .long)) (by decide) (by decide))), F.2.2.1.other W (Or.inr (slot_ne (Or.inl (hw _ (List.mem_of_getElem? (i := 19) rfl))) (Or.inl (hw _ (List.mem_of_getElem? (i := 30) rfl))) (by decide) (t := .boolean) (t' := (.array .long)) (by decide) (by decide))), F.2.2.2.same W⟩
theorem ObB.new {Z : State} {h : Heap} {b : Addr} {a0 : Array Value} (hw : ∀ d ∈ tables_1, d.before a0 Z = true) (E : Exa Z h b "java/util/BitSet") (D : ∀ {O nm d : String} {ty : FieldType}, Laid Z a0 "java/util/BitSet" O nm d → parseFieldDescriptor d = some ty → Fld Z h b O nm d (defaultValue ty)) : ObB Z h b (.int (0 : Int32)) (.int (0 : Int32)) .null := ⟨E, D (Or.inl (hw _ (List.mem_of_getElem? (i := 17) rfl))) (ty := .int) (by decide), D (Or.inl (hw _ (List.mem_of_getElem? (i := 19) rfl))) (ty := .boolean) (by decide), D (Or.inl (hw _ (List.mem_of_getElem? (i := 30) rfl))) (ty := (.array .long)) (by decide)⟩
theorem d5_0 : Dc jdk_92_method_1_code 0 (.iload_n 0) 1 1 := ⟨by decide +kernel, rfl⟩
theorem d5_1 : Dc jdk_92_method_1_code 1 (.bipush 6) 2 3 := ⟨by decide +kernel, rfl⟩
theorem d5_3 : Dc jdk_92_method_1_code 3 (.ishr) 1 4 := ⟨by decide +kernel, rfl⟩
theorem d5_4 : Dc jdk_92_method_1_code 4 (.ireturn) 1 5 := ⟨by decide +kernel, rfl⟩
theorem pn_rmw : plainName "java/util/BitSet" = true := by first | (simp [plainName, overriddenIn]; done) | decide +kernel
set_option maxRecDepth 65536 in
set_option maxHeartbeats 40000000 in
theorem rmw (l : Launch) (Z : State) (a0 : Array Value) (hw : ∀ d ∈ tables_1, d.before a0 Z = true) (y : Int32) (h0 : Heap) :
    Met l Z (⟨"java/util/BitSet", "wordIndex", "(I)I"⟩ : MethodName) jdk_92_method_1_code 1 (some .int) ({ frames := 0, cells := 0, slots := 0, locals := 0 } : Room) #[(.int y)] h0 (fun v h' => v = some (.int (y >>> ((6 : Int32) &&& 31))) ∧ h0 = h') := by
  refine met_of (Ls := #[.val (.int y)]) (plainFor_of_name pn_rmw) (fun m => by first | (simp [entryFrame, mkF, argsToLocals, Value.category]; done) | rfl) (fun p e s m below meth c cx => ?_)
  refine g_iloadN cx d5_0 rfl ?_
  refine g_bipush cx d5_1 (v := (6 : Int32)) rfl ?_
  refine g_ishr cx d5_3 ?_
  refine g_retI cx d5_4 rfl (by decide) (by decide) ?_
  exact ⟨rfl, rfl⟩
theorem pn_rmk : plainName "java/util/BitSet" = true := by first | (simp [plainName, overriddenIn]; done) | decide +kernel
set_option maxRecDepth 65536 in
set_option maxHeartbeats 40000000 in
theorem rmk (l : Launch) (Z : State) (a0 : Array Value) (hw : ∀ d ∈ tables_1, d.before a0 Z = true) (kx : Int32) (hk6 : (kx >>> ((6 : Int32) &&& 31)) = 0) (h0 : Heap) :
    Met l Z (⟨"java/util/BitSet", "wordIndex", "(I)I"⟩ : MethodName) jdk_92_method_1_code 1 (some .int) ({ frames := 0, cells := 0, slots := 0, locals := 0 } : Room) #[(.int kx)] h0 (fun v h' => v = some (.int (0 : Int32)) ∧ h0 = h') := by
  refine met_of (Ls := #[.val (.int kx)]) (plainFor_of_name pn_rmk) (fun m => by first | (simp [entryFrame, mkF, argsToLocals, Value.category]; done) | rfl) (fun p e s m below meth c cx => ?_)
  refine g_iloadN cx d5_0 rfl ?_
  refine g_bipush cx d5_1 (v := (6 : Int32)) rfl ?_
  refine g_ishr cx d5_3 ?_
  refine g_retI cx d5_4 rfl (by decide) (by decide) ?_
  exact ⟨by rw [hk6], rfl⟩
def own_B (Z : State) (h : Heap) (b w : Addr) (cA : ClassId) (sk : Int32) : Prop := (ObB Z h b (.int (0 : Int32)) (.int sk) (.ref w) ∧ Arx Z h w cA .long (0 : Int32) [] (.long (0 : Int64)) "[J") ∨ (∃ y0 : Int64, ObB Z h b (.int (0 : Int32)) (.int sk) (.ref w) ∧ Arx Z h w cA .long (1 : Int32) [(.long y0)] (.long (0 : Int64)) "[J") ∨ (∃ y0 : Int64, ObB Z h b (.int (1 : Int32)) (.int sk) (.ref w) ∧ Arx Z h w cA .long (1 : Int32) [(.long y0)] (.long (0 : Int64)) "[J") ∨ (∃ y0 y1 : Int64, ObB Z h b (.int (0 : Int32)) (.int sk) (.ref w) ∧ Arx Z h w cA .long (2 : Int32) [(.long y0), (.long y1)] (.long (0 : Int64)) "[J") ∨ (∃ y0 y1 : Int64, ObB Z h b (.int (1 : Int32)) (.int sk) (.ref w) ∧ Arx Z h w cA .long (2 : Int32) [(.long y0), (.long y1)] (.long (0 : Int64)) "[J") ∨ (∃ y0 y1 y2 : Int64, ObB Z h b (.int (0 : Int32)) (.int sk) (.ref w) ∧ Arx Z h w cA .long (3 : Int32) [(.long y0), (.long y1), (.long y2)] (.long (0 : Int64)) "[J") ∨ (∃ y0 y1 y2 : Int64, ObB Z h b (.int (1 : Int32)) (.int sk) (.ref w) ∧ Arx Z h w cA .long (3 : Int32) [(.long y0), (.long y1), (.long y2)] (.long (0 : Int64)) "[J") ∨ (∃ y0 y1 y2 y3 : Int64, ObB Z h b (.int (0 : Int32)) (.int sk) (.ref w) ∧ Arx Z h w cA .long (4 : Int32) [(.long y0), (.long y1), (.long y2), (.long y3)] (.long (0 : Int64)) "[J") ∨ (∃ y0 y1 y2 y3 : Int64, ObB Z h b (.int (1 : Int32)) (.int sk) (.ref w) ∧ Arx Z h w cA .long (4 : Int32) [(.long y0), (.long y1), (.long y2), (.long y3)] (.long (0 : Int64)) "[J")
def own_D (Z : State) (h : Heap) (d : Addr) (kx pp : Int32) : Prop := ∃ (b w : Addr) (cA : ClassId) (sk : Int32), Z.heap.size ≤ d ∧ Z.heap.size ≤ b ∧ Z.heap.size ≤ w ∧ d ≠ b ∧ d ≠ w ∧ b ≠ w ∧ ObD Z h d (.ref b) (.int kx) (.int pp) ∧ own_B Z h b w cA sk
def own_len (u v : Int32) : Int64 := if u = 0 then (if v = 0 then 19 else 18) else (if v = 0 then 18 else 17)
theorem own_Dx {Z : State} {h : Heap} {d : Addr} {kx pp : Int32} (DD : own_D Z h d kx pp) : Exa Z h d "com/example/dyn_authz/dynauthz/service/Decisions" ∧ True := by
  obtain ⟨_, _, _, _, -, -, -, -, -, -, O, -⟩ := DD
  exact ⟨O.1, trivial⟩
theorem own_len1 (u : Int32) : (own_len u (1 : Int32)).toInt = 18 - (own_nz u).toInt := by
  unfold own_len own_nz; by_cases q : u = 0 <;> simp [q] <;> decide
theorem own_len0 (u : Int32) : (own_len u (0 : Int32)).toInt = 19 - (own_nz u).toInt := by
  unfold own_len own_nz; by_cases q : u = 0 <;> simp [q] <;> decide
theorem d1_0 : Dc prog_43_method_1_code 0 (.aload_n 0) 1 1 := ⟨by decide +kernel, rfl⟩
theorem d1_1 : Dc prog_43_method_1_code 1 (.invokespecial 1) 3 4 := ⟨by decide +kernel, rfl⟩
theorem d1_4 : Dc prog_43_method_1_code 4 (.aload_n 0) 1 5 := ⟨by decide +kernel, rfl⟩
theorem d1_5 : Dc prog_43_method_1_code 5 (.new 7) 3 8 := ⟨by decide +kernel, rfl⟩
theorem d1_8 : Dc prog_43_method_1_code 8 (.dup) 1 9 := ⟨by decide +kernel, rfl⟩
theorem d1_9 : Dc prog_43_method_1_code 9 (.iload_n 1) 1 10 := ⟨by decide +kernel, rfl⟩
theorem d3_0 : Dc jdk_92_method_5_code 0 (.aload_n 0) 1 1 := ⟨by decide +kernel, rfl⟩
theorem d3_1 : Dc jdk_92_method_5_code 1 (.invokespecial 21) 3 4 := ⟨by decide +kernel, rfl⟩
theorem d3_4 : Dc jdk_92_method_5_code 4 (.aload_n 0) 1 5 := ⟨by decide +kernel, rfl⟩
theorem d3_5 : Dc jdk_92_method_5_code 5 (.iconst 0) 1 6 := ⟨by decide +kernel, rfl⟩
theorem d3_6 : Dc jdk_92_method_5_code 6 (.putfield 7) 3 9 := ⟨by decide +kernel, rfl⟩
theorem d3_9 : Dc jdk_92_method_5_code 9 (.aload_n 0) 1 10 := ⟨by decide +kernel, rfl⟩
theorem d3_10 : Dc jdk_92_method_5_code 10 (.iconst 0) 1 11 := ⟨by decide +kernel, rfl⟩
theorem d3_11 : Dc jdk_92_method_5_code 11 (.putfield 24) 3 14 := ⟨by decide +kernel, rfl⟩
theorem d3_14 : Dc jdk_92_method_5_code 14 (.iload_n 1) 1 15 := ⟨by decide +kernel, rfl⟩
theorem d3_15 : Bi jdk_92_method_5_code 15 (Instr.ifCond .ge) 45 18 := ⟨30, by decide +kernel, by decide, by decide, rfl⟩
theorem d3_45 : Dc jdk_92_method_5_code 45 (.aload_n 0) 1 46 := ⟨by decide +kernel, rfl⟩
theorem d3_46 : Dc jdk_92_method_5_code 46 (.iload_n 1) 1 47 := ⟨by decide +kernel, rfl⟩
theorem d4_0 : Dc jdk_92_method_6_code 0 (.aload_n 0) 1 1 := ⟨by decide +kernel, rfl⟩
theorem d4_1 : Dc jdk_92_method_6_code 1 (.iload_n 1) 1 2 := ⟨by decide +kernel, rfl⟩
theorem d4_2 : Dc jdk_92_method_6_code 2 (.iconst 1) 1 3 := ⟨by decide +kernel, rfl⟩
theorem d4_3 : Dc jdk_92_method_6_code 3 (.isub) 1 4 := ⟨by decide +kernel, rfl⟩
theorem pd_0 : parseMethodDescriptor "(I)I" = some ⟨[.int], some .int⟩ := by decide +kernel
theorem d4_4 : Dc jdk_92_method_6_code 4 (.invokestatic 52) 3 7 := ⟨by decide +kernel, rfl⟩
theorem d4_7 : Dc jdk_92_method_6_code 7 (.iconst 1) 1 8 := ⟨by decide +kernel, rfl⟩
theorem d4_8 : Dc jdk_92_method_6_code 8 (.iadd) 1 9 := ⟨by decide +kernel, rfl⟩
theorem d4_9 : Dc jdk_92_method_6_code 9 (.newarray .long) 2 11 := ⟨by decide +kernel, rfl⟩
theorem d4_11 : Dc jdk_92_method_6_code 11 (.putfield 11) 3 14 := ⟨by decide +kernel, rfl⟩
theorem d4_14 : Dc jdk_92_method_6_code 14 (.return_) 1 15 := ⟨by decide +kernel, rfl⟩
theorem pn_rb2 : plainName "java/util/BitSet" = true := by first | (simp [plainName, overriddenIn]; done) | decide +kernel
set_option maxRecDepth 65536 in
set_option maxHeartbeats 40000000 in
theorem rb2 (l : Launch) (Z : State) (a0 : Array Value) (hw : ∀ d ∈ tables_1, d.before a0 Z = true)  (ad0 : Addr) (x0 : Int32) (h0 : Heap) (O_ad0 : ObB Z h0 ad0 (.int (0 : Int32)) (.int (0 : Int32)) .null) (g_ad0 : Z.heap.size ≤ ad0) (OL : Old Z Z.heap.size h0) :
    Met l Z (⟨"java/util/BitSet", "initWords", "(I)V"⟩ : MethodName) jdk_92_method_6_code 2 none ({ frames := 1, cells := 1, slots := 4, locals := 13 } : Room) #[(.ref ad0), (.int (x0 &&& (255 : Int32)))] h0 (fun v h' => (∃ (b6 : Addr) (cA7 : ClassId) , v = none ∧ Keep h0 h' [ad0] ∧ h0.size ≤ b6 ∧ Arx Z h' b6 cA7 .long (0 : Int32) [] (.long (0 : Int64)) "[J" ∧ ObB Z h' ad0 (.int (0 : Int32)) (.int (0 : Int32)) (.ref b6)) ∨ (∃ (b14 : Addr) (cA15 : ClassId) , v = none ∧ Keep h0 h' [ad0] ∧ h0.size ≤ b14 ∧ Arx Z h' b14 cA15 .long (1 : Int32) [(.long (0 : Int64))] (.long (0 : Int64)) "[J" ∧ ObB Z h' ad0 (.int (0 : Int32)) (.int (0 : Int32)) (.ref b14)) ∨ (∃ (b22 : Addr) (cA23 : ClassId) , v = none ∧ Keep h0 h' [ad0] ∧ h0.size ≤ b22 ∧ Arx Z h' b22 cA23 .long (2 : Int32) [(.long (0 : Int64)), (.long (0 : Int64))] (.long (0 : Int64)) "[J" ∧ ObB Z h' ad0 (.int (0 : Int32)) (.int (0 : Int32)) (.ref b22)) ∨ (∃ (b30 : Addr) (cA31 : ClassId) , v = none ∧ Keep h0 h' [ad0] ∧ h0.size ≤ b30 ∧ Arx Z h' b30 cA31 .long (3 : Int32) [(.long (0 : Int64)), (.long (0 : Int64)), (.long (0 : Int64))] (.long (0 : Int64)) "[J" ∧ ObB Z h' ad0 (.int (0 : Int32)) (.int (0 : Int32)) (.ref b30)) ∨ (∃ (b38 : Addr) (cA39 : ClassId) , v = none ∧ Keep h0 h' [ad0] ∧ h0.size ≤ b38 ∧ Arx Z h' b38 cA39 .long (4 : Int32) [(.long (0 : Int64)), (.long (0 : Int64)), (.long (0 : Int64)), (.long (0 : Int64))] (.long (0 : Int64)) "[J" ∧ ObB Z h' ad0 (.int (0 : Int32)) (.int (0 : Int32)) (.ref b38))) := by
  refine met_of (Ls := #[.val (.ref ad0), .val (.int (x0 &&& (255 : Int32)))]) (plainFor_of_name pn_rb2) (fun m => by first | (simp [entryFrame, mkF, argsToLocals, Value.category]; done) | rfl) (fun p e s m below meth c cx => ?_)
  have KK := Keep.refl h0 [ad0]
  refine g_aloadN cx d4_0 rfl rfl ?_
  refine g_iloadN cx d4_1 rfl ?_
  refine g_iconst cx d4_2 (v := (1 : Int32)) rfl ?_
  refine g_isub cx d4_3 ?_
  refine g_static cx (y := (⟨"java/util/BitSet", "wordIndex", "(I)I"⟩ : MethodName)) d4_4 (hw _ (List.mem_of_getElem? (i := 25) rfl)) (hw _ (List.mem_of_getElem? (i := 26) rfl)) (hw _ (List.mem_of_getElem? (i := 11) rfl)) (hw _ (List.mem_of_getElem? (i := 27) rfl)) (by decide) (bytes := jdk_92_method_1_code) (maxL' := 1) (M := (rmw l Z a0 hw _ _)) rfl (lenOf pd_0 rfl) (by decide) (W := 1) (Nat.le_of_eq rfl) (by decide) (k' := 0) (n' := 0) rfl rfl (by decide) (by decide) (argsL := [(.int ((x0 &&& (255 : Int32)) - (1 : Int32)))]) (rest := [(.ref ad0)]) rfl (fun v2 h1 q3 => ?_)
  obtain ⟨rfl, rfl⟩ := q3
  refine G.cast (st' := [(.int (((x0 &&& (255 : Int32)) - (1 : Int32)) >>> ((6 : Int32) &&& 31))), (.ref ad0)]) ?_ rfl
  refine g_iconst cx d4_7 (v := (1 : Int32)) rfl ?_
  refine g_iadd cx d4_8 ?_
  have Dhs4 : ((((x0 &&& (255 : Int32)) - (1 : Int32)) >>> ((6 : Int32) &&& 31)) + (1 : Int32)) = (0 : Int32) ∨ ((((x0 &&& (255 : Int32)) - (1 : Int32)) >>> ((6 : Int32) &&& 31)) + (1 : Int32)) = (1 : Int32) ∨ ((((x0 &&& (255 : Int32)) - (1 : Int32)) >>> ((6 : Int32) &&& 31)) + (1 : Int32)) = (2 : Int32) ∨ ((((x0 &&& (255 : Int32)) - (1 : Int32)) >>> ((6 : Int32) &&& 31)) + (1 : Int32)) = (3 : Int32) ∨ ((((x0 &&& (255 : Int32)) - (1 : Int32)) >>> ((6 : Int32) &&& 31)) + (1 : Int32)) = (4 : Int32) := by
    have r5 := rng32 x0
    have e4 : ((x0 &&& (255 : Int32))).toInt = (x0).toInt % 256 := c_mask x0 (255 : Int32) 8 (by decide) (by decide)
    have e6 : (1 : Int32).toInt = 1 := rfl
    have e3 := c_isub (x0 &&& (255 : Int32)) (1 : Int32)
    have r3 := rng32 ((x0 &&& (255 : Int32)) - (1 : Int32))
    have e2 : ((((x0 &&& (255 : Int32)) - (1 : Int32)) >>> ((6 : Int32) &&& 31))).toInt = (((x0 &&& (255 : Int32)) - (1 : Int32))).toInt / 64 := c_ishr ((x0 &&& (255 : Int32)) - (1 : Int32)) (6 : Int32) 6 (by decide)
    have e1 := c_iadd (((x0 &&& (255 : Int32)) - (1 : Int32)) >>> ((6 : Int32) &&& 31)) (1 : Int32)
    have r1 := rng32 ((((x0 &&& (255 : Int32)) - (1 : Int32)) >>> ((6 : Int32) &&& 31)) + (1 : Int32))
    have e7 : (0 : Int32).toInt = 0 := rfl
    have e8 : (2 : Int32).toInt = 2 := rfl
    have e9 : (3 : Int32).toInt = 3 := rfl
    have e10 : (4 : Int32).toInt = 4 := rfl
    simp only [← Int32.toInt_inj]
    omega
  rcases Dhs4 with hs4 | hs4 | hs4 | hs4 | hs4
  · rw [hs4]
    refine g_newarray cx (ad := "[J") (by decide) d4_9 (hw _ (List.mem_of_getElem? (i := 28) rfl)) (by decide) (cap := 0) (by decide) (by decide) (k' := 1) (n' := 0) rfl rfl (by decide) (by decide) (fun h5 b6 cA7 gb8 E9 X10 => ?_)
    have ne_ad0_b6 : ad0 ≠ b6 := Nat.ne_of_lt (by rw [gb8]; exact O_ad0.lt)
    have g_b6 : Z.heap.size ≤ b6 := by rw [gb8]; exact OL.2.1
    have sz_b6 := (by rw [gb8]; exact KK.1 : h0.size ≤ b6)
    have O_ad0 := O_ad0.ext E9
    have OL := OL.ext E9
    have KK := KK.ext E9
    have A_b6 : Arx Z h5 b6 cA7 .long (0 : Int32) [] (.long (0 : Int64)) "[J" := X10.pad (pad_rep [] (.long (0 : Int64)) 0)
    refine g_putF cx d4_11 (host := "") (Or.inl (hw _ (List.mem_of_getElem? (i := 29) rfl))) Via.refl O_ad0.2.2.2 O_ad0.1 (Or.inl (hw _ (List.mem_of_getElem? (i := 30) rfl))) (hw _ (List.mem_of_getElem? (i := 10) rfl)) (ty := (.array .long)) (by decide) rfl rfl g_ad0 (fun h11 W12 => ?_)
    have O_ad0 := O_ad0.put3 hw W12
    have A_b6 := A_b6.other W12 (Ne.symm ne_ad0_b6)
    have OL := OL.wr W12 g_ad0
    have KK := KK.wr W12 (Or.inl (List.mem_of_getElem? (i := 0) rfl))
    refine g_retV cx d4_14 rfl (by decide) (by decide) ?_
    exact Or.inl ⟨b6, cA7, rfl, KK, sz_b6, A_b6, O_ad0⟩
  · rw [hs4]
    refine g_newarray cx (ad := "[J") (by decide) d4_9 (hw _ (List.mem_of_getElem? (i := 28) rfl)) (by decide) (cap := 1) (by decide) (by decide) (k' := 1) (n' := 1) rfl rfl (by decide) (by decide) (fun h13 b14 cA15 gb16 E17 X18 => ?_)
    have ne_ad0_b14 : ad0 ≠ b14 := Nat.ne_of_lt (by rw [gb16]; exact O_ad0.lt)
    have g_b14 : Z.heap.size ≤ b14 := by rw [gb16]; exact OL.2.1
    have sz_b14 := (by rw [gb16]; exact KK.1 : h0.size ≤ b14)
    have O_ad0 := O_ad0.ext E17
    have OL := OL.ext E17
    have KK := KK.ext E17
    have A_b14 : Arx Z h13 b14 cA15 .long (1 : Int32) [(.long (0 : Int64))] (.long (0 : Int64)) "[J" := X18.pad (pad_rep [] (.long (0 : Int64)) 1)
    refine g_putF cx d4_11 (host := "") (Or.inl (hw _ (List.mem_of_getElem? (i := 29) rfl))) Via.refl O_ad0.2.2.2 O_ad0.1 (Or.inl (hw _ (List.mem_of_getElem? (i := 30) rfl))) (hw _ (List.mem_of_getElem? (i := 10) rfl)) (ty := (.array .long)) (by decide) rfl rfl g_ad0 (fun h19 W20 => ?_)
    have O_ad0 := O_ad0.put3 hw W20
    have A_b14 := A_b14.other W20 (Ne.symm ne_ad0_b14)
    have OL := OL.wr W20 g_ad0
    have KK := KK.wr W20 (Or.inl (List.mem_of_getElem? (i := 0) rfl))
    refine g_retV cx d4_14 rfl (by decide) (by decide) ?_
    exact Or.inr (Or.inl ⟨b14, cA15, rfl, KK, sz_b14, A_b14, O_ad0⟩)
  · rw [hs4]
    refine g_newarray cx (ad := "[J") (by decide) d4_9 (hw _ (List.mem_of_getElem? (i := 28) rfl)) (by decide) (cap := 2) (by decide) (by decide) (k' := 1) (n' := 2) rfl rfl (by decide) (by decide) (fun h21 b22 cA23 gb24 E25 X26 => ?_)
    have ne_ad0_b22 : ad0 ≠ b22 := Nat.ne_of_lt (by rw [gb24]; exact O_ad0.lt)
    have g_b22 : Z.heap.size ≤ b22 := by rw [gb24]; exact OL.2.1
    have sz_b22 := (by rw [gb24]; exact KK.1 : h0.size ≤ b22)
    have O_ad0 := O_ad0.ext E25
    have OL := OL.ext E25
    have KK := KK.ext E25
    have A_b22 : Arx Z h21 b22 cA23 .long (2 : Int32) [(.long (0 : Int64)), (.long (0 : Int64))] (.long (0 : Int64)) "[J" := X26.pad (pad_rep [] (.long (0 : Int64)) 2)
    refine g_putF cx d4_11 (host := "") (Or.inl (hw _ (List.mem_of_getElem? (i := 29) rfl))) Via.refl O_ad0.2.2.2 O_ad0.1 (Or.inl (hw _ (List.mem_of_getElem? (i := 30) rfl))) (hw _ (List.mem_of_getElem? (i := 10) rfl)) (ty := (.array .long)) (by decide) rfl rfl g_ad0 (fun h27 W28 => ?_)
    have O_ad0 := O_ad0.put3 hw W28
    have A_b22 := A_b22.other W28 (Ne.symm ne_ad0_b22)
    have OL := OL.wr W28 g_ad0
    have KK := KK.wr W28 (Or.inl (List.mem_of_getElem? (i := 0) rfl))
    refine g_retV cx d4_14 rfl (by decide) (by decide) ?_
    exact Or.inr (Or.inr (Or.inl ⟨b22, cA23, rfl, KK, sz_b22, A_b22, O_ad0⟩))
  · rw [hs4]
    refine g_newarray cx (ad := "[J") (by decide) d4_9 (hw _ (List.mem_of_getElem? (i := 28) rfl)) (by decide) (cap := 3) (by decide) (by decide) (k' := 1) (n' := 3) rfl rfl (by decide) (by decide) (fun h29 b30 cA31 gb32 E33 X34 => ?_)
    have ne_ad0_b30 : ad0 ≠ b30 := Nat.ne_of_lt (by rw [gb32]; exact O_ad0.lt)
    have g_b30 : Z.heap.size ≤ b30 := by rw [gb32]; exact OL.2.1
    have sz_b30 := (by rw [gb32]; exact KK.1 : h0.size ≤ b30)
    have O_ad0 := O_ad0.ext E33
    have OL := OL.ext E33
    have KK := KK.ext E33
    have A_b30 : Arx Z h29 b30 cA31 .long (3 : Int32) [(.long (0 : Int64)), (.long (0 : Int64)), (.long (0 : Int64))] (.long (0 : Int64)) "[J" := X34.pad (pad_rep [] (.long (0 : Int64)) 3)
    refine g_putF cx d4_11 (host := "") (Or.inl (hw _ (List.mem_of_getElem? (i := 29) rfl))) Via.refl O_ad0.2.2.2 O_ad0.1 (Or.inl (hw _ (List.mem_of_getElem? (i := 30) rfl))) (hw _ (List.mem_of_getElem? (i := 10) rfl)) (ty := (.array .long)) (by decide) rfl rfl g_ad0 (fun h35 W36 => ?_)
    have O_ad0 := O_ad0.put3 hw W36
    have A_b30 := A_b30.other W36 (Ne.symm ne_ad0_b30)
    have OL := OL.wr W36 g_ad0
    have KK := KK.wr W36 (Or.inl (List.mem_of_getElem? (i := 0) rfl))
    refine g_retV cx d4_14 rfl (by decide) (by decide) ?_
    exact Or.inr (Or.inr (Or.inr (Or.inl ⟨b30, cA31, rfl, KK, sz_b30, A_b30, O_ad0⟩)))
  · rw [hs4]
    refine g_newarray cx (ad := "[J") (by decide) d4_9 (hw _ (List.mem_of_getElem? (i := 28) rfl)) (by decide) (cap := 4) (by decide) (by decide) (k' := 1) (n' := 4) rfl rfl (by decide) (by decide) (fun h37 b38 cA39 gb40 E41 X42 => ?_)
    have ne_ad0_b38 : ad0 ≠ b38 := Nat.ne_of_lt (by rw [gb40]; exact O_ad0.lt)
    have g_b38 : Z.heap.size ≤ b38 := by rw [gb40]; exact OL.2.1
    have sz_b38 := (by rw [gb40]; exact KK.1 : h0.size ≤ b38)
    have O_ad0 := O_ad0.ext E41
    have OL := OL.ext E41
    have KK := KK.ext E41
    have A_b38 : Arx Z h37 b38 cA39 .long (4 : Int32) [(.long (0 : Int64)), (.long (0 : Int64)), (.long (0 : Int64)), (.long (0 : Int64))] (.long (0 : Int64)) "[J" := X42.pad (pad_rep [] (.long (0 : Int64)) 4)
    refine g_putF cx d4_11 (host := "") (Or.inl (hw _ (List.mem_of_getElem? (i := 29) rfl))) Via.refl O_ad0.2.2.2 O_ad0.1 (Or.inl (hw _ (List.mem_of_getElem? (i := 30) rfl))) (hw _ (List.mem_of_getElem? (i := 10) rfl)) (ty := (.array .long)) (by decide) rfl rfl g_ad0 (fun h43 W44 => ?_)
    have O_ad0 := O_ad0.put3 hw W44
    have A_b38 := A_b38.other W44 (Ne.symm ne_ad0_b38)
    have OL := OL.wr W44 g_ad0
    have KK := KK.wr W44 (Or.inl (List.mem_of_getElem? (i := 0) rfl))
    refine g_retV cx d4_14 rfl (by decide) (by decide) ?_
    exact Or.inr (Or.inr (Or.inr (Or.inr (⟨b38, cA39, rfl, KK, sz_b38, A_b38, O_ad0⟩))))
theorem pd_1 : parseMethodDescriptor "(I)V" = some ⟨[.int], none⟩ := by decide +kernel
theorem d3_47 : Dc jdk_92_method_5_code 47 (.invokevirtual 27) 3 50 := ⟨by decide +kernel, rfl⟩
theorem d3_50 : Dc jdk_92_method_5_code 50 (.aload_n 0) 1 51 := ⟨by decide +kernel, rfl⟩
theorem d3_51 : Dc jdk_92_method_5_code 51 (.iconst 1) 1 52 := ⟨by decide +kernel, rfl⟩
theorem d3_52 : Dc jdk_92_method_5_code 52 (.putfield 24) 3 55 := ⟨by decide +kernel, rfl⟩
theorem d3_55 : Dc jdk_92_method_5_code 55 (.return_) 1 56 := ⟨by decide +kernel, rfl⟩
theorem pn_rb1 : plainName "java/util/BitSet" = true := by first | (simp [plainName, overriddenIn]; done) | decide +kernel
set_option maxRecDepth 65536 in
set_option maxHeartbeats 40000000 in
theorem rb1 (l : Launch) (Z : State) (a0 : Array Value) (hw : ∀ d ∈ tables_1, d.before a0 Z = true)  (ad0 : Addr) (x0 : Int32) (h0 : Heap) (O_ad0 : ObB Z h0 ad0 (.int (0 : Int32)) (.int (0 : Int32)) .null) (g_ad0 : Z.heap.size ≤ ad0) (OL : Old Z Z.heap.size h0) :
    Met l Z (⟨"java/util/BitSet", "<init>", "(I)V"⟩ : MethodName) jdk_92_method_5_code 2 none ({ frames := 2, cells := 1, slots := 4, locals := 26 } : Room) #[(.ref ad0), (.int (x0 &&& (255 : Int32)))] h0 (fun v h' => (∃ (b5 : Addr) (cA6 : ClassId) , ¬ ((x0 &&& (255 : Int32)) < (0 : Int32)) ∧ v = none ∧ Keep h0 h' [ad0] ∧ h0.size ≤ b5 ∧ Arx Z h' b5 cA6 .long (0 : Int32) [] (.long (0 : Int64)) "[J" ∧ ObB Z h' ad0 (.int (0 : Int32)) (.int (1 : Int32)) (.ref b5)) ∨ (∃ (b8 : Addr) (cA9 : ClassId) , ¬ ((x0 &&& (255 : Int32)) < (0 : Int32)) ∧ v = none ∧ Keep h0 h' [ad0] ∧ h0.size ≤ b8 ∧ Arx Z h' b8 cA9 .long (1 : Int32) [(.long (0 : Int64))] (.long (0 : Int64)) "[J" ∧ ObB Z h' ad0 (.int (0 : Int32)) (.int (1 : Int32)) (.ref b8)) ∨ (∃ (b11 : Addr) (cA12 : ClassId) , ¬ ((x0 &&& (255 : Int32)) < (0 : Int32)) ∧ v = none ∧ Keep h0 h' [ad0] ∧ h0.size ≤ b11 ∧ Arx Z h' b11 cA12 .long (2 : Int32) [(.long (0 : Int64)), (.long (0 : Int64))] (.long (0 : Int64)) "[J" ∧ ObB Z h' ad0 (.int (0 : Int32)) (.int (1 : Int32)) (.ref b11)) ∨ (∃ (b14 : Addr) (cA15 : ClassId) , ¬ ((x0 &&& (255 : Int32)) < (0 : Int32)) ∧ v = none ∧ Keep h0 h' [ad0] ∧ h0.size ≤ b14 ∧ Arx Z h' b14 cA15 .long (3 : Int32) [(.long (0 : Int64)), (.long (0 : Int64)), (.long (0 : Int64))] (.long (0 : Int64)) "[J" ∧ ObB Z h' ad0 (.int (0 : Int32)) (.int (1 : Int32)) (.ref b14)) ∨ (∃ (b17 : Addr) (cA18 : ClassId) , ¬ ((x0 &&& (255 : Int32)) < (0 : Int32)) ∧ v = none ∧ Keep h0 h' [ad0] ∧ h0.size ≤ b17 ∧ Arx Z h' b17 cA18 .long (4 : Int32) [(.long (0 : Int64)), (.long (0 : Int64)), (.long (0 : Int64)), (.long (0 : Int64))] (.long (0 : Int64)) "[J" ∧ ObB Z h' ad0 (.int (0 : Int32)) (.int (1 : Int32)) (.ref b17))) := by
  refine met_of (Ls := #[.val (.ref ad0), .val (.int (x0 &&& (255 : Int32)))]) (plainFor_of_name pn_rb1) (fun m => by first | (simp [entryFrame, mkF, argsToLocals, Value.category]; done) | rfl) (fun p e s m below meth c cx => ?_)
  have KK := Keep.refl h0 [ad0]
  refine g_aloadN cx d3_0 rfl rfl ?_
  refine g_initO cx d3_1 (hw _ (List.mem_of_getElem? (i := 15) rfl)) (hw _ (List.mem_of_getElem? (i := 7) rfl)) (hw _ (List.mem_of_getElem? (i := 8) rfl)) rfl (by decide) (W := 0) (Nat.le_of_eq rfl) (by decide) ?_
  refine g_aloadN cx d3_4 rfl rfl ?_
  refine g_iconst cx d3_5 (v := (0 : Int32)) rfl ?_
  refine g_putF cx d3_6 (host := "") (Or.inl (hw _ (List.mem_of_getElem? (i := 16) rfl))) Via.refl O_ad0.2.1 O_ad0.1 (Or.inl (hw _ (List.mem_of_getElem? (i := 17) rfl))) (hw _ (List.mem_of_getElem? (i := 10) rfl)) (ty := .int) (by decide) rfl rfl g_ad0 (fun h1 W2 => ?_)
  have O_ad0 := O_ad0.put1 hw W2
  have OL := OL.wr W2 g_ad0
  have KK := KK.wr W2 (Or.inl (List.mem_of_getElem? (i := 0) rfl))
  refine g_aloadN cx d3_9 rfl rfl ?_
  refine g_iconst cx d3_10 (v := (0 : Int32)) rfl ?_
  refine g_putFN cx d3_11 (hw _ (List.mem_of_getElem? (i := 18) rfl)) Via.refl O_ad0.2.2.1 O_ad0.1 (Or.inl (hw _ (List.mem_of_getElem? (i := 19) rfl))) (hw _ (List.mem_of_getElem? (i := 10) rfl)) (ty := .boolean) (v' := (.int (0 : Int32))) (by decide) rfl rfl g_ad0 (fun h3 W4 => ?_)
  have O_ad0 := O_ad0.put2 hw W4
  have OL := OL.wr W4 g_ad0
  have KK := KK.wr W4 (Or.inl (List.mem_of_getElem? (i := 0) rfl))
  refine g_iloadN cx d3_14 rfl ?_
  refine g_if_ge cx d3_15 (fun hc15 => ?_) (fun q => absurd q (fun q => by have i_q : ((x0 &&& (255 : Int32))).toInt < ((0 : Int32)).toInt := Int32.lt_iff_toInt_lt.mp q; have r2 := rng32 x0; have e1 : ((x0 &&& (255 : Int32))).toInt = (x0).toInt % 256 := c_mask x0 (255 : Int32) 8 (by decide) (by decide); have e3 : (0 : Int32).toInt = 0 := rfl; omega))
  refine g_aloadN cx d3_45 rfl rfl ?_
  refine g_iloadN cx d3_46 rfl ?_
  have lt_ad0 := O_ad0.lt
  refine g_private cx (y := (⟨"java/util/BitSet", "initWords", "(I)V"⟩ : MethodName)) (a := ad0) d3_47 (hw _ (List.mem_of_getElem? (i := 20) rfl)) (hw _ (List.mem_of_getElem? (i := 21) rfl)) (hw _ (List.mem_of_getElem? (i := 11) rfl)) (hw _ (List.mem_of_getElem? (i := 24) rfl)) (hw _ (List.mem_of_getElem? (i := 23) rfl)) (hw _ (List.mem_of_getElem? (i := 22) rfl)) (by decide) O_ad0.1 (bytes := jdk_92_method_6_code) (maxL' := 2) (M := (rb2 l Z a0 hw  ad0 x0 _ O_ad0 g_ad0 OL)) rfl (lenOf pd_1 rfl) (by decide) (W := 0) (Nat.le_of_eq rfl) (by decide) (k' := 1) (n' := 4) rfl rfl (by decide) (by decide) (argsL := [(.int (x0 &&& (255 : Int32)))]) (rest := []) rfl (fun v21 h20 q22 => ?_)
  rcases q22 with ⟨b5, cA6, rfl, K7, sq_b5, A_b5, O_ad0⟩ | ⟨b8, cA9, rfl, K10, sq_b8, A_b8, O_ad0⟩ | ⟨b11, cA12, rfl, K13, sq_b11, A_b11, O_ad0⟩ | ⟨b14, cA15, rfl, K16, sq_b14, A_b14, O_ad0⟩ | ⟨b17, cA18, rfl, K19, sq_b17, A_b17, O_ad0⟩
  · have ne_ad0_b5 : ad0 ≠ b5 := Nat.ne_of_lt (Nat.lt_of_lt_of_le lt_ad0 sq_b5)
    have g_b5 : Z.heap.size ≤ b5 := Nat.le_trans OL.2.1 sq_b5
    have sz_b5 := Nat.le_trans KK.1 sq_b5
    have OL := OL.keep K7 (allS g_ad0 all0)
    have KK := KK.trans K7 (allS (P := fun z => z ∈ _ ∨ _ ≤ z) (Or.inl (List.mem_of_getElem? (i := 0) rfl)) all0)
    refine G.cast (st' := []) ?_ rfl
    refine g_aloadN cx d3_50 rfl rfl ?_
    refine g_iconst cx d3_51 (v := (1 : Int32)) rfl ?_
    refine g_putFN cx d3_52 (hw _ (List.mem_of_getElem? (i := 18) rfl)) Via.refl O_ad0.2.2.1 O_ad0.1 (Or.inl (hw _ (List.mem_of_getElem? (i := 19) rfl))) (hw _ (List.mem_of_getElem? (i := 10) rfl)) (ty := .boolean) (v' := (.int (1 : Int32))) (by decide) rfl rfl g_ad0 (fun h23 W24 => ?_)
    have O_ad0 := O_ad0.put2 hw W24
    have A_b5 := A_b5.other W24 (Ne.symm ne_ad0_b5)
    have OL := OL.wr W24 g_ad0
    have KK := KK.wr W24 (Or.inl (List.mem_of_getElem? (i := 0) rfl))
    refine g_retV cx d3_55 rfl (by decide) (by decide) ?_
    exact Or.inl ⟨b5, cA6, hc15, rfl, KK, sz_b5, A_b5, O_ad0⟩
  · have ne_ad0_b8 : ad0 ≠ b8 := Nat.ne_of_lt (Nat.lt_of_lt_of_le lt_ad0 sq_b8)
    have g_b8 : Z.heap.size ≤ b8 := Nat.le_trans OL.2.1 sq_b8
    have sz_b8 := Nat.le_trans KK.1 sq_b8
    have OL := OL.keep K10 (allS g_ad0 all0)
    have KK := KK.trans K10 (allS (P := fun z => z ∈ _ ∨ _ ≤ z) (Or.inl (List.mem_of_getElem? (i := 0) rfl)) all0)
    refine G.cast (st' := []) ?_ rfl
    refine g_aloadN cx d3_50 rfl rfl ?_
    refine g_iconst cx d3_51 (v := (1 : Int32)) rfl ?_
    refine g_putFN cx d3_52 (hw _ (List.mem_of_getElem? (i := 18) rfl)) Via.refl O_ad0.2.2.1 O_ad0.1 (Or.inl (hw _ (List.mem_of_getElem? (i := 19) rfl))) (hw _ (List.mem_of_getElem? (i := 10) rfl)) (ty := .boolean) (v' := (.int (1 : Int32))) (by decide) rfl rfl g_ad0 (fun h25 W26 => ?_)
    have O_ad0 := O_ad0.put2 hw W26
    have A_b8 := A_b8.other W26 (Ne.symm ne_ad0_b8)
    have OL := OL.wr W26 g_ad0
    have KK := KK.wr W26 (Or.inl (List.mem_of_getElem? (i := 0) rfl))
    refine g_retV cx d3_55 rfl (by decide) (by decide) ?_
    exact Or.inr (Or.inl ⟨b8, cA9, hc15, rfl, KK, sz_b8, A_b8, O_ad0⟩)
  · have ne_ad0_b11 : ad0 ≠ b11 := Nat.ne_of_lt (Nat.lt_of_lt_of_le lt_ad0 sq_b11)
    have g_b11 : Z.heap.size ≤ b11 := Nat.le_trans OL.2.1 sq_b11
    have sz_b11 := Nat.le_trans KK.1 sq_b11
    have OL := OL.keep K13 (allS g_ad0 all0)
    have KK := KK.trans K13 (allS (P := fun z => z ∈ _ ∨ _ ≤ z) (Or.inl (List.mem_of_getElem? (i := 0) rfl)) all0)
    refine G.cast (st' := []) ?_ rfl
    refine g_aloadN cx d3_50 rfl rfl ?_
    refine g_iconst cx d3_51 (v := (1 : Int32)) rfl ?_
    refine g_putFN cx d3_52 (hw _ (List.mem_of_getElem? (i := 18) rfl)) Via.refl O_ad0.2.2.1 O_ad0.1 (Or.inl (hw _ (List.mem_of_getElem? (i := 19) rfl))) (hw _ (List.mem_of_getElem? (i := 10) rfl)) (ty := .boolean) (v' := (.int (1 : Int32))) (by decide) rfl rfl g_ad0 (fun h27 W28 => ?_)
    have O_ad0 := O_ad0.put2 hw W28
    have A_b11 := A_b11.other W28 (Ne.symm ne_ad0_b11)
    have OL := OL.wr W28 g_ad0
    have KK := KK.wr W28 (Or.inl (List.mem_of_getElem? (i := 0) rfl))
    refine g_retV cx d3_55 rfl (by decide) (by decide) ?_
    exact Or.inr (Or.inr (Or.inl ⟨b11, cA12, hc15, rfl, KK, sz_b11, A_b11, O_ad0⟩))
  · have ne_ad0_b14 : ad0 ≠ b14 := Nat.ne_of_lt (Nat.lt_of_lt_of_le lt_ad0 sq_b14)
    have g_b14 : Z.heap.size ≤ b14 := Nat.le_trans OL.2.1 sq_b14
    have sz_b14 := Nat.le_trans KK.1 sq_b14
    have OL := OL.keep K16 (allS g_ad0 all0)
    have KK := KK.trans K16 (allS (P := fun z => z ∈ _ ∨ _ ≤ z) (Or.inl (List.mem_of_getElem? (i := 0) rfl)) all0)
    refine G.cast (st' := []) ?_ rfl
    refine g_aloadN cx d3_50 rfl rfl ?_
    refine g_iconst cx d3_51 (v := (1 : Int32)) rfl ?_
    refine g_putFN cx d3_52 (hw _ (List.mem_of_getElem? (i := 18) rfl)) Via.refl O_ad0.2.2.1 O_ad0.1 (Or.inl (hw _ (List.mem_of_getElem? (i := 19) rfl))) (hw _ (List.mem_of_getElem? (i := 10) rfl)) (ty := .boolean) (v' := (.int (1 : Int32))) (by decide) rfl rfl g_ad0 (fun h29 W30 => ?_)
    have O_ad0 := O_ad0.put2 hw W30
    have A_b14 := A_b14.other W30 (Ne.symm ne_ad0_b14)
    have OL := OL.wr W30 g_ad0
    have KK := KK.wr W30 (Or.inl (List.mem_of_getElem? (i := 0) rfl))
    refine g_retV cx d3_55 rfl (by decide) (by decide) ?_
    exact Or.inr (Or.inr (Or.inr (Or.inl ⟨b14, cA15, hc15, rfl, KK, sz_b14, A_b14, O_ad0⟩)))
  · have ne_ad0_b17 : ad0 ≠ b17 := Nat.ne_of_lt (Nat.lt_of_lt_of_le lt_ad0 sq_b17)
    have g_b17 : Z.heap.size ≤ b17 := Nat.le_trans OL.2.1 sq_b17
    have sz_b17 := Nat.le_trans KK.1 sq_b17
    have OL := OL.keep K19 (allS g_ad0 all0)
    have KK := KK.trans K19 (allS (P := fun z => z ∈ _ ∨ _ ≤ z) (Or.inl (List.mem_of_getElem? (i := 0) rfl)) all0)
    refine G.cast (st' := []) ?_ rfl
    refine g_aloadN cx d3_50 rfl rfl ?_
    refine g_iconst cx d3_51 (v := (1 : Int32)) rfl ?_
    refine g_putFN cx d3_52 (hw _ (List.mem_of_getElem? (i := 18) rfl)) Via.refl O_ad0.2.2.1 O_ad0.1 (Or.inl (hw _ (List.mem_of_getElem? (i := 19) rfl))) (hw _ (List.mem_of_getElem? (i := 10) rfl)) (ty := .boolean) (v' := (.int (1 : Int32))) (by decide) rfl rfl g_ad0 (fun h31 W32 => ?_)
    have O_ad0 := O_ad0.put2 hw W32
    have A_b17 := A_b17.other W32 (Ne.symm ne_ad0_b17)
    have OL := OL.wr W32 g_ad0
    have KK := KK.wr W32 (Or.inl (List.mem_of_getElem? (i := 0) rfl))
    refine g_retV cx d3_55 rfl (by decide) (by decide) ?_
    exact Or.inr (Or.inr (Or.inr (Or.inr (⟨b17, cA18, hc15, rfl, KK, sz_b17, A_b17, O_ad0⟩))))
theorem d1_10 : Dc prog_43_method_1_code 10 (.invokespecial 9) 3 13 := ⟨by decide +kernel, rfl⟩
theorem d1_13 : Dc prog_43_method_1_code 13 (.putfield 12) 3 16 := ⟨by decide +kernel, rfl⟩
theorem d1_16 : Dc prog_43_method_1_code 16 (.return_) 1 17 := ⟨by decide +kernel, rfl⟩
theorem pn_rmi : plainName "com/example/dyn_authz/dynauthz/service/Decisions" = true := by first | (simp [plainName, overriddenIn]; done) | decide +kernel
set_option maxRecDepth 65536 in
set_option maxHeartbeats 40000000 in
theorem rmi (l : Launch) (Z : State) (a0 : Array Value) (hw : ∀ d ∈ tables_1, d.before a0 Z = true) (ie : Int32) (a : Addr) (h0 : Heap) (O_a : ObD Z h0 a .null (.int (0 : Int32)) (.int (0 : Int32))) (g_a : Z.heap.size ≤ a) (OL : Old Z Z.heap.size h0) :
    Met l Z (⟨"com/example/dyn_authz/dynauthz/service/Decisions", "<init>", "(I)V"⟩ : MethodName) prog_43_method_1_code 2 none ({ frames := 3, cells := 2, slots := 7, locals := 41 } : Room) #[(.ref a), (.int (ie &&& (255 : Int32)))] h0 (fun v h' => v = none ∧ Old Z Z.heap.size h' ∧ own_D Z h' a (0 : Int32) (0 : Int32)) := by
  refine met_of (Ls := #[.val (.ref a), .val (.int (ie &&& (255 : Int32)))]) (plainFor_of_name pn_rmi) (fun m => by first | (simp [entryFrame, mkF, argsToLocals, Value.category]; done) | rfl) (fun p e s m below meth c cx => ?_)
  refine g_aloadN cx d1_0 rfl rfl ?_
  refine g_initO cx d1_1 (hw _ (List.mem_of_getElem? (i := 6) rfl)) (hw _ (List.mem_of_getElem? (i := 7) rfl)) (hw _ (List.mem_of_getElem? (i := 8) rfl)) rfl (by decide) (W := 0) (Nat.le_of_eq rfl) (by decide) ?_
  refine g_aloadN cx d1_4 rfl rfl ?_
  refine g_new cx d1_5 (hw _ (List.mem_of_getElem? (i := 9) rfl)) (hw _ (List.mem_of_getElem? (i := 10) rfl)) (hw _ (List.mem_of_getElem? (i := 11) rfl)) (k' := 1) (n' := 3) rfl rfl (by decide) (by decide) (fun h1 b2 gb3 E4 X5 D6 => ?_)
  have ne_a_b2 : a ≠ b2 := Nat.ne_of_lt (by rw [gb3]; exact O_a.lt)
  have g_b2 : Z.heap.size ≤ b2 := by rw [gb3]; exact OL.2.1
  have O_a := O_a.ext E4
  have OL := OL.ext E4
  have O_b2 := ObB.new hw X5 D6
  refine g_dup cx d1_8 rfl ?_
  refine g_iloadN cx d1_9 rfl ?_
  have lt_b2 := O_b2.lt
  refine g_special cx (y := (⟨"java/util/BitSet", "<init>", "(I)V"⟩ : MethodName)) (a := b2) d1_10 rfl rfl (hw _ (List.mem_of_getElem? (i := 12) rfl)) (hw _ (List.mem_of_getElem? (i := 13) rfl)) (hw _ (List.mem_of_getElem? (i := 11) rfl)) (hw _ (List.mem_of_getElem? (i := 14) rfl)) (by decide) (bytes := jdk_92_method_5_code) (maxL' := 2) (M := (rb1 l Z a0 hw  b2 ie _ O_b2 g_b2 OL)) rfl (lenOf pd_1 rfl) (by decide) (W := 2) (Nat.le_of_eq rfl) (by decide) (k' := 2) (n' := 7) rfl rfl (by decide) (by decide) (argsL := [(.int (ie &&& (255 : Int32)))]) (rest := [(.ref b2), (.ref a)]) rfl (fun v28 h27 q29 => ?_)
  rcases q29 with ⟨b7, cA8, hq9, rfl, K10, sq_b7, A_b7, O_b2⟩ | ⟨b11, cA12, hq13, rfl, K14, sq_b11, A_b11, O_b2⟩ | ⟨b15, cA16, hq17, rfl, K18, sq_b15, A_b15, O_b2⟩ | ⟨b19, cA20, hq21, rfl, K22, sq_b19, A_b19, O_b2⟩ | ⟨b23, cA24, hq25, rfl, K26, sq_b23, A_b23, O_b2⟩
  · have ne_a_b7 : a ≠ b7 := Nat.ne_of_lt (Nat.lt_of_lt_of_le O_a.lt sq_b7)
    have ne_b2_b7 : b2 ≠ b7 := Nat.ne_of_lt (Nat.lt_of_lt_of_le lt_b2 sq_b7)
    have g_b7 : Z.heap.size ≤ b7 := Nat.le_trans OL.2.1 sq_b7
    have O_a := O_a.keep K10 (ninS ne_a_b2 nin0)
    have OL := OL.keep K10 (allS g_b2 all0)
    refine G.cast (st' := [(.ref b2), (.ref a)]) ?_ rfl
    refine g_putF cx d1_13 (host := "") (Or.inl (hw _ (List.mem_of_getElem? (i := 31) rfl))) Via.refl O_a.2.1 O_a.1 (Or.inr ⟨(hw _ (List.mem_of_getElem? (i := 32) rfl)), rfl, rfl⟩) (hw _ (List.mem_of_getElem? (i := 1) rfl)) (ty := (.object "java/util/BitSet")) (by decide) rfl rfl g_a (fun h30 W31 => ?_)
    have O_a := O_a.put1 hw W31
    have O_b2 := O_b2.oth W31 (Ne.symm ne_a_b2)
    have A_b7 := A_b7.other W31 (Ne.symm ne_a_b7)
    have OL := OL.wr W31 g_a
    refine g_retV cx d1_16 rfl (by decide) (by decide) ?_
    exact ⟨rfl, OL, ⟨b2, b7, cA8, _, g_a, g_b2, g_b7, ne_a_b2, ne_a_b7, ne_b2_b7, O_a, Or.inl ⟨O_b2, A_b7⟩⟩⟩
  · have ne_a_b11 : a ≠ b11 := Nat.ne_of_lt (Nat.lt_of_lt_of_le O_a.lt sq_b11)
    have ne_b2_b11 : b2 ≠ b11 := Nat.ne_of_lt (Nat.lt_of_lt_of_le lt_b2 sq_b11)
    have g_b11 : Z.heap.size ≤ b11 := Nat.le_trans OL.2.1 sq_b11
    have O_a := O_a.keep K14 (ninS ne_a_b2 nin0)
    have OL := OL.keep K14 (allS g_b2 all0)
    refine G.cast (st' := [(.ref b2), (.ref a)]) ?_ rfl
    refine g_putF cx d1_13 (host := "") (Or.inl (hw _ (List.mem_of_getElem? (i := 31) rfl))) Via.refl O_a.2.1 O_a.1 (Or.inr ⟨(hw _ (List.mem_of_getElem? (i := 32) rfl)), rfl, rfl⟩) (hw _ (List.mem_of_getElem? (i := 1) rfl)) (ty := (.object "java/util/BitSet")) (by decide) rfl rfl g_a (fun h32 W33 => ?_)
    have O_a := O_a.put1 hw W33
    have O_b2 := O_b2.oth W33 (Ne.symm ne_a_b2)
    have A_b11 := A_b11.other W33 (Ne.symm ne_a_b11)
    have OL := OL.wr W33 g_a
    refine g_retV cx d1_16 rfl (by decide) (by decide) ?_
    exact ⟨rfl, OL, ⟨b2, b11, cA12, _, g_a, g_b2, g_b11, ne_a_b2, ne_a_b11, ne_b2_b11, O_a, Or.inr (Or.inl ⟨(0 : Int64), O_b2, A_b11⟩)⟩⟩
  · have ne_a_b15 : a ≠ b15 := Nat.ne_of_lt (Nat.lt_of_lt_of_le O_a.lt sq_b15)
    have ne_b2_b15 : b2 ≠ b15 := Nat.ne_of_lt (Nat.lt_of_lt_of_le lt_b2 sq_b15)
    have g_b15 : Z.heap.size ≤ b15 := Nat.le_trans OL.2.1 sq_b15
    have O_a := O_a.keep K18 (ninS ne_a_b2 nin0)
    have OL := OL.keep K18 (allS g_b2 all0)
    refine G.cast (st' := [(.ref b2), (.ref a)]) ?_ rfl
    refine g_putF cx d1_13 (host := "") (Or.inl (hw _ (List.mem_of_getElem? (i := 31) rfl))) Via.refl O_a.2.1 O_a.1 (Or.inr ⟨(hw _ (List.mem_of_getElem? (i := 32) rfl)), rfl, rfl⟩) (hw _ (List.mem_of_getElem? (i := 1) rfl)) (ty := (.object "java/util/BitSet")) (by decide) rfl rfl g_a (fun h34 W35 => ?_)
    have O_a := O_a.put1 hw W35
    have O_b2 := O_b2.oth W35 (Ne.symm ne_a_b2)
    have A_b15 := A_b15.other W35 (Ne.symm ne_a_b15)
    have OL := OL.wr W35 g_a
    refine g_retV cx d1_16 rfl (by decide) (by decide) ?_
    exact ⟨rfl, OL, ⟨b2, b15, cA16, _, g_a, g_b2, g_b15, ne_a_b2, ne_a_b15, ne_b2_b15, O_a, Or.inr (Or.inr (Or.inr (Or.inl ⟨(0 : Int64), (0 : Int64), O_b2, A_b15⟩)))⟩⟩
  · have ne_a_b19 : a ≠ b19 := Nat.ne_of_lt (Nat.lt_of_lt_of_le O_a.lt sq_b19)
    have ne_b2_b19 : b2 ≠ b19 := Nat.ne_of_lt (Nat.lt_of_lt_of_le lt_b2 sq_b19)
    have g_b19 : Z.heap.size ≤ b19 := Nat.le_trans OL.2.1 sq_b19
    have O_a := O_a.keep K22 (ninS ne_a_b2 nin0)
    have OL := OL.keep K22 (allS g_b2 all0)
    refine G.cast (st' := [(.ref b2), (.ref a)]) ?_ rfl
    refine g_putF cx d1_13 (host := "") (Or.inl (hw _ (List.mem_of_getElem? (i := 31) rfl))) Via.refl O_a.2.1 O_a.1 (Or.inr ⟨(hw _ (List.mem_of_getElem? (i := 32) rfl)), rfl, rfl⟩) (hw _ (List.mem_of_getElem? (i := 1) rfl)) (ty := (.object "java/util/BitSet")) (by decide) rfl rfl g_a (fun h36 W37 => ?_)
    have O_a := O_a.put1 hw W37
    have O_b2 := O_b2.oth W37 (Ne.symm ne_a_b2)
    have A_b19 := A_b19.other W37 (Ne.symm ne_a_b19)
    have OL := OL.wr W37 g_a
    refine g_retV cx d1_16 rfl (by decide) (by decide) ?_
    exact ⟨rfl, OL, ⟨b2, b19, cA20, _, g_a, g_b2, g_b19, ne_a_b2, ne_a_b19, ne_b2_b19, O_a, Or.inr (Or.inr (Or.inr (Or.inr (Or.inr (Or.inl ⟨(0 : Int64), (0 : Int64), (0 : Int64), O_b2, A_b19⟩)))))⟩⟩
  · have ne_a_b23 : a ≠ b23 := Nat.ne_of_lt (Nat.lt_of_lt_of_le O_a.lt sq_b23)
    have ne_b2_b23 : b2 ≠ b23 := Nat.ne_of_lt (Nat.lt_of_lt_of_le lt_b2 sq_b23)
    have g_b23 : Z.heap.size ≤ b23 := Nat.le_trans OL.2.1 sq_b23
    have O_a := O_a.keep K26 (ninS ne_a_b2 nin0)
    have OL := OL.keep K26 (allS g_b2 all0)
    refine G.cast (st' := [(.ref b2), (.ref a)]) ?_ rfl
    refine g_putF cx d1_13 (host := "") (Or.inl (hw _ (List.mem_of_getElem? (i := 31) rfl))) Via.refl O_a.2.1 O_a.1 (Or.inr ⟨(hw _ (List.mem_of_getElem? (i := 32) rfl)), rfl, rfl⟩) (hw _ (List.mem_of_getElem? (i := 1) rfl)) (ty := (.object "java/util/BitSet")) (by decide) rfl rfl g_a (fun h38 W39 => ?_)
    have O_a := O_a.put1 hw W39
    have O_b2 := O_b2.oth W39 (Ne.symm ne_a_b2)
    have A_b23 := A_b23.other W39 (Ne.symm ne_a_b23)
    have OL := OL.wr W39 g_a
    refine g_retV cx d1_16 rfl (by decide) (by decide) ?_
    exact ⟨rfl, OL, ⟨b2, b23, cA24, _, g_a, g_b2, g_b23, ne_a_b2, ne_a_b23, ne_b2_b23, O_a, Or.inr (Or.inr (Or.inr (Or.inr (Or.inr (Or.inr (Or.inr (Or.inl ⟨(0 : Int64), (0 : Int64), (0 : Int64), (0 : Int64), O_b2, A_b23⟩)))))))⟩⟩
theorem d7_0 : Dc prog_43_method_3_code 0 (.aload_n 1) 1 1 := ⟨by decide +kernel, rfl⟩
theorem d7_1 : Dc prog_43_method_3_code 1 (.getstatic 18) 3 4 := ⟨by decide +kernel, rfl⟩
theorem d7_4 : Bi prog_43_method_3_code 4 (Instr.if_acmp .ne) 28 7 := ⟨24, by decide +kernel, by decide, by decide, rfl⟩
theorem d7_7 : Dc prog_43_method_3_code 7 (.aload_n 0) 1 8 := ⟨by decide +kernel, rfl⟩
theorem d7_8 : Dc prog_43_method_3_code 8 (.getfield 12) 3 11 := ⟨by decide +kernel, rfl⟩
theorem d7_11 : Dc prog_43_method_3_code 11 (.aload_n 0) 1 12 := ⟨by decide +kernel, rfl⟩
theorem d7_12 : Dc prog_43_method_3_code 12 (.getfield 28) 3 15 := ⟨by decide +kernel, rfl⟩
theorem d8_0 : Dc jdk_92_method_19_code 0 (.iload_n 1) 1 1 := ⟨by decide +kernel, rfl⟩
theorem d8_1 : Bi jdk_92_method_19_code 1 (Instr.ifCond .ge) 31 4 := ⟨30, by decide +kernel, by decide, by decide, rfl⟩
theorem d8_31 : Dc jdk_92_method_19_code 31 (.iload_n 1) 1 32 := ⟨by decide +kernel, rfl⟩
theorem d8_32 : Dc jdk_92_method_19_code 32 (.invokestatic 52) 3 35 := ⟨by decide +kernel, rfl⟩
theorem d8_35 : Dc jdk_92_method_19_code 35 (.istore_n 2) 1 36 := ⟨by decide +kernel, rfl⟩
theorem d8_36 : Dc jdk_92_method_19_code 36 (.aload_n 0) 1 37 := ⟨by decide +kernel, rfl⟩
theorem d8_37 : Dc jdk_92_method_19_code 37 (.iload_n 2) 1 38 := ⟨by decide +kernel, rfl⟩
theorem d9_0 : Dc jdk_92_method_15_code 0 (.iload_n 1) 1 1 := ⟨by decide +kernel, rfl⟩
theorem d9_1 : Dc jdk_92_method_15_code 1 (.iconst 1) 1 2 := ⟨by decide +kernel, rfl⟩
theorem d9_2 : Dc jdk_92_method_15_code 2 (.iadd) 1 3 := ⟨by decide +kernel, rfl⟩
theorem d9_3 : Dc jdk_92_method_15_code 3 (.istore_n 2) 1 4 := ⟨by decide +kernel, rfl⟩
theorem d9_4 : Dc jdk_92_method_15_code 4 (.aload_n 0) 1 5 := ⟨by decide +kernel, rfl⟩
theorem d9_5 : Dc jdk_92_method_15_code 5 (.getfield 7) 3 8 := ⟨by decide +kernel, rfl⟩
theorem d9_8 : Dc jdk_92_method_15_code 8 (.iload_n 2) 1 9 := ⟨by decide +kernel, rfl⟩
theorem d9_9 : Bi jdk_92_method_15_code 9 (Instr.if_icmp .ge) 22 12 := ⟨13, by decide +kernel, by decide, by decide, rfl⟩
theorem d9_12 : Dc jdk_92_method_15_code 12 (.aload_n 0) 1 13 := ⟨by decide +kernel, rfl⟩
theorem d9_13 : Dc jdk_92_method_15_code 13 (.iload_n 2) 1 14 := ⟨by decide +kernel, rfl⟩
theorem d10_0 : Dc jdk_92_method_14_code 0 (.aload_n 0) 1 1 := ⟨by decide +kernel, rfl⟩
theorem d10_1 : Dc jdk_92_method_14_code 1 (.getfield 11) 3 4 := ⟨by decide +kernel, rfl⟩
theorem d10_4 : Dc jdk_92_method_14_code 4 (.arraylength) 1 5 := ⟨by decide +kernel, rfl⟩
theorem d10_5 : Dc jdk_92_method_14_code 5 (.iload_n 1) 1 6 := ⟨by decide +kernel, rfl⟩
theorem d10_6 : Bi jdk_92_method_14_code 6 (Instr.if_icmp .ge) 38 9 := ⟨32, by decide +kernel, by decide, by decide, rfl⟩
theorem d10_9 : Dc jdk_92_method_14_code 9 (.iconst 2) 1 10 := ⟨by decide +kernel, rfl⟩
theorem d10_10 : Dc jdk_92_method_14_code 10 (.aload_n 0) 1 11 := ⟨by decide +kernel, rfl⟩
theorem d10_11 : Dc jdk_92_method_14_code 11 (.getfield 11) 3 14 := ⟨by decide +kernel, rfl⟩
theorem d10_14 : Dc jdk_92_method_14_code 14 (.arraylength) 1 15 := ⟨by decide +kernel, rfl⟩
theorem d10_15 : Dc jdk_92_method_14_code 15 (.imul) 1 16 := ⟨by decide +kernel, rfl⟩
theorem d10_16 : Dc jdk_92_method_14_code 16 (.iload_n 1) 1 17 := ⟨by decide +kernel, rfl⟩
theorem d11_0 : Dc jdk_29_method_65_code 0 (.iload_n 0) 1 1 := ⟨by decide +kernel, rfl⟩
theorem d11_1 : Dc jdk_29_method_65_code 1 (.iload_n 1) 1 2 := ⟨by decide +kernel, rfl⟩
theorem d11_2 : Bi jdk_29_method_65_code 2 (Instr.if_icmp .lt) 9 5 := ⟨7, by decide +kernel, by decide, by decide, rfl⟩
theorem d11_9 : Dc jdk_29_method_65_code 9 (.iload_n 1) 1 10 := ⟨by decide +kernel, rfl⟩
theorem d11_10 : Dc jdk_29_method_65_code 10 (.ireturn) 1 11 := ⟨by decide +kernel, rfl⟩
set_option maxRecDepth 65536 in
set_option maxHeartbeats 40000000 in
theorem rs4 (l : Launch) (Z : State) (a0 : Array Value) (hw : ∀ d ∈ tables_1, d.before a0 Z = true) (kx : Int32) (hk0 : ¬ kx < (0 : Int32)) (hk6 : (kx >>> ((6 : Int32) &&& 31)) = 0) (SAD : Sta Z Z.heap "java/util/BitSet" "$assertionsDisabled" "Z" (.int (1 : Int32))) (pm dn : Addr) (SPM : Sta Z Z.heap "com/example/dyn_authz/dynauthz/policy/Decision" "PERMIT" "Lcom/example/dyn_authz/dynauthz/policy/Decision;" (.ref pm)) (SDN : Sta Z Z.heap "com/example/dyn_authz/dynauthz/policy/Decision" "DENY" "Lcom/example/dyn_authz/dynauthz/policy/Decision;" (.ref dn)) (npd : pm ≠ dn) (h0 : Heap) (OL : Old Z Z.heap.size h0) :
    Met l Z (⟨"java/lang/Math", "max", "(II)I"⟩ : MethodName) jdk_29_method_65_code 2 (some .int) ({ frames := 0, cells := 0, slots := 0, locals := 0 } : Room) #[(.int (0 : Int32)), (.int (1 : Int32))] h0 (fun v h' => (v = some (.int (1 : Int32)) ∧ h0 = h')) := by
  refine met_of (Ls := #[.val (.int (0 : Int32)), .val (.int (1 : Int32))]) (Jvm.Free.JP.mathPlain rfl (by decide +kernel)) (fun m => by first | (simp [entryFrame, mkF, argsToLocals, Value.category]; done) | rfl) (fun p e s m below meth c cx => ?_)
  have KK := Keep.refl h0 []
  refine g_iloadN cx d11_0 rfl ?_
  refine g_iloadN cx d11_1 rfl ?_
  refine g_icmp_lt cx d11_2 (fun hc2 => ?_) (fun q => absurd q (fun q => by revert q; decide))
  refine g_iloadN cx d11_9 rfl ?_
  refine g_retI cx d11_10 rfl (by decide) (by decide) ?_
  exact ⟨rfl, rfl⟩
theorem pd_2 : parseMethodDescriptor "(II)I" = some ⟨[.int, .int], some .int⟩ := by decide +kernel
theorem d10_17 : Dc jdk_92_method_14_code 17 (.invokestatic 133) 3 20 := ⟨by decide +kernel, rfl⟩
theorem d10_20 : Dc jdk_92_method_14_code 20 (.istore_n 2) 1 21 := ⟨by decide +kernel, rfl⟩
theorem d10_21 : Dc jdk_92_method_14_code 21 (.aload_n 0) 1 22 := ⟨by decide +kernel, rfl⟩
theorem d10_22 : Dc jdk_92_method_14_code 22 (.aload_n 0) 1 23 := ⟨by decide +kernel, rfl⟩
theorem d10_23 : Dc jdk_92_method_14_code 23 (.getfield 11) 3 26 := ⟨by decide +kernel, rfl⟩
theorem d10_26 : Dc jdk_92_method_14_code 26 (.iload_n 2) 1 27 := ⟨by decide +kernel, rfl⟩
theorem d12_0 : Dc jdk_65_method_124_code 0 (.iload_n 1) 1 1 := ⟨by decide +kernel, rfl⟩
theorem d12_1 : Dc jdk_65_method_124_code 1 (.aload_n 0) 1 2 := ⟨by decide +kernel, rfl⟩
theorem d12_2 : Dc jdk_65_method_124_code 2 (.arraylength) 1 3 := ⟨by decide +kernel, rfl⟩
theorem d12_3 : Bi jdk_65_method_124_code 3 (Instr.if_icmp .ne) 14 6 := ⟨11, by decide +kernel, by decide, by decide, rfl⟩
theorem d12_14 : Dc jdk_65_method_124_code 14 (.iload_n 1) 1 15 := ⟨by decide +kernel, rfl⟩
theorem d12_15 : Dc jdk_65_method_124_code 15 (.newarray .long) 2 17 := ⟨by decide +kernel, rfl⟩
theorem d12_17 : Dc jdk_65_method_124_code 17 (.astore_n 2) 1 18 := ⟨by decide +kernel, rfl⟩
theorem d12_18 : Dc jdk_65_method_124_code 18 (.aload_n 0) 1 19 := ⟨by decide +kernel, rfl⟩
theorem d12_19 : Dc jdk_65_method_124_code 19 (.iconst 0) 1 20 := ⟨by decide +kernel, rfl⟩
theorem d12_20 : Dc jdk_65_method_124_code 20 (.aload_n 2) 1 21 := ⟨by decide +kernel, rfl⟩
theorem d12_21 : Dc jdk_65_method_124_code 21 (.iconst 0) 1 22 := ⟨by decide +kernel, rfl⟩
theorem d12_22 : Dc jdk_65_method_124_code 22 (.aload_n 0) 1 23 := ⟨by decide +kernel, rfl⟩
theorem d12_23 : Dc jdk_65_method_124_code 23 (.arraylength) 1 24 := ⟨by decide +kernel, rfl⟩
theorem d12_24 : Dc jdk_65_method_124_code 24 (.iload_n 1) 1 25 := ⟨by decide +kernel, rfl⟩
theorem d13_0 : Dc jdk_29_method_69_code 0 (.iload_n 0) 1 1 := ⟨by decide +kernel, rfl⟩
theorem d13_1 : Dc jdk_29_method_69_code 1 (.iload_n 1) 1 2 := ⟨by decide +kernel, rfl⟩
theorem d13_2 : Bi jdk_29_method_69_code 2 (Instr.if_icmp .gt) 9 5 := ⟨7, by decide +kernel, by decide, by decide, rfl⟩
theorem d13_5 : Dc jdk_29_method_69_code 5 (.iload_n 0) 1 6 := ⟨by decide +kernel, rfl⟩
theorem d13_6 : Bi jdk_29_method_69_code 6 (Instr.goto) 10 9 := ⟨4, by decide +kernel, by decide, by decide, rfl⟩
theorem d13_10 : Dc jdk_29_method_69_code 10 (.ireturn) 1 11 := ⟨by decide +kernel, rfl⟩
set_option maxRecDepth 65536 in
set_option maxHeartbeats 40000000 in
theorem rs6 (l : Launch) (Z : State) (a0 : Array Value) (hw : ∀ d ∈ tables_1, d.before a0 Z = true) (kx : Int32) (hk0 : ¬ kx < (0 : Int32)) (hk6 : (kx >>> ((6 : Int32) &&& 31)) = 0) (SAD : Sta Z Z.heap "java/util/BitSet" "$assertionsDisabled" "Z" (.int (1 : Int32))) (pm dn : Addr) (SPM : Sta Z Z.heap "com/example/dyn_authz/dynauthz/policy/Decision" "PERMIT" "Lcom/example/dyn_authz/dynauthz/policy/Decision;" (.ref pm)) (SDN : Sta Z Z.heap "com/example/dyn_authz/dynauthz/policy/Decision" "DENY" "Lcom/example/dyn_authz/dynauthz/policy/Decision;" (.ref dn)) (npd : pm ≠ dn) (h0 : Heap) (OL : Old Z Z.heap.size h0) :
    Met l Z (⟨"java/lang/Math", "min", "(II)I"⟩ : MethodName) jdk_29_method_69_code 2 (some .int) ({ frames := 0, cells := 0, slots := 0, locals := 0 } : Room) #[(.int (0 : Int32)), (.int (1 : Int32))] h0 (fun v h' => (v = some (.int (0 : Int32)) ∧ h0 = h')) := by
  refine met_of (Ls := #[.val (.int (0 : Int32)), .val (.int (1 : Int32))]) (Jvm.Free.JP.mathPlain rfl (by decide +kernel)) (fun m => by first | (simp [entryFrame, mkF, argsToLocals, Value.category]; done) | rfl) (fun p e s m below meth c cx => ?_)
  have KK := Keep.refl h0 []
  refine g_iloadN cx d13_0 rfl ?_
  refine g_iloadN cx d13_1 rfl ?_
  refine g_icmp_gt cx d13_2 (fun q => absurd q (fun q => by revert q; decide)) (fun hc2 => ?_)
  refine g_iloadN cx d13_5 rfl ?_
  refine g_goto cx d13_6 ?_
  refine g_retI cx d13_10 rfl (by decide) (by decide) ?_
  exact ⟨rfl, rfl⟩
theorem d12_25 : Dc jdk_65_method_124_code 25 (.invokestatic 304) 3 28 := ⟨by decide +kernel, rfl⟩
theorem d12_28 : Dc jdk_65_method_124_code 28 (.invokestatic 150) 3 31 := ⟨by decide +kernel, rfl⟩
theorem d12_31 : Dc jdk_65_method_124_code 31 (.aload_n 2) 1 32 := ⟨by decide +kernel, rfl⟩
theorem d12_32 : Dc jdk_65_method_124_code 32 (.areturn) 1 33 := ⟨by decide +kernel, rfl⟩
theorem pn_rs5 : plainName "java/util/Arrays" = true := by first | (simp [plainName, overriddenIn]; done) | decide +kernel
set_option maxRecDepth 65536 in
set_option maxHeartbeats 40000000 in
theorem rs5 (l : Launch) (Z : State) (a0 : Array Value) (hw : ∀ d ∈ tables_1, d.before a0 Z = true) (kx : Int32) (hk0 : ¬ kx < (0 : Int32)) (hk6 : (kx >>> ((6 : Int32) &&& 31)) = 0) (SAD : Sta Z Z.heap "java/util/BitSet" "$assertionsDisabled" "Z" (.int (1 : Int32))) (pm dn : Addr) (SPM : Sta Z Z.heap "com/example/dyn_authz/dynauthz/policy/Decision" "PERMIT" "Lcom/example/dyn_authz/dynauthz/policy/Decision;" (.ref pm)) (SDN : Sta Z Z.heap "com/example/dyn_authz/dynauthz/policy/Decision" "DENY" "Lcom/example/dyn_authz/dynauthz/policy/Decision;" (.ref dn)) (npd : pm ≠ dn) (ad0 : Addr) (cA_ad0 : ClassId) (h0 : Heap) (A_ad0 : Arx Z h0 ad0 cA_ad0 .long (0 : Int32) [] (.long (0 : Int64)) "[J") (g_ad0 : Z.heap.size ≤ ad0) (OL : Old Z Z.heap.size h0) :
    Met l Z (⟨"java/util/Arrays", "copyOf", "([JI)[J"⟩ : MethodName) jdk_65_method_124_code 3 (some (.array .long)) ({ frames := 1, cells := 1, slots := 1, locals := 18 } : Room) #[(.ref ad0), (.int (1 : Int32))] h0 (fun v h' => (∃ (b2 : Addr) (cA3 : ClassId) , v = some (.ref b2) ∧ Keep h0 h' [] ∧ h0.size ≤ b2 ∧ Arx Z h' b2 cA3 .long (1 : Int32) [(.long (0 : Int64))] (.long (0 : Int64)) "[J")) := by
  refine met_of (Ls := #[.val (.ref ad0), .val (.int (1 : Int32)), .unset]) (plainFor_of_name pn_rs5) (fun m => by first | (simp [entryFrame, mkF, argsToLocals, Value.category]; done) | rfl) (fun p e s m below meth c cx => ?_)
  have KK := Keep.refl h0 []
  refine g_iloadN cx d12_0 rfl ?_
  refine g_aloadN cx d12_1 rfl rfl ?_
  refine g_arraylength cx d12_2 A_ad0.1 ?_
  refine g_icmp_ne cx d12_3 (fun hc3 => ?_) (fun q => absurd q (fun q => by revert q; decide))
  refine g_iloadN cx d12_14 rfl ?_
  refine g_newarray cx (ad := "[J") (by decide) d12_15 (hw _ (List.mem_of_getElem? (i := 28) rfl)) (by decide) (cap := 1) (by decide) (by decide) (k' := 1) (n' := 1) rfl rfl (by decide) (by decide) (fun h1 b2 cA3 gb4 E5 X6 => ?_)
  have ne_ad0_b2 : ad0 ≠ b2 := Nat.ne_of_lt (by rw [gb4]; exact A_ad0.lt)
  have g_b2 : Z.heap.size ≤ b2 := by rw [gb4]; exact OL.2.1
  have sz_b2 := (by rw [gb4]; exact KK.1 : h0.size ≤ b2)
  have A_ad0 := A_ad0.ext E5
  have OL := OL.ext E5
  have KK := KK.ext E5
  have A_b2 : Arx Z h1 b2 cA3 .long (1 : Int32) [(.long (0 : Int64))] (.long (0 : Int64)) "[J" := X6.pad (pad_rep [] (.long (0 : Int64)) 1)
  refine g_astoreN cx d12_17 rfl (Ls' := #[.val (.ref ad0), .val (.int (1 : Int32)), .val (.ref b2)]) rfl ?_
  refine g_aloadN cx d12_18 rfl rfl ?_
  refine g_iconst cx d12_19 (v := (0 : Int32)) rfl ?_
  refine g_aloadN cx d12_20 rfl rfl ?_
  refine g_iconst cx d12_21 (v := (0 : Int32)) rfl ?_
  refine g_aloadN cx d12_22 rfl rfl ?_
  refine g_arraylength cx d12_23 A_ad0.1 ?_
  refine g_iloadN cx d12_24 rfl ?_
  refine g_static cx (y := (⟨"java/lang/Math", "min", "(II)I"⟩ : MethodName)) d12_25 (hw _ (List.mem_of_getElem? (i := 74) rfl)) (hw _ (List.mem_of_getElem? (i := 75) rfl)) (hw _ (List.mem_of_getElem? (i := 68) rfl)) (hw _ (List.mem_of_getElem? (i := 76) rfl)) (by decide) (bytes := jdk_29_method_69_code) (maxL' := 2) (M := (rs6 l Z a0 hw kx hk0 hk6 SAD pm dn SPM SDN npd  _  OL)) rfl (lenOf pd_2 rfl) (by decide) (W := 4) (Nat.le_of_eq rfl) (by decide) (k' := 1) (n' := 1) rfl rfl (by decide) (by decide) (argsL := [(.int (0 : Int32)), (.int (1 : Int32))]) (rest := [(.int (0 : Int32)), (.ref b2), (.int (0 : Int32)), (.ref ad0)]) rfl (fun v9 h8 q10 => ?_)
  obtain ⟨rfl, rfl⟩ := q10
  refine G.cast (st' := [(.int (0 : Int32)), (.int (0 : Int32)), (.ref b2), (.int (0 : Int32)), (.ref ad0)]) ?_ rfl
  refine g_copy cx d12_28 (hw _ (List.mem_of_getElem? (i := 77) rfl)) (hw _ (List.mem_of_getElem? (i := 80) rfl)) (hw _ (List.mem_of_getElem? (i := 78) rfl)) (hw _ (List.mem_of_getElem? (i := 79) rfl)) A_ad0.1 A_b2 rfl (by decide) (by decide) (by decide) (by decide) (by decide) (us := []) rfl (by decide) g_b2 rfl (by decide) (W := 0) (Nat.le_of_eq rfl) (by decide) (fun h11 K12 AA13 => ?_)
  have A_ad0 := A_ad0.keep K12 (ninS ne_ad0_b2 nin0)
  have OL := OL.keep K12 (allS g_b2 all0)
  have KK := KK.trans K12 (allS (P := fun z => z ∈ _ ∨ _ ≤ z) (Or.inr sz_b2) all0)
  have A_b2 : Arx Z h11 b2 cA3 .long (1 : Int32) [(.long (0 : Int64))] (.long (0 : Int64)) "[J" := AA13
  refine g_aloadN cx d12_31 rfl rfl ?_
  refine g_retA cx d12_32 (t := (.array .long)) rfl rfl rfl rfl (by decide) (by decide) ?_
  exact ⟨b2, cA3, rfl, KK, sz_b2, A_b2⟩
theorem pd_3 : parseMethodDescriptor "([JI)[J" = some ⟨[(.array .long), .int], some (.array .long)⟩ := by decide +kernel
theorem d10_27 : Dc jdk_92_method_14_code 27 (.invokestatic 59) 3 30 := ⟨by decide +kernel, rfl⟩
theorem d10_30 : Dc jdk_92_method_14_code 30 (.putfield 11) 3 33 := ⟨by decide +kernel, rfl⟩
theorem d10_33 : Dc jdk_92_method_14_code 33 (.aload_n 0) 1 34 := ⟨by decide +kernel, rfl⟩
theorem d10_34 : Dc jdk_92_method_14_code 34 (.iconst 0) 1 35 := ⟨by decide +kernel, rfl⟩
theorem d10_35 : Dc jdk_92_method_14_code 35 (.putfield 24) 3 38 := ⟨by decide +kernel, rfl⟩
theorem d10_38 : Dc jdk_92_method_14_code 38 (.return_) 1 39 := ⟨by decide +kernel, rfl⟩
theorem pn_rs3 : plainName "java/util/BitSet" = true := by first | (simp [plainName, overriddenIn]; done) | decide +kernel
set_option maxRecDepth 65536 in
set_option maxHeartbeats 40000000 in
theorem rs3 (l : Launch) (Z : State) (a0 : Array Value) (hw : ∀ d ∈ tables_1, d.before a0 Z = true) (kx : Int32) (hk0 : ¬ kx < (0 : Int32)) (hk6 : (kx >>> ((6 : Int32) &&& 31)) = 0) (SAD : Sta Z Z.heap "java/util/BitSet" "$assertionsDisabled" "Z" (.int (1 : Int32))) (pm dn : Addr) (SPM : Sta Z Z.heap "com/example/dyn_authz/dynauthz/policy/Decision" "PERMIT" "Lcom/example/dyn_authz/dynauthz/policy/Decision;" (.ref pm)) (SDN : Sta Z Z.heap "com/example/dyn_authz/dynauthz/policy/Decision" "DENY" "Lcom/example/dyn_authz/dynauthz/policy/Decision;" (.ref dn)) (npd : pm ≠ dn) (ad0 ad1 : Addr) (x0 : Int32) (cA_ad1 : ClassId) (h0 : Heap) (O_ad0 : ObB Z h0 ad0 (.int (0 : Int32)) (.int x0) (.ref ad1)) (A_ad1 : Arx Z h0 ad1 cA_ad1 .long (0 : Int32) [] (.long (0 : Int64)) "[J") (ne_ad0_ad1 : ad0 ≠ ad1) (g_ad0 : Z.heap.size ≤ ad0) (g_ad1 : Z.heap.size ≤ ad1) (OL : Old Z Z.heap.size h0) :
    Met l Z (⟨"java/util/BitSet", "ensureCapacity", "(I)V"⟩ : MethodName) jdk_92_method_14_code 3 none ({ frames := 2, cells := 1, slots := 1, locals := 33 } : Room) #[(.ref ad0), (.int (1 : Int32))] h0 (fun v h' => (∃ (b5 : Addr) (cA6 : ClassId) , v = none ∧ Keep h0 h' [ad0] ∧ h0.size ≤ b5 ∧ Arx Z h' b5 cA6 .long (1 : Int32) [(.long (0 : Int64))] (.long (0 : Int64)) "[J" ∧ ObB Z h' ad0 (.int (0 : Int32)) (.int (0 : Int32)) (.ref b5))) := by
  refine met_of (Ls := #[.val (.ref ad0), .val (.int (1 : Int32)), .unset]) (plainFor_of_name pn_rs3) (fun m => by first | (simp [entryFrame, mkF, argsToLocals, Value.category]; done) | rfl) (fun p e s m below meth c cx => ?_)
  have KK := Keep.refl h0 [ad0]
  refine g_aloadN cx d10_0 rfl rfl ?_
  refine g_getF cx d10_1 (host := "") (Or.inl (hw _ (List.mem_of_getElem? (i := 29) rfl))) Via.refl O_ad0.2.2.2 ?_
  refine g_arraylength cx d10_4 A_ad1.1 ?_
  refine g_iloadN cx d10_5 rfl ?_
  refine g_icmp_ge cx d10_6 (fun q => absurd q (fun q => by revert q; decide)) (fun hc6 => ?_)
  refine g_iconst cx d10_9 (v := (2 : Int32)) rfl ?_
  refine g_aloadN cx d10_10 rfl rfl ?_
  refine g_getF cx d10_11 (host := "") (Or.inl (hw _ (List.mem_of_getElem? (i := 29) rfl))) Via.refl O_ad0.2.2.2 ?_
  refine g_arraylength cx d10_14 A_ad1.1 ?_
  refine g_imul cx d10_15 ?_
  refine G.cast (st' := [(.int (0 : Int32))]) ?_ rfl
  refine g_iloadN cx d10_16 rfl ?_
  refine g_static cx (y := (⟨"java/lang/Math", "max", "(II)I"⟩ : MethodName)) d10_17 (hw _ (List.mem_of_getElem? (i := 66) rfl)) (hw _ (List.mem_of_getElem? (i := 67) rfl)) (hw _ (List.mem_of_getElem? (i := 68) rfl)) (hw _ (List.mem_of_getElem? (i := 69) rfl)) (by decide) (bytes := jdk_29_method_65_code) (maxL' := 2) (M := (rs4 l Z a0 hw kx hk0 hk6 SAD pm dn SPM SDN npd  _  OL)) rfl (lenOf pd_2 rfl) (by decide) (W := 0) (Nat.le_of_eq rfl) (by decide) (k' := 0) (n' := 0) rfl rfl (by decide) (by decide) (argsL := [(.int (0 : Int32)), (.int (1 : Int32))]) (rest := []) rfl (fun v3 h2 q4 => ?_)
  obtain ⟨rfl, rfl⟩ := q4
  refine G.cast (st' := [(.int (1 : Int32))]) ?_ rfl
  refine g_istoreN cx d10_20 (Ls' := #[.val (.ref ad0), .val (.int (1 : Int32)), .val (.int (1 : Int32))]) rfl ?_
  refine g_aloadN cx d10_21 rfl rfl ?_
  refine g_aloadN cx d10_22 rfl rfl ?_
  refine g_getF cx d10_23 (host := "") (Or.inl (hw _ (List.mem_of_getElem? (i := 29) rfl))) Via.refl O_ad0.2.2.2 ?_
  refine g_iloadN cx d10_26 rfl ?_
  refine g_static cx (y := (⟨"java/util/Arrays", "copyOf", "([JI)[J"⟩ : MethodName)) d10_27 (hw _ (List.mem_of_getElem? (i := 70) rfl)) (hw _ (List.mem_of_getElem? (i := 71) rfl)) (hw _ (List.mem_of_getElem? (i := 72) rfl)) (hw _ (List.mem_of_getElem? (i := 73) rfl)) (by decide) (bytes := jdk_65_method_124_code) (maxL' := 3) (M := (rs5 l Z a0 hw kx hk0 hk6 SAD pm dn SPM SDN npd ad1 cA_ad1 _ A_ad1 g_ad1 OL)) rfl (lenOf pd_3 rfl) (by decide) (W := 1) (Nat.le_of_eq rfl) (by decide) (k' := 1) (n' := 1) rfl rfl (by decide) (by decide) (argsL := [(.ref ad1), (.int (1 : Int32))]) (rest := [(.ref ad0)]) rfl (fun v9 h8 q10 => ?_)
  obtain ⟨b5, cA6, rfl, K7, sq_b5, A_b5⟩ := q10
  have ne_ad0_b5 : ad0 ≠ b5 := Nat.ne_of_lt (Nat.lt_of_lt_of_le O_ad0.lt sq_b5)
  have ne_ad1_b5 : ad1 ≠ b5 := Nat.ne_of_lt (Nat.lt_of_lt_of_le A_ad1.lt sq_b5)
  have g_b5 : Z.heap.size ≤ b5 := Nat.le_trans OL.2.1 sq_b5
  have sz_b5 := Nat.le_trans KK.1 sq_b5
  have O_ad0 := O_ad0.keep K7 nin0
  have A_ad1 := A_ad1.keep K7 nin0
  have OL := OL.keep K7 all0
  have KK := KK.trans K7 all0
  refine G.cast (st' := [(.ref b5), (.ref ad0)]) ?_ rfl
  refine g_putF cx d10_30 (host := "") (Or.inl (hw _ (List.mem_of_getElem? (i := 29) rfl))) Via.refl O_ad0.2.2.2 O_ad0.1 (Or.inl (hw _ (List.mem_of_getElem? (i := 30) rfl))) (hw _ (List.mem_of_getElem? (i := 10) rfl)) (ty := (.array .long)) (by decide) rfl rfl g_ad0 (fun h11 W12 => ?_)
  have O_ad0 := O_ad0.put3 hw W12
  have A_ad1 := A_ad1.other W12 (Ne.symm ne_ad0_ad1)
  have A_b5 := A_b5.other W12 (Ne.symm ne_ad0_b5)
  have OL := OL.wr W12 g_ad0
  have KK := KK.wr W12 (Or.inl (List.mem_of_getElem? (i := 0) rfl))
  refine g_aloadN cx d10_33 rfl rfl ?_
  refine g_iconst cx d10_34 (v := (0 : Int32)) rfl ?_
  refine g_putFN cx d10_35 (hw _ (List.mem_of_getElem? (i := 18) rfl)) Via.refl O_ad0.2.2.1 O_ad0.1 (Or.inl (hw _ (List.mem_of_getElem? (i := 19) rfl))) (hw _ (List.mem_of_getElem? (i := 10) rfl)) (ty := .boolean) (v' := (.int (0 : Int32))) (by decide) rfl rfl g_ad0 (fun h13 W14 => ?_)
  have O_ad0 := O_ad0.put2 hw W14
  have A_ad1 := A_ad1.other W14 (Ne.symm ne_ad0_ad1)
  have A_b5 := A_b5.other W14 (Ne.symm ne_ad0_b5)
  have OL := OL.wr W14 g_ad0
  have KK := KK.wr W14 (Or.inl (List.mem_of_getElem? (i := 0) rfl))
  refine g_retV cx d10_38 rfl (by decide) (by decide) ?_
  exact ⟨b5, cA6, rfl, KK, sz_b5, A_b5, O_ad0⟩
theorem d9_14 : Dc jdk_92_method_15_code 14 (.invokevirtual 139) 3 17 := ⟨by decide +kernel, rfl⟩
theorem d9_17 : Dc jdk_92_method_15_code 17 (.aload_n 0) 1 18 := ⟨by decide +kernel, rfl⟩
theorem d9_18 : Dc jdk_92_method_15_code 18 (.iload_n 2) 1 19 := ⟨by decide +kernel, rfl⟩
theorem d9_19 : Dc jdk_92_method_15_code 19 (.putfield 7) 3 22 := ⟨by decide +kernel, rfl⟩
theorem d9_22 : Dc jdk_92_method_15_code 22 (.return_) 1 23 := ⟨by decide +kernel, rfl⟩
theorem pn_rs2 : plainName "java/util/BitSet" = true := by first | (simp [plainName, overriddenIn]; done) | decide +kernel
set_option maxRecDepth 65536 in
set_option maxHeartbeats 40000000 in
theorem rs2 (l : Launch) (Z : State) (a0 : Array Value) (hw : ∀ d ∈ tables_1, d.before a0 Z = true) (kx : Int32) (hk0 : ¬ kx < (0 : Int32)) (hk6 : (kx >>> ((6 : Int32) &&& 31)) = 0) (SAD : Sta Z Z.heap "java/util/BitSet" "$assertionsDisabled" "Z" (.int (1 : Int32))) (pm dn : Addr) (SPM : Sta Z Z.heap "com/example/dyn_authz/dynauthz/policy/Decision" "PERMIT" "Lcom/example/dyn_authz/dynauthz/policy/Decision;" (.ref pm)) (SDN : Sta Z Z.heap "com/example/dyn_authz/dynauthz/policy/Decision" "DENY" "Lcom/example/dyn_authz/dynauthz/policy/Decision;" (.ref dn)) (npd : pm ≠ dn) (ad0 ad1 : Addr) (x0 : Int32) (cA_ad1 : ClassId) (h0 : Heap) (O_ad0 : ObB Z h0 ad0 (.int (0 : Int32)) (.int x0) (.ref ad1)) (A_ad1 : Arx Z h0 ad1 cA_ad1 .long (0 : Int32) [] (.long (0 : Int64)) "[J") (ne_ad0_ad1 : ad0 ≠ ad1) (g_ad0 : Z.heap.size ≤ ad0) (g_ad1 : Z.heap.size ≤ ad1) (OL : Old Z Z.heap.size h0) :
    Met l Z (⟨"java/util/BitSet", "expandTo", "(I)V"⟩ : MethodName) jdk_92_method_15_code 3 none ({ frames := 3, cells := 1, slots := 1, locals := 47 } : Room) #[(.ref ad0), (.int (0 : Int32))] h0 (fun v h' => (∃ (b1 : Addr) (cA2 : ClassId) , v = none ∧ Keep h0 h' [ad0] ∧ h0.size ≤ b1 ∧ Arx Z h' b1 cA2 .long (1 : Int32) [(.long (0 : Int64))] (.long (0 : Int64)) "[J" ∧ ObB Z h' ad0 (.int (1 : Int32)) (.int (0 : Int32)) (.ref b1))) := by
  refine met_of (Ls := #[.val (.ref ad0), .val (.int (0 : Int32)), .unset]) (plainFor_of_name pn_rs2) (fun m => by first | (simp [entryFrame, mkF, argsToLocals, Value.category]; done) | rfl) (fun p e s m below meth c cx => ?_)
  have KK := Keep.refl h0 [ad0]
  refine g_iloadN cx d9_0 rfl ?_
  refine g_iconst cx d9_1 (v := (1 : Int32)) rfl ?_
  refine g_iadd cx d9_2 ?_
  refine G.cast (st' := [(.int (1 : Int32))]) ?_ rfl
  refine g_istoreN cx d9_3 (Ls' := #[.val (.ref ad0), .val (.int (0 : Int32)), .val (.int (1 : Int32))]) rfl ?_
  refine g_aloadN cx d9_4 rfl rfl ?_
  refine g_getF cx d9_5 (host := "") (Or.inl (hw _ (List.mem_of_getElem? (i := 16) rfl))) Via.refl O_ad0.2.1 ?_
  refine g_iloadN cx d9_8 rfl ?_
  refine g_icmp_ge cx d9_9 (fun q => absurd q (fun q => by revert q; decide)) (fun hc9 => ?_)
  refine g_aloadN cx d9_12 rfl rfl ?_
  refine g_iloadN cx d9_13 rfl ?_
  have lt_ad0 := O_ad0.lt
  refine g_private cx (y := (⟨"java/util/BitSet", "ensureCapacity", "(I)V"⟩ : MethodName)) (a := ad0) d9_14 (hw _ (List.mem_of_getElem? (i := 61) rfl)) (hw _ (List.mem_of_getElem? (i := 62) rfl)) (hw _ (List.mem_of_getElem? (i := 11) rfl)) (hw _ (List.mem_of_getElem? (i := 65) rfl)) (hw _ (List.mem_of_getElem? (i := 64) rfl)) (hw _ (List.mem_of_getElem? (i := 63) rfl)) (by decide) O_ad0.1 (bytes := jdk_92_method_14_code) (maxL' := 3) (M := (rs3 l Z a0 hw kx hk0 hk6 SAD pm dn SPM SDN npd ad0 ad1 x0 cA_ad1 _ O_ad0 A_ad1 ne_ad0_ad1 g_ad0 g_ad1 OL)) rfl (lenOf pd_1 rfl) (by decide) (W := 0) (Nat.le_of_eq rfl) (by decide) (k' := 1) (n' := 1) rfl rfl (by decide) (by decide) (argsL := [(.int (1 : Int32))]) (rest := []) rfl (fun v5 h4 q6 => ?_)
  obtain ⟨b1, cA2, rfl, K3, sq_b1, A_b1, O_ad0⟩ := q6
  have ne_ad0_b1 : ad0 ≠ b1 := Nat.ne_of_lt (Nat.lt_of_lt_of_le lt_ad0 sq_b1)
  have ne_ad1_b1 : ad1 ≠ b1 := Nat.ne_of_lt (Nat.lt_of_lt_of_le A_ad1.lt sq_b1)
  have g_b1 : Z.heap.size ≤ b1 := Nat.le_trans OL.2.1 sq_b1
  have sz_b1 := Nat.le_trans KK.1 sq_b1
  have A_ad1 := A_ad1.keep K3 (ninS (Ne.symm ne_ad0_ad1) nin0)
  have OL := OL.keep K3 (allS g_ad0 all0)
  have KK := KK.trans K3 (allS (P := fun z => z ∈ _ ∨ _ ≤ z) (Or.inl (List.mem_of_getElem? (i := 0) rfl)) all0)
  refine G.cast (st' := []) ?_ rfl
  refine g_aloadN cx d9_17 rfl rfl ?_
  refine g_iloadN cx d9_18 rfl ?_
  refine g_putF cx d9_19 (host := "") (Or.inl (hw _ (List.mem_of_getElem? (i := 16) rfl))) Via.refl O_ad0.2.1 O_ad0.1 (Or.inl (hw _ (List.mem_of_getElem? (i := 17) rfl))) (hw _ (List.mem_of_getElem? (i := 10) rfl)) (ty := .int) (by decide) rfl rfl g_ad0 (fun h7 W8 => ?_)
  have O_ad0 := O_ad0.put1 hw W8
  have A_ad1 := A_ad1.other W8 (Ne.symm ne_ad0_ad1)
  have A_b1 := A_b1.other W8 (Ne.symm ne_ad0_b1)
  have OL := OL.wr W8 g_ad0
  have KK := KK.wr W8 (Or.inl (List.mem_of_getElem? (i := 0) rfl))
  refine g_retV cx d9_22 rfl (by decide) (by decide) ?_
  exact ⟨b1, cA2, rfl, KK, sz_b1, A_b1, O_ad0⟩
theorem d8_38 : Dc jdk_92_method_19_code 38 (.invokevirtual 155) 3 41 := ⟨by decide +kernel, rfl⟩
theorem d8_41 : Dc jdk_92_method_19_code 41 (.aload_n 0) 1 42 := ⟨by decide +kernel, rfl⟩
theorem d8_42 : Dc jdk_92_method_19_code 42 (.getfield 11) 3 45 := ⟨by decide +kernel, rfl⟩
theorem d8_45 : Dc jdk_92_method_19_code 45 (.iload_n 2) 1 46 := ⟨by decide +kernel, rfl⟩
theorem d8_46 : Dc jdk_92_method_19_code 46 (.dup2) 1 47 := ⟨by decide +kernel, rfl⟩
theorem d8_47 : Dc jdk_92_method_19_code 47 (.laload) 1 48 := ⟨by decide +kernel, rfl⟩
theorem d8_48 : Dc jdk_92_method_19_code 48 (.lconst 1) 1 49 := ⟨by decide +kernel, rfl⟩
theorem d8_49 : Dc jdk_92_method_19_code 49 (.iload_n 1) 1 50 := ⟨by decide +kernel, rfl⟩
theorem d8_50 : Dc jdk_92_method_19_code 50 (.lshl) 1 51 := ⟨by decide +kernel, rfl⟩
theorem d8_51 : Dc jdk_92_method_19_code 51 (.lor) 1 52 := ⟨by decide +kernel, rfl⟩
theorem d8_52 : Dc jdk_92_method_19_code 52 (.lastore) 1 53 := ⟨by decide +kernel, rfl⟩
theorem d8_53 : Dc jdk_92_method_19_code 53 (.aload_n 0) 1 54 := ⟨by decide +kernel, rfl⟩
theorem d14_0 : Dc jdk_92_method_2_code 0 (.getstatic 3) 3 3 := ⟨by decide +kernel, rfl⟩
theorem d14_3 : Bi jdk_92_method_2_code 3 (Instr.ifCond .ne) 37 6 := ⟨34, by decide +kernel, by decide, by decide, rfl⟩
theorem d14_37 : Dc jdk_92_method_2_code 37 (.getstatic 3) 3 40 := ⟨by decide +kernel, rfl⟩
theorem d14_40 : Bi jdk_92_method_2_code 40 (Instr.ifCond .ne) 70 43 := ⟨30, by decide +kernel, by decide, by decide, rfl⟩
theorem d14_70 : Dc jdk_92_method_2_code 70 (.getstatic 3) 3 73 := ⟨by decide +kernel, rfl⟩
theorem d14_73 : Bi jdk_92_method_2_code 73 (Instr.ifCond .ne) 110 76 := ⟨37, by decide +kernel, by decide, by decide, rfl⟩
theorem d14_110 : Dc jdk_92_method_2_code 110 (.return_) 1 111 := ⟨by decide +kernel, rfl⟩
theorem pn_rs7 : plainName "java/util/BitSet" = true := by first | (simp [plainName, overriddenIn]; done) | decide +kernel
set_option maxRecDepth 65536 in
set_option maxHeartbeats 40000000 in
theorem rs7 (l : Launch) (Z : State) (a0 : Array Value) (hw : ∀ d ∈ tables_1, d.before a0 Z = true) (kx : Int32) (hk0 : ¬ kx < (0 : Int32)) (hk6 : (kx >>> ((6 : Int32) &&& 31)) = 0) (SAD : Sta Z Z.heap "java/util/BitSet" "$assertionsDisabled" "Z" (.int (1 : Int32))) (pm dn : Addr) (SPM : Sta Z Z.heap "com/example/dyn_authz/dynauthz/policy/Decision" "PERMIT" "Lcom/example/dyn_authz/dynauthz/policy/Decision;" (.ref pm)) (SDN : Sta Z Z.heap "com/example/dyn_authz/dynauthz/policy/Decision" "DENY" "Lcom/example/dyn_authz/dynauthz/policy/Decision;" (.ref dn)) (npd : pm ≠ dn) (ad0 ad1 : Addr) (x0 : Int64) (cA_ad1 : ClassId) (h0 : Heap) (O_ad0 : ObB Z h0 ad0 (.int (1 : Int32)) (.int (0 : Int32)) (.ref ad1)) (A_ad1 : Arx Z h0 ad1 cA_ad1 .long (1 : Int32) [(.long x0)] (.long (0 : Int64)) "[J") (ne_ad0_ad1 : ad0 ≠ ad1) (g_ad0 : Z.heap.size ≤ ad0) (g_ad1 : Z.heap.size ≤ ad1) (OL : Old Z Z.heap.size h0) :
    Met l Z (⟨"java/util/BitSet", "checkInvariants", "()V"⟩ : MethodName) jdk_92_method_2_code 1 none ({ frames := 0, cells := 0, slots := 0, locals := 0 } : Room) #[(.ref ad0)] h0 (fun v h' => (v = none ∧ h0 = h')) := by
  refine met_of (Ls := #[.val (.ref ad0)]) (plainFor_of_name pn_rs7) (fun m => by first | (simp [entryFrame, mkF, argsToLocals, Value.category]; done) | rfl) (fun p e s m below meth c cx => ?_)
  have KK := Keep.refl h0 []
  refine g_getS cx d14_0 (host := "") (Or.inl (hw _ (List.mem_of_getElem? (i := 86) rfl))) Via.refl (SAD.ext OL.2) ?_
  refine g_if_ne cx d14_3 (fun hc3 => ?_) (fun q => absurd q (fun q => by revert q; decide))
  refine g_getS cx d14_37 (host := "") (Or.inl (hw _ (List.mem_of_getElem? (i := 86) rfl))) Via.refl (SAD.ext OL.2) ?_
  refine g_if_ne cx d14_40 (fun hc40 => ?_) (fun q => absurd q (fun q => by revert q; decide))
  refine g_getS cx d14_70 (host := "") (Or.inl (hw _ (List.mem_of_getElem? (i := 86) rfl))) Via.refl (SAD.ext OL.2) ?_
  refine g_if_ne cx d14_73 (fun hc73 => ?_) (fun q => absurd q (fun q => by revert q; decide))
  refine g_retV cx d14_110 rfl (by decide) (by decide) ?_
  exact ⟨rfl, rfl⟩
theorem pd_4 : parseMethodDescriptor "()V" = some ⟨[], none⟩ := by decide +kernel
theorem d8_54 : Dc jdk_92_method_19_code 54 (.invokevirtual 56) 3 57 := ⟨by decide +kernel, rfl⟩
theorem d8_57 : Dc jdk_92_method_19_code 57 (.return_) 1 58 := ⟨by decide +kernel, rfl⟩
theorem pn_rs1 : plainName "java/util/BitSet" = true := by first | (simp [plainName, overriddenIn]; done) | decide +kernel
set_option maxRecDepth 65536 in
set_option maxHeartbeats 40000000 in
theorem rs1 (l : Launch) (Z : State) (a0 : Array Value) (hw : ∀ d ∈ tables_1, d.before a0 Z = true) (kx : Int32) (hk0 : ¬ kx < (0 : Int32)) (hk6 : (kx >>> ((6 : Int32) &&& 31)) = 0) (SAD : Sta Z Z.heap "java/util/BitSet" "$assertionsDisabled" "Z" (.int (1 : Int32))) (pm dn : Addr) (SPM : Sta Z Z.heap "com/example/dyn_authz/dynauthz/policy/Decision" "PERMIT" "Lcom/example/dyn_authz/dynauthz/policy/Decision;" (.ref pm)) (SDN : Sta Z Z.heap "com/example/dyn_authz/dynauthz/policy/Decision" "DENY" "Lcom/example/dyn_authz/dynauthz/policy/Decision;" (.ref dn)) (npd : pm ≠ dn) (ad0 ad1 : Addr) (x0 : Int32) (cA_ad1 : ClassId) (h0 : Heap) (O_ad0 : ObB Z h0 ad0 (.int (0 : Int32)) (.int x0) (.ref ad1)) (A_ad1 : Arx Z h0 ad1 cA_ad1 .long (0 : Int32) [] (.long (0 : Int64)) "[J") (ne_ad0_ad1 : ad0 ≠ ad1) (g_ad0 : Z.heap.size ≤ ad0) (g_ad1 : Z.heap.size ≤ ad1) (OL : Old Z Z.heap.size h0) :
    Met l Z (⟨"java/util/BitSet", "set", "(I)V"⟩ : MethodName) jdk_92_method_19_code 3 none ({ frames := 4, cells := 1, slots := 1, locals := 61 } : Room) #[(.ref ad0), (.int kx)] h0 (fun v h' => (∃ (b4 : Addr) (cA5 : ClassId) , ¬ (kx < (0 : Int32)) ∧ v = none ∧ Keep h0 h' [ad0] ∧ h0.size ≤ b4 ∧ Arx Z h' b4 cA5 .long (1 : Int32) [(.long ((0 : Int64) ||| ((1 : Int64) <<< (kx &&& 0x3f).toInt64)))] (.long (0 : Int64)) "[J" ∧ ObB Z h' ad0 (.int (1 : Int32)) (.int (0 : Int32)) (.ref b4))) := by
  refine met_of (Ls := #[.val (.ref ad0), .val (.int kx), .unset]) (plainFor_of_name pn_rs1) (fun m => by first | (simp [entryFrame, mkF, argsToLocals, Value.category]; done) | rfl) (fun p e s m below meth c cx => ?_)
  have KK := Keep.refl h0 [ad0]
  refine g_iloadN cx d8_0 rfl ?_
  refine g_if_ge cx d8_1 (fun hc1 => ?_) (fun q => absurd q (fun q => hk0 q))
  refine g_iloadN cx d8_31 rfl ?_
  refine g_static cx (y := (⟨"java/util/BitSet", "wordIndex", "(I)I"⟩ : MethodName)) d8_32 (hw _ (List.mem_of_getElem? (i := 25) rfl)) (hw _ (List.mem_of_getElem? (i := 26) rfl)) (hw _ (List.mem_of_getElem? (i := 11) rfl)) (hw _ (List.mem_of_getElem? (i := 27) rfl)) (by decide) (bytes := jdk_92_method_1_code) (maxL' := 1) (M := (rmk l Z a0 hw kx hk6 _)) rfl (lenOf pd_0 rfl) (by decide) (W := 0) (Nat.le_of_eq rfl) (by decide) (k' := 0) (n' := 0) rfl rfl (by decide) (by decide) (argsL := [(.int kx)]) (rest := []) rfl (fun v2 h1 q3 => ?_)
  obtain ⟨rfl, rfl⟩ := q3
  refine G.cast (st' := [(.int (0 : Int32))]) ?_ rfl
  refine g_istoreN cx d8_35 (Ls' := #[.val (.ref ad0), .val (.int kx), .val (.int (0 : Int32))]) rfl ?_
  refine g_aloadN cx d8_36 rfl rfl ?_
  refine g_iloadN cx d8_37 rfl ?_
  have lt_ad0 := O_ad0.lt
  refine g_private cx (y := (⟨"java/util/BitSet", "expandTo", "(I)V"⟩ : MethodName)) (a := ad0) d8_38 (hw _ (List.mem_of_getElem? (i := 56) rfl)) (hw _ (List.mem_of_getElem? (i := 57) rfl)) (hw _ (List.mem_of_getElem? (i := 11) rfl)) (hw _ (List.mem_of_getElem? (i := 60) rfl)) (hw _ (List.mem_of_getElem? (i := 59) rfl)) (hw _ (List.mem_of_getElem? (i := 58) rfl)) (by decide) O_ad0.1 (bytes := jdk_92_method_15_code) (maxL' := 3) (M := (rs2 l Z a0 hw kx hk0 hk6 SAD pm dn SPM SDN npd ad0 ad1 x0 cA_ad1 _ O_ad0 A_ad1 ne_ad0_ad1 g_ad0 g_ad1 OL)) rfl (lenOf pd_1 rfl) (by decide) (W := 0) (Nat.le_of_eq rfl) (by decide) (k' := 1) (n' := 1) rfl rfl (by decide) (by decide) (argsL := [(.int (0 : Int32))]) (rest := []) rfl (fun v8 h7 q9 => ?_)
  obtain ⟨b4, cA5, rfl, K6, sq_b4, A_b4, O_ad0⟩ := q9
  have ne_ad0_b4 : ad0 ≠ b4 := Nat.ne_of_lt (Nat.lt_of_lt_of_le lt_ad0 sq_b4)
  have ne_ad1_b4 : ad1 ≠ b4 := Nat.ne_of_lt (Nat.lt_of_lt_of_le A_ad1.lt sq_b4)
  have g_b4 : Z.heap.size ≤ b4 := Nat.le_trans OL.2.1 sq_b4
  have sz_b4 := Nat.le_trans KK.1 sq_b4
  have A_ad1 := A_ad1.keep K6 (ninS (Ne.symm ne_ad0_ad1) nin0)
  have OL := OL.keep K6 (allS g_ad0 all0)
  have KK := KK.trans K6 (allS (P := fun z => z ∈ _ ∨ _ ≤ z) (Or.inl (List.mem_of_getElem? (i := 0) rfl)) all0)
  refine G.cast (st' := []) ?_ rfl
  refine g_aloadN cx d8_41 rfl rfl ?_
  refine g_getF cx d8_42 (host := "") (Or.inl (hw _ (List.mem_of_getElem? (i := 29) rfl))) Via.refl O_ad0.2.2.2 ?_
  refine g_iloadN cx d8_45 rfl ?_
  refine g_dup2 cx d8_46 rfl rfl ?_
  refine g_laload cx d8_47 A_b4.1 ⟨by decide, by decide⟩ (v := (.long (0 : Int64))) rfl ?_
  refine g_lconst cx d8_48 (v := (1 : Int64)) rfl ?_
  refine g_iloadN cx d8_49 rfl ?_
  refine g_lshl cx d8_50 ?_
  refine g_lor cx d8_51 ?_
  refine g_lastore cx d8_52 A_b4 ⟨by decide, by decide⟩ (Nat.le_of_ble_eq_true rfl) g_b4 (fun h10 W11 AA12 => ?_)
  have O_ad0 := O_ad0.oth W11 ne_ad0_b4
  have A_ad1 := A_ad1.other W11 ne_ad1_b4
  have A_b4 : Arx Z h10 b4 cA5 .long (1 : Int32) [(.long ((0 : Int64) ||| ((1 : Int64) <<< (kx &&& 0x3f).toInt64)))] (.long (0 : Int64)) "[J" := AA12
  have OL := OL.wr W11 g_b4
  have KK := KK.wr W11 (Or.inr sz_b4)
  refine g_aloadN cx d8_53 rfl rfl ?_
  refine g_private cx (y := (⟨"java/util/BitSet", "checkInvariants", "()V"⟩ : MethodName)) (a := ad0) d8_54 (hw _ (List.mem_of_getElem? (i := 81) rfl)) (hw _ (List.mem_of_getElem? (i := 82) rfl)) (hw _ (List.mem_of_getElem? (i := 11) rfl)) (hw _ (List.mem_of_getElem? (i := 85) rfl)) (hw _ (List.mem_of_getElem? (i := 84) rfl)) (hw _ (List.mem_of_getElem? (i := 83) rfl)) (by decide) O_ad0.1 (bytes := jdk_92_method_2_code) (maxL' := 1) (M := (rs7 l Z a0 hw kx hk0 hk6 SAD pm dn SPM SDN npd ad0 b4 ((0 : Int64) ||| ((1 : Int64) <<< (kx &&& 0x3f).toInt64)) cA5 _ O_ad0 A_b4 ne_ad0_b4 g_ad0 g_b4 OL)) rfl (lenOf pd_4 rfl) (by decide) (W := 0) (Nat.le_of_eq rfl) (by decide) (k' := 1) (n' := 1) rfl rfl (by decide) (by decide) (argsL := []) (rest := []) rfl (fun v15 h14 q16 => ?_)
  obtain ⟨rfl, rfl⟩ := q16
  refine G.cast (st' := []) ?_ rfl
  refine g_retV cx d8_57 rfl (by decide) (by decide) ?_
  exact ⟨b4, cA5, hc1, rfl, KK, sz_b4, A_b4, O_ad0⟩
theorem d7_15 : Dc prog_43_method_3_code 15 (.invokevirtual 32) 3 18 := ⟨by decide +kernel, rfl⟩
theorem d7_18 : Dc prog_43_method_3_code 18 (.aload_n 0) 1 19 := ⟨by decide +kernel, rfl⟩
theorem d7_19 : Dc prog_43_method_3_code 19 (.dup) 1 20 := ⟨by decide +kernel, rfl⟩
theorem d7_20 : Dc prog_43_method_3_code 20 (.getfield 35) 3 23 := ⟨by decide +kernel, rfl⟩
theorem d7_23 : Dc prog_43_method_3_code 23 (.iconst 1) 1 24 := ⟨by decide +kernel, rfl⟩
theorem d7_24 : Dc prog_43_method_3_code 24 (.iadd) 1 25 := ⟨by decide +kernel, rfl⟩
theorem d7_25 : Dc prog_43_method_3_code 25 (.putfield 35) 3 28 := ⟨by decide +kernel, rfl⟩
theorem d7_28 : Dc prog_43_method_3_code 28 (.aload_n 0) 1 29 := ⟨by decide +kernel, rfl⟩
theorem d7_29 : Dc prog_43_method_3_code 29 (.dup) 1 30 := ⟨by decide +kernel, rfl⟩
theorem d7_30 : Dc prog_43_method_3_code 30 (.getfield 28) 3 33 := ⟨by decide +kernel, rfl⟩
theorem d7_33 : Dc prog_43_method_3_code 33 (.iconst 1) 1 34 := ⟨by decide +kernel, rfl⟩
theorem d7_34 : Dc prog_43_method_3_code 34 (.iadd) 1 35 := ⟨by decide +kernel, rfl⟩
theorem d7_35 : Dc prog_43_method_3_code 35 (.putfield 28) 3 38 := ⟨by decide +kernel, rfl⟩
theorem d7_38 : Dc prog_43_method_3_code 38 (.return_) 1 39 := ⟨by decide +kernel, rfl⟩
theorem pn_rs10 : plainName "java/util/BitSet" = true := by first | (simp [plainName, overriddenIn]; done) | decide +kernel
set_option maxRecDepth 65536 in
set_option maxHeartbeats 40000000 in
theorem rs10 (l : Launch) (Z : State) (a0 : Array Value) (hw : ∀ d ∈ tables_1, d.before a0 Z = true) (kx : Int32) (hk0 : ¬ kx < (0 : Int32)) (hk6 : (kx >>> ((6 : Int32) &&& 31)) = 0) (SAD : Sta Z Z.heap "java/util/BitSet" "$assertionsDisabled" "Z" (.int (1 : Int32))) (pm dn : Addr) (SPM : Sta Z Z.heap "com/example/dyn_authz/dynauthz/policy/Decision" "PERMIT" "Lcom/example/dyn_authz/dynauthz/policy/Decision;" (.ref pm)) (SDN : Sta Z Z.heap "com/example/dyn_authz/dynauthz/policy/Decision" "DENY" "Lcom/example/dyn_authz/dynauthz/policy/Decision;" (.ref dn)) (npd : pm ≠ dn) (ad0 ad1 : Addr) (x0 : Int32) (x1 : Int64) (cA_ad1 : ClassId) (h0 : Heap) (O_ad0 : ObB Z h0 ad0 (.int (0 : Int32)) (.int x0) (.ref ad1)) (A_ad1 : Arx Z h0 ad1 cA_ad1 .long (1 : Int32) [(.long x1)] (.long (0 : Int64)) "[J") (ne_ad0_ad1 : ad0 ≠ ad1) (g_ad0 : Z.heap.size ≤ ad0) (g_ad1 : Z.heap.size ≤ ad1) (OL : Old Z Z.heap.size h0) :
    Met l Z (⟨"java/util/BitSet", "ensureCapacity", "(I)V"⟩ : MethodName) jdk_92_method_14_code 3 none ({ frames := 0, cells := 0, slots := 0, locals := 0 } : Room) #[(.ref ad0), (.int (1 : Int32))] h0 (fun v h' => (v = none ∧ h0 = h')) := by
  refine met_of (Ls := #[.val (.ref ad0), .val (.int (1 : Int32)), .unset]) (plainFor_of_name pn_rs10) (fun m => by first | (simp [entryFrame, mkF, argsToLocals, Value.category]; done) | rfl) (fun p e s m below meth c cx => ?_)
  have KK := Keep.refl h0 []
  refine g_aloadN cx d10_0 rfl rfl ?_
  refine g_getF cx d10_1 (host := "") (Or.inl (hw _ (List.mem_of_getElem? (i := 29) rfl))) Via.refl O_ad0.2.2.2 ?_
  refine g_arraylength cx d10_4 A_ad1.1 ?_
  refine g_iloadN cx d10_5 rfl ?_
  refine g_icmp_ge cx d10_6 (fun hc6 => ?_) (fun q => absurd q (fun q => by revert q; decide))
  refine g_retV cx d10_38 rfl (by decide) (by decide) ?_
  exact ⟨rfl, rfl⟩
theorem pn_rs9 : plainName "java/util/BitSet" = true := by first | (simp [plainName, overriddenIn]; done) | decide +kernel
set_option maxRecDepth 65536 in
set_option maxHeartbeats 40000000 in
theorem rs9 (l : Launch) (Z : State) (a0 : Array Value) (hw : ∀ d ∈ tables_1, d.before a0 Z = true) (kx : Int32) (hk0 : ¬ kx < (0 : Int32)) (hk6 : (kx >>> ((6 : Int32) &&& 31)) = 0) (SAD : Sta Z Z.heap "java/util/BitSet" "$assertionsDisabled" "Z" (.int (1 : Int32))) (pm dn : Addr) (SPM : Sta Z Z.heap "com/example/dyn_authz/dynauthz/policy/Decision" "PERMIT" "Lcom/example/dyn_authz/dynauthz/policy/Decision;" (.ref pm)) (SDN : Sta Z Z.heap "com/example/dyn_authz/dynauthz/policy/Decision" "DENY" "Lcom/example/dyn_authz/dynauthz/policy/Decision;" (.ref dn)) (npd : pm ≠ dn) (ad0 ad1 : Addr) (x0 : Int32) (x1 : Int64) (cA_ad1 : ClassId) (h0 : Heap) (O_ad0 : ObB Z h0 ad0 (.int (0 : Int32)) (.int x0) (.ref ad1)) (A_ad1 : Arx Z h0 ad1 cA_ad1 .long (1 : Int32) [(.long x1)] (.long (0 : Int64)) "[J") (ne_ad0_ad1 : ad0 ≠ ad1) (g_ad0 : Z.heap.size ≤ ad0) (g_ad1 : Z.heap.size ≤ ad1) (OL : Old Z Z.heap.size h0) :
    Met l Z (⟨"java/util/BitSet", "expandTo", "(I)V"⟩ : MethodName) jdk_92_method_15_code 3 none ({ frames := 1, cells := 0, slots := 0, locals := 14 } : Room) #[(.ref ad0), (.int (0 : Int32))] h0 (fun v h' => (v = none ∧ Keep h0 h' [ad0] ∧ ObB Z h' ad0 (.int (1 : Int32)) (.int x0) (.ref ad1))) := by
  refine met_of (Ls := #[.val (.ref ad0), .val (.int (0 : Int32)), .unset]) (plainFor_of_name pn_rs9) (fun m => by first | (simp [entryFrame, mkF, argsToLocals, Value.category]; done) | rfl) (fun p e s m below meth c cx => ?_)
  have KK := Keep.refl h0 [ad0]
  refine g_iloadN cx d9_0 rfl ?_
  refine g_iconst cx d9_1 (v := (1 : Int32)) rfl ?_
  refine g_iadd cx d9_2 ?_
  refine G.cast (st' := [(.int (1 : Int32))]) ?_ rfl
  refine g_istoreN cx d9_3 (Ls' := #[.val (.ref ad0), .val (.int (0 : Int32)), .val (.int (1 : Int32))]) rfl ?_
  refine g_aloadN cx d9_4 rfl rfl ?_
  refine g_getF cx d9_5 (host := "") (Or.inl (hw _ (List.mem_of_getElem? (i := 16) rfl))) Via.refl O_ad0.2.1 ?_
  refine g_iloadN cx d9_8 rfl ?_
  refine g_icmp_ge cx d9_9 (fun q => absurd q (fun q => by revert q; decide)) (fun hc9 => ?_)
  refine g_aloadN cx d9_12 rfl rfl ?_
  refine g_iloadN cx d9_13 rfl ?_
  refine g_private cx (y := (⟨"java/util/BitSet", "ensureCapacity", "(I)V"⟩ : MethodName)) (a := ad0) d9_14 (hw _ (List.mem_of_getElem? (i := 61) rfl)) (hw _ (List.mem_of_getElem? (i := 62) rfl)) (hw _ (List.mem_of_getElem? (i := 11) rfl)) (hw _ (List.mem_of_getElem? (i := 65) rfl)) (hw _ (List.mem_of_getElem? (i := 64) rfl)) (hw _ (List.mem_of_getElem? (i := 63) rfl)) (by decide) O_ad0.1 (bytes := jdk_92_method_14_code) (maxL' := 3) (M := (rs10 l Z a0 hw kx hk0 hk6 SAD pm dn SPM SDN npd ad0 ad1 x0 x1 cA_ad1 _ O_ad0 A_ad1 ne_ad0_ad1 g_ad0 g_ad1 OL)) rfl (lenOf pd_1 rfl) (by decide) (W := 0) (Nat.le_of_eq rfl) (by decide) (k' := 0) (n' := 0) rfl rfl (by decide) (by decide) (argsL := [(.int (1 : Int32))]) (rest := []) rfl (fun v3 h2 q4 => ?_)
  obtain ⟨rfl, rfl⟩ := q4
  refine G.cast (st' := []) ?_ rfl
  refine g_aloadN cx d9_17 rfl rfl ?_
  refine g_iloadN cx d9_18 rfl ?_
  refine g_putF cx d9_19 (host := "") (Or.inl (hw _ (List.mem_of_getElem? (i := 16) rfl))) Via.refl O_ad0.2.1 O_ad0.1 (Or.inl (hw _ (List.mem_of_getElem? (i := 17) rfl))) (hw _ (List.mem_of_getElem? (i := 10) rfl)) (ty := .int) (by decide) rfl rfl g_ad0 (fun h5 W6 => ?_)
  have O_ad0 := O_ad0.put1 hw W6
  have A_ad1 := A_ad1.other W6 (Ne.symm ne_ad0_ad1)
  have OL := OL.wr W6 g_ad0
  have KK := KK.wr W6 (Or.inl (List.mem_of_getElem? (i := 0) rfl))
  refine g_retV cx d9_22 rfl (by decide) (by decide) ?_
  exact ⟨rfl, KK, O_ad0⟩
theorem pn_rs11 : plainName "java/util/BitSet" = true := by first | (simp [plainName, overriddenIn]; done) | decide +kernel
set_option maxRecDepth 65536 in
set_option maxHeartbeats 40000000 in
theorem rs11 (l : Launch) (Z : State) (a0 : Array Value) (hw : ∀ d ∈ tables_1, d.before a0 Z = true) (kx : Int32) (hk0 : ¬ kx < (0 : Int32)) (hk6 : (kx >>> ((6 : Int32) &&& 31)) = 0) (SAD : Sta Z Z.heap "java/util/BitSet" "$assertionsDisabled" "Z" (.int (1 : Int32))) (pm dn : Addr) (SPM : Sta Z Z.heap "com/example/dyn_authz/dynauthz/policy/Decision" "PERMIT" "Lcom/example/dyn_authz/dynauthz/policy/Decision;" (.ref pm)) (SDN : Sta Z Z.heap "com/example/dyn_authz/dynauthz/policy/Decision" "DENY" "Lcom/example/dyn_authz/dynauthz/policy/Decision;" (.ref dn)) (npd : pm ≠ dn) (ad0 ad1 : Addr) (x0 : Int32) (x1 : Int64) (cA_ad1 : ClassId) (h0 : Heap) (O_ad0 : ObB Z h0 ad0 (.int (1 : Int32)) (.int x0) (.ref ad1)) (A_ad1 : Arx Z h0 ad1 cA_ad1 .long (1 : Int32) [(.long x1)] (.long (0 : Int64)) "[J") (ne_ad0_ad1 : ad0 ≠ ad1) (g_ad0 : Z.heap.size ≤ ad0) (g_ad1 : Z.heap.size ≤ ad1) (OL : Old Z Z.heap.size h0) :
    Met l Z (⟨"java/util/BitSet", "checkInvariants", "()V"⟩ : MethodName) jdk_92_method_2_code 1 none ({ frames := 0, cells := 0, slots := 0, locals := 0 } : Room) #[(.ref ad0)] h0 (fun v h' => (v = none ∧ h0 = h')) := by
  refine met_of (Ls := #[.val (.ref ad0)]) (plainFor_of_name pn_rs11) (fun m => by first | (simp [entryFrame, mkF, argsToLocals, Value.category]; done) | rfl) (fun p e s m below meth c cx => ?_)
  have KK := Keep.refl h0 []
  refine g_getS cx d14_0 (host := "") (Or.inl (hw _ (List.mem_of_getElem? (i := 86) rfl))) Via.refl (SAD.ext OL.2) ?_
  refine g_if_ne cx d14_3 (fun hc3 => ?_) (fun q => absurd q (fun q => by revert q; decide))
  refine g_getS cx d14_37 (host := "") (Or.inl (hw _ (List.mem_of_getElem? (i := 86) rfl))) Via.refl (SAD.ext OL.2) ?_
  refine g_if_ne cx d14_40 (fun hc40 => ?_) (fun q => absurd q (fun q => by revert q; decide))
  refine g_getS cx d14_70 (host := "") (Or.inl (hw _ (List.mem_of_getElem? (i := 86) rfl))) Via.refl (SAD.ext OL.2) ?_
  refine g_if_ne cx d14_73 (fun hc73 => ?_) (fun q => absurd q (fun q => by revert q; decide))
  refine g_retV cx d14_110 rfl (by decide) (by decide) ?_
  exact ⟨rfl, rfl⟩
theorem pn_rs8 : plainName "java/util/BitSet" = true := by first | (simp [plainName, overriddenIn]; done) | decide +kernel
set_option maxRecDepth 65536 in
set_option maxHeartbeats 40000000 in
theorem rs8 (l : Launch) (Z : State) (a0 : Array Value) (hw : ∀ d ∈ tables_1, d.before a0 Z = true) (kx : Int32) (hk0 : ¬ kx < (0 : Int32)) (hk6 : (kx >>> ((6 : Int32) &&& 31)) = 0) (SAD : Sta Z Z.heap "java/util/BitSet" "$assertionsDisabled" "Z" (.int (1 : Int32))) (pm dn : Addr) (SPM : Sta Z Z.heap "com/example/dyn_authz/dynauthz/policy/Decision" "PERMIT" "Lcom/example/dyn_authz/dynauthz/policy/Decision;" (.ref pm)) (SDN : Sta Z Z.heap "com/example/dyn_authz/dynauthz/policy/Decision" "DENY" "Lcom/example/dyn_authz/dynauthz/policy/Decision;" (.ref dn)) (npd : pm ≠ dn) (ad0 ad1 : Addr) (x0 : Int32) (x1 : Int64) (cA_ad1 : ClassId) (h0 : Heap) (O_ad0 : ObB Z h0 ad0 (.int (0 : Int32)) (.int x0) (.ref ad1)) (A_ad1 : Arx Z h0 ad1 cA_ad1 .long (1 : Int32) [(.long x1)] (.long (0 : Int64)) "[J") (ne_ad0_ad1 : ad0 ≠ ad1) (g_ad0 : Z.heap.size ≤ ad0) (g_ad1 : Z.heap.size ≤ ad1) (OL : Old Z Z.heap.size h0) :
    Met l Z (⟨"java/util/BitSet", "set", "(I)V"⟩ : MethodName) jdk_92_method_19_code 3 none ({ frames := 2, cells := 0, slots := 0, locals := 28 } : Room) #[(.ref ad0), (.int kx)] h0 (fun v h' => (¬ (kx < (0 : Int32)) ∧ v = none ∧ Keep h0 h' [ad0, ad1] ∧ ObB Z h' ad0 (.int (1 : Int32)) (.int x0) (.ref ad1) ∧ Arx Z h' ad1 cA_ad1 .long (1 : Int32) [(.long (x1 ||| ((1 : Int64) <<< (kx &&& 0x3f).toInt64)))] (.long (0 : Int64)) "[J")) := by
  refine met_of (Ls := #[.val (.ref ad0), .val (.int kx), .unset]) (plainFor_of_name pn_rs8) (fun m => by first | (simp [entryFrame, mkF, argsToLocals, Value.category]; done) | rfl) (fun p e s m below meth c cx => ?_)
  have KK := Keep.refl h0 [ad0, ad1]
  refine g_iloadN cx d8_0 rfl ?_
  refine g_if_ge cx d8_1 (fun hc1 => ?_) (fun q => absurd q (fun q => hk0 q))
  refine g_iloadN cx d8_31 rfl ?_
  refine g_static cx (y := (⟨"java/util/BitSet", "wordIndex", "(I)I"⟩ : MethodName)) d8_32 (hw _ (List.mem_of_getElem? (i := 25) rfl)) (hw _ (List.mem_of_getElem? (i := 26) rfl)) (hw _ (List.mem_of_getElem? (i := 11) rfl)) (hw _ (List.mem_of_getElem? (i := 27) rfl)) (by decide) (bytes := jdk_92_method_1_code) (maxL' := 1) (M := (rmk l Z a0 hw kx hk6 _)) rfl (lenOf pd_0 rfl) (by decide) (W := 0) (Nat.le_of_eq rfl) (by decide) (k' := 0) (n' := 0) rfl rfl (by decide) (by decide) (argsL := [(.int kx)]) (rest := []) rfl (fun v2 h1 q3 => ?_)
  obtain ⟨rfl, rfl⟩ := q3
  refine G.cast (st' := [(.int (0 : Int32))]) ?_ rfl
  refine g_istoreN cx d8_35 (Ls' := #[.val (.ref ad0), .val (.int kx), .val (.int (0 : Int32))]) rfl ?_
  refine g_aloadN cx d8_36 rfl rfl ?_
  refine g_iloadN cx d8_37 rfl ?_
  refine g_private cx (y := (⟨"java/util/BitSet", "expandTo", "(I)V"⟩ : MethodName)) (a := ad0) d8_38 (hw _ (List.mem_of_getElem? (i := 56) rfl)) (hw _ (List.mem_of_getElem? (i := 57) rfl)) (hw _ (List.mem_of_getElem? (i := 11) rfl)) (hw _ (List.mem_of_getElem? (i := 60) rfl)) (hw _ (List.mem_of_getElem? (i := 59) rfl)) (hw _ (List.mem_of_getElem? (i := 58) rfl)) (by decide) O_ad0.1 (bytes := jdk_92_method_15_code) (maxL' := 3) (M := (rs9 l Z a0 hw kx hk0 hk6 SAD pm dn SPM SDN npd ad0 ad1 x0 x1 cA_ad1 _ O_ad0 A_ad1 ne_ad0_ad1 g_ad0 g_ad1 OL)) rfl (lenOf pd_1 rfl) (by decide) (W := 0) (Nat.le_of_eq rfl) (by decide) (k' := 0) (n' := 0) rfl rfl (by decide) (by decide) (argsL := [(.int (0 : Int32))]) (rest := []) rfl (fun v6 h5 q7 => ?_)
  obtain ⟨rfl, K4, O_ad0⟩ := q7
  have A_ad1 := A_ad1.keep K4 (ninS (Ne.symm ne_ad0_ad1) nin0)
  have OL := OL.keep K4 (allS g_ad0 all0)
  have KK := KK.trans K4 (allS (P := fun z => z ∈ _ ∨ _ ≤ z) (Or.inl (List.mem_of_getElem? (i := 0) rfl)) all0)
  refine G.cast (st' := []) ?_ rfl
  refine g_aloadN cx d8_41 rfl rfl ?_
  refine g_getF cx d8_42 (host := "") (Or.inl (hw _ (List.mem_of_getElem? (i := 29) rfl))) Via.refl O_ad0.2.2.2 ?_
  refine g_iloadN cx d8_45 rfl ?_
  refine g_dup2 cx d8_46 rfl rfl ?_
  refine g_laload cx d8_47 A_ad1.1 ⟨by decide, by decide⟩ (v := (.long x1)) rfl ?_
  refine g_lconst cx d8_48 (v := (1 : Int64)) rfl ?_
  refine g_iloadN cx d8_49 rfl ?_
  refine g_lshl cx d8_50 ?_
  refine g_lor cx d8_51 ?_
  refine g_lastore cx d8_52 A_ad1 ⟨by decide, by decide⟩ (Nat.le_of_ble_eq_true rfl) g_ad1 (fun h8 W9 AA10 => ?_)
  have O_ad0 := O_ad0.oth W9 ne_ad0_ad1
  have A_ad1 : Arx Z h8 ad1 cA_ad1 .long (1 : Int32) [(.long (x1 ||| ((1 : Int64) <<< (kx &&& 0x3f).toInt64)))] (.long (0 : Int64)) "[J" := AA10
  have OL := OL.wr W9 g_ad1
  have KK := KK.wr W9 (Or.inl (List.mem_of_getElem? (i := 1) rfl))
  refine g_aloadN cx d8_53 rfl rfl ?_
  refine g_private cx (y := (⟨"java/util/BitSet", "checkInvariants", "()V"⟩ : MethodName)) (a := ad0) d8_54 (hw _ (List.mem_of_getElem? (i := 81) rfl)) (hw _ (List.mem_of_getElem? (i := 82) rfl)) (hw _ (List.mem_of_getElem? (i := 11) rfl)) (hw _ (List.mem_of_getElem? (i := 85) rfl)) (hw _ (List.mem_of_getElem? (i := 84) rfl)) (hw _ (List.mem_of_getElem? (i := 83) rfl)) (by decide) O_ad0.1 (bytes := jdk_92_method_2_code) (maxL' := 1) (M := (rs11 l Z a0 hw kx hk0 hk6 SAD pm dn SPM SDN npd ad0 ad1 x0 (x1 ||| ((1 : Int64) <<< (kx &&& 0x3f).toInt64)) cA_ad1 _ O_ad0 A_ad1 ne_ad0_ad1 g_ad0 g_ad1 OL)) rfl (lenOf pd_4 rfl) (by decide) (W := 0) (Nat.le_of_eq rfl) (by decide) (k' := 0) (n' := 0) rfl rfl (by decide) (by decide) (argsL := []) (rest := []) rfl (fun v13 h12 q14 => ?_)
  obtain ⟨rfl, rfl⟩ := q14
  refine G.cast (st' := []) ?_ rfl
  refine g_retV cx d8_57 rfl (by decide) (by decide) ?_
  exact ⟨hc1, rfl, KK, O_ad0, A_ad1⟩
theorem pn_rs13 : plainName "java/util/BitSet" = true := by first | (simp [plainName, overriddenIn]; done) | decide +kernel
set_option maxRecDepth 65536 in
set_option maxHeartbeats 40000000 in
theorem rs13 (l : Launch) (Z : State) (a0 : Array Value) (hw : ∀ d ∈ tables_1, d.before a0 Z = true) (kx : Int32) (hk0 : ¬ kx < (0 : Int32)) (hk6 : (kx >>> ((6 : Int32) &&& 31)) = 0) (SAD : Sta Z Z.heap "java/util/BitSet" "$assertionsDisabled" "Z" (.int (1 : Int32))) (pm dn : Addr) (SPM : Sta Z Z.heap "com/example/dyn_authz/dynauthz/policy/Decision" "PERMIT" "Lcom/example/dyn_authz/dynauthz/policy/Decision;" (.ref pm)) (SDN : Sta Z Z.heap "com/example/dyn_authz/dynauthz/policy/Decision" "DENY" "Lcom/example/dyn_authz/dynauthz/policy/Decision;" (.ref dn)) (npd : pm ≠ dn) (ad0 ad1 : Addr) (x0 : Int32) (x1 : Int64) (cA_ad1 : ClassId) (h0 : Heap) (O_ad0 : ObB Z h0 ad0 (.int (1 : Int32)) (.int x0) (.ref ad1)) (A_ad1 : Arx Z h0 ad1 cA_ad1 .long (1 : Int32) [(.long x1)] (.long (0 : Int64)) "[J") (ne_ad0_ad1 : ad0 ≠ ad1) (g_ad0 : Z.heap.size ≤ ad0) (g_ad1 : Z.heap.size ≤ ad1) (OL : Old Z Z.heap.size h0) :
    Met l Z (⟨"java/util/BitSet", "expandTo", "(I)V"⟩ : MethodName) jdk_92_method_15_code 3 none ({ frames := 0, cells := 0, slots := 0, locals := 0 } : Room) #[(.ref ad0), (.int (0 : Int32))] h0 (fun v h' => (v = none ∧ h0 = h')) := by
  refine met_of (Ls := #[.val (.ref ad0), .val (.int (0 : Int32)), .unset]) (plainFor_of_name pn_rs13) (fun m => by first | (simp [entryFrame, mkF, argsToLocals, Value.category]; done) | rfl) (fun p e s m below meth c cx => ?_)
  have KK := Keep.refl h0 []
  refine g_iloadN cx d9_0 rfl ?_
  refine g_iconst cx d9_1 (v := (1 : Int32)) rfl ?_
  refine g_iadd cx d9_2 ?_
  refine G.cast (st' := [(.int (1 : Int32))]) ?_ rfl
  refine g_istoreN cx d9_3 (Ls' := #[.val (.ref ad0), .val (.int (0 : Int32)), .val (.int (1 : Int32))]) rfl ?_
  refine g_aloadN cx d9_4 rfl rfl ?_
  refine g_getF cx d9_5 (host := "") (Or.inl (hw _ (List.mem_of_getElem? (i := 16) rfl))) Via.refl O_ad0.2.1 ?_
  refine g_iloadN cx d9_8 rfl ?_
  refine g_icmp_ge cx d9_9 (fun hc9 => ?_) (fun q => absurd q (fun q => by revert q; decide))
  refine g_retV cx d9_22 rfl (by decide) (by decide) ?_
  exact ⟨rfl, rfl⟩
theorem pn_rs12 : plainName "java/util/BitSet" = true := by first | (simp [plainName, overriddenIn]; done) | decide +kernel
set_option maxRecDepth 65536 in
set_option maxHeartbeats 40000000 in
theorem rs12 (l : Launch) (Z : State) (a0 : Array Value) (hw : ∀ d ∈ tables_1, d.before a0 Z = true) (kx : Int32) (hk0 : ¬ kx < (0 : Int32)) (hk6 : (kx >>> ((6 : Int32) &&& 31)) = 0) (SAD : Sta Z Z.heap "java/util/BitSet" "$assertionsDisabled" "Z" (.int (1 : Int32))) (pm dn : Addr) (SPM : Sta Z Z.heap "com/example/dyn_authz/dynauthz/policy/Decision" "PERMIT" "Lcom/example/dyn_authz/dynauthz/policy/Decision;" (.ref pm)) (SDN : Sta Z Z.heap "com/example/dyn_authz/dynauthz/policy/Decision" "DENY" "Lcom/example/dyn_authz/dynauthz/policy/Decision;" (.ref dn)) (npd : pm ≠ dn) (ad0 ad1 : Addr) (x0 : Int32) (x1 : Int64) (cA_ad1 : ClassId) (h0 : Heap) (O_ad0 : ObB Z h0 ad0 (.int (1 : Int32)) (.int x0) (.ref ad1)) (A_ad1 : Arx Z h0 ad1 cA_ad1 .long (1 : Int32) [(.long x1)] (.long (0 : Int64)) "[J") (ne_ad0_ad1 : ad0 ≠ ad1) (g_ad0 : Z.heap.size ≤ ad0) (g_ad1 : Z.heap.size ≤ ad1) (OL : Old Z Z.heap.size h0) :
    Met l Z (⟨"java/util/BitSet", "set", "(I)V"⟩ : MethodName) jdk_92_method_19_code 3 none ({ frames := 1, cells := 0, slots := 0, locals := 14 } : Room) #[(.ref ad0), (.int kx)] h0 (fun v h' => (¬ (kx < (0 : Int32)) ∧ v = none ∧ Keep h0 h' [ad1] ∧ Arx Z h' ad1 cA_ad1 .long (1 : Int32) [(.long (x1 ||| ((1 : Int64) <<< (kx &&& 0x3f).toInt64)))] (.long (0 : Int64)) "[J")) := by
  refine met_of (Ls := #[.val (.ref ad0), .val (.int kx), .unset]) (plainFor_of_name pn_rs12) (fun m => by first | (simp [entryFrame, mkF, argsToLocals, Value.category]; done) | rfl) (fun p e s m below meth c cx => ?_)
  have KK := Keep.refl h0 [ad1]
  refine g_iloadN cx d8_0 rfl ?_
  refine g_if_ge cx d8_1 (fun hc1 => ?_) (fun q => absurd q (fun q => hk0 q))
  refine g_iloadN cx d8_31 rfl ?_
  refine g_static cx (y := (⟨"java/util/BitSet", "wordIndex", "(I)I"⟩ : MethodName)) d8_32 (hw _ (List.mem_of_getElem? (i := 25) rfl)) (hw _ (List.mem_of_getElem? (i := 26) rfl)) (hw _ (List.mem_of_getElem? (i := 11) rfl)) (hw _ (List.mem_of_getElem? (i := 27) rfl)) (by decide) (bytes := jdk_92_method_1_code) (maxL' := 1) (M := (rmk l Z a0 hw kx hk6 _)) rfl (lenOf pd_0 rfl) (by decide) (W := 0) (Nat.le_of_eq rfl) (by decide) (k' := 0) (n' := 0) rfl rfl (by decide) (by decide) (argsL := [(.int kx)]) (rest := []) rfl (fun v2 h1 q3 => ?_)
  obtain ⟨rfl, rfl⟩ := q3
  refine G.cast (st' := [(.int (0 : Int32))]) ?_ rfl
  refine g_istoreN cx d8_35 (Ls' := #[.val (.ref ad0), .val (.int kx), .val (.int (0 : Int32))]) rfl ?_
  refine g_aloadN cx d8_36 rfl rfl ?_
  refine g_iloadN cx d8_37 rfl ?_
  refine g_private cx (y := (⟨"java/util/BitSet", "expandTo", "(I)V"⟩ : MethodName)) (a := ad0) d8_38 (hw _ (List.mem_of_getElem? (i := 56) rfl)) (hw _ (List.mem_of_getElem? (i := 57) rfl)) (hw _ (List.mem_of_getElem? (i := 11) rfl)) (hw _ (List.mem_of_getElem? (i := 60) rfl)) (hw _ (List.mem_of_getElem? (i := 59) rfl)) (hw _ (List.mem_of_getElem? (i := 58) rfl)) (by decide) O_ad0.1 (bytes := jdk_92_method_15_code) (maxL' := 3) (M := (rs13 l Z a0 hw kx hk0 hk6 SAD pm dn SPM SDN npd ad0 ad1 x0 x1 cA_ad1 _ O_ad0 A_ad1 ne_ad0_ad1 g_ad0 g_ad1 OL)) rfl (lenOf pd_1 rfl) (by decide) (W := 0) (Nat.le_of_eq rfl) (by decide) (k' := 0) (n' := 0) rfl rfl (by decide) (by decide) (argsL := [(.int (0 : Int32))]) (rest := []) rfl (fun v6 h5 q7 => ?_)
  obtain ⟨rfl, rfl⟩ := q7
  refine G.cast (st' := []) ?_ rfl
  refine g_aloadN cx d8_41 rfl rfl ?_
  refine g_getF cx d8_42 (host := "") (Or.inl (hw _ (List.mem_of_getElem? (i := 29) rfl))) Via.refl O_ad0.2.2.2 ?_
  refine g_iloadN cx d8_45 rfl ?_
  refine g_dup2 cx d8_46 rfl rfl ?_
  refine g_laload cx d8_47 A_ad1.1 ⟨by decide, by decide⟩ (v := (.long x1)) rfl ?_
  refine g_lconst cx d8_48 (v := (1 : Int64)) rfl ?_
  refine g_iloadN cx d8_49 rfl ?_
  refine g_lshl cx d8_50 ?_
  refine g_lor cx d8_51 ?_
  refine g_lastore cx d8_52 A_ad1 ⟨by decide, by decide⟩ (Nat.le_of_ble_eq_true rfl) g_ad1 (fun h8 W9 AA10 => ?_)
  have O_ad0 := O_ad0.oth W9 ne_ad0_ad1
  have A_ad1 : Arx Z h8 ad1 cA_ad1 .long (1 : Int32) [(.long (x1 ||| ((1 : Int64) <<< (kx &&& 0x3f).toInt64)))] (.long (0 : Int64)) "[J" := AA10
  have OL := OL.wr W9 g_ad1
  have KK := KK.wr W9 (Or.inl (List.mem_of_getElem? (i := 0) rfl))
  refine g_aloadN cx d8_53 rfl rfl ?_
  refine g_private cx (y := (⟨"java/util/BitSet", "checkInvariants", "()V"⟩ : MethodName)) (a := ad0) d8_54 (hw _ (List.mem_of_getElem? (i := 81) rfl)) (hw _ (List.mem_of_getElem? (i := 82) rfl)) (hw _ (List.mem_of_getElem? (i := 11) rfl)) (hw _ (List.mem_of_getElem? (i := 85) rfl)) (hw _ (List.mem_of_getElem? (i := 84) rfl)) (hw _ (List.mem_of_getElem? (i := 83) rfl)) (by decide) O_ad0.1 (bytes := jdk_92_method_2_code) (maxL' := 1) (M := (rs11 l Z a0 hw kx hk0 hk6 SAD pm dn SPM SDN npd ad0 ad1 x0 (x1 ||| ((1 : Int64) <<< (kx &&& 0x3f).toInt64)) cA_ad1 _ O_ad0 A_ad1 ne_ad0_ad1 g_ad0 g_ad1 OL)) rfl (lenOf pd_4 rfl) (by decide) (W := 0) (Nat.le_of_eq rfl) (by decide) (k' := 0) (n' := 0) rfl rfl (by decide) (by decide) (argsL := []) (rest := []) rfl (fun v13 h12 q14 => ?_)
  obtain ⟨rfl, rfl⟩ := q14
  refine G.cast (st' := []) ?_ rfl
  refine g_retV cx d8_57 rfl (by decide) (by decide) ?_
  exact ⟨hc1, rfl, KK, A_ad1⟩
theorem pn_rs16 : plainName "java/util/BitSet" = true := by first | (simp [plainName, overriddenIn]; done) | decide +kernel
set_option maxRecDepth 65536 in
set_option maxHeartbeats 40000000 in
theorem rs16 (l : Launch) (Z : State) (a0 : Array Value) (hw : ∀ d ∈ tables_1, d.before a0 Z = true) (kx : Int32) (hk0 : ¬ kx < (0 : Int32)) (hk6 : (kx >>> ((6 : Int32) &&& 31)) = 0) (SAD : Sta Z Z.heap "java/util/BitSet" "$assertionsDisabled" "Z" (.int (1 : Int32))) (pm dn : Addr) (SPM : Sta Z Z.heap "com/example/dyn_authz/dynauthz/policy/Decision" "PERMIT" "Lcom/example/dyn_authz/dynauthz/policy/Decision;" (.ref pm)) (SDN : Sta Z Z.heap "com/example/dyn_authz/dynauthz/policy/Decision" "DENY" "Lcom/example/dyn_authz/dynauthz/policy/Decision;" (.ref dn)) (npd : pm ≠ dn) (ad0 ad1 : Addr) (x0 : Int32) (x1 : Int64) (x2 : Int64) (cA_ad1 : ClassId) (h0 : Heap) (O_ad0 : ObB Z h0 ad0 (.int (0 : Int32)) (.int x0) (.ref ad1)) (A_ad1 : Arx Z h0 ad1 cA_ad1 .long (2 : Int32) [(.long x1), (.long x2)] (.long (0 : Int64)) "[J") (ne_ad0_ad1 : ad0 ≠ ad1) (g_ad0 : Z.heap.size ≤ ad0) (g_ad1 : Z.heap.size ≤ ad1) (OL : Old Z Z.heap.size h0) :
    Met l Z (⟨"java/util/BitSet", "ensureCapacity", "(I)V"⟩ : MethodName) jdk_92_method_14_code 3 none ({ frames := 0, cells := 0, slots := 0, locals := 0 } : Room) #[(.ref ad0), (.int (1 : Int32))] h0 (fun v h' => (v = none ∧ h0 = h')) := by
  refine met_of (Ls := #[.val (.ref ad0), .val (.int (1 : Int32)), .unset]) (plainFor_of_name pn_rs16) (fun m => by first | (simp [entryFrame, mkF, argsToLocals, Value.category]; done) | rfl) (fun p e s m below meth c cx => ?_)
  have KK := Keep.refl h0 []
  refine g_aloadN cx d10_0 rfl rfl ?_
  refine g_getF cx d10_1 (host := "") (Or.inl (hw _ (List.mem_of_getElem? (i := 29) rfl))) Via.refl O_ad0.2.2.2 ?_
  refine g_arraylength cx d10_4 A_ad1.1 ?_
  refine g_iloadN cx d10_5 rfl ?_
  refine g_icmp_ge cx d10_6 (fun hc6 => ?_) (fun q => absurd q (fun q => by revert q; decide))
  refine g_retV cx d10_38 rfl (by decide) (by decide) ?_
  exact ⟨rfl, rfl⟩
theorem pn_rs15 : plainName "java/util/BitSet" = true := by first | (simp [plainName, overriddenIn]; done) | decide +kernel
set_option maxRecDepth 65536 in
set_option maxHeartbeats 40000000 in
theorem rs15 (l : Launch) (Z : State) (a0 : Array Value) (hw : ∀ d ∈ tables_1, d.before a0 Z = true) (kx : Int32) (hk0 : ¬ kx < (0 : Int32)) (hk6 : (kx >>> ((6 : Int32) &&& 31)) = 0) (SAD : Sta Z Z.heap "java/util/BitSet" "$assertionsDisabled" "Z" (.int (1 : Int32))) (pm dn : Addr) (SPM : Sta Z Z.heap "com/example/dyn_authz/dynauthz/policy/Decision" "PERMIT" "Lcom/example/dyn_authz/dynauthz/policy/Decision;" (.ref pm)) (SDN : Sta Z Z.heap "com/example/dyn_authz/dynauthz/policy/Decision" "DENY" "Lcom/example/dyn_authz/dynauthz/policy/Decision;" (.ref dn)) (npd : pm ≠ dn) (ad0 ad1 : Addr) (x0 : Int32) (x1 : Int64) (x2 : Int64) (cA_ad1 : ClassId) (h0 : Heap) (O_ad0 : ObB Z h0 ad0 (.int (0 : Int32)) (.int x0) (.ref ad1)) (A_ad1 : Arx Z h0 ad1 cA_ad1 .long (2 : Int32) [(.long x1), (.long x2)] (.long (0 : Int64)) "[J") (ne_ad0_ad1 : ad0 ≠ ad1) (g_ad0 : Z.heap.size ≤ ad0) (g_ad1 : Z.heap.size ≤ ad1) (OL : Old Z Z.heap.size h0) :
    Met l Z (⟨"java/util/BitSet", "expandTo", "(I)V"⟩ : MethodName) jdk_92_method_15_code 3 none ({ frames := 1, cells := 0, slots := 0, locals := 14 } : Room) #[(.ref ad0), (.int (0 : Int32))] h0 (fun v h' => (v = none ∧ Keep h0 h' [ad0] ∧ ObB Z h' ad0 (.int (1 : Int32)) (.int x0) (.ref ad1))) := by
  refine met_of (Ls := #[.val (.ref ad0), .val (.int (0 : Int32)), .unset]) (plainFor_of_name pn_rs15) (fun m => by first | (simp [entryFrame, mkF, argsToLocals, Value.category]; done) | rfl) (fun p e s m below meth c cx => ?_)
  have KK := Keep.refl h0 [ad0]
  refine g_iloadN cx d9_0 rfl ?_
  refine g_iconst cx d9_1 (v := (1 : Int32)) rfl ?_
  refine g_iadd cx d9_2 ?_
  refine G.cast (st' := [(.int (1 : Int32))]) ?_ rfl
  refine g_istoreN cx d9_3 (Ls' := #[.val (.ref ad0), .val (.int (0 : Int32)), .val (.int (1 : Int32))]) rfl ?_
  refine g_aloadN cx d9_4 rfl rfl ?_
  refine g_getF cx d9_5 (host := "") (Or.inl (hw _ (List.mem_of_getElem? (i := 16) rfl))) Via.refl O_ad0.2.1 ?_
  refine g_iloadN cx d9_8 rfl ?_
  refine g_icmp_ge cx d9_9 (fun q => absurd q (fun q => by revert q; decide)) (fun hc9 => ?_)
  refine g_aloadN cx d9_12 rfl rfl ?_
  refine g_iloadN cx d9_13 rfl ?_
  refine g_private cx (y := (⟨"java/util/BitSet", "ensureCapacity", "(I)V"⟩ : MethodName)) (a := ad0) d9_14 (hw _ (List.mem_of_getElem? (i := 61) rfl)) (hw _ (List.mem_of_getElem? (i := 62) rfl)) (hw _ (List.mem_of_getElem? (i := 11) rfl)) (hw _ (List.mem_of_getElem? (i := 65) rfl)) (hw _ (List.mem_of_getElem? (i := 64) rfl)) (hw _ (List.mem_of_getElem? (i := 63) rfl)) (by decide) O_ad0.1 (bytes := jdk_92_method_14_code) (maxL' := 3) (M := (rs16 l Z a0 hw kx hk0 hk6 SAD pm dn SPM SDN npd ad0 ad1 x0 x1 x2 cA_ad1 _ O_ad0 A_ad1 ne_ad0_ad1 g_ad0 g_ad1 OL)) rfl (lenOf pd_1 rfl) (by decide) (W := 0) (Nat.le_of_eq rfl) (by decide) (k' := 0) (n' := 0) rfl rfl (by decide) (by decide) (argsL := [(.int (1 : Int32))]) (rest := []) rfl (fun v3 h2 q4 => ?_)
  obtain ⟨rfl, rfl⟩ := q4
  refine G.cast (st' := []) ?_ rfl
  refine g_aloadN cx d9_17 rfl rfl ?_
  refine g_iloadN cx d9_18 rfl ?_
  refine g_putF cx d9_19 (host := "") (Or.inl (hw _ (List.mem_of_getElem? (i := 16) rfl))) Via.refl O_ad0.2.1 O_ad0.1 (Or.inl (hw _ (List.mem_of_getElem? (i := 17) rfl))) (hw _ (List.mem_of_getElem? (i := 10) rfl)) (ty := .int) (by decide) rfl rfl g_ad0 (fun h5 W6 => ?_)
  have O_ad0 := O_ad0.put1 hw W6
  have A_ad1 := A_ad1.other W6 (Ne.symm ne_ad0_ad1)
  have OL := OL.wr W6 g_ad0
  have KK := KK.wr W6 (Or.inl (List.mem_of_getElem? (i := 0) rfl))
  refine g_retV cx d9_22 rfl (by decide) (by decide) ?_
  exact ⟨rfl, KK, O_ad0⟩
theorem pn_rs17 : plainName "java/util/BitSet" = true := by first | (simp [plainName, overriddenIn]; done) | decide +kernel
set_option maxRecDepth 65536 in
set_option maxHeartbeats 40000000 in
theorem rs17 (l : Launch) (Z : State) (a0 : Array Value) (hw : ∀ d ∈ tables_1, d.before a0 Z = true) (kx : Int32) (hk0 : ¬ kx < (0 : Int32)) (hk6 : (kx >>> ((6 : Int32) &&& 31)) = 0) (SAD : Sta Z Z.heap "java/util/BitSet" "$assertionsDisabled" "Z" (.int (1 : Int32))) (pm dn : Addr) (SPM : Sta Z Z.heap "com/example/dyn_authz/dynauthz/policy/Decision" "PERMIT" "Lcom/example/dyn_authz/dynauthz/policy/Decision;" (.ref pm)) (SDN : Sta Z Z.heap "com/example/dyn_authz/dynauthz/policy/Decision" "DENY" "Lcom/example/dyn_authz/dynauthz/policy/Decision;" (.ref dn)) (npd : pm ≠ dn) (ad0 ad1 : Addr) (x0 : Int32) (x1 : Int64) (x2 : Int64) (cA_ad1 : ClassId) (h0 : Heap) (O_ad0 : ObB Z h0 ad0 (.int (1 : Int32)) (.int x0) (.ref ad1)) (A_ad1 : Arx Z h0 ad1 cA_ad1 .long (2 : Int32) [(.long x1), (.long x2)] (.long (0 : Int64)) "[J") (ne_ad0_ad1 : ad0 ≠ ad1) (g_ad0 : Z.heap.size ≤ ad0) (g_ad1 : Z.heap.size ≤ ad1) (OL : Old Z Z.heap.size h0) :
    Met l Z (⟨"java/util/BitSet", "checkInvariants", "()V"⟩ : MethodName) jdk_92_method_2_code 1 none ({ frames := 0, cells := 0, slots := 0, locals := 0 } : Room) #[(.ref ad0)] h0 (fun v h' => (v = none ∧ h0 = h')) := by
  refine met_of (Ls := #[.val (.ref ad0)]) (plainFor_of_name pn_rs17) (fun m => by first | (simp [entryFrame, mkF, argsToLocals, Value.category]; done) | rfl) (fun p e s m below meth c cx => ?_)
  have KK := Keep.refl h0 []
  refine g_getS cx d14_0 (host := "") (Or.inl (hw _ (List.mem_of_getElem? (i := 86) rfl))) Via.refl (SAD.ext OL.2) ?_
  refine g_if_ne cx d14_3 (fun hc3 => ?_) (fun q => absurd q (fun q => by revert q; decide))
  refine g_getS cx d14_37 (host := "") (Or.inl (hw _ (List.mem_of_getElem? (i := 86) rfl))) Via.refl (SAD.ext OL.2) ?_
  refine g_if_ne cx d14_40 (fun hc40 => ?_) (fun q => absurd q (fun q => by revert q; decide))
  refine g_getS cx d14_70 (host := "") (Or.inl (hw _ (List.mem_of_getElem? (i := 86) rfl))) Via.refl (SAD.ext OL.2) ?_
  refine g_if_ne cx d14_73 (fun hc73 => ?_) (fun q => absurd q (fun q => by revert q; decide))
  refine g_retV cx d14_110 rfl (by decide) (by decide) ?_
  exact ⟨rfl, rfl⟩
theorem pn_rs14 : plainName "java/util/BitSet" = true := by first | (simp [plainName, overriddenIn]; done) | decide +kernel
set_option maxRecDepth 65536 in
set_option maxHeartbeats 40000000 in
theorem rs14 (l : Launch) (Z : State) (a0 : Array Value) (hw : ∀ d ∈ tables_1, d.before a0 Z = true) (kx : Int32) (hk0 : ¬ kx < (0 : Int32)) (hk6 : (kx >>> ((6 : Int32) &&& 31)) = 0) (SAD : Sta Z Z.heap "java/util/BitSet" "$assertionsDisabled" "Z" (.int (1 : Int32))) (pm dn : Addr) (SPM : Sta Z Z.heap "com/example/dyn_authz/dynauthz/policy/Decision" "PERMIT" "Lcom/example/dyn_authz/dynauthz/policy/Decision;" (.ref pm)) (SDN : Sta Z Z.heap "com/example/dyn_authz/dynauthz/policy/Decision" "DENY" "Lcom/example/dyn_authz/dynauthz/policy/Decision;" (.ref dn)) (npd : pm ≠ dn) (ad0 ad1 : Addr) (x0 : Int32) (x1 : Int64) (x2 : Int64) (cA_ad1 : ClassId) (h0 : Heap) (O_ad0 : ObB Z h0 ad0 (.int (0 : Int32)) (.int x0) (.ref ad1)) (A_ad1 : Arx Z h0 ad1 cA_ad1 .long (2 : Int32) [(.long x1), (.long x2)] (.long (0 : Int64)) "[J") (ne_ad0_ad1 : ad0 ≠ ad1) (g_ad0 : Z.heap.size ≤ ad0) (g_ad1 : Z.heap.size ≤ ad1) (OL : Old Z Z.heap.size h0) :
    Met l Z (⟨"java/util/BitSet", "set", "(I)V"⟩ : MethodName) jdk_92_method_19_code 3 none ({ frames := 2, cells := 0, slots := 0, locals := 28 } : Room) #[(.ref ad0), (.int kx)] h0 (fun v h' => (¬ (kx < (0 : Int32)) ∧ v = none ∧ Keep h0 h' [ad0, ad1] ∧ ObB Z h' ad0 (.int (1 : Int32)) (.int x0) (.ref ad1) ∧ Arx Z h' ad1 cA_ad1 .long (2 : Int32) [(.long (x1 ||| ((1 : Int64) <<< (kx &&& 0x3f).toInt64))), (.long x2)] (.long (0 : Int64)) "[J")) := by
  refine met_of (Ls := #[.val (.ref ad0), .val (.int kx), .unset]) (plainFor_of_name pn_rs14) (fun m => by first | (simp [entryFrame, mkF, argsToLocals, Value.category]; done) | rfl) (fun p e s m below meth c cx => ?_)
  have KK := Keep.refl h0 [ad0, ad1]
  refine g_iloadN cx d8_0 rfl ?_
  refine g_if_ge cx d8_1 (fun hc1 => ?_) (fun q => absurd q (fun q => hk0 q))
  refine g_iloadN cx d8_31 rfl ?_
  refine g_static cx (y := (⟨"java/util/BitSet", "wordIndex", "(I)I"⟩ : MethodName)) d8_32 (hw _ (List.mem_of_getElem? (i := 25) rfl)) (hw _ (List.mem_of_getElem? (i := 26) rfl)) (hw _ (List.mem_of_getElem? (i := 11) rfl)) (hw _ (List.mem_of_getElem? (i := 27) rfl)) (by decide) (bytes := jdk_92_method_1_code) (maxL' := 1) (M := (rmk l Z a0 hw kx hk6 _)) rfl (lenOf pd_0 rfl) (by decide) (W := 0) (Nat.le_of_eq rfl) (by decide) (k' := 0) (n' := 0) rfl rfl (by decide) (by decide) (argsL := [(.int kx)]) (rest := []) rfl (fun v2 h1 q3 => ?_)
  obtain ⟨rfl, rfl⟩ := q3
  refine G.cast (st' := [(.int (0 : Int32))]) ?_ rfl
  refine g_istoreN cx d8_35 (Ls' := #[.val (.ref ad0), .val (.int kx), .val (.int (0 : Int32))]) rfl ?_
  refine g_aloadN cx d8_36 rfl rfl ?_
  refine g_iloadN cx d8_37 rfl ?_
  refine g_private cx (y := (⟨"java/util/BitSet", "expandTo", "(I)V"⟩ : MethodName)) (a := ad0) d8_38 (hw _ (List.mem_of_getElem? (i := 56) rfl)) (hw _ (List.mem_of_getElem? (i := 57) rfl)) (hw _ (List.mem_of_getElem? (i := 11) rfl)) (hw _ (List.mem_of_getElem? (i := 60) rfl)) (hw _ (List.mem_of_getElem? (i := 59) rfl)) (hw _ (List.mem_of_getElem? (i := 58) rfl)) (by decide) O_ad0.1 (bytes := jdk_92_method_15_code) (maxL' := 3) (M := (rs15 l Z a0 hw kx hk0 hk6 SAD pm dn SPM SDN npd ad0 ad1 x0 x1 x2 cA_ad1 _ O_ad0 A_ad1 ne_ad0_ad1 g_ad0 g_ad1 OL)) rfl (lenOf pd_1 rfl) (by decide) (W := 0) (Nat.le_of_eq rfl) (by decide) (k' := 0) (n' := 0) rfl rfl (by decide) (by decide) (argsL := [(.int (0 : Int32))]) (rest := []) rfl (fun v6 h5 q7 => ?_)
  obtain ⟨rfl, K4, O_ad0⟩ := q7
  have A_ad1 := A_ad1.keep K4 (ninS (Ne.symm ne_ad0_ad1) nin0)
  have OL := OL.keep K4 (allS g_ad0 all0)
  have KK := KK.trans K4 (allS (P := fun z => z ∈ _ ∨ _ ≤ z) (Or.inl (List.mem_of_getElem? (i := 0) rfl)) all0)
  refine G.cast (st' := []) ?_ rfl
  refine g_aloadN cx d8_41 rfl rfl ?_
  refine g_getF cx d8_42 (host := "") (Or.inl (hw _ (List.mem_of_getElem? (i := 29) rfl))) Via.refl O_ad0.2.2.2 ?_
  refine g_iloadN cx d8_45 rfl ?_
  refine g_dup2 cx d8_46 rfl rfl ?_
  refine g_laload cx d8_47 A_ad1.1 ⟨by decide, by decide⟩ (v := (.long x1)) rfl ?_
  refine g_lconst cx d8_48 (v := (1 : Int64)) rfl ?_
  refine g_iloadN cx d8_49 rfl ?_
  refine g_lshl cx d8_50 ?_
  refine g_lor cx d8_51 ?_
  refine g_lastore cx d8_52 A_ad1 ⟨by decide, by decide⟩ (Nat.le_of_ble_eq_true rfl) g_ad1 (fun h8 W9 AA10 => ?_)
  have O_ad0 := O_ad0.oth W9 ne_ad0_ad1
  have A_ad1 : Arx Z h8 ad1 cA_ad1 .long (2 : Int32) [(.long (x1 ||| ((1 : Int64) <<< (kx &&& 0x3f).toInt64))), (.long x2)] (.long (0 : Int64)) "[J" := AA10
  have OL := OL.wr W9 g_ad1
  have KK := KK.wr W9 (Or.inl (List.mem_of_getElem? (i := 1) rfl))
  refine g_aloadN cx d8_53 rfl rfl ?_
  refine g_private cx (y := (⟨"java/util/BitSet", "checkInvariants", "()V"⟩ : MethodName)) (a := ad0) d8_54 (hw _ (List.mem_of_getElem? (i := 81) rfl)) (hw _ (List.mem_of_getElem? (i := 82) rfl)) (hw _ (List.mem_of_getElem? (i := 11) rfl)) (hw _ (List.mem_of_getElem? (i := 85) rfl)) (hw _ (List.mem_of_getElem? (i := 84) rfl)) (hw _ (List.mem_of_getElem? (i := 83) rfl)) (by decide) O_ad0.1 (bytes := jdk_92_method_2_code) (maxL' := 1) (M := (rs17 l Z a0 hw kx hk0 hk6 SAD pm dn SPM SDN npd ad0 ad1 x0 (x1 ||| ((1 : Int64) <<< (kx &&& 0x3f).toInt64)) x2 cA_ad1 _ O_ad0 A_ad1 ne_ad0_ad1 g_ad0 g_ad1 OL)) rfl (lenOf pd_4 rfl) (by decide) (W := 0) (Nat.le_of_eq rfl) (by decide) (k' := 0) (n' := 0) rfl rfl (by decide) (by decide) (argsL := []) (rest := []) rfl (fun v13 h12 q14 => ?_)
  obtain ⟨rfl, rfl⟩ := q14
  refine G.cast (st' := []) ?_ rfl
  refine g_retV cx d8_57 rfl (by decide) (by decide) ?_
  exact ⟨hc1, rfl, KK, O_ad0, A_ad1⟩
theorem pn_rs19 : plainName "java/util/BitSet" = true := by first | (simp [plainName, overriddenIn]; done) | decide +kernel
set_option maxRecDepth 65536 in
set_option maxHeartbeats 40000000 in
theorem rs19 (l : Launch) (Z : State) (a0 : Array Value) (hw : ∀ d ∈ tables_1, d.before a0 Z = true) (kx : Int32) (hk0 : ¬ kx < (0 : Int32)) (hk6 : (kx >>> ((6 : Int32) &&& 31)) = 0) (SAD : Sta Z Z.heap "java/util/BitSet" "$assertionsDisabled" "Z" (.int (1 : Int32))) (pm dn : Addr) (SPM : Sta Z Z.heap "com/example/dyn_authz/dynauthz/policy/Decision" "PERMIT" "Lcom/example/dyn_authz/dynauthz/policy/Decision;" (.ref pm)) (SDN : Sta Z Z.heap "com/example/dyn_authz/dynauthz/policy/Decision" "DENY" "Lcom/example/dyn_authz/dynauthz/policy/Decision;" (.ref dn)) (npd : pm ≠ dn) (ad0 ad1 : Addr) (x0 : Int32) (x1 : Int64) (x2 : Int64) (cA_ad1 : ClassId) (h0 : Heap) (O_ad0 : ObB Z h0 ad0 (.int (1 : Int32)) (.int x0) (.ref ad1)) (A_ad1 : Arx Z h0 ad1 cA_ad1 .long (2 : Int32) [(.long x1), (.long x2)] (.long (0 : Int64)) "[J") (ne_ad0_ad1 : ad0 ≠ ad1) (g_ad0 : Z.heap.size ≤ ad0) (g_ad1 : Z.heap.size ≤ ad1) (OL : Old Z Z.heap.size h0) :
    Met l Z (⟨"java/util/BitSet", "expandTo", "(I)V"⟩ : MethodName) jdk_92_method_15_code 3 none ({ frames := 0, cells := 0, slots := 0, locals := 0 } : Room) #[(.ref ad0), (.int (0 : Int32))] h0 (fun v h' => (v = none ∧ h0 = h')) := by
  refine met_of (Ls := #[.val (.ref ad0), .val (.int (0 : Int32)), .unset]) (plainFor_of_name pn_rs19) (fun m => by first | (simp [entryFrame, mkF, argsToLocals, Value.category]; done) | rfl) (fun p e s m below meth c cx => ?_)
  have KK := Keep.refl h0 []
  refine g_iloadN cx d9_0 rfl ?_
  refine g_iconst cx d9_1 (v := (1 : Int32)) rfl ?_
  refine g_iadd cx d9_2 ?_
  refine G.cast (st' := [(.int (1 : Int32))]) ?_ rfl
  refine g_istoreN cx d9_3 (Ls' := #[.val (.ref ad0), .val (.int (0 : Int32)), .val (.int (1 : Int32))]) rfl ?_
  refine g_aloadN cx d9_4 rfl rfl ?_
  refine g_getF cx d9_5 (host := "") (Or.inl (hw _ (List.mem_of_getElem? (i := 16) rfl))) Via.refl O_ad0.2.1 ?_
  refine g_iloadN cx d9_8 rfl ?_
  refine g_icmp_ge cx d9_9 (fun hc9 => ?_) (fun q => absurd q (fun q => by revert q; decide))
  refine g_retV cx d9_22 rfl (by decide) (by decide) ?_
  exact ⟨rfl, rfl⟩
theorem pn_rs18 : plainName "java/util/BitSet" = true := by first | (simp [plainName, overriddenIn]; done) | decide +kernel
set_option maxRecDepth 65536 in
set_option maxHeartbeats 40000000 in
theorem rs18 (l : Launch) (Z : State) (a0 : Array Value) (hw : ∀ d ∈ tables_1, d.before a0 Z = true) (kx : Int32) (hk0 : ¬ kx < (0 : Int32)) (hk6 : (kx >>> ((6 : Int32) &&& 31)) = 0) (SAD : Sta Z Z.heap "java/util/BitSet" "$assertionsDisabled" "Z" (.int (1 : Int32))) (pm dn : Addr) (SPM : Sta Z Z.heap "com/example/dyn_authz/dynauthz/policy/Decision" "PERMIT" "Lcom/example/dyn_authz/dynauthz/policy/Decision;" (.ref pm)) (SDN : Sta Z Z.heap "com/example/dyn_authz/dynauthz/policy/Decision" "DENY" "Lcom/example/dyn_authz/dynauthz/policy/Decision;" (.ref dn)) (npd : pm ≠ dn) (ad0 ad1 : Addr) (x0 : Int32) (x1 : Int64) (x2 : Int64) (cA_ad1 : ClassId) (h0 : Heap) (O_ad0 : ObB Z h0 ad0 (.int (1 : Int32)) (.int x0) (.ref ad1)) (A_ad1 : Arx Z h0 ad1 cA_ad1 .long (2 : Int32) [(.long x1), (.long x2)] (.long (0 : Int64)) "[J") (ne_ad0_ad1 : ad0 ≠ ad1) (g_ad0 : Z.heap.size ≤ ad0) (g_ad1 : Z.heap.size ≤ ad1) (OL : Old Z Z.heap.size h0) :
    Met l Z (⟨"java/util/BitSet", "set", "(I)V"⟩ : MethodName) jdk_92_method_19_code 3 none ({ frames := 1, cells := 0, slots := 0, locals := 14 } : Room) #[(.ref ad0), (.int kx)] h0 (fun v h' => (¬ (kx < (0 : Int32)) ∧ v = none ∧ Keep h0 h' [ad1] ∧ Arx Z h' ad1 cA_ad1 .long (2 : Int32) [(.long (x1 ||| ((1 : Int64) <<< (kx &&& 0x3f).toInt64))), (.long x2)] (.long (0 : Int64)) "[J")) := by
  refine met_of (Ls := #[.val (.ref ad0), .val (.int kx), .unset]) (plainFor_of_name pn_rs18) (fun m => by first | (simp [entryFrame, mkF, argsToLocals, Value.category]; done) | rfl) (fun p e s m below meth c cx => ?_)
  have KK := Keep.refl h0 [ad1]
  refine g_iloadN cx d8_0 rfl ?_
  refine g_if_ge cx d8_1 (fun hc1 => ?_) (fun q => absurd q (fun q => hk0 q))
  refine g_iloadN cx d8_31 rfl ?_
  refine g_static cx (y := (⟨"java/util/BitSet", "wordIndex", "(I)I"⟩ : MethodName)) d8_32 (hw _ (List.mem_of_getElem? (i := 25) rfl)) (hw _ (List.mem_of_getElem? (i := 26) rfl)) (hw _ (List.mem_of_getElem? (i := 11) rfl)) (hw _ (List.mem_of_getElem? (i := 27) rfl)) (by decide) (bytes := jdk_92_method_1_code) (maxL' := 1) (M := (rmk l Z a0 hw kx hk6 _)) rfl (lenOf pd_0 rfl) (by decide) (W := 0) (Nat.le_of_eq rfl) (by decide) (k' := 0) (n' := 0) rfl rfl (by decide) (by decide) (argsL := [(.int kx)]) (rest := []) rfl (fun v2 h1 q3 => ?_)
  obtain ⟨rfl, rfl⟩ := q3
  refine G.cast (st' := [(.int (0 : Int32))]) ?_ rfl
  refine g_istoreN cx d8_35 (Ls' := #[.val (.ref ad0), .val (.int kx), .val (.int (0 : Int32))]) rfl ?_
  refine g_aloadN cx d8_36 rfl rfl ?_
  refine g_iloadN cx d8_37 rfl ?_
  refine g_private cx (y := (⟨"java/util/BitSet", "expandTo", "(I)V"⟩ : MethodName)) (a := ad0) d8_38 (hw _ (List.mem_of_getElem? (i := 56) rfl)) (hw _ (List.mem_of_getElem? (i := 57) rfl)) (hw _ (List.mem_of_getElem? (i := 11) rfl)) (hw _ (List.mem_of_getElem? (i := 60) rfl)) (hw _ (List.mem_of_getElem? (i := 59) rfl)) (hw _ (List.mem_of_getElem? (i := 58) rfl)) (by decide) O_ad0.1 (bytes := jdk_92_method_15_code) (maxL' := 3) (M := (rs19 l Z a0 hw kx hk0 hk6 SAD pm dn SPM SDN npd ad0 ad1 x0 x1 x2 cA_ad1 _ O_ad0 A_ad1 ne_ad0_ad1 g_ad0 g_ad1 OL)) rfl (lenOf pd_1 rfl) (by decide) (W := 0) (Nat.le_of_eq rfl) (by decide) (k' := 0) (n' := 0) rfl rfl (by decide) (by decide) (argsL := [(.int (0 : Int32))]) (rest := []) rfl (fun v6 h5 q7 => ?_)
  obtain ⟨rfl, rfl⟩ := q7
  refine G.cast (st' := []) ?_ rfl
  refine g_aloadN cx d8_41 rfl rfl ?_
  refine g_getF cx d8_42 (host := "") (Or.inl (hw _ (List.mem_of_getElem? (i := 29) rfl))) Via.refl O_ad0.2.2.2 ?_
  refine g_iloadN cx d8_45 rfl ?_
  refine g_dup2 cx d8_46 rfl rfl ?_
  refine g_laload cx d8_47 A_ad1.1 ⟨by decide, by decide⟩ (v := (.long x1)) rfl ?_
  refine g_lconst cx d8_48 (v := (1 : Int64)) rfl ?_
  refine g_iloadN cx d8_49 rfl ?_
  refine g_lshl cx d8_50 ?_
  refine g_lor cx d8_51 ?_
  refine g_lastore cx d8_52 A_ad1 ⟨by decide, by decide⟩ (Nat.le_of_ble_eq_true rfl) g_ad1 (fun h8 W9 AA10 => ?_)
  have O_ad0 := O_ad0.oth W9 ne_ad0_ad1
  have A_ad1 : Arx Z h8 ad1 cA_ad1 .long (2 : Int32) [(.long (x1 ||| ((1 : Int64) <<< (kx &&& 0x3f).toInt64))), (.long x2)] (.long (0 : Int64)) "[J" := AA10
  have OL := OL.wr W9 g_ad1
  have KK := KK.wr W9 (Or.inl (List.mem_of_getElem? (i := 0) rfl))
  refine g_aloadN cx d8_53 rfl rfl ?_
  refine g_private cx (y := (⟨"java/util/BitSet", "checkInvariants", "()V"⟩ : MethodName)) (a := ad0) d8_54 (hw _ (List.mem_of_getElem? (i := 81) rfl)) (hw _ (List.mem_of_getElem? (i := 82) rfl)) (hw _ (List.mem_of_getElem? (i := 11) rfl)) (hw _ (List.mem_of_getElem? (i := 85) rfl)) (hw _ (List.mem_of_getElem? (i := 84) rfl)) (hw _ (List.mem_of_getElem? (i := 83) rfl)) (by decide) O_ad0.1 (bytes := jdk_92_method_2_code) (maxL' := 1) (M := (rs17 l Z a0 hw kx hk0 hk6 SAD pm dn SPM SDN npd ad0 ad1 x0 (x1 ||| ((1 : Int64) <<< (kx &&& 0x3f).toInt64)) x2 cA_ad1 _ O_ad0 A_ad1 ne_ad0_ad1 g_ad0 g_ad1 OL)) rfl (lenOf pd_4 rfl) (by decide) (W := 0) (Nat.le_of_eq rfl) (by decide) (k' := 0) (n' := 0) rfl rfl (by decide) (by decide) (argsL := []) (rest := []) rfl (fun v13 h12 q14 => ?_)
  obtain ⟨rfl, rfl⟩ := q14
  refine G.cast (st' := []) ?_ rfl
  refine g_retV cx d8_57 rfl (by decide) (by decide) ?_
  exact ⟨hc1, rfl, KK, A_ad1⟩
theorem pn_rs22 : plainName "java/util/BitSet" = true := by first | (simp [plainName, overriddenIn]; done) | decide +kernel
set_option maxRecDepth 65536 in
set_option maxHeartbeats 40000000 in
theorem rs22 (l : Launch) (Z : State) (a0 : Array Value) (hw : ∀ d ∈ tables_1, d.before a0 Z = true) (kx : Int32) (hk0 : ¬ kx < (0 : Int32)) (hk6 : (kx >>> ((6 : Int32) &&& 31)) = 0) (SAD : Sta Z Z.heap "java/util/BitSet" "$assertionsDisabled" "Z" (.int (1 : Int32))) (pm dn : Addr) (SPM : Sta Z Z.heap "com/example/dyn_authz/dynauthz/policy/Decision" "PERMIT" "Lcom/example/dyn_authz/dynauthz/policy/Decision;" (.ref pm)) (SDN : Sta Z Z.heap "com/example/dyn_authz/dynauthz/policy/Decision" "DENY" "Lcom/example/dyn_authz/dynauthz/policy/Decision;" (.ref dn)) (npd : pm ≠ dn) (ad0 ad1 : Addr) (x0 : Int32) (x1 : Int64) (x2 : Int64) (x3 : Int64) (cA_ad1 : ClassId) (h0 : Heap) (O_ad0 : ObB Z h0 ad0 (.int (0 : Int32)) (.int x0) (.ref ad1)) (A_ad1 : Arx Z h0 ad1 cA_ad1 .long (3 : Int32) [(.long x1), (.long x2), (.long x3)] (.long (0 : Int64)) "[J") (ne_ad0_ad1 : ad0 ≠ ad1) (g_ad0 : Z.heap.size ≤ ad0) (g_ad1 : Z.heap.size ≤ ad1) (OL : Old Z Z.heap.size h0) :
    Met l Z (⟨"java/util/BitSet", "ensureCapacity", "(I)V"⟩ : MethodName) jdk_92_method_14_code 3 none ({ frames := 0, cells := 0, slots := 0, locals := 0 } : Room) #[(.ref ad0), (.int (1 : Int32))] h0 (fun v h' => (v = none ∧ h0 = h')) := by
  refine met_of (Ls := #[.val (.ref ad0), .val (.int (1 : Int32)), .unset]) (plainFor_of_name pn_rs22) (fun m => by first | (simp [entryFrame, mkF, argsToLocals, Value.category]; done) | rfl) (fun p e s m below meth c cx => ?_)
  have KK := Keep.refl h0 []
  refine g_aloadN cx d10_0 rfl rfl ?_
  refine g_getF cx d10_1 (host := "") (Or.inl (hw _ (List.mem_of_getElem? (i := 29) rfl))) Via.refl O_ad0.2.2.2 ?_
  refine g_arraylength cx d10_4 A_ad1.1 ?_
  refine g_iloadN cx d10_5 rfl ?_
  refine g_icmp_ge cx d10_6 (fun hc6 => ?_) (fun q => absurd q (fun q => by revert q; decide))
  refine g_retV cx d10_38 rfl (by decide) (by decide) ?_
  exact ⟨rfl, rfl⟩
theorem pn_rs21 : plainName "java/util/BitSet" = true := by first | (simp [plainName, overriddenIn]; done) | decide +kernel
set_option maxRecDepth 65536 in
set_option maxHeartbeats 40000000 in
theorem rs21 (l : Launch) (Z : State) (a0 : Array Value) (hw : ∀ d ∈ tables_1, d.before a0 Z = true) (kx : Int32) (hk0 : ¬ kx < (0 : Int32)) (hk6 : (kx >>> ((6 : Int32) &&& 31)) = 0) (SAD : Sta Z Z.heap "java/util/BitSet" "$assertionsDisabled" "Z" (.int (1 : Int32))) (pm dn : Addr) (SPM : Sta Z Z.heap "com/example/dyn_authz/dynauthz/policy/Decision" "PERMIT" "Lcom/example/dyn_authz/dynauthz/policy/Decision;" (.ref pm)) (SDN : Sta Z Z.heap "com/example/dyn_authz/dynauthz/policy/Decision" "DENY" "Lcom/example/dyn_authz/dynauthz/policy/Decision;" (.ref dn)) (npd : pm ≠ dn) (ad0 ad1 : Addr) (x0 : Int32) (x1 : Int64) (x2 : Int64) (x3 : Int64) (cA_ad1 : ClassId) (h0 : Heap) (O_ad0 : ObB Z h0 ad0 (.int (0 : Int32)) (.int x0) (.ref ad1)) (A_ad1 : Arx Z h0 ad1 cA_ad1 .long (3 : Int32) [(.long x1), (.long x2), (.long x3)] (.long (0 : Int64)) "[J") (ne_ad0_ad1 : ad0 ≠ ad1) (g_ad0 : Z.heap.size ≤ ad0) (g_ad1 : Z.heap.size ≤ ad1) (OL : Old Z Z.heap.size h0) :
    Met l Z (⟨"java/util/BitSet", "expandTo", "(I)V"⟩ : MethodName) jdk_92_method_15_code 3 none ({ frames := 1, cells := 0, slots := 0, locals := 14 } : Room) #[(.ref ad0), (.int (0 : Int32))] h0 (fun v h' => (v = none ∧ Keep h0 h' [ad0] ∧ ObB Z h' ad0 (.int (1 : Int32)) (.int x0) (.ref ad1))) := by
  refine met_of (Ls := #[.val (.ref ad0), .val (.int (0 : Int32)), .unset]) (plainFor_of_name pn_rs21) (fun m => by first | (simp [entryFrame, mkF, argsToLocals, Value.category]; done) | rfl) (fun p e s m below meth c cx => ?_)
  have KK := Keep.refl h0 [ad0]
  refine g_iloadN cx d9_0 rfl ?_
  refine g_iconst cx d9_1 (v := (1 : Int32)) rfl ?_
  refine g_iadd cx d9_2 ?_
  refine G.cast (st' := [(.int (1 : Int32))]) ?_ rfl
  refine g_istoreN cx d9_3 (Ls' := #[.val (.ref ad0), .val (.int (0 : Int32)), .val (.int (1 : Int32))]) rfl ?_
  refine g_aloadN cx d9_4 rfl rfl ?_
  refine g_getF cx d9_5 (host := "") (Or.inl (hw _ (List.mem_of_getElem? (i := 16) rfl))) Via.refl O_ad0.2.1 ?_
  refine g_iloadN cx d9_8 rfl ?_
  refine g_icmp_ge cx d9_9 (fun q => absurd q (fun q => by revert q; decide)) (fun hc9 => ?_)
  refine g_aloadN cx d9_12 rfl rfl ?_
  refine g_iloadN cx d9_13 rfl ?_
  refine g_private cx (y := (⟨"java/util/BitSet", "ensureCapacity", "(I)V"⟩ : MethodName)) (a := ad0) d9_14 (hw _ (List.mem_of_getElem? (i := 61) rfl)) (hw _ (List.mem_of_getElem? (i := 62) rfl)) (hw _ (List.mem_of_getElem? (i := 11) rfl)) (hw _ (List.mem_of_getElem? (i := 65) rfl)) (hw _ (List.mem_of_getElem? (i := 64) rfl)) (hw _ (List.mem_of_getElem? (i := 63) rfl)) (by decide) O_ad0.1 (bytes := jdk_92_method_14_code) (maxL' := 3) (M := (rs22 l Z a0 hw kx hk0 hk6 SAD pm dn SPM SDN npd ad0 ad1 x0 x1 x2 x3 cA_ad1 _ O_ad0 A_ad1 ne_ad0_ad1 g_ad0 g_ad1 OL)) rfl (lenOf pd_1 rfl) (by decide) (W := 0) (Nat.le_of_eq rfl) (by decide) (k' := 0) (n' := 0) rfl rfl (by decide) (by decide) (argsL := [(.int (1 : Int32))]) (rest := []) rfl (fun v3 h2 q4 => ?_)
  obtain ⟨rfl, rfl⟩ := q4
  refine G.cast (st' := []) ?_ rfl
  refine g_aloadN cx d9_17 rfl rfl ?_
  refine g_iloadN cx d9_18 rfl ?_
  refine g_putF cx d9_19 (host := "") (Or.inl (hw _ (List.mem_of_getElem? (i := 16) rfl))) Via.refl O_ad0.2.1 O_ad0.1 (Or.inl (hw _ (List.mem_of_getElem? (i := 17) rfl))) (hw _ (List.mem_of_getElem? (i := 10) rfl)) (ty := .int) (by decide) rfl rfl g_ad0 (fun h5 W6 => ?_)
  have O_ad0 := O_ad0.put1 hw W6
  have A_ad1 := A_ad1.other W6 (Ne.symm ne_ad0_ad1)
  have OL := OL.wr W6 g_ad0
  have KK := KK.wr W6 (Or.inl (List.mem_of_getElem? (i := 0) rfl))
  refine g_retV cx d9_22 rfl (by decide) (by decide) ?_
  exact ⟨rfl, KK, O_ad0⟩
theorem pn_rs23 : plainName "java/util/BitSet" = true := by first | (simp [plainName, overriddenIn]; done) | decide +kernel
set_option maxRecDepth 65536 in
set_option maxHeartbeats 40000000 in
theorem rs23 (l : Launch) (Z : State) (a0 : Array Value) (hw : ∀ d ∈ tables_1, d.before a0 Z = true) (kx : Int32) (hk0 : ¬ kx < (0 : Int32)) (hk6 : (kx >>> ((6 : Int32) &&& 31)) = 0) (SAD : Sta Z Z.heap "java/util/BitSet" "$assertionsDisabled" "Z" (.int (1 : Int32))) (pm dn : Addr) (SPM : Sta Z Z.heap "com/example/dyn_authz/dynauthz/policy/Decision" "PERMIT" "Lcom/example/dyn_authz/dynauthz/policy/Decision;" (.ref pm)) (SDN : Sta Z Z.heap "com/example/dyn_authz/dynauthz/policy/Decision" "DENY" "Lcom/example/dyn_authz/dynauthz/policy/Decision;" (.ref dn)) (npd : pm ≠ dn) (ad0 ad1 : Addr) (x0 : Int32) (x1 : Int64) (x2 : Int64) (x3 : Int64) (cA_ad1 : ClassId) (h0 : Heap) (O_ad0 : ObB Z h0 ad0 (.int (1 : Int32)) (.int x0) (.ref ad1)) (A_ad1 : Arx Z h0 ad1 cA_ad1 .long (3 : Int32) [(.long x1), (.long x2), (.long x3)] (.long (0 : Int64)) "[J") (ne_ad0_ad1 : ad0 ≠ ad1) (g_ad0 : Z.heap.size ≤ ad0) (g_ad1 : Z.heap.size ≤ ad1) (OL : Old Z Z.heap.size h0) :
    Met l Z (⟨"java/util/BitSet", "checkInvariants", "()V"⟩ : MethodName) jdk_92_method_2_code 1 none ({ frames := 0, cells := 0, slots := 0, locals := 0 } : Room) #[(.ref ad0)] h0 (fun v h' => (v = none ∧ h0 = h')) := by
  refine met_of (Ls := #[.val (.ref ad0)]) (plainFor_of_name pn_rs23) (fun m => by first | (simp [entryFrame, mkF, argsToLocals, Value.category]; done) | rfl) (fun p e s m below meth c cx => ?_)
  have KK := Keep.refl h0 []
  refine g_getS cx d14_0 (host := "") (Or.inl (hw _ (List.mem_of_getElem? (i := 86) rfl))) Via.refl (SAD.ext OL.2) ?_
  refine g_if_ne cx d14_3 (fun hc3 => ?_) (fun q => absurd q (fun q => by revert q; decide))
  refine g_getS cx d14_37 (host := "") (Or.inl (hw _ (List.mem_of_getElem? (i := 86) rfl))) Via.refl (SAD.ext OL.2) ?_
  refine g_if_ne cx d14_40 (fun hc40 => ?_) (fun q => absurd q (fun q => by revert q; decide))
  refine g_getS cx d14_70 (host := "") (Or.inl (hw _ (List.mem_of_getElem? (i := 86) rfl))) Via.refl (SAD.ext OL.2) ?_
  refine g_if_ne cx d14_73 (fun hc73 => ?_) (fun q => absurd q (fun q => by revert q; decide))
  refine g_retV cx d14_110 rfl (by decide) (by decide) ?_
  exact ⟨rfl, rfl⟩
theorem pn_rs20 : plainName "java/util/BitSet" = true := by first | (simp [plainName, overriddenIn]; done) | decide +kernel
set_option maxRecDepth 65536 in
set_option maxHeartbeats 40000000 in
theorem rs20 (l : Launch) (Z : State) (a0 : Array Value) (hw : ∀ d ∈ tables_1, d.before a0 Z = true) (kx : Int32) (hk0 : ¬ kx < (0 : Int32)) (hk6 : (kx >>> ((6 : Int32) &&& 31)) = 0) (SAD : Sta Z Z.heap "java/util/BitSet" "$assertionsDisabled" "Z" (.int (1 : Int32))) (pm dn : Addr) (SPM : Sta Z Z.heap "com/example/dyn_authz/dynauthz/policy/Decision" "PERMIT" "Lcom/example/dyn_authz/dynauthz/policy/Decision;" (.ref pm)) (SDN : Sta Z Z.heap "com/example/dyn_authz/dynauthz/policy/Decision" "DENY" "Lcom/example/dyn_authz/dynauthz/policy/Decision;" (.ref dn)) (npd : pm ≠ dn) (ad0 ad1 : Addr) (x0 : Int32) (x1 : Int64) (x2 : Int64) (x3 : Int64) (cA_ad1 : ClassId) (h0 : Heap) (O_ad0 : ObB Z h0 ad0 (.int (0 : Int32)) (.int x0) (.ref ad1)) (A_ad1 : Arx Z h0 ad1 cA_ad1 .long (3 : Int32) [(.long x1), (.long x2), (.long x3)] (.long (0 : Int64)) "[J") (ne_ad0_ad1 : ad0 ≠ ad1) (g_ad0 : Z.heap.size ≤ ad0) (g_ad1 : Z.heap.size ≤ ad1) (OL : Old Z Z.heap.size h0) :
    Met l Z (⟨"java/util/BitSet", "set", "(I)V"⟩ : MethodName) jdk_92_method_19_code 3 none ({ frames := 2, cells := 0, slots := 0, locals := 28 } : Room) #[(.ref ad0), (.int kx)] h0 (fun v h' => (¬ (kx < (0 : Int32)) ∧ v = none ∧ Keep h0 h' [ad0, ad1] ∧ ObB Z h' ad0 (.int (1 : Int32)) (.int x0) (.ref ad1) ∧ Arx Z h' ad1 cA_ad1 .long (3 : Int32) [(.long (x1 ||| ((1 : Int64) <<< (kx &&& 0x3f).toInt64))), (.long x2), (.long x3)] (.long (0 : Int64)) "[J")) := by
  refine met_of (Ls := #[.val (.ref ad0), .val (.int kx), .unset]) (plainFor_of_name pn_rs20) (fun m => by first | (simp [entryFrame, mkF, argsToLocals, Value.category]; done) | rfl) (fun p e s m below meth c cx => ?_)
  have KK := Keep.refl h0 [ad0, ad1]
  refine g_iloadN cx d8_0 rfl ?_
  refine g_if_ge cx d8_1 (fun hc1 => ?_) (fun q => absurd q (fun q => hk0 q))
  refine g_iloadN cx d8_31 rfl ?_
  refine g_static cx (y := (⟨"java/util/BitSet", "wordIndex", "(I)I"⟩ : MethodName)) d8_32 (hw _ (List.mem_of_getElem? (i := 25) rfl)) (hw _ (List.mem_of_getElem? (i := 26) rfl)) (hw _ (List.mem_of_getElem? (i := 11) rfl)) (hw _ (List.mem_of_getElem? (i := 27) rfl)) (by decide) (bytes := jdk_92_method_1_code) (maxL' := 1) (M := (rmk l Z a0 hw kx hk6 _)) rfl (lenOf pd_0 rfl) (by decide) (W := 0) (Nat.le_of_eq rfl) (by decide) (k' := 0) (n' := 0) rfl rfl (by decide) (by decide) (argsL := [(.int kx)]) (rest := []) rfl (fun v2 h1 q3 => ?_)
  obtain ⟨rfl, rfl⟩ := q3
  refine G.cast (st' := [(.int (0 : Int32))]) ?_ rfl
  refine g_istoreN cx d8_35 (Ls' := #[.val (.ref ad0), .val (.int kx), .val (.int (0 : Int32))]) rfl ?_
  refine g_aloadN cx d8_36 rfl rfl ?_
  refine g_iloadN cx d8_37 rfl ?_
  refine g_private cx (y := (⟨"java/util/BitSet", "expandTo", "(I)V"⟩ : MethodName)) (a := ad0) d8_38 (hw _ (List.mem_of_getElem? (i := 56) rfl)) (hw _ (List.mem_of_getElem? (i := 57) rfl)) (hw _ (List.mem_of_getElem? (i := 11) rfl)) (hw _ (List.mem_of_getElem? (i := 60) rfl)) (hw _ (List.mem_of_getElem? (i := 59) rfl)) (hw _ (List.mem_of_getElem? (i := 58) rfl)) (by decide) O_ad0.1 (bytes := jdk_92_method_15_code) (maxL' := 3) (M := (rs21 l Z a0 hw kx hk0 hk6 SAD pm dn SPM SDN npd ad0 ad1 x0 x1 x2 x3 cA_ad1 _ O_ad0 A_ad1 ne_ad0_ad1 g_ad0 g_ad1 OL)) rfl (lenOf pd_1 rfl) (by decide) (W := 0) (Nat.le_of_eq rfl) (by decide) (k' := 0) (n' := 0) rfl rfl (by decide) (by decide) (argsL := [(.int (0 : Int32))]) (rest := []) rfl (fun v6 h5 q7 => ?_)
  obtain ⟨rfl, K4, O_ad0⟩ := q7
  have A_ad1 := A_ad1.keep K4 (ninS (Ne.symm ne_ad0_ad1) nin0)
  have OL := OL.keep K4 (allS g_ad0 all0)
  have KK := KK.trans K4 (allS (P := fun z => z ∈ _ ∨ _ ≤ z) (Or.inl (List.mem_of_getElem? (i := 0) rfl)) all0)
  refine G.cast (st' := []) ?_ rfl
  refine g_aloadN cx d8_41 rfl rfl ?_
  refine g_getF cx d8_42 (host := "") (Or.inl (hw _ (List.mem_of_getElem? (i := 29) rfl))) Via.refl O_ad0.2.2.2 ?_
  refine g_iloadN cx d8_45 rfl ?_
  refine g_dup2 cx d8_46 rfl rfl ?_
  refine g_laload cx d8_47 A_ad1.1 ⟨by decide, by decide⟩ (v := (.long x1)) rfl ?_
  refine g_lconst cx d8_48 (v := (1 : Int64)) rfl ?_
  refine g_iloadN cx d8_49 rfl ?_
  refine g_lshl cx d8_50 ?_
  refine g_lor cx d8_51 ?_
  refine g_lastore cx d8_52 A_ad1 ⟨by decide, by decide⟩ (Nat.le_of_ble_eq_true rfl) g_ad1 (fun h8 W9 AA10 => ?_)
  have O_ad0 := O_ad0.oth W9 ne_ad0_ad1
  have A_ad1 : Arx Z h8 ad1 cA_ad1 .long (3 : Int32) [(.long (x1 ||| ((1 : Int64) <<< (kx &&& 0x3f).toInt64))), (.long x2), (.long x3)] (.long (0 : Int64)) "[J" := AA10
  have OL := OL.wr W9 g_ad1
  have KK := KK.wr W9 (Or.inl (List.mem_of_getElem? (i := 1) rfl))
  refine g_aloadN cx d8_53 rfl rfl ?_
  refine g_private cx (y := (⟨"java/util/BitSet", "checkInvariants", "()V"⟩ : MethodName)) (a := ad0) d8_54 (hw _ (List.mem_of_getElem? (i := 81) rfl)) (hw _ (List.mem_of_getElem? (i := 82) rfl)) (hw _ (List.mem_of_getElem? (i := 11) rfl)) (hw _ (List.mem_of_getElem? (i := 85) rfl)) (hw _ (List.mem_of_getElem? (i := 84) rfl)) (hw _ (List.mem_of_getElem? (i := 83) rfl)) (by decide) O_ad0.1 (bytes := jdk_92_method_2_code) (maxL' := 1) (M := (rs23 l Z a0 hw kx hk0 hk6 SAD pm dn SPM SDN npd ad0 ad1 x0 (x1 ||| ((1 : Int64) <<< (kx &&& 0x3f).toInt64)) x2 x3 cA_ad1 _ O_ad0 A_ad1 ne_ad0_ad1 g_ad0 g_ad1 OL)) rfl (lenOf pd_4 rfl) (by decide) (W := 0) (Nat.le_of_eq rfl) (by decide) (k' := 0) (n' := 0) rfl rfl (by decide) (by decide) (argsL := []) (rest := []) rfl (fun v13 h12 q14 => ?_)
  obtain ⟨rfl, rfl⟩ := q14
  refine G.cast (st' := []) ?_ rfl
  refine g_retV cx d8_57 rfl (by decide) (by decide) ?_
  exact ⟨hc1, rfl, KK, O_ad0, A_ad1⟩
theorem pn_rs25 : plainName "java/util/BitSet" = true := by first | (simp [plainName, overriddenIn]; done) | decide +kernel
set_option maxRecDepth 65536 in
set_option maxHeartbeats 40000000 in
theorem rs25 (l : Launch) (Z : State) (a0 : Array Value) (hw : ∀ d ∈ tables_1, d.before a0 Z = true) (kx : Int32) (hk0 : ¬ kx < (0 : Int32)) (hk6 : (kx >>> ((6 : Int32) &&& 31)) = 0) (SAD : Sta Z Z.heap "java/util/BitSet" "$assertionsDisabled" "Z" (.int (1 : Int32))) (pm dn : Addr) (SPM : Sta Z Z.heap "com/example/dyn_authz/dynauthz/policy/Decision" "PERMIT" "Lcom/example/dyn_authz/dynauthz/policy/Decision;" (.ref pm)) (SDN : Sta Z Z.heap "com/example/dyn_authz/dynauthz/policy/Decision" "DENY" "Lcom/example/dyn_authz/dynauthz/policy/Decision;" (.ref dn)) (npd : pm ≠ dn) (ad0 ad1 : Addr) (x0 : Int32) (x1 : Int64) (x2 : Int64) (x3 : Int64) (cA_ad1 : ClassId) (h0 : Heap) (O_ad0 : ObB Z h0 ad0 (.int (1 : Int32)) (.int x0) (.ref ad1)) (A_ad1 : Arx Z h0 ad1 cA_ad1 .long (3 : Int32) [(.long x1), (.long x2), (.long x3)] (.long (0 : Int64)) "[J") (ne_ad0_ad1 : ad0 ≠ ad1) (g_ad0 : Z.heap.size ≤ ad0) (g_ad1 : Z.heap.size ≤ ad1) (OL : Old Z Z.heap.size h0) :
    Met l Z (⟨"java/util/BitSet", "expandTo", "(I)V"⟩ : MethodName) jdk_92_method_15_code 3 none ({ frames := 0, cells := 0, slots := 0, locals := 0 } : Room) #[(.ref ad0), (.int (0 : Int32))] h0 (fun v h' => (v = none ∧ h0 = h')) := by
  refine met_of (Ls := #[.val (.ref ad0), .val (.int (0 : Int32)), .unset]) (plainFor_of_name pn_rs25) (fun m => by first | (simp [entryFrame, mkF, argsToLocals, Value.category]; done) | rfl) (fun p e s m below meth c cx => ?_)
  have KK := Keep.refl h0 []
  refine g_iloadN cx d9_0 rfl ?_
  refine g_iconst cx d9_1 (v := (1 : Int32)) rfl ?_
  refine g_iadd cx d9_2 ?_
  refine G.cast (st' := [(.int (1 : Int32))]) ?_ rfl
  refine g_istoreN cx d9_3 (Ls' := #[.val (.ref ad0), .val (.int (0 : Int32)), .val (.int (1 : Int32))]) rfl ?_
  refine g_aloadN cx d9_4 rfl rfl ?_
  refine g_getF cx d9_5 (host := "") (Or.inl (hw _ (List.mem_of_getElem? (i := 16) rfl))) Via.refl O_ad0.2.1 ?_
  refine g_iloadN cx d9_8 rfl ?_
  refine g_icmp_ge cx d9_9 (fun hc9 => ?_) (fun q => absurd q (fun q => by revert q; decide))
  refine g_retV cx d9_22 rfl (by decide) (by decide) ?_
  exact ⟨rfl, rfl⟩
theorem pn_rs24 : plainName "java/util/BitSet" = true := by first | (simp [plainName, overriddenIn]; done) | decide +kernel
set_option maxRecDepth 65536 in
set_option maxHeartbeats 40000000 in
theorem rs24 (l : Launch) (Z : State) (a0 : Array Value) (hw : ∀ d ∈ tables_1, d.before a0 Z = true) (kx : Int32) (hk0 : ¬ kx < (0 : Int32)) (hk6 : (kx >>> ((6 : Int32) &&& 31)) = 0) (SAD : Sta Z Z.heap "java/util/BitSet" "$assertionsDisabled" "Z" (.int (1 : Int32))) (pm dn : Addr) (SPM : Sta Z Z.heap "com/example/dyn_authz/dynauthz/policy/Decision" "PERMIT" "Lcom/example/dyn_authz/dynauthz/policy/Decision;" (.ref pm)) (SDN : Sta Z Z.heap "com/example/dyn_authz/dynauthz/policy/Decision" "DENY" "Lcom/example/dyn_authz/dynauthz/policy/Decision;" (.ref dn)) (npd : pm ≠ dn) (ad0 ad1 : Addr) (x0 : Int32) (x1 : Int64) (x2 : Int64) (x3 : Int64) (cA_ad1 : ClassId) (h0 : Heap) (O_ad0 : ObB Z h0 ad0 (.int (1 : Int32)) (.int x0) (.ref ad1)) (A_ad1 : Arx Z h0 ad1 cA_ad1 .long (3 : Int32) [(.long x1), (.long x2), (.long x3)] (.long (0 : Int64)) "[J") (ne_ad0_ad1 : ad0 ≠ ad1) (g_ad0 : Z.heap.size ≤ ad0) (g_ad1 : Z.heap.size ≤ ad1) (OL : Old Z Z.heap.size h0) :
    Met l Z (⟨"java/util/BitSet", "set", "(I)V"⟩ : MethodName) jdk_92_method_19_code 3 none ({ frames := 1, cells := 0, slots := 0, locals := 14 } : Room) #[(.ref ad0), (.int kx)] h0 (fun v h' => (¬ (kx < (0 : Int32)) ∧ v = none ∧ Keep h0 h' [ad1] ∧ Arx Z h' ad1 cA_ad1 .long (3 : Int32) [(.long (x1 ||| ((1 : Int64) <<< (kx &&& 0x3f).toInt64))), (.long x2), (.long x3)] (.long (0 : Int64)) "[J")) := by
  refine met_of (Ls := #[.val (.ref ad0), .val (.int kx), .unset]) (plainFor_of_name pn_rs24) (fun m => by first | (simp [entryFrame, mkF, argsToLocals, Value.category]; done) | rfl) (fun p e s m below meth c cx => ?_)
  have KK := Keep.refl h0 [ad1]
  refine g_iloadN cx d8_0 rfl ?_
  refine g_if_ge cx d8_1 (fun hc1 => ?_) (fun q => absurd q (fun q => hk0 q))
  refine g_iloadN cx d8_31 rfl ?_
  refine g_static cx (y := (⟨"java/util/BitSet", "wordIndex", "(I)I"⟩ : MethodName)) d8_32 (hw _ (List.mem_of_getElem? (i := 25) rfl)) (hw _ (List.mem_of_getElem? (i := 26) rfl)) (hw _ (List.mem_of_getElem? (i := 11) rfl)) (hw _ (List.mem_of_getElem? (i := 27) rfl)) (by decide) (bytes := jdk_92_method_1_code) (maxL' := 1) (M := (rmk l Z a0 hw kx hk6 _)) rfl (lenOf pd_0 rfl) (by decide) (W := 0) (Nat.le_of_eq rfl) (by decide) (k' := 0) (n' := 0) rfl rfl (by decide) (by decide) (argsL := [(.int kx)]) (rest := []) rfl (fun v2 h1 q3 => ?_)
  obtain ⟨rfl, rfl⟩ := q3
  refine G.cast (st' := [(.int (0 : Int32))]) ?_ rfl
  refine g_istoreN cx d8_35 (Ls' := #[.val (.ref ad0), .val (.int kx), .val (.int (0 : Int32))]) rfl ?_
  refine g_aloadN cx d8_36 rfl rfl ?_
  refine g_iloadN cx d8_37 rfl ?_
  refine g_private cx (y := (⟨"java/util/BitSet", "expandTo", "(I)V"⟩ : MethodName)) (a := ad0) d8_38 (hw _ (List.mem_of_getElem? (i := 56) rfl)) (hw _ (List.mem_of_getElem? (i := 57) rfl)) (hw _ (List.mem_of_getElem? (i := 11) rfl)) (hw _ (List.mem_of_getElem? (i := 60) rfl)) (hw _ (List.mem_of_getElem? (i := 59) rfl)) (hw _ (List.mem_of_getElem? (i := 58) rfl)) (by decide) O_ad0.1 (bytes := jdk_92_method_15_code) (maxL' := 3) (M := (rs25 l Z a0 hw kx hk0 hk6 SAD pm dn SPM SDN npd ad0 ad1 x0 x1 x2 x3 cA_ad1 _ O_ad0 A_ad1 ne_ad0_ad1 g_ad0 g_ad1 OL)) rfl (lenOf pd_1 rfl) (by decide) (W := 0) (Nat.le_of_eq rfl) (by decide) (k' := 0) (n' := 0) rfl rfl (by decide) (by decide) (argsL := [(.int (0 : Int32))]) (rest := []) rfl (fun v6 h5 q7 => ?_)
  obtain ⟨rfl, rfl⟩ := q7
  refine G.cast (st' := []) ?_ rfl
  refine g_aloadN cx d8_41 rfl rfl ?_
  refine g_getF cx d8_42 (host := "") (Or.inl (hw _ (List.mem_of_getElem? (i := 29) rfl))) Via.refl O_ad0.2.2.2 ?_
  refine g_iloadN cx d8_45 rfl ?_
  refine g_dup2 cx d8_46 rfl rfl ?_
  refine g_laload cx d8_47 A_ad1.1 ⟨by decide, by decide⟩ (v := (.long x1)) rfl ?_
  refine g_lconst cx d8_48 (v := (1 : Int64)) rfl ?_
  refine g_iloadN cx d8_49 rfl ?_
  refine g_lshl cx d8_50 ?_
  refine g_lor cx d8_51 ?_
  refine g_lastore cx d8_52 A_ad1 ⟨by decide, by decide⟩ (Nat.le_of_ble_eq_true rfl) g_ad1 (fun h8 W9 AA10 => ?_)
  have O_ad0 := O_ad0.oth W9 ne_ad0_ad1
  have A_ad1 : Arx Z h8 ad1 cA_ad1 .long (3 : Int32) [(.long (x1 ||| ((1 : Int64) <<< (kx &&& 0x3f).toInt64))), (.long x2), (.long x3)] (.long (0 : Int64)) "[J" := AA10
  have OL := OL.wr W9 g_ad1
  have KK := KK.wr W9 (Or.inl (List.mem_of_getElem? (i := 0) rfl))
  refine g_aloadN cx d8_53 rfl rfl ?_
  refine g_private cx (y := (⟨"java/util/BitSet", "checkInvariants", "()V"⟩ : MethodName)) (a := ad0) d8_54 (hw _ (List.mem_of_getElem? (i := 81) rfl)) (hw _ (List.mem_of_getElem? (i := 82) rfl)) (hw _ (List.mem_of_getElem? (i := 11) rfl)) (hw _ (List.mem_of_getElem? (i := 85) rfl)) (hw _ (List.mem_of_getElem? (i := 84) rfl)) (hw _ (List.mem_of_getElem? (i := 83) rfl)) (by decide) O_ad0.1 (bytes := jdk_92_method_2_code) (maxL' := 1) (M := (rs23 l Z a0 hw kx hk0 hk6 SAD pm dn SPM SDN npd ad0 ad1 x0 (x1 ||| ((1 : Int64) <<< (kx &&& 0x3f).toInt64)) x2 x3 cA_ad1 _ O_ad0 A_ad1 ne_ad0_ad1 g_ad0 g_ad1 OL)) rfl (lenOf pd_4 rfl) (by decide) (W := 0) (Nat.le_of_eq rfl) (by decide) (k' := 0) (n' := 0) rfl rfl (by decide) (by decide) (argsL := []) (rest := []) rfl (fun v13 h12 q14 => ?_)
  obtain ⟨rfl, rfl⟩ := q14
  refine G.cast (st' := []) ?_ rfl
  refine g_retV cx d8_57 rfl (by decide) (by decide) ?_
  exact ⟨hc1, rfl, KK, A_ad1⟩
theorem pn_rs28 : plainName "java/util/BitSet" = true := by first | (simp [plainName, overriddenIn]; done) | decide +kernel
set_option maxRecDepth 65536 in
set_option maxHeartbeats 40000000 in
theorem rs28 (l : Launch) (Z : State) (a0 : Array Value) (hw : ∀ d ∈ tables_1, d.before a0 Z = true) (kx : Int32) (hk0 : ¬ kx < (0 : Int32)) (hk6 : (kx >>> ((6 : Int32) &&& 31)) = 0) (SAD : Sta Z Z.heap "java/util/BitSet" "$assertionsDisabled" "Z" (.int (1 : Int32))) (pm dn : Addr) (SPM : Sta Z Z.heap "com/example/dyn_authz/dynauthz/policy/Decision" "PERMIT" "Lcom/example/dyn_authz/dynauthz/policy/Decision;" (.ref pm)) (SDN : Sta Z Z.heap "com/example/dyn_authz/dynauthz/policy/Decision" "DENY" "Lcom/example/dyn_authz/dynauthz/policy/Decision;" (.ref dn)) (npd : pm ≠ dn) (ad0 ad1 : Addr) (x0 : Int32) (x1 : Int64) (x2 : Int64) (x3 : Int64) (x4 : Int64) (cA_ad1 : ClassId) (h0 : Heap) (O_ad0 : ObB Z h0 ad0 (.int (0 : Int32)) (.int x0) (.ref ad1)) (A_ad1 : Arx Z h0 ad1 cA_ad1 .long (4 : Int32) [(.long x1), (.long x2), (.long x3), (.long x4)] (.long (0 : Int64)) "[J") (ne_ad0_ad1 : ad0 ≠ ad1) (g_ad0 : Z.heap.size ≤ ad0) (g_ad1 : Z.heap.size ≤ ad1) (OL : Old Z Z.heap.size h0) :
    Met l Z (⟨"java/util/BitSet", "ensureCapacity", "(I)V"⟩ : MethodName) jdk_92_method_14_code 3 none ({ frames := 0, cells := 0, slots := 0, locals := 0 } : Room) #[(.ref ad0), (.int (1 : Int32))] h0 (fun v h' => (v = none ∧ h0 = h')) := by
  refine met_of (Ls := #[.val (.ref ad0), .val (.int (1 : Int32)), .unset]) (plainFor_of_name pn_rs28) (fun m => by first | (simp [entryFrame, mkF, argsToLocals, Value.category]; done) | rfl) (fun p e s m below meth c cx => ?_)
  have KK := Keep.refl h0 []
  refine g_aloadN cx d10_0 rfl rfl ?_
  refine g_getF cx d10_1 (host := "") (Or.inl (hw _ (List.mem_of_getElem? (i := 29) rfl))) Via.refl O_ad0.2.2.2 ?_
  refine g_arraylength cx d10_4 A_ad1.1 ?_
  refine g_iloadN cx d10_5 rfl ?_
  refine g_icmp_ge cx d10_6 (fun hc6 => ?_) (fun q => absurd q (fun q => by revert q; decide))
  refine g_retV cx d10_38 rfl (by decide) (by decide) ?_
  exact ⟨rfl, rfl⟩
theorem pn_rs27 : plainName "java/util/BitSet" = true := by first | (simp [plainName, overriddenIn]; done) | decide +kernel
set_option maxRecDepth 65536 in
set_option maxHeartbeats 40000000 in
theorem rs27 (l : Launch) (Z : State) (a0 : Array Value) (hw : ∀ d ∈ tables_1, d.before a0 Z = true) (kx : Int32) (hk0 : ¬ kx < (0 : Int32)) (hk6 : (kx >>> ((6 : Int32) &&& 31)) = 0) (SAD : Sta Z Z.heap "java/util/BitSet" "$assertionsDisabled" "Z" (.int (1 : Int32))) (pm dn : Addr) (SPM : Sta Z Z.heap "com/example/dyn_authz/dynauthz/policy/Decision" "PERMIT" "Lcom/example/dyn_authz/dynauthz/policy/Decision;" (.ref pm)) (SDN : Sta Z Z.heap "com/example/dyn_authz/dynauthz/policy/Decision" "DENY" "Lcom/example/dyn_authz/dynauthz/policy/Decision;" (.ref dn)) (npd : pm ≠ dn) (ad0 ad1 : Addr) (x0 : Int32) (x1 : Int64) (x2 : Int64) (x3 : Int64) (x4 : Int64) (cA_ad1 : ClassId) (h0 : Heap) (O_ad0 : ObB Z h0 ad0 (.int (0 : Int32)) (.int x0) (.ref ad1)) (A_ad1 : Arx Z h0 ad1 cA_ad1 .long (4 : Int32) [(.long x1), (.long x2), (.long x3), (.long x4)] (.long (0 : Int64)) "[J") (ne_ad0_ad1 : ad0 ≠ ad1) (g_ad0 : Z.heap.size ≤ ad0) (g_ad1 : Z.heap.size ≤ ad1) (OL : Old Z Z.heap.size h0) :
    Met l Z (⟨"java/util/BitSet", "expandTo", "(I)V"⟩ : MethodName) jdk_92_method_15_code 3 none ({ frames := 1, cells := 0, slots := 0, locals := 14 } : Room) #[(.ref ad0), (.int (0 : Int32))] h0 (fun v h' => (v = none ∧ Keep h0 h' [ad0] ∧ ObB Z h' ad0 (.int (1 : Int32)) (.int x0) (.ref ad1))) := by
  refine met_of (Ls := #[.val (.ref ad0), .val (.int (0 : Int32)), .unset]) (plainFor_of_name pn_rs27) (fun m => by first | (simp [entryFrame, mkF, argsToLocals, Value.category]; done) | rfl) (fun p e s m below meth c cx => ?_)
  have KK := Keep.refl h0 [ad0]
  refine g_iloadN cx d9_0 rfl ?_
  refine g_iconst cx d9_1 (v := (1 : Int32)) rfl ?_
  refine g_iadd cx d9_2 ?_
  refine G.cast (st' := [(.int (1 : Int32))]) ?_ rfl
  refine g_istoreN cx d9_3 (Ls' := #[.val (.ref ad0), .val (.int (0 : Int32)), .val (.int (1 : Int32))]) rfl ?_
  refine g_aloadN cx d9_4 rfl rfl ?_
  refine g_getF cx d9_5 (host := "") (Or.inl (hw _ (List.mem_of_getElem? (i := 16) rfl))) Via.refl O_ad0.2.1 ?_
  refine g_iloadN cx d9_8 rfl ?_
  refine g_icmp_ge cx d9_9 (fun q => absurd q (fun q => by revert q; decide)) (fun hc9 => ?_)
  refine g_aloadN cx d9_12 rfl rfl ?_
  refine g_iloadN cx d9_13 rfl ?_
  refine g_private cx (y := (⟨"java/util/BitSet", "ensureCapacity", "(I)V"⟩ : MethodName)) (a := ad0) d9_14 (hw _ (List.mem_of_getElem? (i := 61) rfl)) (hw _ (List.mem_of_getElem? (i := 62) rfl)) (hw _ (List.mem_of_getElem? (i := 11) rfl)) (hw _ (List.mem_of_getElem? (i := 65) rfl)) (hw _ (List.mem_of_getElem? (i := 64) rfl)) (hw _ (List.mem_of_getElem? (i := 63) rfl)) (by decide) O_ad0.1 (bytes := jdk_92_method_14_code) (maxL' := 3) (M := (rs28 l Z a0 hw kx hk0 hk6 SAD pm dn SPM SDN npd ad0 ad1 x0 x1 x2 x3 x4 cA_ad1 _ O_ad0 A_ad1 ne_ad0_ad1 g_ad0 g_ad1 OL)) rfl (lenOf pd_1 rfl) (by decide) (W := 0) (Nat.le_of_eq rfl) (by decide) (k' := 0) (n' := 0) rfl rfl (by decide) (by decide) (argsL := [(.int (1 : Int32))]) (rest := []) rfl (fun v3 h2 q4 => ?_)
  obtain ⟨rfl, rfl⟩ := q4
  refine G.cast (st' := []) ?_ rfl
  refine g_aloadN cx d9_17 rfl rfl ?_
  refine g_iloadN cx d9_18 rfl ?_
  refine g_putF cx d9_19 (host := "") (Or.inl (hw _ (List.mem_of_getElem? (i := 16) rfl))) Via.refl O_ad0.2.1 O_ad0.1 (Or.inl (hw _ (List.mem_of_getElem? (i := 17) rfl))) (hw _ (List.mem_of_getElem? (i := 10) rfl)) (ty := .int) (by decide) rfl rfl g_ad0 (fun h5 W6 => ?_)
  have O_ad0 := O_ad0.put1 hw W6
  have A_ad1 := A_ad1.other W6 (Ne.symm ne_ad0_ad1)
  have OL := OL.wr W6 g_ad0
  have KK := KK.wr W6 (Or.inl (List.mem_of_getElem? (i := 0) rfl))
  refine g_retV cx d9_22 rfl (by decide) (by decide) ?_
  exact ⟨rfl, KK, O_ad0⟩
theorem pn_rs29 : plainName "java/util/BitSet" = true := by first | (simp [plainName, overriddenIn]; done) | decide +kernel
set_option maxRecDepth 65536 in
set_option maxHeartbeats 40000000 in
theorem rs29 (l : Launch) (Z : State) (a0 : Array Value) (hw : ∀ d ∈ tables_1, d.before a0 Z = true) (kx : Int32) (hk0 : ¬ kx < (0 : Int32)) (hk6 : (kx >>> ((6 : Int32) &&& 31)) = 0) (SAD : Sta Z Z.heap "java/util/BitSet" "$assertionsDisabled" "Z" (.int (1 : Int32))) (pm dn : Addr) (SPM : Sta Z Z.heap "com/example/dyn_authz/dynauthz/policy/Decision" "PERMIT" "Lcom/example/dyn_authz/dynauthz/policy/Decision;" (.ref pm)) (SDN : Sta Z Z.heap "com/example/dyn_authz/dynauthz/policy/Decision" "DENY" "Lcom/example/dyn_authz/dynauthz/policy/Decision;" (.ref dn)) (npd : pm ≠ dn) (ad0 ad1 : Addr) (x0 : Int32) (x1 : Int64) (x2 : Int64) (x3 : Int64) (x4 : Int64) (cA_ad1 : ClassId) (h0 : Heap) (O_ad0 : ObB Z h0 ad0 (.int (1 : Int32)) (.int x0) (.ref ad1)) (A_ad1 : Arx Z h0 ad1 cA_ad1 .long (4 : Int32) [(.long x1), (.long x2), (.long x3), (.long x4)] (.long (0 : Int64)) "[J") (ne_ad0_ad1 : ad0 ≠ ad1) (g_ad0 : Z.heap.size ≤ ad0) (g_ad1 : Z.heap.size ≤ ad1) (OL : Old Z Z.heap.size h0) :
    Met l Z (⟨"java/util/BitSet", "checkInvariants", "()V"⟩ : MethodName) jdk_92_method_2_code 1 none ({ frames := 0, cells := 0, slots := 0, locals := 0 } : Room) #[(.ref ad0)] h0 (fun v h' => (v = none ∧ h0 = h')) := by
  refine met_of (Ls := #[.val (.ref ad0)]) (plainFor_of_name pn_rs29) (fun m => by first | (simp [entryFrame, mkF, argsToLocals, Value.category]; done) | rfl) (fun p e s m below meth c cx => ?_)
  have KK := Keep.refl h0 []
  refine g_getS cx d14_0 (host := "") (Or.inl (hw _ (List.mem_of_getElem? (i := 86) rfl))) Via.refl (SAD.ext OL.2) ?_
  refine g_if_ne cx d14_3 (fun hc3 => ?_) (fun q => absurd q (fun q => by revert q; decide))
  refine g_getS cx d14_37 (host := "") (Or.inl (hw _ (List.mem_of_getElem? (i := 86) rfl))) Via.refl (SAD.ext OL.2) ?_
  refine g_if_ne cx d14_40 (fun hc40 => ?_) (fun q => absurd q (fun q => by revert q; decide))
  refine g_getS cx d14_70 (host := "") (Or.inl (hw _ (List.mem_of_getElem? (i := 86) rfl))) Via.refl (SAD.ext OL.2) ?_
  refine g_if_ne cx d14_73 (fun hc73 => ?_) (fun q => absurd q (fun q => by revert q; decide))
  refine g_retV cx d14_110 rfl (by decide) (by decide) ?_
  exact ⟨rfl, rfl⟩
theorem pn_rs26 : plainName "java/util/BitSet" = true := by first | (simp [plainName, overriddenIn]; done) | decide +kernel
set_option maxRecDepth 65536 in
set_option maxHeartbeats 40000000 in
theorem rs26 (l : Launch) (Z : State) (a0 : Array Value) (hw : ∀ d ∈ tables_1, d.before a0 Z = true) (kx : Int32) (hk0 : ¬ kx < (0 : Int32)) (hk6 : (kx >>> ((6 : Int32) &&& 31)) = 0) (SAD : Sta Z Z.heap "java/util/BitSet" "$assertionsDisabled" "Z" (.int (1 : Int32))) (pm dn : Addr) (SPM : Sta Z Z.heap "com/example/dyn_authz/dynauthz/policy/Decision" "PERMIT" "Lcom/example/dyn_authz/dynauthz/policy/Decision;" (.ref pm)) (SDN : Sta Z Z.heap "com/example/dyn_authz/dynauthz/policy/Decision" "DENY" "Lcom/example/dyn_authz/dynauthz/policy/Decision;" (.ref dn)) (npd : pm ≠ dn) (ad0 ad1 : Addr) (x0 : Int32) (x1 : Int64) (x2 : Int64) (x3 : Int64) (x4 : Int64) (cA_ad1 : ClassId) (h0 : Heap) (O_ad0 : ObB Z h0 ad0 (.int (0 : Int32)) (.int x0) (.ref ad1)) (A_ad1 : Arx Z h0 ad1 cA_ad1 .long (4 : Int32) [(.long x1), (.long x2), (.long x3), (.long x4)] (.long (0 : Int64)) "[J") (ne_ad0_ad1 : ad0 ≠ ad1) (g_ad0 : Z.heap.size ≤ ad0) (g_ad1 : Z.heap.size ≤ ad1) (OL : Old Z Z.heap.size h0) :
    Met l Z (⟨"java/util/BitSet", "set", "(I)V"⟩ : MethodName) jdk_92_method_19_code 3 none ({ frames := 2, cells := 0, slots := 0, locals := 28 } : Room) #[(.ref ad0), (.int kx)] h0 (fun v h' => (¬ (kx < (0 : Int32)) ∧ v = none ∧ Keep h0 h' [ad0, ad1] ∧ ObB Z h' ad0 (.int (1 : Int32)) (.int x0) (.ref ad1) ∧ Arx Z h' ad1 cA_ad1 .long (4 : Int32) [(.long (x1 ||| ((1 : Int64) <<< (kx &&& 0x3f).toInt64))), (.long x2), (.long x3), (.long x4)] (.long (0 : Int64)) "[J")) := by
  refine met_of (Ls := #[.val (.ref ad0), .val (.int kx), .unset]) (plainFor_of_name pn_rs26) (fun m => by first | (simp [entryFrame, mkF, argsToLocals, Value.category]; done) | rfl) (fun p e s m below meth c cx => ?_)
  have KK := Keep.refl h0 [ad0, ad1]
  refine g_iloadN cx d8_0 rfl ?_
  refine g_if_ge cx d8_1 (fun hc1 => ?_) (fun q => absurd q (fun q => hk0 q))
  refine g_iloadN cx d8_31 rfl ?_
  refine g_static cx (y := (⟨"java/util/BitSet", "wordIndex", "(I)I"⟩ : MethodName)) d8_32 (hw _ (List.mem_of_getElem? (i := 25) rfl)) (hw _ (List.mem_of_getElem? (i := 26) rfl)) (hw _ (List.mem_of_getElem? (i := 11) rfl)) (hw _ (List.mem_of_getElem? (i := 27) rfl)) (by decide) (bytes := jdk_92_method_1_code) (maxL' := 1) (M := (rmk l Z a0 hw kx hk6 _)) rfl (lenOf pd_0 rfl) (by decide) (W := 0) (Nat.le_of_eq rfl) (by decide) (k' := 0) (n' := 0) rfl rfl (by decide) (by decide) (argsL := [(.int kx)]) (rest := []) rfl (fun v2 h1 q3 => ?_)
  obtain ⟨rfl, rfl⟩ := q3
  refine G.cast (st' := [(.int (0 : Int32))]) ?_ rfl
  refine g_istoreN cx d8_35 (Ls' := #[.val (.ref ad0), .val (.int kx), .val (.int (0 : Int32))]) rfl ?_
  refine g_aloadN cx d8_36 rfl rfl ?_
  refine g_iloadN cx d8_37 rfl ?_
  refine g_private cx (y := (⟨"java/util/BitSet", "expandTo", "(I)V"⟩ : MethodName)) (a := ad0) d8_38 (hw _ (List.mem_of_getElem? (i := 56) rfl)) (hw _ (List.mem_of_getElem? (i := 57) rfl)) (hw _ (List.mem_of_getElem? (i := 11) rfl)) (hw _ (List.mem_of_getElem? (i := 60) rfl)) (hw _ (List.mem_of_getElem? (i := 59) rfl)) (hw _ (List.mem_of_getElem? (i := 58) rfl)) (by decide) O_ad0.1 (bytes := jdk_92_method_15_code) (maxL' := 3) (M := (rs27 l Z a0 hw kx hk0 hk6 SAD pm dn SPM SDN npd ad0 ad1 x0 x1 x2 x3 x4 cA_ad1 _ O_ad0 A_ad1 ne_ad0_ad1 g_ad0 g_ad1 OL)) rfl (lenOf pd_1 rfl) (by decide) (W := 0) (Nat.le_of_eq rfl) (by decide) (k' := 0) (n' := 0) rfl rfl (by decide) (by decide) (argsL := [(.int (0 : Int32))]) (rest := []) rfl (fun v6 h5 q7 => ?_)
  obtain ⟨rfl, K4, O_ad0⟩ := q7
  have A_ad1 := A_ad1.keep K4 (ninS (Ne.symm ne_ad0_ad1) nin0)
  have OL := OL.keep K4 (allS g_ad0 all0)
  have KK := KK.trans K4 (allS (P := fun z => z ∈ _ ∨ _ ≤ z) (Or.inl (List.mem_of_getElem? (i := 0) rfl)) all0)
  refine G.cast (st' := []) ?_ rfl
  refine g_aloadN cx d8_41 rfl rfl ?_
  refine g_getF cx d8_42 (host := "") (Or.inl (hw _ (List.mem_of_getElem? (i := 29) rfl))) Via.refl O_ad0.2.2.2 ?_
  refine g_iloadN cx d8_45 rfl ?_
  refine g_dup2 cx d8_46 rfl rfl ?_
  refine g_laload cx d8_47 A_ad1.1 ⟨by decide, by decide⟩ (v := (.long x1)) rfl ?_
  refine g_lconst cx d8_48 (v := (1 : Int64)) rfl ?_
  refine g_iloadN cx d8_49 rfl ?_
  refine g_lshl cx d8_50 ?_
  refine g_lor cx d8_51 ?_
  refine g_lastore cx d8_52 A_ad1 ⟨by decide, by decide⟩ (Nat.le_of_ble_eq_true rfl) g_ad1 (fun h8 W9 AA10 => ?_)
  have O_ad0 := O_ad0.oth W9 ne_ad0_ad1
  have A_ad1 : Arx Z h8 ad1 cA_ad1 .long (4 : Int32) [(.long (x1 ||| ((1 : Int64) <<< (kx &&& 0x3f).toInt64))), (.long x2), (.long x3), (.long x4)] (.long (0 : Int64)) "[J" := AA10
  have OL := OL.wr W9 g_ad1
  have KK := KK.wr W9 (Or.inl (List.mem_of_getElem? (i := 1) rfl))
  refine g_aloadN cx d8_53 rfl rfl ?_
  refine g_private cx (y := (⟨"java/util/BitSet", "checkInvariants", "()V"⟩ : MethodName)) (a := ad0) d8_54 (hw _ (List.mem_of_getElem? (i := 81) rfl)) (hw _ (List.mem_of_getElem? (i := 82) rfl)) (hw _ (List.mem_of_getElem? (i := 11) rfl)) (hw _ (List.mem_of_getElem? (i := 85) rfl)) (hw _ (List.mem_of_getElem? (i := 84) rfl)) (hw _ (List.mem_of_getElem? (i := 83) rfl)) (by decide) O_ad0.1 (bytes := jdk_92_method_2_code) (maxL' := 1) (M := (rs29 l Z a0 hw kx hk0 hk6 SAD pm dn SPM SDN npd ad0 ad1 x0 (x1 ||| ((1 : Int64) <<< (kx &&& 0x3f).toInt64)) x2 x3 x4 cA_ad1 _ O_ad0 A_ad1 ne_ad0_ad1 g_ad0 g_ad1 OL)) rfl (lenOf pd_4 rfl) (by decide) (W := 0) (Nat.le_of_eq rfl) (by decide) (k' := 0) (n' := 0) rfl rfl (by decide) (by decide) (argsL := []) (rest := []) rfl (fun v13 h12 q14 => ?_)
  obtain ⟨rfl, rfl⟩ := q14
  refine G.cast (st' := []) ?_ rfl
  refine g_retV cx d8_57 rfl (by decide) (by decide) ?_
  exact ⟨hc1, rfl, KK, O_ad0, A_ad1⟩
theorem pn_rs31 : plainName "java/util/BitSet" = true := by first | (simp [plainName, overriddenIn]; done) | decide +kernel
set_option maxRecDepth 65536 in
set_option maxHeartbeats 40000000 in
theorem rs31 (l : Launch) (Z : State) (a0 : Array Value) (hw : ∀ d ∈ tables_1, d.before a0 Z = true) (kx : Int32) (hk0 : ¬ kx < (0 : Int32)) (hk6 : (kx >>> ((6 : Int32) &&& 31)) = 0) (SAD : Sta Z Z.heap "java/util/BitSet" "$assertionsDisabled" "Z" (.int (1 : Int32))) (pm dn : Addr) (SPM : Sta Z Z.heap "com/example/dyn_authz/dynauthz/policy/Decision" "PERMIT" "Lcom/example/dyn_authz/dynauthz/policy/Decision;" (.ref pm)) (SDN : Sta Z Z.heap "com/example/dyn_authz/dynauthz/policy/Decision" "DENY" "Lcom/example/dyn_authz/dynauthz/policy/Decision;" (.ref dn)) (npd : pm ≠ dn) (ad0 ad1 : Addr) (x0 : Int32) (x1 : Int64) (x2 : Int64) (x3 : Int64) (x4 : Int64) (cA_ad1 : ClassId) (h0 : Heap) (O_ad0 : ObB Z h0 ad0 (.int (1 : Int32)) (.int x0) (.ref ad1)) (A_ad1 : Arx Z h0 ad1 cA_ad1 .long (4 : Int32) [(.long x1), (.long x2), (.long x3), (.long x4)] (.long (0 : Int64)) "[J") (ne_ad0_ad1 : ad0 ≠ ad1) (g_ad0 : Z.heap.size ≤ ad0) (g_ad1 : Z.heap.size ≤ ad1) (OL : Old Z Z.heap.size h0) :
    Met l Z (⟨"java/util/BitSet", "expandTo", "(I)V"⟩ : MethodName) jdk_92_method_15_code 3 none ({ frames := 0, cells := 0, slots := 0, locals := 0 } : Room) #[(.ref ad0), (.int (0 : Int32))] h0 (fun v h' => (v = none ∧ h0 = h')) := by
  refine met_of (Ls := #[.val (.ref ad0), .val (.int (0 : Int32)), .unset]) (plainFor_of_name pn_rs31) (fun m => by first | (simp [entryFrame, mkF, argsToLocals, Value.category]; done) | rfl) (fun p e s m below meth c cx => ?_)
  have KK := Keep.refl h0 []
  refine g_iloadN cx d9_0 rfl ?_
  refine g_iconst cx d9_1 (v := (1 : Int32)) rfl ?_
  refine g_iadd cx d9_2 ?_
  refine G.cast (st' := [(.int (1 : Int32))]) ?_ rfl
  refine g_istoreN cx d9_3 (Ls' := #[.val (.ref ad0), .val (.int (0 : Int32)), .val (.int (1 : Int32))]) rfl ?_
  refine g_aloadN cx d9_4 rfl rfl ?_
  refine g_getF cx d9_5 (host := "") (Or.inl (hw _ (List.mem_of_getElem? (i := 16) rfl))) Via.refl O_ad0.2.1 ?_
  refine g_iloadN cx d9_8 rfl ?_
  refine g_icmp_ge cx d9_9 (fun hc9 => ?_) (fun q => absurd q (fun q => by revert q; decide))
  refine g_retV cx d9_22 rfl (by decide) (by decide) ?_
  exact ⟨rfl, rfl⟩
theorem pn_rs30 : plainName "java/util/BitSet" = true := by first | (simp [plainName, overriddenIn]; done) | decide +kernel
set_option maxRecDepth 65536 in
set_option maxHeartbeats 40000000 in
theorem rs30 (l : Launch) (Z : State) (a0 : Array Value) (hw : ∀ d ∈ tables_1, d.before a0 Z = true) (kx : Int32) (hk0 : ¬ kx < (0 : Int32)) (hk6 : (kx >>> ((6 : Int32) &&& 31)) = 0) (SAD : Sta Z Z.heap "java/util/BitSet" "$assertionsDisabled" "Z" (.int (1 : Int32))) (pm dn : Addr) (SPM : Sta Z Z.heap "com/example/dyn_authz/dynauthz/policy/Decision" "PERMIT" "Lcom/example/dyn_authz/dynauthz/policy/Decision;" (.ref pm)) (SDN : Sta Z Z.heap "com/example/dyn_authz/dynauthz/policy/Decision" "DENY" "Lcom/example/dyn_authz/dynauthz/policy/Decision;" (.ref dn)) (npd : pm ≠ dn) (ad0 ad1 : Addr) (x0 : Int32) (x1 : Int64) (x2 : Int64) (x3 : Int64) (x4 : Int64) (cA_ad1 : ClassId) (h0 : Heap) (O_ad0 : ObB Z h0 ad0 (.int (1 : Int32)) (.int x0) (.ref ad1)) (A_ad1 : Arx Z h0 ad1 cA_ad1 .long (4 : Int32) [(.long x1), (.long x2), (.long x3), (.long x4)] (.long (0 : Int64)) "[J") (ne_ad0_ad1 : ad0 ≠ ad1) (g_ad0 : Z.heap.size ≤ ad0) (g_ad1 : Z.heap.size ≤ ad1) (OL : Old Z Z.heap.size h0) :
    Met l Z (⟨"java/util/BitSet", "set", "(I)V"⟩ : MethodName) jdk_92_method_19_code 3 none ({ frames := 1, cells := 0, slots := 0, locals := 14 } : Room) #[(.ref ad0), (.int kx)] h0 (fun v h' => (¬ (kx < (0 : Int32)) ∧ v = none ∧ Keep h0 h' [ad1] ∧ Arx Z h' ad1 cA_ad1 .long (4 : Int32) [(.long (x1 ||| ((1 : Int64) <<< (kx &&& 0x3f).toInt64))), (.long x2), (.long x3), (.long x4)] (.long (0 : Int64)) "[J")) := by
  refine met_of (Ls := #[.val (.ref ad0), .val (.int kx), .unset]) (plainFor_of_name pn_rs30) (fun m => by first | (simp [entryFrame, mkF, argsToLocals, Value.category]; done) | rfl) (fun p e s m below meth c cx => ?_)
  have KK := Keep.refl h0 [ad1]
  refine g_iloadN cx d8_0 rfl ?_
  refine g_if_ge cx d8_1 (fun hc1 => ?_) (fun q => absurd q (fun q => hk0 q))
  refine g_iloadN cx d8_31 rfl ?_
  refine g_static cx (y := (⟨"java/util/BitSet", "wordIndex", "(I)I"⟩ : MethodName)) d8_32 (hw _ (List.mem_of_getElem? (i := 25) rfl)) (hw _ (List.mem_of_getElem? (i := 26) rfl)) (hw _ (List.mem_of_getElem? (i := 11) rfl)) (hw _ (List.mem_of_getElem? (i := 27) rfl)) (by decide) (bytes := jdk_92_method_1_code) (maxL' := 1) (M := (rmk l Z a0 hw kx hk6 _)) rfl (lenOf pd_0 rfl) (by decide) (W := 0) (Nat.le_of_eq rfl) (by decide) (k' := 0) (n' := 0) rfl rfl (by decide) (by decide) (argsL := [(.int kx)]) (rest := []) rfl (fun v2 h1 q3 => ?_)
  obtain ⟨rfl, rfl⟩ := q3
  refine G.cast (st' := [(.int (0 : Int32))]) ?_ rfl
  refine g_istoreN cx d8_35 (Ls' := #[.val (.ref ad0), .val (.int kx), .val (.int (0 : Int32))]) rfl ?_
  refine g_aloadN cx d8_36 rfl rfl ?_
  refine g_iloadN cx d8_37 rfl ?_
  refine g_private cx (y := (⟨"java/util/BitSet", "expandTo", "(I)V"⟩ : MethodName)) (a := ad0) d8_38 (hw _ (List.mem_of_getElem? (i := 56) rfl)) (hw _ (List.mem_of_getElem? (i := 57) rfl)) (hw _ (List.mem_of_getElem? (i := 11) rfl)) (hw _ (List.mem_of_getElem? (i := 60) rfl)) (hw _ (List.mem_of_getElem? (i := 59) rfl)) (hw _ (List.mem_of_getElem? (i := 58) rfl)) (by decide) O_ad0.1 (bytes := jdk_92_method_15_code) (maxL' := 3) (M := (rs31 l Z a0 hw kx hk0 hk6 SAD pm dn SPM SDN npd ad0 ad1 x0 x1 x2 x3 x4 cA_ad1 _ O_ad0 A_ad1 ne_ad0_ad1 g_ad0 g_ad1 OL)) rfl (lenOf pd_1 rfl) (by decide) (W := 0) (Nat.le_of_eq rfl) (by decide) (k' := 0) (n' := 0) rfl rfl (by decide) (by decide) (argsL := [(.int (0 : Int32))]) (rest := []) rfl (fun v6 h5 q7 => ?_)
  obtain ⟨rfl, rfl⟩ := q7
  refine G.cast (st' := []) ?_ rfl
  refine g_aloadN cx d8_41 rfl rfl ?_
  refine g_getF cx d8_42 (host := "") (Or.inl (hw _ (List.mem_of_getElem? (i := 29) rfl))) Via.refl O_ad0.2.2.2 ?_
  refine g_iloadN cx d8_45 rfl ?_
  refine g_dup2 cx d8_46 rfl rfl ?_
  refine g_laload cx d8_47 A_ad1.1 ⟨by decide, by decide⟩ (v := (.long x1)) rfl ?_
  refine g_lconst cx d8_48 (v := (1 : Int64)) rfl ?_
  refine g_iloadN cx d8_49 rfl ?_
  refine g_lshl cx d8_50 ?_
  refine g_lor cx d8_51 ?_
  refine g_lastore cx d8_52 A_ad1 ⟨by decide, by decide⟩ (Nat.le_of_ble_eq_true rfl) g_ad1 (fun h8 W9 AA10 => ?_)
  have O_ad0 := O_ad0.oth W9 ne_ad0_ad1
  have A_ad1 : Arx Z h8 ad1 cA_ad1 .long (4 : Int32) [(.long (x1 ||| ((1 : Int64) <<< (kx &&& 0x3f).toInt64))), (.long x2), (.long x3), (.long x4)] (.long (0 : Int64)) "[J" := AA10
  have OL := OL.wr W9 g_ad1
  have KK := KK.wr W9 (Or.inl (List.mem_of_getElem? (i := 0) rfl))
  refine g_aloadN cx d8_53 rfl rfl ?_
  refine g_private cx (y := (⟨"java/util/BitSet", "checkInvariants", "()V"⟩ : MethodName)) (a := ad0) d8_54 (hw _ (List.mem_of_getElem? (i := 81) rfl)) (hw _ (List.mem_of_getElem? (i := 82) rfl)) (hw _ (List.mem_of_getElem? (i := 11) rfl)) (hw _ (List.mem_of_getElem? (i := 85) rfl)) (hw _ (List.mem_of_getElem? (i := 84) rfl)) (hw _ (List.mem_of_getElem? (i := 83) rfl)) (by decide) O_ad0.1 (bytes := jdk_92_method_2_code) (maxL' := 1) (M := (rs29 l Z a0 hw kx hk0 hk6 SAD pm dn SPM SDN npd ad0 ad1 x0 (x1 ||| ((1 : Int64) <<< (kx &&& 0x3f).toInt64)) x2 x3 x4 cA_ad1 _ O_ad0 A_ad1 ne_ad0_ad1 g_ad0 g_ad1 OL)) rfl (lenOf pd_4 rfl) (by decide) (W := 0) (Nat.le_of_eq rfl) (by decide) (k' := 0) (n' := 0) rfl rfl (by decide) (by decide) (argsL := []) (rest := []) rfl (fun v13 h12 q14 => ?_)
  obtain ⟨rfl, rfl⟩ := q14
  refine G.cast (st' := []) ?_ rfl
  refine g_retV cx d8_57 rfl (by decide) (by decide) ?_
  exact ⟨hc1, rfl, KK, A_ad1⟩
theorem pn_rmaP : plainName "com/example/dyn_authz/dynauthz/service/Decisions" = true := by first | (simp [plainName, overriddenIn]; done) | decide +kernel
set_option maxRecDepth 65536 in
set_option maxHeartbeats 40000000 in
theorem rmaP (l : Launch) (Z : State) (a0 : Array Value) (hw : ∀ d ∈ tables_1, d.before a0 Z = true) (kx : Int32) (hk0 : ¬ kx < (0 : Int32)) (hk6 : (kx >>> ((6 : Int32) &&& 31)) = 0) (SAD : Sta Z Z.heap "java/util/BitSet" "$assertionsDisabled" "Z" (.int (1 : Int32))) (pm dn : Addr) (SPM : Sta Z Z.heap "com/example/dyn_authz/dynauthz/policy/Decision" "PERMIT" "Lcom/example/dyn_authz/dynauthz/policy/Decision;" (.ref pm)) (SDN : Sta Z Z.heap "com/example/dyn_authz/dynauthz/policy/Decision" "DENY" "Lcom/example/dyn_authz/dynauthz/policy/Decision;" (.ref dn)) (npd : pm ≠ dn) (d : Addr) (pp : Int32) (h0 : Heap) (DD : own_D Z h0 d kx pp) (OL : Old Z Z.heap.size h0) :
    Met l Z (⟨"com/example/dyn_authz/dynauthz/service/Decisions", "add", "(Lcom/example/dyn_authz/dynauthz/policy/Decision;)V"⟩ : MethodName) prog_43_method_3_code 2 none ({ frames := 5, cells := 1, slots := 1, locals := 75 } : Room) #[(.ref d), (.ref pm)] h0 (fun v h' => v = none ∧ Old Z Z.heap.size h' ∧ own_D Z h' d (kx + (1 : Int32)) (pp + (1 : Int32))) := by
  refine met_of (Ls := #[.val (.ref d), .val (.ref pm)]) (plainFor_of_name pn_rmaP) (fun m => by first | (simp [entryFrame, mkF, argsToLocals, Value.category]; done) | rfl) (fun p e s m below meth c cx => ?_)
  obtain ⟨b, w, cA, sk, g_d, g_b, g_w, ne_d_b, ne_d_w, ne_b_w, O_d, ⟨O_b, A_w⟩ | ⟨y0, O_b, A_w⟩ | ⟨y0, O_b, A_w⟩ | ⟨y0, y1, O_b, A_w⟩ | ⟨y0, y1, O_b, A_w⟩ | ⟨y0, y1, y2, O_b, A_w⟩ | ⟨y0, y1, y2, O_b, A_w⟩ | ⟨y0, y1, y2, y3, O_b, A_w⟩ | ⟨y0, y1, y2, y3, O_b, A_w⟩⟩ := DD
  · refine g_aloadN cx d7_0 rfl rfl ?_
    refine g_getS cx d7_1 (host := "") (Or.inl (hw _ (List.mem_of_getElem? (i := 46) rfl))) Via.refl (SPM.ext OL.2) ?_
    refine g_acmp_ne cx rfl rfl d7_4 (fun q => absurd q (fun q => q rfl)) (fun hc4 => ?_)
    refine g_aloadN cx d7_7 rfl rfl ?_
    refine g_getF cx d7_8 (host := "") (Or.inl (hw _ (List.mem_of_getElem? (i := 31) rfl))) Via.refl O_d.2.1 ?_
    refine g_aloadN cx d7_11 rfl rfl ?_
    refine g_getF cx d7_12 (host := "") (Or.inl (hw _ (List.mem_of_getElem? (i := 48) rfl))) Via.refl O_d.2.2.1 ?_
    have lt_b := O_b.lt
    refine g_virtual cx (y := (⟨"java/util/BitSet", "set", "(I)V"⟩ : MethodName)) (z := (⟨"java/util/BitSet", "set", "(I)V"⟩ : MethodName)) (a := b) d7_15 (hw _ (List.mem_of_getElem? (i := 51) rfl)) (hw _ (List.mem_of_getElem? (i := 52) rfl)) (hw _ (List.mem_of_getElem? (i := 11) rfl)) (hw _ (List.mem_of_getElem? (i := 55) rfl)) (hw _ (List.mem_of_getElem? (i := 54) rfl)) (hw _ (List.mem_of_getElem? (i := 53) rfl)) rfl (by decide) O_b.1 (bytes := jdk_92_method_19_code) (maxL' := 3) (M := (rs1 l Z a0 hw kx hk0 hk6 SAD pm dn SPM SDN npd b w sk cA _ O_b A_w ne_b_w g_b g_w OL)) rfl (lenOf pd_1 rfl) (by decide) (W := 0) (Nat.le_of_eq rfl) (by decide) (k' := 1) (n' := 1) rfl rfl (by decide) (by decide) (argsL := [(.int kx)]) (rest := []) rfl (fun v6 h5 q7 => ?_)
    obtain ⟨b1, cA2, hq3, rfl, K4, sq_b1, A_b1, O_b⟩ := q7
    have ne_d_b1 : d ≠ b1 := Nat.ne_of_lt (Nat.lt_of_lt_of_le O_d.lt sq_b1)
    have ne_b_b1 : b ≠ b1 := Nat.ne_of_lt (Nat.lt_of_lt_of_le lt_b sq_b1)
    have ne_w_b1 : w ≠ b1 := Nat.ne_of_lt (Nat.lt_of_lt_of_le A_w.lt sq_b1)
    have g_b1 : Z.heap.size ≤ b1 := Nat.le_trans OL.2.1 sq_b1
    have O_d := O_d.keep K4 (ninS ne_d_b nin0)
    have A_w := A_w.keep K4 (ninS (Ne.symm ne_b_w) nin0)
    have OL := OL.keep K4 (allS g_b all0)
    refine G.cast (st' := []) ?_ rfl
    refine g_aloadN cx d7_18 rfl rfl ?_
    refine g_dup cx d7_19 rfl ?_
    refine g_getF cx d7_20 (host := "") (Or.inl (hw _ (List.mem_of_getElem? (i := 87) rfl))) Via.refl O_d.2.2.2 ?_
    refine g_iconst cx d7_23 (v := (1 : Int32)) rfl ?_
    refine g_iadd cx d7_24 ?_
    refine g_putF cx d7_25 (host := "") (Or.inl (hw _ (List.mem_of_getElem? (i := 87) rfl))) Via.refl O_d.2.2.2 O_d.1 (Or.inl (hw _ (List.mem_of_getElem? (i := 88) rfl))) (hw _ (List.mem_of_getElem? (i := 1) rfl)) (ty := .int) (by decide) rfl rfl g_d (fun h8 W9 => ?_)
    have O_d := O_d.put3 hw W9
    have O_b := O_b.oth W9 (Ne.symm ne_d_b)
    have A_w := A_w.other W9 (Ne.symm ne_d_w)
    have A_b1 := A_b1.other W9 (Ne.symm ne_d_b1)
    have OL := OL.wr W9 g_d
    refine g_aloadN cx d7_28 rfl rfl ?_
    refine g_dup cx d7_29 rfl ?_
    refine g_getF cx d7_30 (host := "") (Or.inl (hw _ (List.mem_of_getElem? (i := 48) rfl))) Via.refl O_d.2.2.1 ?_
    refine g_iconst cx d7_33 (v := (1 : Int32)) rfl ?_
    refine g_iadd cx d7_34 ?_
    refine g_putF cx d7_35 (host := "") (Or.inl (hw _ (List.mem_of_getElem? (i := 48) rfl))) Via.refl O_d.2.2.1 O_d.1 (Or.inl (hw _ (List.mem_of_getElem? (i := 49) rfl))) (hw _ (List.mem_of_getElem? (i := 1) rfl)) (ty := .int) (by decide) rfl rfl g_d (fun h10 W11 => ?_)
    have O_d := O_d.put2 hw W11
    have O_b := O_b.oth W11 (Ne.symm ne_d_b)
    have A_w := A_w.other W11 (Ne.symm ne_d_w)
    have A_b1 := A_b1.other W11 (Ne.symm ne_d_b1)
    have OL := OL.wr W11 g_d
    refine g_retV cx d7_38 rfl (by decide) (by decide) ?_
    exact ⟨rfl, OL, ⟨b, b1, cA2, _, g_d, g_b, g_b1, ne_d_b, ne_d_b1, ne_b_b1, O_d, Or.inr (Or.inr (Or.inl ⟨((0 : Int64) ||| ((1 : Int64) <<< (kx &&& 0x3f).toInt64)), O_b, A_b1⟩))⟩⟩
  · refine g_aloadN cx d7_0 rfl rfl ?_
    refine g_getS cx d7_1 (host := "") (Or.inl (hw _ (List.mem_of_getElem? (i := 46) rfl))) Via.refl (SPM.ext OL.2) ?_
    refine g_acmp_ne cx rfl rfl d7_4 (fun q => absurd q (fun q => q rfl)) (fun hc4 => ?_)
    refine g_aloadN cx d7_7 rfl rfl ?_
    refine g_getF cx d7_8 (host := "") (Or.inl (hw _ (List.mem_of_getElem? (i := 31) rfl))) Via.refl O_d.2.1 ?_
    refine g_aloadN cx d7_11 rfl rfl ?_
    refine g_getF cx d7_12 (host := "") (Or.inl (hw _ (List.mem_of_getElem? (i := 48) rfl))) Via.refl O_d.2.2.1 ?_
    refine g_virtual cx (y := (⟨"java/util/BitSet", "set", "(I)V"⟩ : MethodName)) (z := (⟨"java/util/BitSet", "set", "(I)V"⟩ : MethodName)) (a := b) d7_15 (hw _ (List.mem_of_getElem? (i := 51) rfl)) (hw _ (List.mem_of_getElem? (i := 52) rfl)) (hw _ (List.mem_of_getElem? (i := 11) rfl)) (hw _ (List.mem_of_getElem? (i := 55) rfl)) (hw _ (List.mem_of_getElem? (i := 54) rfl)) (hw _ (List.mem_of_getElem? (i := 53) rfl)) rfl (by decide) O_b.1 (bytes := jdk_92_method_19_code) (maxL' := 3) (M := (rs8 l Z a0 hw kx hk0 hk6 SAD pm dn SPM SDN npd b w sk y0 cA _ O_b A_w ne_b_w g_b g_w OL)) rfl (lenOf pd_1 rfl) (by decide) (W := 0) (Nat.le_of_eq rfl) (by decide) (k' := 0) (n' := 0) rfl rfl (by decide) (by decide) (argsL := [(.int kx)]) (rest := []) rfl (fun v15 h14 q16 => ?_)
    obtain ⟨hq12, rfl, K13, O_b, A_w⟩ := q16
    have O_d := O_d.keep K13 (ninS ne_d_b (ninS ne_d_w nin0))
    have OL := OL.keep K13 (allS g_b (allS g_w all0))
    refine G.cast (st' := []) ?_ rfl
    refine g_aloadN cx d7_18 rfl rfl ?_
    refine g_dup cx d7_19 rfl ?_
    refine g_getF cx d7_20 (host := "") (Or.inl (hw _ (List.mem_of_getElem? (i := 87) rfl))) Via.refl O_d.2.2.2 ?_
    refine g_iconst cx d7_23 (v := (1 : Int32)) rfl ?_
    refine g_iadd cx d7_24 ?_
    refine g_putF cx d7_25 (host := "") (Or.inl (hw _ (List.mem_of_getElem? (i := 87) rfl))) Via.refl O_d.2.2.2 O_d.1 (Or.inl (hw _ (List.mem_of_getElem? (i := 88) rfl))) (hw _ (List.mem_of_getElem? (i := 1) rfl)) (ty := .int) (by decide) rfl rfl g_d (fun h17 W18 => ?_)
    have O_d := O_d.put3 hw W18
    have O_b := O_b.oth W18 (Ne.symm ne_d_b)
    have A_w := A_w.other W18 (Ne.symm ne_d_w)
    have OL := OL.wr W18 g_d
    refine g_aloadN cx d7_28 rfl rfl ?_
    refine g_dup cx d7_29 rfl ?_
    refine g_getF cx d7_30 (host := "") (Or.inl (hw _ (List.mem_of_getElem? (i := 48) rfl))) Via.refl O_d.2.2.1 ?_
    refine g_iconst cx d7_33 (v := (1 : Int32)) rfl ?_
    refine g_iadd cx d7_34 ?_
    refine g_putF cx d7_35 (host := "") (Or.inl (hw _ (List.mem_of_getElem? (i := 48) rfl))) Via.refl O_d.2.2.1 O_d.1 (Or.inl (hw _ (List.mem_of_getElem? (i := 49) rfl))) (hw _ (List.mem_of_getElem? (i := 1) rfl)) (ty := .int) (by decide) rfl rfl g_d (fun h19 W20 => ?_)
    have O_d := O_d.put2 hw W20
    have O_b := O_b.oth W20 (Ne.symm ne_d_b)
    have A_w := A_w.other W20 (Ne.symm ne_d_w)
    have OL := OL.wr W20 g_d
    refine g_retV cx d7_38 rfl (by decide) (by decide) ?_
    exact ⟨rfl, OL, ⟨b, w, cA, _, g_d, g_b, g_w, ne_d_b, ne_d_w, ne_b_w, O_d, Or.inr (Or.inr (Or.inl ⟨(y0 ||| ((1 : Int64) <<< (kx &&& 0x3f).toInt64)), O_b, A_w⟩))⟩⟩
  · refine g_aloadN cx d7_0 rfl rfl ?_
    refine g_getS cx d7_1 (host := "") (Or.inl (hw _ (List.mem_of_getElem? (i := 46) rfl))) Via.refl (SPM.ext OL.2) ?_
    refine g_acmp_ne cx rfl rfl d7_4 (fun q => absurd q (fun q => q rfl)) (fun hc4 => ?_)
    refine g_aloadN cx d7_7 rfl rfl ?_
    refine g_getF cx d7_8 (host := "") (Or.inl (hw _ (List.mem_of_getElem? (i := 31) rfl))) Via.refl O_d.2.1 ?_
    refine g_aloadN cx d7_11 rfl rfl ?_
    refine g_getF cx d7_12 (host := "") (Or.inl (hw _ (List.mem_of_getElem? (i := 48) rfl))) Via.refl O_d.2.2.1 ?_
    refine g_virtual cx (y := (⟨"java/util/BitSet", "set", "(I)V"⟩ : MethodName)) (z := (⟨"java/util/BitSet", "set", "(I)V"⟩ : MethodName)) (a := b) d7_15 (hw _ (List.mem_of_getElem? (i := 51) rfl)) (hw _ (List.mem_of_getElem? (i := 52) rfl)) (hw _ (List.mem_of_getElem? (i := 11) rfl)) (hw _ (List.mem_of_getElem? (i := 55) rfl)) (hw _ (List.mem_of_getElem? (i := 54) rfl)) (hw _ (List.mem_of_getElem? (i := 53) rfl)) rfl (by decide) O_b.1 (bytes := jdk_92_method_19_code) (maxL' := 3) (M := (rs12 l Z a0 hw kx hk0 hk6 SAD pm dn SPM SDN npd b w sk y0 cA _ O_b A_w ne_b_w g_b g_w OL)) rfl (lenOf pd_1 rfl) (by decide) (W := 0) (Nat.le_of_eq rfl) (by decide) (k' := 0) (n' := 0) rfl rfl (by decide) (by decide) (argsL := [(.int kx)]) (rest := []) rfl (fun v24 h23 q25 => ?_)
    obtain ⟨hq21, rfl, K22, A_w⟩ := q25
    have O_d := O_d.keep K22 (ninS ne_d_w nin0)
    have O_b := O_b.keep K22 (ninS ne_b_w nin0)
    have OL := OL.keep K22 (allS g_w all0)
    refine G.cast (st' := []) ?_ rfl
    refine g_aloadN cx d7_18 rfl rfl ?_
    refine g_dup cx d7_19 rfl ?_
    refine g_getF cx d7_20 (host := "") (Or.inl (hw _ (List.mem_of_getElem? (i := 87) rfl))) Via.refl O_d.2.2.2 ?_
    refine g_iconst cx d7_23 (v := (1 : Int32)) rfl ?_
    refine g_iadd cx d7_24 ?_
    refine g_putF cx d7_25 (host := "") (Or.inl (hw _ (List.mem_of_getElem? (i := 87) rfl))) Via.refl O_d.2.2.2 O_d.1 (Or.inl (hw _ (List.mem_of_getElem? (i := 88) rfl))) (hw _ (List.mem_of_getElem? (i := 1) rfl)) (ty := .int) (by decide) rfl rfl g_d (fun h26 W27 => ?_)
    have O_d := O_d.put3 hw W27
    have O_b := O_b.oth W27 (Ne.symm ne_d_b)
    have A_w := A_w.other W27 (Ne.symm ne_d_w)
    have OL := OL.wr W27 g_d
    refine g_aloadN cx d7_28 rfl rfl ?_
    refine g_dup cx d7_29 rfl ?_
    refine g_getF cx d7_30 (host := "") (Or.inl (hw _ (List.mem_of_getElem? (i := 48) rfl))) Via.refl O_d.2.2.1 ?_
    refine g_iconst cx d7_33 (v := (1 : Int32)) rfl ?_
    refine g_iadd cx d7_34 ?_
    refine g_putF cx d7_35 (host := "") (Or.inl (hw _ (List.mem_of_getElem? (i := 48) rfl))) Via.refl O_d.2.2.1 O_d.1 (Or.inl (hw _ (List.mem_of_getElem? (i := 49) rfl))) (hw _ (List.mem_of_getElem? (i := 1) rfl)) (ty := .int) (by decide) rfl rfl g_d (fun h28 W29 => ?_)
    have O_d := O_d.put2 hw W29
    have O_b := O_b.oth W29 (Ne.symm ne_d_b)
    have A_w := A_w.other W29 (Ne.symm ne_d_w)
    have OL := OL.wr W29 g_d
    refine g_retV cx d7_38 rfl (by decide) (by decide) ?_
    exact ⟨rfl, OL, ⟨b, w, cA, _, g_d, g_b, g_w, ne_d_b, ne_d_w, ne_b_w, O_d, Or.inr (Or.inr (Or.inl ⟨(y0 ||| ((1 : Int64) <<< (kx &&& 0x3f).toInt64)), O_b, A_w⟩))⟩⟩
  · refine g_aloadN cx d7_0 rfl rfl ?_
    refine g_getS cx d7_1 (host := "") (Or.inl (hw _ (List.mem_of_getElem? (i := 46) rfl))) Via.refl (SPM.ext OL.2) ?_
    refine g_acmp_ne cx rfl rfl d7_4 (fun q => absurd q (fun q => q rfl)) (fun hc4 => ?_)
    refine g_aloadN cx d7_7 rfl rfl ?_
    refine g_getF cx d7_8 (host := "") (Or.inl (hw _ (List.mem_of_getElem? (i := 31) rfl))) Via.refl O_d.2.1 ?_
    refine g_aloadN cx d7_11 rfl rfl ?_
    refine g_getF cx d7_12 (host := "") (Or.inl (hw _ (List.mem_of_getElem? (i := 48) rfl))) Via.refl O_d.2.2.1 ?_
    refine g_virtual cx (y := (⟨"java/util/BitSet", "set", "(I)V"⟩ : MethodName)) (z := (⟨"java/util/BitSet", "set", "(I)V"⟩ : MethodName)) (a := b) d7_15 (hw _ (List.mem_of_getElem? (i := 51) rfl)) (hw _ (List.mem_of_getElem? (i := 52) rfl)) (hw _ (List.mem_of_getElem? (i := 11) rfl)) (hw _ (List.mem_of_getElem? (i := 55) rfl)) (hw _ (List.mem_of_getElem? (i := 54) rfl)) (hw _ (List.mem_of_getElem? (i := 53) rfl)) rfl (by decide) O_b.1 (bytes := jdk_92_method_19_code) (maxL' := 3) (M := (rs14 l Z a0 hw kx hk0 hk6 SAD pm dn SPM SDN npd b w sk y0 y1 cA _ O_b A_w ne_b_w g_b g_w OL)) rfl (lenOf pd_1 rfl) (by decide) (W := 0) (Nat.le_of_eq rfl) (by decide) (k' := 0) (n' := 0) rfl rfl (by decide) (by decide) (argsL := [(.int kx)]) (rest := []) rfl (fun v33 h32 q34 => ?_)
    obtain ⟨hq30, rfl, K31, O_b, A_w⟩ := q34
    have O_d := O_d.keep K31 (ninS ne_d_b (ninS ne_d_w nin0))
    have OL := OL.keep K31 (allS g_b (allS g_w all0))
    refine G.cast (st' := []) ?_ rfl
    refine g_aloadN cx d7_18 rfl rfl ?_
    refine g_dup cx d7_19 rfl ?_
    refine g_getF cx d7_20 (host := "") (Or.inl (hw _ (List.mem_of_getElem? (i := 87) rfl))) Via.refl O_d.2.2.2 ?_
    refine g_iconst cx d7_23 (v := (1 : Int32)) rfl ?_
    refine g_iadd cx d7_24 ?_
    refine g_putF cx d7_25 (host := "") (Or.inl (hw _ (List.mem_of_getElem? (i := 87) rfl))) Via.refl O_d.2.2.2 O_d.1 (Or.inl (hw _ (List.mem_of_getElem? (i := 88) rfl))) (hw _ (List.mem_of_getElem? (i := 1) rfl)) (ty := .int) (by decide) rfl rfl g_d (fun h35 W36 => ?_)
    have O_d := O_d.put3 hw W36
    have O_b := O_b.oth W36 (Ne.symm ne_d_b)
    have A_w := A_w.other W36 (Ne.symm ne_d_w)
    have OL := OL.wr W36 g_d
    refine g_aloadN cx d7_28 rfl rfl ?_
    refine g_dup cx d7_29 rfl ?_
    refine g_getF cx d7_30 (host := "") (Or.inl (hw _ (List.mem_of_getElem? (i := 48) rfl))) Via.refl O_d.2.2.1 ?_
    refine g_iconst cx d7_33 (v := (1 : Int32)) rfl ?_
    refine g_iadd cx d7_34 ?_
    refine g_putF cx d7_35 (host := "") (Or.inl (hw _ (List.mem_of_getElem? (i := 48) rfl))) Via.refl O_d.2.2.1 O_d.1 (Or.inl (hw _ (List.mem_of_getElem? (i := 49) rfl))) (hw _ (List.mem_of_getElem? (i := 1) rfl)) (ty := .int) (by decide) rfl rfl g_d (fun h37 W38 => ?_)
    have O_d := O_d.put2 hw W38
    have O_b := O_b.oth W38 (Ne.symm ne_d_b)
    have A_w := A_w.other W38 (Ne.symm ne_d_w)
    have OL := OL.wr W38 g_d
    refine g_retV cx d7_38 rfl (by decide) (by decide) ?_
    exact ⟨rfl, OL, ⟨b, w, cA, _, g_d, g_b, g_w, ne_d_b, ne_d_w, ne_b_w, O_d, Or.inr (Or.inr (Or.inr (Or.inr (Or.inl ⟨(y0 ||| ((1 : Int64) <<< (kx &&& 0x3f).toInt64)), y1, O_b, A_w⟩))))⟩⟩
  · refine g_aloadN cx d7_0 rfl rfl ?_
    refine g_getS cx d7_1 (host := "") (Or.inl (hw _ (List.mem_of_getElem? (i := 46) rfl))) Via.refl (SPM.ext OL.2) ?_
    refine g_acmp_ne cx rfl rfl d7_4 (fun q => absurd q (fun q => q rfl)) (fun hc4 => ?_)
    refine g_aloadN cx d7_7 rfl rfl ?_
    refine g_getF cx d7_8 (host := "") (Or.inl (hw _ (List.mem_of_getElem? (i := 31) rfl))) Via.refl O_d.2.1 ?_
    refine g_aloadN cx d7_11 rfl rfl ?_
    refine g_getF cx d7_12 (host := "") (Or.inl (hw _ (List.mem_of_getElem? (i := 48) rfl))) Via.refl O_d.2.2.1 ?_
    refine g_virtual cx (y := (⟨"java/util/BitSet", "set", "(I)V"⟩ : MethodName)) (z := (⟨"java/util/BitSet", "set", "(I)V"⟩ : MethodName)) (a := b) d7_15 (hw _ (List.mem_of_getElem? (i := 51) rfl)) (hw _ (List.mem_of_getElem? (i := 52) rfl)) (hw _ (List.mem_of_getElem? (i := 11) rfl)) (hw _ (List.mem_of_getElem? (i := 55) rfl)) (hw _ (List.mem_of_getElem? (i := 54) rfl)) (hw _ (List.mem_of_getElem? (i := 53) rfl)) rfl (by decide) O_b.1 (bytes := jdk_92_method_19_code) (maxL' := 3) (M := (rs18 l Z a0 hw kx hk0 hk6 SAD pm dn SPM SDN npd b w sk y0 y1 cA _ O_b A_w ne_b_w g_b g_w OL)) rfl (lenOf pd_1 rfl) (by decide) (W := 0) (Nat.le_of_eq rfl) (by decide) (k' := 0) (n' := 0) rfl rfl (by decide) (by decide) (argsL := [(.int kx)]) (rest := []) rfl (fun v42 h41 q43 => ?_)
    obtain ⟨hq39, rfl, K40, A_w⟩ := q43
    have O_d := O_d.keep K40 (ninS ne_d_w nin0)
    have O_b := O_b.keep K40 (ninS ne_b_w nin0)
    have OL := OL.keep K40 (allS g_w all0)
    refine G.cast (st' := []) ?_ rfl
    refine g_aloadN cx d7_18 rfl rfl ?_
    refine g_dup cx d7_19 rfl ?_
    refine g_getF cx d7_20 (host := "") (Or.inl (hw _ (List.mem_of_getElem? (i := 87) rfl))) Via.refl O_d.2.2.2 ?_
    refine g_iconst cx d7_23 (v := (1 : Int32)) rfl ?_
    refine g_iadd cx d7_24 ?_
    refine g_putF cx d7_25 (host := "") (Or.inl (hw _ (List.mem_of_getElem? (i := 87) rfl))) Via.refl O_d.2.2.2 O_d.1 (Or.inl (hw _ (List.mem_of_getElem? (i := 88) rfl))) (hw _ (List.mem_of_getElem? (i := 1) rfl)) (ty := .int) (by decide) rfl rfl g_d (fun h44 W45 => ?_)
    have O_d := O_d.put3 hw W45
    have O_b := O_b.oth W45 (Ne.symm ne_d_b)
    have A_w := A_w.other W45 (Ne.symm ne_d_w)
    have OL := OL.wr W45 g_d
    refine g_aloadN cx d7_28 rfl rfl ?_
    refine g_dup cx d7_29 rfl ?_
    refine g_getF cx d7_30 (host := "") (Or.inl (hw _ (List.mem_of_getElem? (i := 48) rfl))) Via.refl O_d.2.2.1 ?_
    refine g_iconst cx d7_33 (v := (1 : Int32)) rfl ?_
    refine g_iadd cx d7_34 ?_
    refine g_putF cx d7_35 (host := "") (Or.inl (hw _ (List.mem_of_getElem? (i := 48) rfl))) Via.refl O_d.2.2.1 O_d.1 (Or.inl (hw _ (List.mem_of_getElem? (i := 49) rfl))) (hw _ (List.mem_of_getElem? (i := 1) rfl)) (ty := .int) (by decide) rfl rfl g_d (fun h46 W47 => ?_)
    have O_d := O_d.put2 hw W47
    have O_b := O_b.oth W47 (Ne.symm ne_d_b)
    have A_w := A_w.other W47 (Ne.symm ne_d_w)
    have OL := OL.wr W47 g_d
    refine g_retV cx d7_38 rfl (by decide) (by decide) ?_
    exact ⟨rfl, OL, ⟨b, w, cA, _, g_d, g_b, g_w, ne_d_b, ne_d_w, ne_b_w, O_d, Or.inr (Or.inr (Or.inr (Or.inr (Or.inl ⟨(y0 ||| ((1 : Int64) <<< (kx &&& 0x3f).toInt64)), y1, O_b, A_w⟩))))⟩⟩
  · refine g_aloadN cx d7_0 rfl rfl ?_
    refine g_getS cx d7_1 (host := "") (Or.inl (hw _ (List.mem_of_getElem? (i := 46) rfl))) Via.refl (SPM.ext OL.2) ?_
    refine g_acmp_ne cx rfl rfl d7_4 (fun q => absurd q (fun q => q rfl)) (fun hc4 => ?_)
    refine g_aloadN cx d7_7 rfl rfl ?_
    refine g_getF cx d7_8 (host := "") (Or.inl (hw _ (List.mem_of_getElem? (i := 31) rfl))) Via.refl O_d.2.1 ?_
    refine g_aloadN cx d7_11 rfl rfl ?_
    refine g_getF cx d7_12 (host := "") (Or.inl (hw _ (List.mem_of_getElem? (i := 48) rfl))) Via.refl O_d.2.2.1 ?_
    refine g_virtual cx (y := (⟨"java/util/BitSet", "set", "(I)V"⟩ : MethodName)) (z := (⟨"java/util/BitSet", "set", "(I)V"⟩ : MethodName)) (a := b) d7_15 (hw _ (List.mem_of_getElem? (i := 51) rfl)) (hw _ (List.mem_of_getElem? (i := 52) rfl)) (hw _ (List.mem_of_getElem? (i := 11) rfl)) (hw _ (List.mem_of_getElem? (i := 55) rfl)) (hw _ (List.mem_of_getElem? (i := 54) rfl)) (hw _ (List.mem_of_getElem? (i := 53) rfl)) rfl (by decide) O_b.1 (bytes := jdk_92_method_19_code) (maxL' := 3) (M := (rs20 l Z a0 hw kx hk0 hk6 SAD pm dn SPM SDN npd b w sk y0 y1 y2 cA _ O_b A_w ne_b_w g_b g_w OL)) rfl (lenOf pd_1 rfl) (by decide) (W := 0) (Nat.le_of_eq rfl) (by decide) (k' := 0) (n' := 0) rfl rfl (by decide) (by decide) (argsL := [(.int kx)]) (rest := []) rfl (fun v51 h50 q52 => ?_)
    obtain ⟨hq48, rfl, K49, O_b, A_w⟩ := q52
    have O_d := O_d.keep K49 (ninS ne_d_b (ninS ne_d_w nin0))
    have OL := OL.keep K49 (allS g_b (allS g_w all0))
    refine G.cast (st' := []) ?_ rfl
    refine g_aloadN cx d7_18 rfl rfl ?_
    refine g_dup cx d7_19 rfl ?_
    refine g_getF cx d7_20 (host := "") (Or.inl (hw _ (List.mem_of_getElem? (i := 87) rfl))) Via.refl O_d.2.2.2 ?_
    refine g_iconst cx d7_23 (v := (1 : Int32)) rfl ?_
    refine g_iadd cx d7_24 ?_
    refine g_putF cx d7_25 (host := "") (Or.inl (hw _ (List.mem_of_getElem? (i := 87) rfl))) Via.refl O_d.2.2.2 O_d.1 (Or.inl (hw _ (List.mem_of_getElem? (i := 88) rfl))) (hw _ (List.mem_of_getElem? (i := 1) rfl)) (ty := .int) (by decide) rfl rfl g_d (fun h53 W54 => ?_)
    have O_d := O_d.put3 hw W54
    have O_b := O_b.oth W54 (Ne.symm ne_d_b)
    have A_w := A_w.other W54 (Ne.symm ne_d_w)
    have OL := OL.wr W54 g_d
    refine g_aloadN cx d7_28 rfl rfl ?_
    refine g_dup cx d7_29 rfl ?_
    refine g_getF cx d7_30 (host := "") (Or.inl (hw _ (List.mem_of_getElem? (i := 48) rfl))) Via.refl O_d.2.2.1 ?_
    refine g_iconst cx d7_33 (v := (1 : Int32)) rfl ?_
    refine g_iadd cx d7_34 ?_
    refine g_putF cx d7_35 (host := "") (Or.inl (hw _ (List.mem_of_getElem? (i := 48) rfl))) Via.refl O_d.2.2.1 O_d.1 (Or.inl (hw _ (List.mem_of_getElem? (i := 49) rfl))) (hw _ (List.mem_of_getElem? (i := 1) rfl)) (ty := .int) (by decide) rfl rfl g_d (fun h55 W56 => ?_)
    have O_d := O_d.put2 hw W56
    have O_b := O_b.oth W56 (Ne.symm ne_d_b)
    have A_w := A_w.other W56 (Ne.symm ne_d_w)
    have OL := OL.wr W56 g_d
    refine g_retV cx d7_38 rfl (by decide) (by decide) ?_
    exact ⟨rfl, OL, ⟨b, w, cA, _, g_d, g_b, g_w, ne_d_b, ne_d_w, ne_b_w, O_d, Or.inr (Or.inr (Or.inr (Or.inr (Or.inr (Or.inr (Or.inl ⟨(y0 ||| ((1 : Int64) <<< (kx &&& 0x3f).toInt64)), y1, y2, O_b, A_w⟩))))))⟩⟩
  · refine g_aloadN cx d7_0 rfl rfl ?_
    refine g_getS cx d7_1 (host := "") (Or.inl (hw _ (List.mem_of_getElem? (i := 46) rfl))) Via.refl (SPM.ext OL.2) ?_
    refine g_acmp_ne cx rfl rfl d7_4 (fun q => absurd q (fun q => q rfl)) (fun hc4 => ?_)
    refine g_aloadN cx d7_7 rfl rfl ?_
    refine g_getF cx d7_8 (host := "") (Or.inl (hw _ (List.mem_of_getElem? (i := 31) rfl))) Via.refl O_d.2.1 ?_
    refine g_aloadN cx d7_11 rfl rfl ?_
    refine g_getF cx d7_12 (host := "") (Or.inl (hw _ (List.mem_of_getElem? (i := 48) rfl))) Via.refl O_d.2.2.1 ?_
    refine g_virtual cx (y := (⟨"java/util/BitSet", "set", "(I)V"⟩ : MethodName)) (z := (⟨"java/util/BitSet", "set", "(I)V"⟩ : MethodName)) (a := b) d7_15 (hw _ (List.mem_of_getElem? (i := 51) rfl)) (hw _ (List.mem_of_getElem? (i := 52) rfl)) (hw _ (List.mem_of_getElem? (i := 11) rfl)) (hw _ (List.mem_of_getElem? (i := 55) rfl)) (hw _ (List.mem_of_getElem? (i := 54) rfl)) (hw _ (List.mem_of_getElem? (i := 53) rfl)) rfl (by decide) O_b.1 (bytes := jdk_92_method_19_code) (maxL' := 3) (M := (rs24 l Z a0 hw kx hk0 hk6 SAD pm dn SPM SDN npd b w sk y0 y1 y2 cA _ O_b A_w ne_b_w g_b g_w OL)) rfl (lenOf pd_1 rfl) (by decide) (W := 0) (Nat.le_of_eq rfl) (by decide) (k' := 0) (n' := 0) rfl rfl (by decide) (by decide) (argsL := [(.int kx)]) (rest := []) rfl (fun v60 h59 q61 => ?_)
    obtain ⟨hq57, rfl, K58, A_w⟩ := q61
    have O_d := O_d.keep K58 (ninS ne_d_w nin0)
    have O_b := O_b.keep K58 (ninS ne_b_w nin0)
    have OL := OL.keep K58 (allS g_w all0)
    refine G.cast (st' := []) ?_ rfl
    refine g_aloadN cx d7_18 rfl rfl ?_
    refine g_dup cx d7_19 rfl ?_
    refine g_getF cx d7_20 (host := "") (Or.inl (hw _ (List.mem_of_getElem? (i := 87) rfl))) Via.refl O_d.2.2.2 ?_
    refine g_iconst cx d7_23 (v := (1 : Int32)) rfl ?_
    refine g_iadd cx d7_24 ?_
    refine g_putF cx d7_25 (host := "") (Or.inl (hw _ (List.mem_of_getElem? (i := 87) rfl))) Via.refl O_d.2.2.2 O_d.1 (Or.inl (hw _ (List.mem_of_getElem? (i := 88) rfl))) (hw _ (List.mem_of_getElem? (i := 1) rfl)) (ty := .int) (by decide) rfl rfl g_d (fun h62 W63 => ?_)
    have O_d := O_d.put3 hw W63
    have O_b := O_b.oth W63 (Ne.symm ne_d_b)
    have A_w := A_w.other W63 (Ne.symm ne_d_w)
    have OL := OL.wr W63 g_d
    refine g_aloadN cx d7_28 rfl rfl ?_
    refine g_dup cx d7_29 rfl ?_
    refine g_getF cx d7_30 (host := "") (Or.inl (hw _ (List.mem_of_getElem? (i := 48) rfl))) Via.refl O_d.2.2.1 ?_
    refine g_iconst cx d7_33 (v := (1 : Int32)) rfl ?_
    refine g_iadd cx d7_34 ?_
    refine g_putF cx d7_35 (host := "") (Or.inl (hw _ (List.mem_of_getElem? (i := 48) rfl))) Via.refl O_d.2.2.1 O_d.1 (Or.inl (hw _ (List.mem_of_getElem? (i := 49) rfl))) (hw _ (List.mem_of_getElem? (i := 1) rfl)) (ty := .int) (by decide) rfl rfl g_d (fun h64 W65 => ?_)
    have O_d := O_d.put2 hw W65
    have O_b := O_b.oth W65 (Ne.symm ne_d_b)
    have A_w := A_w.other W65 (Ne.symm ne_d_w)
    have OL := OL.wr W65 g_d
    refine g_retV cx d7_38 rfl (by decide) (by decide) ?_
    exact ⟨rfl, OL, ⟨b, w, cA, _, g_d, g_b, g_w, ne_d_b, ne_d_w, ne_b_w, O_d, Or.inr (Or.inr (Or.inr (Or.inr (Or.inr (Or.inr (Or.inl ⟨(y0 ||| ((1 : Int64) <<< (kx &&& 0x3f).toInt64)), y1, y2, O_b, A_w⟩))))))⟩⟩
  · refine g_aloadN cx d7_0 rfl rfl ?_
    refine g_getS cx d7_1 (host := "") (Or.inl (hw _ (List.mem_of_getElem? (i := 46) rfl))) Via.refl (SPM.ext OL.2) ?_
    refine g_acmp_ne cx rfl rfl d7_4 (fun q => absurd q (fun q => q rfl)) (fun hc4 => ?_)
    refine g_aloadN cx d7_7 rfl rfl ?_
    refine g_getF cx d7_8 (host := "") (Or.inl (hw _ (List.mem_of_getElem? (i := 31) rfl))) Via.refl O_d.2.1 ?_
    refine g_aloadN cx d7_11 rfl rfl ?_
    refine g_getF cx d7_12 (host := "") (Or.inl (hw _ (List.mem_of_getElem? (i := 48) rfl))) Via.refl O_d.2.2.1 ?_
    refine g_virtual cx (y := (⟨"java/util/BitSet", "set", "(I)V"⟩ : MethodName)) (z := (⟨"java/util/BitSet", "set", "(I)V"⟩ : MethodName)) (a := b) d7_15 (hw _ (List.mem_of_getElem? (i := 51) rfl)) (hw _ (List.mem_of_getElem? (i := 52) rfl)) (hw _ (List.mem_of_getElem? (i := 11) rfl)) (hw _ (List.mem_of_getElem? (i := 55) rfl)) (hw _ (List.mem_of_getElem? (i := 54) rfl)) (hw _ (List.mem_of_getElem? (i := 53) rfl)) rfl (by decide) O_b.1 (bytes := jdk_92_method_19_code) (maxL' := 3) (M := (rs26 l Z a0 hw kx hk0 hk6 SAD pm dn SPM SDN npd b w sk y0 y1 y2 y3 cA _ O_b A_w ne_b_w g_b g_w OL)) rfl (lenOf pd_1 rfl) (by decide) (W := 0) (Nat.le_of_eq rfl) (by decide) (k' := 0) (n' := 0) rfl rfl (by decide) (by decide) (argsL := [(.int kx)]) (rest := []) rfl (fun v69 h68 q70 => ?_)
    obtain ⟨hq66, rfl, K67, O_b, A_w⟩ := q70
    have O_d := O_d.keep K67 (ninS ne_d_b (ninS ne_d_w nin0))
    have OL := OL.keep K67 (allS g_b (allS g_w all0))
    refine G.cast (st' := []) ?_ rfl
    refine g_aloadN cx d7_18 rfl rfl ?_
    refine g_dup cx d7_19 rfl ?_
    refine g_getF cx d7_20 (host := "") (Or.inl (hw _ (List.mem_of_getElem? (i := 87) rfl))) Via.refl O_d.2.2.2 ?_
    refine g_iconst cx d7_23 (v := (1 : Int32)) rfl ?_
    refine g_iadd cx d7_24 ?_
    refine g_putF cx d7_25 (host := "") (Or.inl (hw _ (List.mem_of_getElem? (i := 87) rfl))) Via.refl O_d.2.2.2 O_d.1 (Or.inl (hw _ (List.mem_of_getElem? (i := 88) rfl))) (hw _ (List.mem_of_getElem? (i := 1) rfl)) (ty := .int) (by decide) rfl rfl g_d (fun h71 W72 => ?_)
    have O_d := O_d.put3 hw W72
    have O_b := O_b.oth W72 (Ne.symm ne_d_b)
    have A_w := A_w.other W72 (Ne.symm ne_d_w)
    have OL := OL.wr W72 g_d
    refine g_aloadN cx d7_28 rfl rfl ?_
    refine g_dup cx d7_29 rfl ?_
    refine g_getF cx d7_30 (host := "") (Or.inl (hw _ (List.mem_of_getElem? (i := 48) rfl))) Via.refl O_d.2.2.1 ?_
    refine g_iconst cx d7_33 (v := (1 : Int32)) rfl ?_
    refine g_iadd cx d7_34 ?_
    refine g_putF cx d7_35 (host := "") (Or.inl (hw _ (List.mem_of_getElem? (i := 48) rfl))) Via.refl O_d.2.2.1 O_d.1 (Or.inl (hw _ (List.mem_of_getElem? (i := 49) rfl))) (hw _ (List.mem_of_getElem? (i := 1) rfl)) (ty := .int) (by decide) rfl rfl g_d (fun h73 W74 => ?_)
    have O_d := O_d.put2 hw W74
    have O_b := O_b.oth W74 (Ne.symm ne_d_b)
    have A_w := A_w.other W74 (Ne.symm ne_d_w)
    have OL := OL.wr W74 g_d
    refine g_retV cx d7_38 rfl (by decide) (by decide) ?_
    exact ⟨rfl, OL, ⟨b, w, cA, _, g_d, g_b, g_w, ne_d_b, ne_d_w, ne_b_w, O_d, Or.inr (Or.inr (Or.inr (Or.inr (Or.inr (Or.inr (Or.inr (Or.inr (⟨(y0 ||| ((1 : Int64) <<< (kx &&& 0x3f).toInt64)), y1, y2, y3, O_b, A_w⟩))))))))⟩⟩
  · refine g_aloadN cx d7_0 rfl rfl ?_
    refine g_getS cx d7_1 (host := "") (Or.inl (hw _ (List.mem_of_getElem? (i := 46) rfl))) Via.refl (SPM.ext OL.2) ?_
    refine g_acmp_ne cx rfl rfl d7_4 (fun q => absurd q (fun q => q rfl)) (fun hc4 => ?_)
    refine g_aloadN cx d7_7 rfl rfl ?_
    refine g_getF cx d7_8 (host := "") (Or.inl (hw _ (List.mem_of_getElem? (i := 31) rfl))) Via.refl O_d.2.1 ?_
    refine g_aloadN cx d7_11 rfl rfl ?_
    refine g_getF cx d7_12 (host := "") (Or.inl (hw _ (List.mem_of_getElem? (i := 48) rfl))) Via.refl O_d.2.2.1 ?_
    refine g_virtual cx (y := (⟨"java/util/BitSet", "set", "(I)V"⟩ : MethodName)) (z := (⟨"java/util/BitSet", "set", "(I)V"⟩ : MethodName)) (a := b) d7_15 (hw _ (List.mem_of_getElem? (i := 51) rfl)) (hw _ (List.mem_of_getElem? (i := 52) rfl)) (hw _ (List.mem_of_getElem? (i := 11) rfl)) (hw _ (List.mem_of_getElem? (i := 55) rfl)) (hw _ (List.mem_of_getElem? (i := 54) rfl)) (hw _ (List.mem_of_getElem? (i := 53) rfl)) rfl (by decide) O_b.1 (bytes := jdk_92_method_19_code) (maxL' := 3) (M := (rs30 l Z a0 hw kx hk0 hk6 SAD pm dn SPM SDN npd b w sk y0 y1 y2 y3 cA _ O_b A_w ne_b_w g_b g_w OL)) rfl (lenOf pd_1 rfl) (by decide) (W := 0) (Nat.le_of_eq rfl) (by decide) (k' := 0) (n' := 0) rfl rfl (by decide) (by decide) (argsL := [(.int kx)]) (rest := []) rfl (fun v78 h77 q79 => ?_)
    obtain ⟨hq75, rfl, K76, A_w⟩ := q79
    have O_d := O_d.keep K76 (ninS ne_d_w nin0)
    have O_b := O_b.keep K76 (ninS ne_b_w nin0)
    have OL := OL.keep K76 (allS g_w all0)
    refine G.cast (st' := []) ?_ rfl
    refine g_aloadN cx d7_18 rfl rfl ?_
    refine g_dup cx d7_19 rfl ?_
    refine g_getF cx d7_20 (host := "") (Or.inl (hw _ (List.mem_of_getElem? (i := 87) rfl))) Via.refl O_d.2.2.2 ?_
    refine g_iconst cx d7_23 (v := (1 : Int32)) rfl ?_
    refine g_iadd cx d7_24 ?_
    refine g_putF cx d7_25 (host := "") (Or.inl (hw _ (List.mem_of_getElem? (i := 87) rfl))) Via.refl O_d.2.2.2 O_d.1 (Or.inl (hw _ (List.mem_of_getElem? (i := 88) rfl))) (hw _ (List.mem_of_getElem? (i := 1) rfl)) (ty := .int) (by decide) rfl rfl g_d (fun h80 W81 => ?_)
    have O_d := O_d.put3 hw W81
    have O_b := O_b.oth W81 (Ne.symm ne_d_b)
    have A_w := A_w.other W81 (Ne.symm ne_d_w)
    have OL := OL.wr W81 g_d
    refine g_aloadN cx d7_28 rfl rfl ?_
    refine g_dup cx d7_29 rfl ?_
    refine g_getF cx d7_30 (host := "") (Or.inl (hw _ (List.mem_of_getElem? (i := 48) rfl))) Via.refl O_d.2.2.1 ?_
    refine g_iconst cx d7_33 (v := (1 : Int32)) rfl ?_
    refine g_iadd cx d7_34 ?_
    refine g_putF cx d7_35 (host := "") (Or.inl (hw _ (List.mem_of_getElem? (i := 48) rfl))) Via.refl O_d.2.2.1 O_d.1 (Or.inl (hw _ (List.mem_of_getElem? (i := 49) rfl))) (hw _ (List.mem_of_getElem? (i := 1) rfl)) (ty := .int) (by decide) rfl rfl g_d (fun h82 W83 => ?_)
    have O_d := O_d.put2 hw W83
    have O_b := O_b.oth W83 (Ne.symm ne_d_b)
    have A_w := A_w.other W83 (Ne.symm ne_d_w)
    have OL := OL.wr W83 g_d
    refine g_retV cx d7_38 rfl (by decide) (by decide) ?_
    exact ⟨rfl, OL, ⟨b, w, cA, _, g_d, g_b, g_w, ne_d_b, ne_d_w, ne_b_w, O_d, Or.inr (Or.inr (Or.inr (Or.inr (Or.inr (Or.inr (Or.inr (Or.inr (⟨(y0 ||| ((1 : Int64) <<< (kx &&& 0x3f).toInt64)), y1, y2, y3, O_b, A_w⟩))))))))⟩⟩
theorem pn_rmaD : plainName "com/example/dyn_authz/dynauthz/service/Decisions" = true := by first | (simp [plainName, overriddenIn]; done) | decide +kernel
set_option maxRecDepth 65536 in
set_option maxHeartbeats 40000000 in
theorem rmaD (l : Launch) (Z : State) (a0 : Array Value) (hw : ∀ d ∈ tables_1, d.before a0 Z = true) (kx : Int32) (hk0 : ¬ kx < (0 : Int32)) (hk6 : (kx >>> ((6 : Int32) &&& 31)) = 0) (SAD : Sta Z Z.heap "java/util/BitSet" "$assertionsDisabled" "Z" (.int (1 : Int32))) (pm dn : Addr) (SPM : Sta Z Z.heap "com/example/dyn_authz/dynauthz/policy/Decision" "PERMIT" "Lcom/example/dyn_authz/dynauthz/policy/Decision;" (.ref pm)) (SDN : Sta Z Z.heap "com/example/dyn_authz/dynauthz/policy/Decision" "DENY" "Lcom/example/dyn_authz/dynauthz/policy/Decision;" (.ref dn)) (npd : pm ≠ dn) (d : Addr) (pp : Int32) (h0 : Heap) (DD : own_D Z h0 d kx pp) (OL : Old Z Z.heap.size h0) :
    Met l Z (⟨"com/example/dyn_authz/dynauthz/service/Decisions", "add", "(Lcom/example/dyn_authz/dynauthz/policy/Decision;)V"⟩ : MethodName) prog_43_method_3_code 2 none ({ frames := 0, cells := 0, slots := 0, locals := 0 } : Room) #[(.ref d), (.ref dn)] h0 (fun v h' => v = none ∧ Old Z Z.heap.size h' ∧ own_D Z h' d (kx + (1 : Int32)) pp) := by
  refine met_of (Ls := #[.val (.ref d), .val (.ref dn)]) (plainFor_of_name pn_rmaD) (fun m => by first | (simp [entryFrame, mkF, argsToLocals, Value.category]; done) | rfl) (fun p e s m below meth c cx => ?_)
  obtain ⟨b, w, cA, sk, g_d, g_b, g_w, ne_d_b, ne_d_w, ne_b_w, O_d, ⟨O_b, A_w⟩ | ⟨y0, O_b, A_w⟩ | ⟨y0, O_b, A_w⟩ | ⟨y0, y1, O_b, A_w⟩ | ⟨y0, y1, O_b, A_w⟩ | ⟨y0, y1, y2, O_b, A_w⟩ | ⟨y0, y1, y2, O_b, A_w⟩ | ⟨y0, y1, y2, y3, O_b, A_w⟩ | ⟨y0, y1, y2, y3, O_b, A_w⟩⟩ := DD
  · refine g_aloadN cx d7_0 rfl rfl ?_
    refine g_getS cx d7_1 (host := "") (Or.inl (hw _ (List.mem_of_getElem? (i := 46) rfl))) Via.refl (SPM.ext OL.2) ?_
    refine g_acmp_ne cx rfl rfl d7_4 (fun hc4 => ?_) (fun q => absurd q (fun q => npd (by cases q; rfl)))
    refine g_aloadN cx d7_28 rfl rfl ?_
    refine g_dup cx d7_29 rfl ?_
    refine g_getF cx d7_30 (host := "") (Or.inl (hw _ (List.mem_of_getElem? (i := 48) rfl))) Via.refl O_d.2.2.1 ?_
    refine g_iconst cx d7_33 (v := (1 : Int32)) rfl ?_
    refine g_iadd cx d7_34 ?_
    refine g_putF cx d7_35 (host := "") (Or.inl (hw _ (List.mem_of_getElem? (i := 48) rfl))) Via.refl O_d.2.2.1 O_d.1 (Or.inl (hw _ (List.mem_of_getElem? (i := 49) rfl))) (hw _ (List.mem_of_getElem? (i := 1) rfl)) (ty := .int) (by decide) rfl rfl g_d (fun h1 W2 => ?_)
    have O_d := O_d.put2 hw W2
    have O_b := O_b.oth W2 (Ne.symm ne_d_b)
    have A_w := A_w.other W2 (Ne.symm ne_d_w)
    have OL := OL.wr W2 g_d
    refine g_retV cx d7_38 rfl (by decide) (by decide) ?_
    exact ⟨rfl, OL, ⟨b, w, cA, _, g_d, g_b, g_w, ne_d_b, ne_d_w, ne_b_w, O_d, Or.inl ⟨O_b, A_w⟩⟩⟩
  · refine g_aloadN cx d7_0 rfl rfl ?_
    refine g_getS cx d7_1 (host := "") (Or.inl (hw _ (List.mem_of_getElem? (i := 46) rfl))) Via.refl (SPM.ext OL.2) ?_
    refine g_acmp_ne cx rfl rfl d7_4 (fun hc4 => ?_) (fun q => absurd q (fun q => npd (by cases q; rfl)))
    refine g_aloadN cx d7_28 rfl rfl ?_
    refine g_dup cx d7_29 rfl ?_
    refine g_getF cx d7_30 (host := "") (Or.inl (hw _ (List.mem_of_getElem? (i := 48) rfl))) Via.refl O_d.2.2.1 ?_
    refine g_iconst cx d7_33 (v := (1 : Int32)) rfl ?_
    refine g_iadd cx d7_34 ?_
    refine g_putF cx d7_35 (host := "") (Or.inl (hw _ (List.mem_of_getElem? (i := 48) rfl))) Via.refl O_d.2.2.1 O_d.1 (Or.inl (hw _ (List.mem_of_getElem? (i := 49) rfl))) (hw _ (List.mem_of_getElem? (i := 1) rfl)) (ty := .int) (by decide) rfl rfl g_d (fun h3 W4 => ?_)
    have O_d := O_d.put2 hw W4
    have O_b := O_b.oth W4 (Ne.symm ne_d_b)
    have A_w := A_w.other W4 (Ne.symm ne_d_w)
    have OL := OL.wr W4 g_d
    refine g_retV cx d7_38 rfl (by decide) (by decide) ?_
    exact ⟨rfl, OL, ⟨b, w, cA, _, g_d, g_b, g_w, ne_d_b, ne_d_w, ne_b_w, O_d, Or.inr (Or.inl ⟨y0, O_b, A_w⟩)⟩⟩
  · refine g_aloadN cx d7_0 rfl rfl ?_
    refine g_getS cx d7_1 (host := "") (Or.inl (hw _ (List.mem_of_getElem? (i := 46) rfl))) Via.refl (SPM.ext OL.2) ?_
    refine g_acmp_ne cx rfl rfl d7_4 (fun hc4 => ?_) (fun q => absurd q (fun q => npd (by cases q; rfl)))
    refine g_aloadN cx d7_28 rfl rfl ?_
    refine g_dup cx d7_29 rfl ?_
    refine g_getF cx d7_30 (host := "") (Or.inl (hw _ (List.mem_of_getElem? (i := 48) rfl))) Via.refl O_d.2.2.1 ?_
    refine g_iconst cx d7_33 (v := (1 : Int32)) rfl ?_
    refine g_iadd cx d7_34 ?_
    refine g_putF cx d7_35 (host := "") (Or.inl (hw _ (List.mem_of_getElem? (i := 48) rfl))) Via.refl O_d.2.2.1 O_d.1 (Or.inl (hw _ (List.mem_of_getElem? (i := 49) rfl))) (hw _ (List.mem_of_getElem? (i := 1) rfl)) (ty := .int) (by decide) rfl rfl g_d (fun h5 W6 => ?_)
    have O_d := O_d.put2 hw W6
    have O_b := O_b.oth W6 (Ne.symm ne_d_b)
    have A_w := A_w.other W6 (Ne.symm ne_d_w)
    have OL := OL.wr W6 g_d
    refine g_retV cx d7_38 rfl (by decide) (by decide) ?_
    exact ⟨rfl, OL, ⟨b, w, cA, _, g_d, g_b, g_w, ne_d_b, ne_d_w, ne_b_w, O_d, Or.inr (Or.inr (Or.inl ⟨y0, O_b, A_w⟩))⟩⟩
  · refine g_aloadN cx d7_0 rfl rfl ?_
    refine g_getS cx d7_1 (host := "") (Or.inl (hw _ (List.mem_of_getElem? (i := 46) rfl))) Via.refl (SPM.ext OL.2) ?_
    refine g_acmp_ne cx rfl rfl d7_4 (fun hc4 => ?_) (fun q => absurd q (fun q => npd (by cases q; rfl)))
    refine g_aloadN cx d7_28 rfl rfl ?_
    refine g_dup cx d7_29 rfl ?_
    refine g_getF cx d7_30 (host := "") (Or.inl (hw _ (List.mem_of_getElem? (i := 48) rfl))) Via.refl O_d.2.2.1 ?_
    refine g_iconst cx d7_33 (v := (1 : Int32)) rfl ?_
    refine g_iadd cx d7_34 ?_
    refine g_putF cx d7_35 (host := "") (Or.inl (hw _ (List.mem_of_getElem? (i := 48) rfl))) Via.refl O_d.2.2.1 O_d.1 (Or.inl (hw _ (List.mem_of_getElem? (i := 49) rfl))) (hw _ (List.mem_of_getElem? (i := 1) rfl)) (ty := .int) (by decide) rfl rfl g_d (fun h7 W8 => ?_)
    have O_d := O_d.put2 hw W8
    have O_b := O_b.oth W8 (Ne.symm ne_d_b)
    have A_w := A_w.other W8 (Ne.symm ne_d_w)
    have OL := OL.wr W8 g_d
    refine g_retV cx d7_38 rfl (by decide) (by decide) ?_
    exact ⟨rfl, OL, ⟨b, w, cA, _, g_d, g_b, g_w, ne_d_b, ne_d_w, ne_b_w, O_d, Or.inr (Or.inr (Or.inr (Or.inl ⟨y0, y1, O_b, A_w⟩)))⟩⟩
  · refine g_aloadN cx d7_0 rfl rfl ?_
    refine g_getS cx d7_1 (host := "") (Or.inl (hw _ (List.mem_of_getElem? (i := 46) rfl))) Via.refl (SPM.ext OL.2) ?_
    refine g_acmp_ne cx rfl rfl d7_4 (fun hc4 => ?_) (fun q => absurd q (fun q => npd (by cases q; rfl)))
    refine g_aloadN cx d7_28 rfl rfl ?_
    refine g_dup cx d7_29 rfl ?_
    refine g_getF cx d7_30 (host := "") (Or.inl (hw _ (List.mem_of_getElem? (i := 48) rfl))) Via.refl O_d.2.2.1 ?_
    refine g_iconst cx d7_33 (v := (1 : Int32)) rfl ?_
    refine g_iadd cx d7_34 ?_
    refine g_putF cx d7_35 (host := "") (Or.inl (hw _ (List.mem_of_getElem? (i := 48) rfl))) Via.refl O_d.2.2.1 O_d.1 (Or.inl (hw _ (List.mem_of_getElem? (i := 49) rfl))) (hw _ (List.mem_of_getElem? (i := 1) rfl)) (ty := .int) (by decide) rfl rfl g_d (fun h9 W10 => ?_)
    have O_d := O_d.put2 hw W10
    have O_b := O_b.oth W10 (Ne.symm ne_d_b)
    have A_w := A_w.other W10 (Ne.symm ne_d_w)
    have OL := OL.wr W10 g_d
    refine g_retV cx d7_38 rfl (by decide) (by decide) ?_
    exact ⟨rfl, OL, ⟨b, w, cA, _, g_d, g_b, g_w, ne_d_b, ne_d_w, ne_b_w, O_d, Or.inr (Or.inr (Or.inr (Or.inr (Or.inl ⟨y0, y1, O_b, A_w⟩))))⟩⟩
  · refine g_aloadN cx d7_0 rfl rfl ?_
    refine g_getS cx d7_1 (host := "") (Or.inl (hw _ (List.mem_of_getElem? (i := 46) rfl))) Via.refl (SPM.ext OL.2) ?_
    refine g_acmp_ne cx rfl rfl d7_4 (fun hc4 => ?_) (fun q => absurd q (fun q => npd (by cases q; rfl)))
    refine g_aloadN cx d7_28 rfl rfl ?_
    refine g_dup cx d7_29 rfl ?_
    refine g_getF cx d7_30 (host := "") (Or.inl (hw _ (List.mem_of_getElem? (i := 48) rfl))) Via.refl O_d.2.2.1 ?_
    refine g_iconst cx d7_33 (v := (1 : Int32)) rfl ?_
    refine g_iadd cx d7_34 ?_
    refine g_putF cx d7_35 (host := "") (Or.inl (hw _ (List.mem_of_getElem? (i := 48) rfl))) Via.refl O_d.2.2.1 O_d.1 (Or.inl (hw _ (List.mem_of_getElem? (i := 49) rfl))) (hw _ (List.mem_of_getElem? (i := 1) rfl)) (ty := .int) (by decide) rfl rfl g_d (fun h11 W12 => ?_)
    have O_d := O_d.put2 hw W12
    have O_b := O_b.oth W12 (Ne.symm ne_d_b)
    have A_w := A_w.other W12 (Ne.symm ne_d_w)
    have OL := OL.wr W12 g_d
    refine g_retV cx d7_38 rfl (by decide) (by decide) ?_
    exact ⟨rfl, OL, ⟨b, w, cA, _, g_d, g_b, g_w, ne_d_b, ne_d_w, ne_b_w, O_d, Or.inr (Or.inr (Or.inr (Or.inr (Or.inr (Or.inl ⟨y0, y1, y2, O_b, A_w⟩)))))⟩⟩
  · refine g_aloadN cx d7_0 rfl rfl ?_
    refine g_getS cx d7_1 (host := "") (Or.inl (hw _ (List.mem_of_getElem? (i := 46) rfl))) Via.refl (SPM.ext OL.2) ?_
    refine g_acmp_ne cx rfl rfl d7_4 (fun hc4 => ?_) (fun q => absurd q (fun q => npd (by cases q; rfl)))
    refine g_aloadN cx d7_28 rfl rfl ?_
    refine g_dup cx d7_29 rfl ?_
    refine g_getF cx d7_30 (host := "") (Or.inl (hw _ (List.mem_of_getElem? (i := 48) rfl))) Via.refl O_d.2.2.1 ?_
    refine g_iconst cx d7_33 (v := (1 : Int32)) rfl ?_
    refine g_iadd cx d7_34 ?_
    refine g_putF cx d7_35 (host := "") (Or.inl (hw _ (List.mem_of_getElem? (i := 48) rfl))) Via.refl O_d.2.2.1 O_d.1 (Or.inl (hw _ (List.mem_of_getElem? (i := 49) rfl))) (hw _ (List.mem_of_getElem? (i := 1) rfl)) (ty := .int) (by decide) rfl rfl g_d (fun h13 W14 => ?_)
    have O_d := O_d.put2 hw W14
    have O_b := O_b.oth W14 (Ne.symm ne_d_b)
    have A_w := A_w.other W14 (Ne.symm ne_d_w)
    have OL := OL.wr W14 g_d
    refine g_retV cx d7_38 rfl (by decide) (by decide) ?_
    exact ⟨rfl, OL, ⟨b, w, cA, _, g_d, g_b, g_w, ne_d_b, ne_d_w, ne_b_w, O_d, Or.inr (Or.inr (Or.inr (Or.inr (Or.inr (Or.inr (Or.inl ⟨y0, y1, y2, O_b, A_w⟩))))))⟩⟩
  · refine g_aloadN cx d7_0 rfl rfl ?_
    refine g_getS cx d7_1 (host := "") (Or.inl (hw _ (List.mem_of_getElem? (i := 46) rfl))) Via.refl (SPM.ext OL.2) ?_
    refine g_acmp_ne cx rfl rfl d7_4 (fun hc4 => ?_) (fun q => absurd q (fun q => npd (by cases q; rfl)))
    refine g_aloadN cx d7_28 rfl rfl ?_
    refine g_dup cx d7_29 rfl ?_
    refine g_getF cx d7_30 (host := "") (Or.inl (hw _ (List.mem_of_getElem? (i := 48) rfl))) Via.refl O_d.2.2.1 ?_
    refine g_iconst cx d7_33 (v := (1 : Int32)) rfl ?_
    refine g_iadd cx d7_34 ?_
    refine g_putF cx d7_35 (host := "") (Or.inl (hw _ (List.mem_of_getElem? (i := 48) rfl))) Via.refl O_d.2.2.1 O_d.1 (Or.inl (hw _ (List.mem_of_getElem? (i := 49) rfl))) (hw _ (List.mem_of_getElem? (i := 1) rfl)) (ty := .int) (by decide) rfl rfl g_d (fun h15 W16 => ?_)
    have O_d := O_d.put2 hw W16
    have O_b := O_b.oth W16 (Ne.symm ne_d_b)
    have A_w := A_w.other W16 (Ne.symm ne_d_w)
    have OL := OL.wr W16 g_d
    refine g_retV cx d7_38 rfl (by decide) (by decide) ?_
    exact ⟨rfl, OL, ⟨b, w, cA, _, g_d, g_b, g_w, ne_d_b, ne_d_w, ne_b_w, O_d, Or.inr (Or.inr (Or.inr (Or.inr (Or.inr (Or.inr (Or.inr (Or.inl ⟨y0, y1, y2, y3, O_b, A_w⟩)))))))⟩⟩
  · refine g_aloadN cx d7_0 rfl rfl ?_
    refine g_getS cx d7_1 (host := "") (Or.inl (hw _ (List.mem_of_getElem? (i := 46) rfl))) Via.refl (SPM.ext OL.2) ?_
    refine g_acmp_ne cx rfl rfl d7_4 (fun hc4 => ?_) (fun q => absurd q (fun q => npd (by cases q; rfl)))
    refine g_aloadN cx d7_28 rfl rfl ?_
    refine g_dup cx d7_29 rfl ?_
    refine g_getF cx d7_30 (host := "") (Or.inl (hw _ (List.mem_of_getElem? (i := 48) rfl))) Via.refl O_d.2.2.1 ?_
    refine g_iconst cx d7_33 (v := (1 : Int32)) rfl ?_
    refine g_iadd cx d7_34 ?_
    refine g_putF cx d7_35 (host := "") (Or.inl (hw _ (List.mem_of_getElem? (i := 48) rfl))) Via.refl O_d.2.2.1 O_d.1 (Or.inl (hw _ (List.mem_of_getElem? (i := 49) rfl))) (hw _ (List.mem_of_getElem? (i := 1) rfl)) (ty := .int) (by decide) rfl rfl g_d (fun h17 W18 => ?_)
    have O_d := O_d.put2 hw W18
    have O_b := O_b.oth W18 (Ne.symm ne_d_b)
    have A_w := A_w.other W18 (Ne.symm ne_d_w)
    have OL := OL.wr W18 g_d
    refine g_retV cx d7_38 rfl (by decide) (by decide) ?_
    exact ⟨rfl, OL, ⟨b, w, cA, _, g_d, g_b, g_w, ne_d_b, ne_d_w, ne_b_w, O_d, Or.inr (Or.inr (Or.inr (Or.inr (Or.inr (Or.inr (Or.inr (Or.inr (⟨y0, y1, y2, y3, O_b, A_w⟩))))))))⟩⟩
theorem d6_0 : Dc method_2_code 0 (.aload_n 0) 1 1 := ⟨by decide +kernel, rfl⟩
theorem d6_1 : Dc method_2_code 1 (.iload_n 1) 1 2 := ⟨by decide +kernel, rfl⟩
theorem d6_2 : Bi method_2_code 2 (Instr.ifCond .eq) 11 5 := ⟨9, by decide +kernel, by decide, by decide, rfl⟩
theorem d6_11 : Dc method_2_code 11 (.getstatic 13) 3 14 := ⟨by decide +kernel, rfl⟩
theorem pd_5 : parseMethodDescriptor "(Lcom/example/dyn_authz/dynauthz/policy/Decision;)V" = some ⟨[(.object "com/example/dyn_authz/dynauthz/policy/Decision")], none⟩ := by decide +kernel
theorem d6_14 : Dc method_2_code 14 (.invokevirtual 16) 3 17 := ⟨by decide +kernel, rfl⟩
theorem d6_17 : Dc method_2_code 17 (.iload_n 1) 1 18 := ⟨by decide +kernel, rfl⟩
theorem d6_18 : Bi method_2_code 18 (Instr.ifCond .eq) 27 21 := ⟨9, by decide +kernel, by decide, by decide, rfl⟩
theorem d6_27 : Dc method_2_code 27 (.ldc2_w 24) 3 30 := ⟨by decide +kernel, rfl⟩
theorem d6_30 : Dc method_2_code 30 (.lstore_n 3) 1 31 := ⟨by decide +kernel, rfl⟩
theorem d6_31 : Dc method_2_code 31 (.iload_n 2) 1 32 := ⟨by decide +kernel, rfl⟩
theorem d6_32 : Bi method_2_code 32 (Instr.ifCond .ne) 39 35 := ⟨7, by decide +kernel, by decide, by decide, rfl⟩
theorem d6_39 : Dc method_2_code 39 (.lload_n 3) 1 40 := ⟨by decide +kernel, rfl⟩
theorem d6_40 : Dc method_2_code 40 (.lreturn) 1 41 := ⟨by decide +kernel, rfl⟩
theorem d6_35 : Dc method_2_code 35 (.lload_n 3) 1 36 := ⟨by decide +kernel, rfl⟩
theorem d6_36 : Dc method_2_code 36 (.lconst 1) 1 37 := ⟨by decide +kernel, rfl⟩
theorem d6_37 : Dc method_2_code 37 (.ladd) 1 38 := ⟨by decide +kernel, rfl⟩
theorem d6_38 : Dc method_2_code 38 (.lstore_n 3) 1 39 := ⟨by decide +kernel, rfl⟩
theorem d6_5 : Dc method_2_code 5 (.getstatic 7) 3 8 := ⟨by decide +kernel, rfl⟩
theorem d6_8 : Bi method_2_code 8 (Instr.goto) 14 11 := ⟨6, by decide +kernel, by decide, by decide, rfl⟩
theorem d6_21 : Dc method_2_code 21 (.ldc2_w 22) 3 24 := ⟨by decide +kernel, rfl⟩
theorem d6_24 : Bi method_2_code 24 (Instr.goto) 30 27 := ⟨6, by decide +kernel, by decide, by decide, rfl⟩
theorem pn_rmo : plainName "com/example/dyn_authz/dynauthz/service/DecisionsLengthPinLaw" = true := by first | (simp [plainName, overriddenIn]; done) | decide +kernel
set_option maxRecDepth 65536 in
set_option maxHeartbeats 40000000 in
theorem rmo (l : Launch) (Z : State) (a0 : Array Value) (hw : ∀ d ∈ tables_1, d.before a0 Z = true) (kx : Int32) (hk0 : ¬ kx < (0 : Int32)) (hk6 : (kx >>> ((6 : Int32) &&& 31)) = 0) (SAD : Sta Z Z.heap "java/util/BitSet" "$assertionsDisabled" "Z" (.int (1 : Int32))) (pm dn : Addr) (SPM : Sta Z Z.heap "com/example/dyn_authz/dynauthz/policy/Decision" "PERMIT" "Lcom/example/dyn_authz/dynauthz/policy/Decision;" (.ref pm)) (SDN : Sta Z Z.heap "com/example/dyn_authz/dynauthz/policy/Decision" "DENY" "Lcom/example/dyn_authz/dynauthz/policy/Decision;" (.ref dn)) (npd : pm ≠ dn) (d : Addr) (pp perm frst : Int32) (h0 : Heap) (DD : own_D Z h0 d kx pp) (OL : Old Z Z.heap.size h0) :
    Met l Z (⟨"com/example/dyn_authz/dynauthz/service/DecisionsLengthPinLaw", "addOne", "(Lcom/example/dyn_authz/dynauthz/service/Decisions;ZZ)J"⟩ : MethodName) method_2_code 5 (some .long) ({ frames := 6, cells := 1, slots := 1, locals := 88 } : Room) #[(.ref d), (.int perm), (.int frst)] h0 (fun v h' => v = some (.long (own_len perm frst)) ∧ Old Z Z.heap.size h' ∧ own_D Z h' d (kx + (1 : Int32)) (pp + own_nz perm)) := by
  refine met_of (Ls := #[.val (.ref d), .val (.int perm), .val (.int frst), .unset, .unset]) (plainFor_of_name pn_rmo) (fun m => by first | (simp [entryFrame, mkF, argsToLocals, Value.category]; done) | rfl) (fun p e s m below meth c cx => ?_)
  have O_d := own_Dx DD
  refine g_aloadN cx d6_0 rfl rfl ?_
  refine g_iloadN cx d6_1 rfl ?_
  refine g_if_eq cx d6_2 (fun hc2 => ?_) (fun hc2 => ?_)
  · refine g_getS cx d6_11 (host := "") (Or.inl (hw _ (List.mem_of_getElem? (i := 38) rfl))) Via.refl (SDN.ext OL.2) ?_
    refine g_virtual cx (y := (⟨"com/example/dyn_authz/dynauthz/service/Decisions", "add", "(Lcom/example/dyn_authz/dynauthz/policy/Decision;)V"⟩ : MethodName)) (z := (⟨"com/example/dyn_authz/dynauthz/service/Decisions", "add", "(Lcom/example/dyn_authz/dynauthz/policy/Decision;)V"⟩ : MethodName)) (a := d) d6_14 (hw _ (List.mem_of_getElem? (i := 41) rfl)) (hw _ (List.mem_of_getElem? (i := 42) rfl)) (hw _ (List.mem_of_getElem? (i := 2) rfl)) (hw _ (List.mem_of_getElem? (i := 45) rfl)) (hw _ (List.mem_of_getElem? (i := 44) rfl)) (hw _ (List.mem_of_getElem? (i := 43) rfl)) rfl (by decide) O_d.1 (bytes := prog_43_method_3_code) (maxL' := 2) (M := (rmaD l Z a0 hw kx hk0 hk6 SAD pm dn SPM SDN npd d pp _ DD OL)) rfl (lenOf pd_5 rfl) (by decide) (W := 0) (Nat.le_of_eq rfl) (by decide) (k' := 0) (n' := 0) rfl rfl (by decide) (by decide) (argsL := [(.ref dn)]) (rest := []) rfl (fun v2 h1 q3 => ?_)
    obtain ⟨rfl, OL, DD⟩ := q3
    have O_d := own_Dx DD
    refine G.cast (st' := []) ?_ rfl
    refine g_iloadN cx d6_17 rfl ?_
    refine g_if_eq cx d6_18 (fun hc18 => ?_) (fun q => absurd q (fun q => q hc2))
    refine g_ldcJ cx d6_27 (hw _ (List.mem_of_getElem? (i := 33) rfl)) ?_
    refine g_lstoreN cx d6_30 (Ls' := #[.val (.ref d), .val (.int perm), .val (.int frst), .val (.long (18 : Int64)), .second]) rfl ?_
    refine g_iloadN cx d6_31 rfl ?_
    refine g_if_ne cx d6_32 (fun hc32 => ?_) (fun hc32 => ?_)
    · refine g_lloadN cx d6_39 rfl ?_
      refine g_retJ cx d6_40 rfl (by decide) (by decide) ?_
      refine ⟨by simp [own_len, hc2, hc32], OL, ?_⟩
      rw [show own_nz perm = 0 from if_pos hc2]
      rw [Int32.add_zero]
      exact DD
    · refine g_lloadN cx d6_35 rfl ?_
      refine g_lconst cx d6_36 (v := (1 : Int64)) rfl ?_
      refine g_ladd cx d6_37 ?_
      refine G.cast (st' := [(.long (19 : Int64))]) ?_ rfl
      refine g_lstoreN cx d6_38 (Ls' := #[.val (.ref d), .val (.int perm), .val (.int frst), .val (.long (19 : Int64)), .second]) rfl ?_
      refine g_lloadN cx d6_39 rfl ?_
      refine g_retJ cx d6_40 rfl (by decide) (by decide) ?_
      refine ⟨by simp [own_len, hc2, hc32], OL, ?_⟩
      rw [show own_nz perm = 0 from if_pos hc2]
      rw [Int32.add_zero]
      exact DD
  · refine g_getS cx d6_5 (host := "") (Or.inl (hw _ (List.mem_of_getElem? (i := 50) rfl))) Via.refl (SPM.ext OL.2) ?_
    refine g_goto cx d6_8 ?_
    refine g_virtual cx (y := (⟨"com/example/dyn_authz/dynauthz/service/Decisions", "add", "(Lcom/example/dyn_authz/dynauthz/policy/Decision;)V"⟩ : MethodName)) (z := (⟨"com/example/dyn_authz/dynauthz/service/Decisions", "add", "(Lcom/example/dyn_authz/dynauthz/policy/Decision;)V"⟩ : MethodName)) (a := d) d6_14 (hw _ (List.mem_of_getElem? (i := 41) rfl)) (hw _ (List.mem_of_getElem? (i := 42) rfl)) (hw _ (List.mem_of_getElem? (i := 2) rfl)) (hw _ (List.mem_of_getElem? (i := 45) rfl)) (hw _ (List.mem_of_getElem? (i := 44) rfl)) (hw _ (List.mem_of_getElem? (i := 43) rfl)) rfl (by decide) O_d.1 (bytes := prog_43_method_3_code) (maxL' := 2) (M := (rmaP l Z a0 hw kx hk0 hk6 SAD pm dn SPM SDN npd d pp _ DD OL)) rfl (lenOf pd_5 rfl) (by decide) (W := 0) (Nat.le_of_eq rfl) (by decide) (k' := 1) (n' := 1) rfl rfl (by decide) (by decide) (argsL := [(.ref pm)]) (rest := []) rfl (fun v5 h4 q6 => ?_)
    obtain ⟨rfl, OL, DD⟩ := q6
    have O_d := own_Dx DD
    refine G.cast (st' := []) ?_ rfl
    refine g_iloadN cx d6_17 rfl ?_
    refine g_if_eq cx d6_18 (fun q => absurd q (fun q => hc2 q)) (fun hc18 => ?_)
    refine g_ldcJ cx d6_21 (hw _ (List.mem_of_getElem? (i := 89) rfl)) ?_
    refine g_goto cx d6_24 ?_
    refine g_lstoreN cx d6_30 (Ls' := #[.val (.ref d), .val (.int perm), .val (.int frst), .val (.long (17 : Int64)), .second]) rfl ?_
    refine g_iloadN cx d6_31 rfl ?_
    refine g_if_ne cx d6_32 (fun hc32 => ?_) (fun hc32 => ?_)
    · refine g_lloadN cx d6_39 rfl ?_
      refine g_retJ cx d6_40 rfl (by decide) (by decide) ?_
      refine ⟨by simp [own_len, hc2, hc32], OL, ?_⟩
      rw [show own_nz perm = 1 from if_neg hc2]
      exact DD
    · refine g_lloadN cx d6_35 rfl ?_
      refine g_lconst cx d6_36 (v := (1 : Int64)) rfl ?_
      refine g_ladd cx d6_37 ?_
      refine G.cast (st' := [(.long (18 : Int64))]) ?_ rfl
      refine g_lstoreN cx d6_38 (Ls' := #[.val (.ref d), .val (.int perm), .val (.int frst), .val (.long (18 : Int64)), .second]) rfl ?_
      refine g_lloadN cx d6_39 rfl ?_
      refine g_retJ cx d6_40 rfl (by decide) (by decide) ?_
      refine ⟨by simp [own_len, hc2, hc32], OL, ?_⟩
      rw [show own_nz perm = 1 from if_neg hc2]
      exact DD
def own_mx (x y : Int32) : Int32 := if x < y then y else x
theorem own_mx_t (u v : Int32) : (u.toInt < v.toInt → (own_mx u v).toInt = v.toInt) ∧ (¬ u.toInt < v.toInt → (own_mx u v).toInt = u.toInt) := by
  unfold own_mx; rw [← Int32.lt_iff_toInt_lt]; by_cases q : u < v <;> simp [q]
theorem d11_5 : Dc jdk_29_method_65_code 5 (.iload_n 0) 1 6 := ⟨by decide +kernel, rfl⟩
theorem d11_6 : Bi jdk_29_method_65_code 6 (Instr.goto) 10 9 := ⟨4, by decide +kernel, by decide, by decide, rfl⟩
set_option maxRecDepth 65536 in
set_option maxHeartbeats 40000000 in
theorem rmx (l : Launch) (Z : State) (a0 : Array Value) (hw : ∀ d ∈ tables_1, d.before a0 Z = true) (u v : Int32) (h0 : Heap) :
    Met l Z (⟨"java/lang/Math", "max", "(II)I"⟩ : MethodName) jdk_29_method_65_code 2 (some .int) ({ frames := 0, cells := 0, slots := 0, locals := 0 } : Room) #[(.int u), (.int v)] h0 (fun r h' => r = some (.int (own_mx u v)) ∧ h0 = h') := by
  refine met_of (Ls := #[.val (.int u), .val (.int v)]) (Jvm.Free.JP.mathPlain rfl (by decide +kernel)) (fun m => by first | (simp [entryFrame, mkF, argsToLocals, Value.category]; done) | rfl) (fun p e s m below meth c cx => ?_)
  refine g_iloadN cx d11_0 rfl ?_
  refine g_iloadN cx d11_1 rfl ?_
  refine g_icmp_lt cx d11_2 (fun hc2 => ?_) (fun hc2 => ?_)
  · refine g_iloadN cx d11_9 rfl ?_
    refine g_retI cx d11_10 rfl (by decide) (by decide) ?_
    exact ⟨by simp [own_mx, hc2], rfl⟩
  · refine g_iloadN cx d11_5 rfl ?_
    refine g_goto cx d11_6 ?_
    refine g_retI cx d11_10 rfl (by decide) (by decide) ?_
    exact ⟨by simp [own_mx, hc2], rfl⟩
theorem d15_0 : Dc prog_43_method_4_code 0 (.aload_n 0) 1 1 := ⟨by decide +kernel, rfl⟩
theorem d15_1 : Dc prog_43_method_4_code 1 (.getfield 35) 3 4 := ⟨by decide +kernel, rfl⟩
theorem d15_4 : Dc prog_43_method_4_code 4 (.i2l) 1 5 := ⟨by decide +kernel, rfl⟩
theorem d15_5 : Dc prog_43_method_4_code 5 (.getstatic 38) 3 8 := ⟨by decide +kernel, rfl⟩
theorem d15_8 : Dc prog_43_method_4_code 8 (.arraylength) 1 9 := ⟨by decide +kernel, rfl⟩
theorem d15_9 : Dc prog_43_method_4_code 9 (.i2l) 1 10 := ⟨by decide +kernel, rfl⟩
theorem d15_10 : Dc prog_43_method_4_code 10 (.lmul) 1 11 := ⟨by decide +kernel, rfl⟩
theorem d15_11 : Dc prog_43_method_4_code 11 (.aload_n 0) 1 12 := ⟨by decide +kernel, rfl⟩
theorem d15_12 : Dc prog_43_method_4_code 12 (.getfield 28) 3 15 := ⟨by decide +kernel, rfl⟩
theorem d15_15 : Dc prog_43_method_4_code 15 (.aload_n 0) 1 16 := ⟨by decide +kernel, rfl⟩
theorem d15_16 : Dc prog_43_method_4_code 16 (.getfield 35) 3 19 := ⟨by decide +kernel, rfl⟩
theorem d15_19 : Dc prog_43_method_4_code 19 (.isub) 1 20 := ⟨by decide +kernel, rfl⟩
theorem d15_20 : Dc prog_43_method_4_code 20 (.i2l) 1 21 := ⟨by decide +kernel, rfl⟩
theorem d15_21 : Dc prog_43_method_4_code 21 (.getstatic 41) 3 24 := ⟨by decide +kernel, rfl⟩
theorem d15_24 : Dc prog_43_method_4_code 24 (.arraylength) 1 25 := ⟨by decide +kernel, rfl⟩
theorem d15_25 : Dc prog_43_method_4_code 25 (.i2l) 1 26 := ⟨by decide +kernel, rfl⟩
theorem d15_26 : Dc prog_43_method_4_code 26 (.lmul) 1 27 := ⟨by decide +kernel, rfl⟩
theorem d15_27 : Dc prog_43_method_4_code 27 (.ladd) 1 28 := ⟨by decide +kernel, rfl⟩
theorem d15_28 : Dc prog_43_method_4_code 28 (.iconst 0) 1 29 := ⟨by decide +kernel, rfl⟩
theorem d15_29 : Dc prog_43_method_4_code 29 (.aload_n 0) 1 30 := ⟨by decide +kernel, rfl⟩
theorem d15_30 : Dc prog_43_method_4_code 30 (.getfield 28) 3 33 := ⟨by decide +kernel, rfl⟩
theorem d15_33 : Dc prog_43_method_4_code 33 (.iconst 1) 1 34 := ⟨by decide +kernel, rfl⟩
theorem d15_34 : Dc prog_43_method_4_code 34 (.isub) 1 35 := ⟨by decide +kernel, rfl⟩
theorem d15_35 : Dc prog_43_method_4_code 35 (.invokestatic 44) 3 38 := ⟨by decide +kernel, rfl⟩
theorem d15_38 : Dc prog_43_method_4_code 38 (.i2l) 1 39 := ⟨by decide +kernel, rfl⟩
theorem d15_39 : Dc prog_43_method_4_code 39 (.ladd) 1 40 := ⟨by decide +kernel, rfl⟩
theorem d15_40 : Dc prog_43_method_4_code 40 (.lstore_n 1) 1 41 := ⟨by decide +kernel, rfl⟩
theorem d15_41 : Dc prog_43_method_4_code 41 (.getstatic 50) 3 44 := ⟨by decide +kernel, rfl⟩
theorem d15_44 : Dc prog_43_method_4_code 44 (.arraylength) 1 45 := ⟨by decide +kernel, rfl⟩
theorem d15_45 : Dc prog_43_method_4_code 45 (.i2l) 1 46 := ⟨by decide +kernel, rfl⟩
theorem d15_46 : Dc prog_43_method_4_code 46 (.lload_n 1) 1 47 := ⟨by decide +kernel, rfl⟩
theorem d15_47 : Dc prog_43_method_4_code 47 (.ladd) 1 48 := ⟨by decide +kernel, rfl⟩
theorem d15_48 : Dc prog_43_method_4_code 48 (.getstatic 53) 3 51 := ⟨by decide +kernel, rfl⟩
theorem d15_51 : Dc prog_43_method_4_code 51 (.arraylength) 1 52 := ⟨by decide +kernel, rfl⟩
theorem d15_52 : Dc prog_43_method_4_code 52 (.i2l) 1 53 := ⟨by decide +kernel, rfl⟩
theorem d15_53 : Dc prog_43_method_4_code 53 (.ladd) 1 54 := ⟨by decide +kernel, rfl⟩
theorem d15_54 : Dc prog_43_method_4_code 54 (.lreturn) 1 55 := ⟨by decide +kernel, rfl⟩
theorem pn_rml : plainName "com/example/dyn_authz/dynauthz/service/Decisions" = true := by first | (simp [plainName, overriddenIn]; done) | decide +kernel
set_option maxRecDepth 65536 in
set_option maxHeartbeats 40000000 in
theorem rml (l : Launch) (Z : State) (a0 : Array Value) (hw : ∀ d ∈ tables_1, d.before a0 Z = true) (sPERMIT : Addr) (cPERMIT : Cell) (SPERMIT : Sta Z Z.heap "com/example/dyn_authz/dynauthz/service/Decisions" "PERMIT" "[B" (.ref sPERMIT)) (VPERMIT : Arv Z Z.heap sPERMIT cPERMIT.cls .byte (17 : Int32) cPERMIT.slots.toList (.int 0)) (sDENY : Addr) (cDENY : Cell) (SDENY : Sta Z Z.heap "com/example/dyn_authz/dynauthz/service/Decisions" "DENY" "[B" (.ref sDENY)) (VDENY : Arv Z Z.heap sDENY cDENY.cls .byte (18 : Int32) cDENY.slots.toList (.int 0)) (sOPENING : Addr) (cOPENING : Cell) (SOPENING : Sta Z Z.heap "com/example/dyn_authz/dynauthz/service/Decisions" "OPENING" "[B" (.ref sOPENING)) (VOPENING : Arv Z Z.heap sOPENING cOPENING.cls .byte (16 : Int32) cOPENING.slots.toList (.int 0)) (sCLOSING : Addr) (cCLOSING : Cell) (SCLOSING : Sta Z Z.heap "com/example/dyn_authz/dynauthz/service/Decisions" "CLOSING" "[B" (.ref sCLOSING)) (VCLOSING : Arv Z Z.heap sCLOSING cCLOSING.cls .byte (2 : Int32) cCLOSING.slots.toList (.int 0)) (d : Addr) (kx pp : Int32) (h0 : Heap) (DD : own_D Z h0 d kx pp) (OL : Old Z Z.heap.size h0) :
    Met l Z (⟨"com/example/dyn_authz/dynauthz/service/Decisions", "length", "()J"⟩ : MethodName) prog_43_method_4_code 3 (some .long) ({ frames := 1, cells := 0, slots := 0, locals := 15 } : Room) #[(.ref d)] h0 (fun v h' => v = some (.long (((16 : Int64) + (((((pp).toInt64) * (17 : Int64)) + ((((kx - pp)).toInt64) * (18 : Int64))) + (((own_mx (0 : Int32) (kx - (1 : Int32)))).toInt64))) + (2 : Int64))) ∧ h0 = h') := by
  refine met_of (Ls := #[.val (.ref d), .unset, .unset]) (plainFor_of_name pn_rml) (fun m => by first | (simp [entryFrame, mkF, argsToLocals, Value.category]; done) | rfl) (fun p e s m below meth c cx => ?_)
  obtain ⟨b, w, cA, sk, -, -, -, -, -, -, O_d, -⟩ := DD
  have A_sPERMIT := VPERMIT.ext OL.2
  have A_sDENY := VDENY.ext OL.2
  have A_sOPENING := VOPENING.ext OL.2
  have A_sCLOSING := VCLOSING.ext OL.2
  refine g_aloadN cx d15_0 rfl rfl ?_
  refine g_getF cx d15_1 (host := "") (Or.inl (hw _ (List.mem_of_getElem? (i := 87) rfl))) Via.refl O_d.2.2.2 ?_
  refine g_i2l cx d15_4 ?_
  refine g_getS cx d15_5 (host := "") (Or.inl (hw _ (List.mem_of_getElem? (i := 95) rfl))) Via.refl (SPERMIT.ext OL.2) ?_
  refine g_arraylength cx d15_8 A_sPERMIT ?_
  refine g_i2l cx d15_9 ?_
  refine G.cast (st' := [(.long (17 : Int64)), (.long ((pp).toInt64))]) ?_ rfl
  refine g_lmul cx d15_10 ?_
  refine g_aloadN cx d15_11 rfl rfl ?_
  refine g_getF cx d15_12 (host := "") (Or.inl (hw _ (List.mem_of_getElem? (i := 48) rfl))) Via.refl O_d.2.2.1 ?_
  refine g_aloadN cx d15_15 rfl rfl ?_
  refine g_getF cx d15_16 (host := "") (Or.inl (hw _ (List.mem_of_getElem? (i := 87) rfl))) Via.refl O_d.2.2.2 ?_
  refine g_isub cx d15_19 ?_
  refine g_i2l cx d15_20 ?_
  refine g_getS cx d15_21 (host := "") (Or.inl (hw _ (List.mem_of_getElem? (i := 97) rfl))) Via.refl (SDENY.ext OL.2) ?_
  refine g_arraylength cx d15_24 A_sDENY ?_
  refine g_i2l cx d15_25 ?_
  refine G.cast (st' := [(.long (18 : Int64)), (.long (((kx - pp)).toInt64)), (.long (((pp).toInt64) * (17 : Int64)))]) ?_ rfl
  refine g_lmul cx d15_26 ?_
  refine g_ladd cx d15_27 ?_
  refine g_iconst cx d15_28 (v := (0 : Int32)) rfl ?_
  refine g_aloadN cx d15_29 rfl rfl ?_
  refine g_getF cx d15_30 (host := "") (Or.inl (hw _ (List.mem_of_getElem? (i := 48) rfl))) Via.refl O_d.2.2.1 ?_
  refine g_iconst cx d15_33 (v := (1 : Int32)) rfl ?_
  refine g_isub cx d15_34 ?_
  refine g_static cx (y := (⟨"java/lang/Math", "max", "(II)I"⟩ : MethodName)) d15_35 (hw _ (List.mem_of_getElem? (i := 99) rfl)) (hw _ (List.mem_of_getElem? (i := 67) rfl)) (hw _ (List.mem_of_getElem? (i := 68) rfl)) (hw _ (List.mem_of_getElem? (i := 69) rfl)) (by decide) (bytes := jdk_29_method_65_code) (maxL' := 2) (M := (rmx l Z a0 hw _ _ _)) rfl (lenOf pd_2 rfl) (by decide) (W := 2) (Nat.le_of_eq rfl) (by decide) (k' := 0) (n' := 0) rfl rfl (by decide) (by decide) (argsL := [(.int (0 : Int32)), (.int (kx - (1 : Int32)))]) (rest := [(.long ((((pp).toInt64) * (17 : Int64)) + ((((kx - pp)).toInt64) * (18 : Int64))))]) rfl (fun v2 h1 q3 => ?_)
  obtain ⟨rfl, rfl⟩ := q3
  refine G.cast (st' := [(.int (own_mx (0 : Int32) (kx - (1 : Int32)))), (.long ((((pp).toInt64) * (17 : Int64)) + ((((kx - pp)).toInt64) * (18 : Int64))))]) ?_ rfl
  refine g_i2l cx d15_38 ?_
  refine g_ladd cx d15_39 ?_
  refine g_lstoreN cx d15_40 (Ls' := #[.val (.ref d), .val (.long (((((pp).toInt64) * (17 : Int64)) + ((((kx - pp)).toInt64) * (18 : Int64))) + (((own_mx (0 : Int32) (kx - (1 : Int32)))).toInt64))), .second]) rfl ?_
  refine g_getS cx d15_41 (host := "") (Or.inl (hw _ (List.mem_of_getElem? (i := 100) rfl))) Via.refl (SOPENING.ext OL.2) ?_
  refine g_arraylength cx d15_44 A_sOPENING ?_
  refine g_i2l cx d15_45 ?_
  refine G.cast (st' := [(.long (16 : Int64))]) ?_ rfl
  refine g_lloadN cx d15_46 rfl ?_
  refine g_ladd cx d15_47 ?_
  refine g_getS cx d15_48 (host := "") (Or.inl (hw _ (List.mem_of_getElem? (i := 102) rfl))) Via.refl (SCLOSING.ext OL.2) ?_
  refine g_arraylength cx d15_51 A_sCLOSING ?_
  refine g_i2l cx d15_52 ?_
  refine G.cast (st' := [(.long (2 : Int64)), (.long ((16 : Int64) + (((((pp).toInt64) * (17 : Int64)) + ((((kx - pp)).toInt64) * (18 : Int64))) + (((own_mx (0 : Int32) (kx - (1 : Int32)))).toInt64))))]) ?_ rfl
  refine g_ladd cx d15_53 ?_
  refine g_retJ cx d15_54 rfl (by decide) (by decide) ?_
  exact ⟨rfl, rfl⟩
theorem d0_0 : Dc code 0 (.new 17) 3 3 := ⟨by decide +kernel, rfl⟩
theorem d0_3 : Dc code 3 (.dup) 1 4 := ⟨by decide +kernel, rfl⟩
theorem d0_4 : Dc code 4 (.iload_n 0) 1 5 := ⟨by decide +kernel, rfl⟩
theorem d0_5 : Dc code 5 (.sipush 255) 3 8 := ⟨by decide +kernel, rfl⟩
theorem d0_8 : Dc code 8 (.iand) 1 9 := ⟨by decide +kernel, rfl⟩
theorem d0_9 : Dc code 9 (.invokespecial 26) 3 12 := ⟨by decide +kernel, rfl⟩
theorem d0_12 : Dc code 12 (.astore_n 3) 1 13 := ⟨by decide +kernel, rfl⟩
theorem d0_13 : Dc code 13 (.iload_n 1) 1 14 := ⟨by decide +kernel, rfl⟩
theorem d0_14 : Dc code 14 (.bipush 7) 2 16 := ⟨by decide +kernel, rfl⟩
theorem d0_16 : Dc code 16 (.iand) 1 17 := ⟨by decide +kernel, rfl⟩
theorem d0_17 : Dc code 17 (.istore 4) 2 19 := ⟨by decide +kernel, rfl⟩
theorem d0_19 : Dc code 19 (.ldc2_w 24) 3 22 := ⟨by decide +kernel, rfl⟩
theorem d0_22 : Dc code 22 (.lstore 5) 2 24 := ⟨by decide +kernel, rfl⟩
theorem d0_24 : Dc code 24 (.iload 4) 2 26 := ⟨by decide +kernel, rfl⟩
theorem d0_26 : Bi code 26 (Instr.ifCond .le) 50 29 := ⟨24, by decide +kernel, by decide, by decide, rfl⟩
theorem d0_50 : Dc code 50 (.iload 4) 2 52 := ⟨by decide +kernel, rfl⟩
theorem d0_52 : Dc code 52 (.iconst 1) 1 53 := ⟨by decide +kernel, rfl⟩
theorem d0_53 : Bi code 53 (Instr.if_icmp .le) 77 56 := ⟨24, by decide +kernel, by decide, by decide, rfl⟩
theorem d0_77 : Dc code 77 (.iload 4) 2 79 := ⟨by decide +kernel, rfl⟩
theorem d0_79 : Dc code 79 (.iconst 2) 1 80 := ⟨by decide +kernel, rfl⟩
theorem d0_80 : Bi code 80 (Instr.if_icmp .le) 104 83 := ⟨24, by decide +kernel, by decide, by decide, rfl⟩
theorem d0_104 : Dc code 104 (.iload 4) 2 106 := ⟨by decide +kernel, rfl⟩
theorem d0_106 : Dc code 106 (.iconst 3) 1 107 := ⟨by decide +kernel, rfl⟩
theorem d0_107 : Bi code 107 (Instr.if_icmp .le) 132 110 := ⟨25, by decide +kernel, by decide, by decide, rfl⟩
theorem d0_132 : Dc code 132 (.iload 4) 2 134 := ⟨by decide +kernel, rfl⟩
theorem d0_134 : Dc code 134 (.iconst 4) 1 135 := ⟨by decide +kernel, rfl⟩
theorem d0_135 : Bi code 135 (Instr.if_icmp .le) 160 138 := ⟨25, by decide +kernel, by decide, by decide, rfl⟩
theorem d0_160 : Dc code 160 (.iload 4) 2 162 := ⟨by decide +kernel, rfl⟩
theorem d0_162 : Dc code 162 (.iconst 5) 1 163 := ⟨by decide +kernel, rfl⟩
theorem d0_163 : Bi code 163 (Instr.if_icmp .le) 188 166 := ⟨25, by decide +kernel, by decide, by decide, rfl⟩
theorem d0_188 : Dc code 188 (.iload 4) 2 190 := ⟨by decide +kernel, rfl⟩
theorem d0_190 : Dc code 190 (.bipush 6) 2 192 := ⟨by decide +kernel, rfl⟩
theorem d0_192 : Bi code 192 (Instr.if_icmp .le) 217 195 := ⟨25, by decide +kernel, by decide, by decide, rfl⟩
theorem d0_217 : Dc code 217 (.aload_n 3) 1 218 := ⟨by decide +kernel, rfl⟩
theorem pd_6 : parseMethodDescriptor "()J" = some ⟨[], some .long⟩ := by decide +kernel
theorem d0_218 : Dc code 218 (.invokevirtual 35) 3 221 := ⟨by decide +kernel, rfl⟩
theorem d0_221 : Dc code 221 (.lload 5) 2 223 := ⟨by decide +kernel, rfl⟩
theorem d0_223 : Dc code 223 (.lcmp) 1 224 := ⟨by decide +kernel, rfl⟩
theorem d0_224 : Bi code 224 (Instr.ifCond .ne) 231 227 := ⟨7, by decide +kernel, by decide, by decide, rfl⟩
theorem d0_231 : Dc code 231 (.iconst 0) 1 232 := ⟨by decide +kernel, rfl⟩
theorem d0_232 : Dc code 232 (.ireturn) 1 233 := ⟨by decide +kernel, rfl⟩
theorem d0_227 : Dc code 227 (.iconst 1) 1 228 := ⟨by decide +kernel, rfl⟩
theorem d0_228 : Bi code 228 (Instr.goto) 232 231 := ⟨4, by decide +kernel, by decide, by decide, rfl⟩
theorem d0_29 : Dc code 29 (.lload 5) 2 31 := ⟨by decide +kernel, rfl⟩
theorem d0_31 : Dc code 31 (.aload_n 3) 1 32 := ⟨by decide +kernel, rfl⟩
theorem d0_32 : Dc code 32 (.iload_n 2) 1 33 := ⟨by decide +kernel, rfl⟩
theorem d0_33 : Dc code 33 (.iconst 1) 1 34 := ⟨by decide +kernel, rfl⟩
theorem d0_34 : Dc code 34 (.iand) 1 35 := ⟨by decide +kernel, rfl⟩
theorem d0_35 : Bi code 35 (Instr.ifCond .eq) 42 38 := ⟨7, by decide +kernel, by decide, by decide, rfl⟩
theorem d0_38 : Dc code 38 (.iconst 1) 1 39 := ⟨by decide +kernel, rfl⟩
theorem d0_39 : Bi code 39 (Instr.goto) 43 42 := ⟨4, by decide +kernel, by decide, by decide, rfl⟩
theorem d0_42 : Dc code 42 (.iconst 0) 1 43 := ⟨by decide +kernel, rfl⟩
theorem d0_43 : Dc code 43 (.iconst 1) 1 44 := ⟨by decide +kernel, rfl⟩
theorem pd_7 : parseMethodDescriptor "(Lcom/example/dyn_authz/dynauthz/service/Decisions;ZZ)J" = some ⟨[(.object "com/example/dyn_authz/dynauthz/service/Decisions"), .boolean, .boolean], some .long⟩ := by decide +kernel
theorem d0_44 : Dc code 44 (.invokestatic 29) 3 47 := ⟨by decide +kernel, rfl⟩
theorem d0_47 : Dc code 47 (.ladd) 1 48 := ⟨by decide +kernel, rfl⟩
theorem d0_48 : Dc code 48 (.lstore 5) 2 50 := ⟨by decide +kernel, rfl⟩
theorem d0_56 : Dc code 56 (.lload 5) 2 58 := ⟨by decide +kernel, rfl⟩
theorem d0_58 : Dc code 58 (.aload_n 3) 1 59 := ⟨by decide +kernel, rfl⟩
theorem d0_59 : Dc code 59 (.iload_n 2) 1 60 := ⟨by decide +kernel, rfl⟩
theorem d0_60 : Dc code 60 (.iconst 2) 1 61 := ⟨by decide +kernel, rfl⟩
theorem d0_61 : Dc code 61 (.iand) 1 62 := ⟨by decide +kernel, rfl⟩
theorem d0_62 : Bi code 62 (Instr.ifCond .eq) 69 65 := ⟨7, by decide +kernel, by decide, by decide, rfl⟩
theorem d0_65 : Dc code 65 (.iconst 1) 1 66 := ⟨by decide +kernel, rfl⟩
theorem d0_66 : Bi code 66 (Instr.goto) 70 69 := ⟨4, by decide +kernel, by decide, by decide, rfl⟩
theorem d0_69 : Dc code 69 (.iconst 0) 1 70 := ⟨by decide +kernel, rfl⟩
theorem d0_70 : Dc code 70 (.iconst 0) 1 71 := ⟨by decide +kernel, rfl⟩
theorem d0_71 : Dc code 71 (.invokestatic 29) 3 74 := ⟨by decide +kernel, rfl⟩
theorem d0_74 : Dc code 74 (.ladd) 1 75 := ⟨by decide +kernel, rfl⟩
theorem d0_75 : Dc code 75 (.lstore 5) 2 77 := ⟨by decide +kernel, rfl⟩
theorem d0_83 : Dc code 83 (.lload 5) 2 85 := ⟨by decide +kernel, rfl⟩
theorem d0_85 : Dc code 85 (.aload_n 3) 1 86 := ⟨by decide +kernel, rfl⟩
theorem d0_86 : Dc code 86 (.iload_n 2) 1 87 := ⟨by decide +kernel, rfl⟩
theorem d0_87 : Dc code 87 (.iconst 4) 1 88 := ⟨by decide +kernel, rfl⟩
theorem d0_88 : Dc code 88 (.iand) 1 89 := ⟨by decide +kernel, rfl⟩
theorem d0_89 : Bi code 89 (Instr.ifCond .eq) 96 92 := ⟨7, by decide +kernel, by decide, by decide, rfl⟩
theorem d0_92 : Dc code 92 (.iconst 1) 1 93 := ⟨by decide +kernel, rfl⟩
theorem d0_93 : Bi code 93 (Instr.goto) 97 96 := ⟨4, by decide +kernel, by decide, by decide, rfl⟩
theorem d0_96 : Dc code 96 (.iconst 0) 1 97 := ⟨by decide +kernel, rfl⟩
theorem d0_97 : Dc code 97 (.iconst 0) 1 98 := ⟨by decide +kernel, rfl⟩
theorem d0_98 : Dc code 98 (.invokestatic 29) 3 101 := ⟨by decide +kernel, rfl⟩
theorem d0_101 : Dc code 101 (.ladd) 1 102 := ⟨by decide +kernel, rfl⟩
theorem d0_102 : Dc code 102 (.lstore 5) 2 104 := ⟨by decide +kernel, rfl⟩
theorem d0_110 : Dc code 110 (.lload 5) 2 112 := ⟨by decide +kernel, rfl⟩
theorem d0_112 : Dc code 112 (.aload_n 3) 1 113 := ⟨by decide +kernel, rfl⟩
theorem d0_113 : Dc code 113 (.iload_n 2) 1 114 := ⟨by decide +kernel, rfl⟩
theorem d0_114 : Dc code 114 (.bipush 8) 2 116 := ⟨by decide +kernel, rfl⟩
theorem d0_116 : Dc code 116 (.iand) 1 117 := ⟨by decide +kernel, rfl⟩
theorem d0_117 : Bi code 117 (Instr.ifCond .eq) 124 120 := ⟨7, by decide +kernel, by decide, by decide, rfl⟩
theorem d0_120 : Dc code 120 (.iconst 1) 1 121 := ⟨by decide +kernel, rfl⟩
theorem d0_121 : Bi code 121 (Instr.goto) 125 124 := ⟨4, by decide +kernel, by decide, by decide, rfl⟩
theorem d0_124 : Dc code 124 (.iconst 0) 1 125 := ⟨by decide +kernel, rfl⟩
theorem d0_125 : Dc code 125 (.iconst 0) 1 126 := ⟨by decide +kernel, rfl⟩
theorem d0_126 : Dc code 126 (.invokestatic 29) 3 129 := ⟨by decide +kernel, rfl⟩
theorem d0_129 : Dc code 129 (.ladd) 1 130 := ⟨by decide +kernel, rfl⟩
theorem d0_130 : Dc code 130 (.lstore 5) 2 132 := ⟨by decide +kernel, rfl⟩
theorem d0_138 : Dc code 138 (.lload 5) 2 140 := ⟨by decide +kernel, rfl⟩
theorem d0_140 : Dc code 140 (.aload_n 3) 1 141 := ⟨by decide +kernel, rfl⟩
theorem d0_141 : Dc code 141 (.iload_n 2) 1 142 := ⟨by decide +kernel, rfl⟩
theorem d0_142 : Dc code 142 (.bipush 16) 2 144 := ⟨by decide +kernel, rfl⟩
theorem d0_144 : Dc code 144 (.iand) 1 145 := ⟨by decide +kernel, rfl⟩
theorem d0_145 : Bi code 145 (Instr.ifCond .eq) 152 148 := ⟨7, by decide +kernel, by decide, by decide, rfl⟩
theorem d0_148 : Dc code 148 (.iconst 1) 1 149 := ⟨by decide +kernel, rfl⟩
theorem d0_149 : Bi code 149 (Instr.goto) 153 152 := ⟨4, by decide +kernel, by decide, by decide, rfl⟩
theorem d0_152 : Dc code 152 (.iconst 0) 1 153 := ⟨by decide +kernel, rfl⟩
theorem d0_153 : Dc code 153 (.iconst 0) 1 154 := ⟨by decide +kernel, rfl⟩
theorem d0_154 : Dc code 154 (.invokestatic 29) 3 157 := ⟨by decide +kernel, rfl⟩
theorem d0_157 : Dc code 157 (.ladd) 1 158 := ⟨by decide +kernel, rfl⟩
theorem d0_158 : Dc code 158 (.lstore 5) 2 160 := ⟨by decide +kernel, rfl⟩
theorem d0_166 : Dc code 166 (.lload 5) 2 168 := ⟨by decide +kernel, rfl⟩
theorem d0_168 : Dc code 168 (.aload_n 3) 1 169 := ⟨by decide +kernel, rfl⟩
theorem d0_169 : Dc code 169 (.iload_n 2) 1 170 := ⟨by decide +kernel, rfl⟩
theorem d0_170 : Dc code 170 (.bipush 32) 2 172 := ⟨by decide +kernel, rfl⟩
theorem d0_172 : Dc code 172 (.iand) 1 173 := ⟨by decide +kernel, rfl⟩
theorem d0_173 : Bi code 173 (Instr.ifCond .eq) 180 176 := ⟨7, by decide +kernel, by decide, by decide, rfl⟩
theorem d0_176 : Dc code 176 (.iconst 1) 1 177 := ⟨by decide +kernel, rfl⟩
theorem d0_177 : Bi code 177 (Instr.goto) 181 180 := ⟨4, by decide +kernel, by decide, by decide, rfl⟩
theorem d0_180 : Dc code 180 (.iconst 0) 1 181 := ⟨by decide +kernel, rfl⟩
theorem d0_181 : Dc code 181 (.iconst 0) 1 182 := ⟨by decide +kernel, rfl⟩
theorem d0_182 : Dc code 182 (.invokestatic 29) 3 185 := ⟨by decide +kernel, rfl⟩
theorem d0_185 : Dc code 185 (.ladd) 1 186 := ⟨by decide +kernel, rfl⟩
theorem d0_186 : Dc code 186 (.lstore 5) 2 188 := ⟨by decide +kernel, rfl⟩
theorem d0_195 : Dc code 195 (.lload 5) 2 197 := ⟨by decide +kernel, rfl⟩
theorem d0_197 : Dc code 197 (.aload_n 3) 1 198 := ⟨by decide +kernel, rfl⟩
theorem d0_198 : Dc code 198 (.iload_n 2) 1 199 := ⟨by decide +kernel, rfl⟩
theorem d0_199 : Dc code 199 (.bipush 64) 2 201 := ⟨by decide +kernel, rfl⟩
theorem d0_201 : Dc code 201 (.iand) 1 202 := ⟨by decide +kernel, rfl⟩
theorem d0_202 : Bi code 202 (Instr.ifCond .eq) 209 205 := ⟨7, by decide +kernel, by decide, by decide, rfl⟩
theorem d0_205 : Dc code 205 (.iconst 1) 1 206 := ⟨by decide +kernel, rfl⟩
theorem d0_206 : Bi code 206 (Instr.goto) 210 209 := ⟨4, by decide +kernel, by decide, by decide, rfl⟩
theorem d0_209 : Dc code 209 (.iconst 0) 1 210 := ⟨by decide +kernel, rfl⟩
theorem d0_210 : Dc code 210 (.iconst 0) 1 211 := ⟨by decide +kernel, rfl⟩
theorem d0_211 : Dc code 211 (.invokestatic 29) 3 214 := ⟨by decide +kernel, rfl⟩
theorem d0_214 : Dc code 214 (.ladd) 1 215 := ⟨by decide +kernel, rfl⟩
theorem d0_215 : Dc code 215 (.lstore 5) 2 217 := ⟨by decide +kernel, rfl⟩
theorem pn_rm0 : plainName "com/example/dyn_authz/dynauthz/service/DecisionsLengthPinLaw" = true := by first | (simp [plainName, overriddenIn]; done) | decide +kernel
set_option maxRecDepth 65536 in
set_option maxHeartbeats 40000000 in
theorem rm0 (l : Launch) (Z : State) (a0 : Array Value) (hw : ∀ d ∈ tables_1, d.before a0 Z = true) (ie ic ig : Int32) (h0 : Heap) (OL : Old Z Z.heap.size h0) (SAD : Sta Z Z.heap "java/util/BitSet" "$assertionsDisabled" "Z" (.int (1 : Int32))) (pm dn : Addr) (SPM : Sta Z Z.heap "com/example/dyn_authz/dynauthz/policy/Decision" "PERMIT" "Lcom/example/dyn_authz/dynauthz/policy/Decision;" (.ref pm)) (SDN : Sta Z Z.heap "com/example/dyn_authz/dynauthz/policy/Decision" "DENY" "Lcom/example/dyn_authz/dynauthz/policy/Decision;" (.ref dn)) (npd : pm ≠ dn) (sPERMIT : Addr) (cPERMIT : Cell) (SPERMIT : Sta Z Z.heap "com/example/dyn_authz/dynauthz/service/Decisions" "PERMIT" "[B" (.ref sPERMIT)) (VPERMIT : Arv Z Z.heap sPERMIT cPERMIT.cls .byte (17 : Int32) cPERMIT.slots.toList (.int 0)) (sDENY : Addr) (cDENY : Cell) (SDENY : Sta Z Z.heap "com/example/dyn_authz/dynauthz/service/Decisions" "DENY" "[B" (.ref sDENY)) (VDENY : Arv Z Z.heap sDENY cDENY.cls .byte (18 : Int32) cDENY.slots.toList (.int 0)) (sOPENING : Addr) (cOPENING : Cell) (SOPENING : Sta Z Z.heap "com/example/dyn_authz/dynauthz/service/Decisions" "OPENING" "[B" (.ref sOPENING)) (VOPENING : Arv Z Z.heap sOPENING cOPENING.cls .byte (16 : Int32) cOPENING.slots.toList (.int 0)) (sCLOSING : Addr) (cCLOSING : Cell) (SCLOSING : Sta Z Z.heap "com/example/dyn_authz/dynauthz/service/Decisions" "CLOSING" "[B" (.ref sCLOSING)) (VCLOSING : Arv Z Z.heap sCLOSING cCLOSING.cls .byte (2 : Int32) cCLOSING.slots.toList (.int 0)) :
    Met l Z x code maxLocals ret room_1 #[(.int ie), (.int ic), (.int ig)] h0 (fun v _ => v = some (.int 1)) := by
  refine met_of (Ls := #[.val (.int ie), .val (.int ic), .val (.int ig), .unset, .unset, .unset, .unset]) (plainFor_of_name pn_rm0) (fun m => by first | (simp [entryFrame, mkF, argsToLocals, Value.category, maxLocals]; done) | rfl) (fun p e s m below meth c cx => ?_)
  refine g_new cx d0_0 (hw _ (List.mem_of_getElem? (i := 0) rfl)) (hw _ (List.mem_of_getElem? (i := 1) rfl)) (hw _ (List.mem_of_getElem? (i := 2) rfl)) (k' := 1) (n' := 3) rfl rfl (by decide) (by decide) (fun h1 b2 gb3 E4 X5 D6 => ?_)
  have g_b2 : Z.heap.size ≤ b2 := by rw [gb3]; exact OL.2.1
  have OL := OL.ext E4
  have O_b2 := ObD.new hw X5 D6
  refine g_dup cx d0_3 rfl ?_
  refine g_iloadN cx d0_4 rfl ?_
  refine g_sipush cx d0_5 (v := (255 : Int32)) rfl ?_
  refine g_iand cx d0_8 ?_
  refine g_special cx (y := (⟨"com/example/dyn_authz/dynauthz/service/Decisions", "<init>", "(I)V"⟩ : MethodName)) (a := b2) d0_9 rfl rfl (hw _ (List.mem_of_getElem? (i := 3) rfl)) (hw _ (List.mem_of_getElem? (i := 4) rfl)) (hw _ (List.mem_of_getElem? (i := 2) rfl)) (hw _ (List.mem_of_getElem? (i := 5) rfl)) (by decide) (bytes := prog_43_method_1_code) (maxL' := 2) (M := (rmi l Z a0 hw ie b2 _ O_b2 g_b2 OL)) rfl (lenOf pd_1 rfl) (by decide) (W := 1) (Nat.le_of_eq rfl) (by decide) (k' := 3) (n' := 10) rfl rfl (by decide) (by decide) (argsL := [(.int (ie &&& (255 : Int32)))]) (rest := [(.ref b2)]) rfl (fun v8 h7 q9 => ?_)
  obtain ⟨rfl, OL, DD⟩ := q9
  have O_b2 := own_Dx DD
  refine G.cast (st' := [(.ref b2)]) ?_ rfl
  refine g_astoreN cx d0_12 rfl (Ls' := #[.val (.int ie), .val (.int ic), .val (.int ig), .val (.ref b2), .unset, .unset, .unset]) rfl ?_
  refine g_iloadN cx d0_13 rfl ?_
  refine g_bipush cx d0_14 (v := (7 : Int32)) rfl ?_
  refine g_iand cx d0_16 ?_
  refine g_istore cx d0_17 (Ls' := #[.val (.int ie), .val (.int ic), .val (.int ig), .val (.ref b2), .val (.int (ic &&& (7 : Int32))), .unset, .unset]) rfl ?_
  refine g_ldcJ cx d0_19 (hw _ (List.mem_of_getElem? (i := 33) rfl)) ?_
  refine g_lstore cx d0_22 (Ls' := #[.val (.int ie), .val (.int ic), .val (.int ig), .val (.ref b2), .val (.int (ic &&& (7 : Int32))), .val (.long (18 : Int64)), .second]) rfl ?_
  refine g_iload cx d0_24 rfl ?_
  refine g_if_le cx d0_26 (fun hc26 => ?_) (fun hc26 => ?_)
  · refine g_iload cx d0_50 rfl ?_
    refine g_iconst cx d0_52 (v := (1 : Int32)) rfl ?_
    refine g_icmp_le cx d0_53 (fun hc53 => ?_) (fun q => absurd q (fun q => by have i_hc26 : ¬ ((0 : Int32)).toInt < ((ic &&& (7 : Int32))).toInt := fun z => hc26 (Int32.lt_iff_toInt_lt.mpr z); have i_q : ((1 : Int32)).toInt < ((ic &&& (7 : Int32))).toInt := Int32.lt_iff_toInt_lt.mp q; have e1 : (0 : Int32).toInt = 0 := rfl; have r3 := rng32 ic; have e2 : ((ic &&& (7 : Int32))).toInt = (ic).toInt % 8 := c_mask ic (7 : Int32) 3 (by decide) (by decide); have e4 : (1 : Int32).toInt = 1 := rfl; omega))
    refine g_iload cx d0_77 rfl ?_
    refine g_iconst cx d0_79 (v := (2 : Int32)) rfl ?_
    refine g_icmp_le cx d0_80 (fun hc80 => ?_) (fun q => absurd q (fun q => by have i_hc26 : ¬ ((0 : Int32)).toInt < ((ic &&& (7 : Int32))).toInt := fun z => hc26 (Int32.lt_iff_toInt_lt.mpr z); have i_hc53 : ¬ ((1 : Int32)).toInt < ((ic &&& (7 : Int32))).toInt := fun z => hc53 (Int32.lt_iff_toInt_lt.mpr z); have i_q : ((2 : Int32)).toInt < ((ic &&& (7 : Int32))).toInt := Int32.lt_iff_toInt_lt.mp q; have e1 : (0 : Int32).toInt = 0 := rfl; have r3 := rng32 ic; have e2 : ((ic &&& (7 : Int32))).toInt = (ic).toInt % 8 := c_mask ic (7 : Int32) 3 (by decide) (by decide); have e4 : (1 : Int32).toInt = 1 := rfl; have e5 : (2 : Int32).toInt = 2 := rfl; omega))
    refine g_iload cx d0_104 rfl ?_
    refine g_iconst cx d0_106 (v := (3 : Int32)) rfl ?_
    refine g_icmp_le cx d0_107 (fun hc107 => ?_) (fun q => absurd q (fun q => by have i_hc26 : ¬ ((0 : Int32)).toInt < ((ic &&& (7 : Int32))).toInt := fun z => hc26 (Int32.lt_iff_toInt_lt.mpr z); have i_hc53 : ¬ ((1 : Int32)).toInt < ((ic &&& (7 : Int32))).toInt := fun z => hc53 (Int32.lt_iff_toInt_lt.mpr z); have i_hc80 : ¬ ((2 : Int32)).toInt < ((ic &&& (7 : Int32))).toInt := fun z => hc80 (Int32.lt_iff_toInt_lt.mpr z); have i_q : ((3 : Int32)).toInt < ((ic &&& (7 : Int32))).toInt := Int32.lt_iff_toInt_lt.mp q; have e1 : (0 : Int32).toInt = 0 := rfl; have r3 := rng32 ic; have e2 : ((ic &&& (7 : Int32))).toInt = (ic).toInt % 8 := c_mask ic (7 : Int32) 3 (by decide) (by decide); have e4 : (1 : Int32).toInt = 1 := rfl; have e5 : (2 : Int32).toInt = 2 := rfl; have e6 : (3 : Int32).toInt = 3 := rfl; omega))
    refine g_iload cx d0_132 rfl ?_
    refine g_iconst cx d0_134 (v := (4 : Int32)) rfl ?_
    refine g_icmp_le cx d0_135 (fun hc135 => ?_) (fun q => absurd q (fun q => by have i_hc26 : ¬ ((0 : Int32)).toInt < ((ic &&& (7 : Int32))).toInt := fun z => hc26 (Int32.lt_iff_toInt_lt.mpr z); have i_hc53 : ¬ ((1 : Int32)).toInt < ((ic &&& (7 : Int32))).toInt := fun z => hc53 (Int32.lt_iff_toInt_lt.mpr z); have i_hc80 : ¬ ((2 : Int32)).toInt < ((ic &&& (7 : Int32))).toInt := fun z => hc80 (Int32.lt_iff_toInt_lt.mpr z); have i_hc107 : ¬ ((3 : Int32)).toInt < ((ic &&& (7 : Int32))).toInt := fun z => hc107 (Int32.lt_iff_toInt_lt.mpr z); have i_q : ((4 : Int32)).toInt < ((ic &&& (7 : Int32))).toInt := Int32.lt_iff_toInt_lt.mp q; have e1 : (0 : Int32).toInt = 0 := rfl; have r3 := rng32 ic; have e2 : ((ic &&& (7 : Int32))).toInt = (ic).toInt % 8 := c_mask ic (7 : Int32) 3 (by decide) (by decide); have e4 : (1 : Int32).toInt = 1 := rfl; have e5 : (2 : Int32).toInt = 2 := rfl; have e6 : (3 : Int32).toInt = 3 := rfl; have e7 : (4 : Int32).toInt = 4 := rfl; omega))
    refine g_iload cx d0_160 rfl ?_
    refine g_iconst cx d0_162 (v := (5 : Int32)) rfl ?_
    refine g_icmp_le cx d0_163 (fun hc163 => ?_) (fun q => absurd q (fun q => by have i_hc26 : ¬ ((0 : Int32)).toInt < ((ic &&& (7 : Int32))).toInt := fun z => hc26 (Int32.lt_iff_toInt_lt.mpr z); have i_hc53 : ¬ ((1 : Int32)).toInt < ((ic &&& (7 : Int32))).toInt := fun z => hc53 (Int32.lt_iff_toInt_lt.mpr z); have i_hc80 : ¬ ((2 : Int32)).toInt < ((ic &&& (7 : Int32))).toInt := fun z => hc80 (Int32.lt_iff_toInt_lt.mpr z); have i_hc107 : ¬ ((3 : Int32)).toInt < ((ic &&& (7 : Int32))).toInt := fun z => hc107 (Int32.lt_iff_toInt_lt.mpr z); have i_hc135 : ¬ ((4 : Int32)).toInt < ((ic &&& (7 : Int32))).toInt := fun z => hc135 (Int32.lt_iff_toInt_lt.mpr z); have i_q : ((5 : Int32)).toInt < ((ic &&& (7 : Int32))).toInt := Int32.lt_iff_toInt_lt.mp q; have e1 : (0 : Int32).toInt = 0 := rfl; have r3 := rng32 ic; have e2 : ((ic &&& (7 : Int32))).toInt = (ic).toInt % 8 := c_mask ic (7 : Int32) 3 (by decide) (by decide); have e4 : (1 : Int32).toInt = 1 := rfl; have e5 : (2 : Int32).toInt = 2 := rfl; have e6 : (3 : Int32).toInt = 3 := rfl; have e7 : (4 : Int32).toInt = 4 := rfl; have e8 : (5 : Int32).toInt = 5 := rfl; omega))
    refine g_iload cx d0_188 rfl ?_
    refine g_bipush cx d0_190 (v := (6 : Int32)) rfl ?_
    refine g_icmp_le cx d0_192 (fun hc192 => ?_) (fun q => absurd q (fun q => by have i_hc26 : ¬ ((0 : Int32)).toInt < ((ic &&& (7 : Int32))).toInt := fun z => hc26 (Int32.lt_iff_toInt_lt.mpr z); have i_hc53 : ¬ ((1 : Int32)).toInt < ((ic &&& (7 : Int32))).toInt := fun z => hc53 (Int32.lt_iff_toInt_lt.mpr z); have i_hc80 : ¬ ((2 : Int32)).toInt < ((ic &&& (7 : Int32))).toInt := fun z => hc80 (Int32.lt_iff_toInt_lt.mpr z); have i_hc107 : ¬ ((3 : Int32)).toInt < ((ic &&& (7 : Int32))).toInt := fun z => hc107 (Int32.lt_iff_toInt_lt.mpr z); have i_hc135 : ¬ ((4 : Int32)).toInt < ((ic &&& (7 : Int32))).toInt := fun z => hc135 (Int32.lt_iff_toInt_lt.mpr z); have i_hc163 : ¬ ((5 : Int32)).toInt < ((ic &&& (7 : Int32))).toInt := fun z => hc163 (Int32.lt_iff_toInt_lt.mpr z); have i_q : ((6 : Int32)).toInt < ((ic &&& (7 : Int32))).toInt := Int32.lt_iff_toInt_lt.mp q; have e1 : (0 : Int32).toInt = 0 := rfl; have r3 := rng32 ic; have e2 : ((ic &&& (7 : Int32))).toInt = (ic).toInt % 8 := c_mask ic (7 : Int32) 3 (by decide) (by decide); have e4 : (1 : Int32).toInt = 1 := rfl; have e5 : (2 : Int32).toInt = 2 := rfl; have e6 : (3 : Int32).toInt = 3 := rfl; have e7 : (4 : Int32).toInt = 4 := rfl; have e8 : (5 : Int32).toInt = 5 := rfl; have e9 : (6 : Int32).toInt = 6 := rfl; omega))
    refine g_aloadN cx d0_217 rfl rfl ?_
    refine g_virtual cx (y := (⟨"com/example/dyn_authz/dynauthz/service/Decisions", "length", "()J"⟩ : MethodName)) (z := (⟨"com/example/dyn_authz/dynauthz/service/Decisions", "length", "()J"⟩ : MethodName)) (a := b2) d0_218 (hw _ (List.mem_of_getElem? (i := 90) rfl)) (hw _ (List.mem_of_getElem? (i := 91) rfl)) (hw _ (List.mem_of_getElem? (i := 2) rfl)) (hw _ (List.mem_of_getElem? (i := 94) rfl)) (hw _ (List.mem_of_getElem? (i := 93) rfl)) (hw _ (List.mem_of_getElem? (i := 92) rfl)) rfl (by decide) O_b2.1 (bytes := prog_43_method_4_code) (maxL' := 3) (M := (rml l Z a0 hw sPERMIT cPERMIT SPERMIT VPERMIT sDENY cDENY SDENY VDENY sOPENING cOPENING SOPENING VOPENING sCLOSING cCLOSING SCLOSING VCLOSING b2 (0 : Int32) (0 : Int32) _ DD OL)) rfl (lenOf pd_6 rfl) (by decide) (W := 0) (Nat.le_of_eq rfl) (by decide) (k' := 3) (n' := 10) rfl rfl (by decide) (by decide) (argsL := []) (rest := []) rfl (fun v11 h10 q12 => ?_)
    obtain ⟨rfl, rfl⟩ := q12
    refine G.cast (st' := [(.long (((16 : Int64) + ((((((0 : Int32)).toInt64) * (17 : Int64)) + (((((0 : Int32) - (0 : Int32))).toInt64) * (18 : Int64))) + (((own_mx (0 : Int32) ((0 : Int32) - (1 : Int32)))).toInt64))) + (2 : Int64)))]) ?_ rfl
    refine g_lload cx d0_221 rfl ?_
    refine g_lif_ne cx d0_223 d0_224 (fun hc224 => ?_) (fun hc224 => ?_)
    · refine g_iconst cx d0_231 (v := (0 : Int32)) rfl ?_
      refine g_retZ cx d0_232 rfl rfl (by decide) (by decide) ?_
      exfalso
      have e1 : (0 : Int32).toInt = 0 := rfl
      have e3 : (1 : Int32).toInt = 1 := rfl
      have e2 : (((0 : Int32) - (1 : Int32))).toInt = ((0 : Int32)).toInt - ((1 : Int32)).toInt := by have w := c_isub (0 : Int32) (1 : Int32); have r := rng32 ((0 : Int32) - (1 : Int32)); omega
      have := own_mx_t (0 : Int32) ((0 : Int32) - (1 : Int32))
      have r5 := rng32 ic
      have e4 : ((ic &&& (7 : Int32))).toInt = (ic).toInt % 8 := c_mask ic (7 : Int32) 3 (by decide) (by decide)
      have e6 : (2 : Int32).toInt = 2 := rfl
      have e7 : (3 : Int32).toInt = 3 := rfl
      have e8 : (4 : Int32).toInt = 4 := rfl
      have e9 : (5 : Int32).toInt = 5 := rfl
      have e10 : (6 : Int32).toInt = 6 := rfl
      have e13 : (16 : Int64).toInt = 16 := rfl
      have e17 := c_i2l (0 : Int32)
      have e18 : (17 : Int64).toInt = 17 := rfl
      have e16 : (((((0 : Int32)).toInt64) * (17 : Int64))).toInt = ((((0 : Int32)).toInt64)).toInt * 17 := by have w : ((((((0 : Int32)).toInt64) * (17 : Int64))).toInt - ((((0 : Int32)).toInt64)).toInt * 17) % 18446744073709551616 = 0 := c_lmul (((0 : Int32)).toInt64) (17 : Int64); have r := rng64 ((((0 : Int32)).toInt64) * (17 : Int64)); omega
      have e21 : (((0 : Int32) - (0 : Int32))).toInt = ((0 : Int32)).toInt - ((0 : Int32)).toInt := by have w := c_isub (0 : Int32) (0 : Int32); have r := rng32 ((0 : Int32) - (0 : Int32)); omega
      have e20 := c_i2l ((0 : Int32) - (0 : Int32))
      have e22 : (18 : Int64).toInt = 18 := rfl
      have e19 : ((((((0 : Int32) - (0 : Int32))).toInt64) * (18 : Int64))).toInt = (((((0 : Int32) - (0 : Int32))).toInt64)).toInt * 18 := by have w : (((((((0 : Int32) - (0 : Int32))).toInt64) * (18 : Int64))).toInt - (((((0 : Int32) - (0 : Int32))).toInt64)).toInt * 18) % 18446744073709551616 = 0 := c_lmul ((((0 : Int32) - (0 : Int32))).toInt64) (18 : Int64); have r := rng64 (((((0 : Int32) - (0 : Int32))).toInt64) * (18 : Int64)); omega
      have e15 : ((((((0 : Int32)).toInt64) * (17 : Int64)) + (((((0 : Int32) - (0 : Int32))).toInt64) * (18 : Int64)))).toInt = (((((0 : Int32)).toInt64) * (17 : Int64))).toInt + ((((((0 : Int32) - (0 : Int32))).toInt64) * (18 : Int64))).toInt := by have w := c_ladd ((((0 : Int32)).toInt64) * (17 : Int64)) (((((0 : Int32) - (0 : Int32))).toInt64) * (18 : Int64)); have r := rng64 (((((0 : Int32)).toInt64) * (17 : Int64)) + (((((0 : Int32) - (0 : Int32))).toInt64) * (18 : Int64))); omega
      have r24 := rng32 (own_mx (0 : Int32) ((0 : Int32) - (1 : Int32)))
      have e23 := c_i2l (own_mx (0 : Int32) ((0 : Int32) - (1 : Int32)))
      have e14 : (((((((0 : Int32)).toInt64) * (17 : Int64)) + (((((0 : Int32) - (0 : Int32))).toInt64) * (18 : Int64))) + (((own_mx (0 : Int32) ((0 : Int32) - (1 : Int32)))).toInt64))).toInt = ((((((0 : Int32)).toInt64) * (17 : Int64)) + (((((0 : Int32) - (0 : Int32))).toInt64) * (18 : Int64)))).toInt + ((((own_mx (0 : Int32) ((0 : Int32) - (1 : Int32)))).toInt64)).toInt := by have w := c_ladd (((((0 : Int32)).toInt64) * (17 : Int64)) + (((((0 : Int32) - (0 : Int32))).toInt64) * (18 : Int64))) (((own_mx (0 : Int32) ((0 : Int32) - (1 : Int32)))).toInt64); have r := rng64 ((((((0 : Int32)).toInt64) * (17 : Int64)) + (((((0 : Int32) - (0 : Int32))).toInt64) * (18 : Int64))) + (((own_mx (0 : Int32) ((0 : Int32) - (1 : Int32)))).toInt64)); omega
      have e12 : (((16 : Int64) + ((((((0 : Int32)).toInt64) * (17 : Int64)) + (((((0 : Int32) - (0 : Int32))).toInt64) * (18 : Int64))) + (((own_mx (0 : Int32) ((0 : Int32) - (1 : Int32)))).toInt64)))).toInt = ((16 : Int64)).toInt + (((((((0 : Int32)).toInt64) * (17 : Int64)) + (((((0 : Int32) - (0 : Int32))).toInt64) * (18 : Int64))) + (((own_mx (0 : Int32) ((0 : Int32) - (1 : Int32)))).toInt64))).toInt := by have w := c_ladd (16 : Int64) ((((((0 : Int32)).toInt64) * (17 : Int64)) + (((((0 : Int32) - (0 : Int32))).toInt64) * (18 : Int64))) + (((own_mx (0 : Int32) ((0 : Int32) - (1 : Int32)))).toInt64)); have r := rng64 ((16 : Int64) + ((((((0 : Int32)).toInt64) * (17 : Int64)) + (((((0 : Int32) - (0 : Int32))).toInt64) * (18 : Int64))) + (((own_mx (0 : Int32) ((0 : Int32) - (1 : Int32)))).toInt64))); omega
      have e25 : (2 : Int64).toInt = 2 := rfl
      have e11 : ((((16 : Int64) + ((((((0 : Int32)).toInt64) * (17 : Int64)) + (((((0 : Int32) - (0 : Int32))).toInt64) * (18 : Int64))) + (((own_mx (0 : Int32) ((0 : Int32) - (1 : Int32)))).toInt64))) + (2 : Int64))).toInt = (((16 : Int64) + ((((((0 : Int32)).toInt64) * (17 : Int64)) + (((((0 : Int32) - (0 : Int32))).toInt64) * (18 : Int64))) + (((own_mx (0 : Int32) ((0 : Int32) - (1 : Int32)))).toInt64)))).toInt + ((2 : Int64)).toInt := by have w := c_ladd ((16 : Int64) + ((((((0 : Int32)).toInt64) * (17 : Int64)) + (((((0 : Int32) - (0 : Int32))).toInt64) * (18 : Int64))) + (((own_mx (0 : Int32) ((0 : Int32) - (1 : Int32)))).toInt64))) (2 : Int64); have r := rng64 (((16 : Int64) + ((((((0 : Int32)).toInt64) * (17 : Int64)) + (((((0 : Int32) - (0 : Int32))).toInt64) * (18 : Int64))) + (((own_mx (0 : Int32) ((0 : Int32) - (1 : Int32)))).toInt64))) + (2 : Int64)); omega
      have i_hc26 : ¬ ((0 : Int32)).toInt < ((ic &&& (7 : Int32))).toInt := fun z => hc26 (Int32.lt_iff_toInt_lt.mpr z)
      have i_hc53 : ¬ ((1 : Int32)).toInt < ((ic &&& (7 : Int32))).toInt := fun z => hc53 (Int32.lt_iff_toInt_lt.mpr z)
      have i_hc80 : ¬ ((2 : Int32)).toInt < ((ic &&& (7 : Int32))).toInt := fun z => hc80 (Int32.lt_iff_toInt_lt.mpr z)
      have i_hc107 : ¬ ((3 : Int32)).toInt < ((ic &&& (7 : Int32))).toInt := fun z => hc107 (Int32.lt_iff_toInt_lt.mpr z)
      have i_hc135 : ¬ ((4 : Int32)).toInt < ((ic &&& (7 : Int32))).toInt := fun z => hc135 (Int32.lt_iff_toInt_lt.mpr z)
      have i_hc163 : ¬ ((5 : Int32)).toInt < ((ic &&& (7 : Int32))).toInt := fun z => hc163 (Int32.lt_iff_toInt_lt.mpr z)
      have i_hc192 : ¬ ((6 : Int32)).toInt < ((ic &&& (7 : Int32))).toInt := fun z => hc192 (Int32.lt_iff_toInt_lt.mpr z)
      have i_hc224 : ¬ ((((16 : Int64) + ((((((0 : Int32)).toInt64) * (17 : Int64)) + (((((0 : Int32) - (0 : Int32))).toInt64) * (18 : Int64))) + (((own_mx (0 : Int32) ((0 : Int32) - (1 : Int32)))).toInt64))) + (2 : Int64))).toInt = ((18 : Int64)).toInt := fun z => hc224 (Int64.toInt_inj.mp z)
      omega
    · refine g_iconst cx d0_227 (v := (1 : Int32)) rfl ?_
      refine g_goto cx d0_228 ?_
      refine g_retZ cx d0_232 rfl rfl (by decide) (by decide) ?_
      rfl
  · refine g_lload cx d0_29 rfl ?_
    refine g_aloadN cx d0_31 rfl rfl ?_
    refine g_iloadN cx d0_32 rfl ?_
    refine g_iconst cx d0_33 (v := (1 : Int32)) rfl ?_
    refine g_iand cx d0_34 ?_
    refine g_tern cx d0_35 d0_38 d0_39 d0_42 ?_
    refine g_iconst cx d0_43 (v := (1 : Int32)) rfl ?_
    refine g_static cx (y := (⟨"com/example/dyn_authz/dynauthz/service/DecisionsLengthPinLaw", "addOne", "(Lcom/example/dyn_authz/dynauthz/service/Decisions;ZZ)J"⟩ : MethodName)) d0_44 (hw _ (List.mem_of_getElem? (i := 34) rfl)) (hw _ (List.mem_of_getElem? (i := 35) rfl)) (hw _ (List.mem_of_getElem? (i := 36) rfl)) (hw _ (List.mem_of_getElem? (i := 37) rfl)) (by decide) (bytes := method_2_code) (maxL' := 5) (M := (rmo l Z a0 hw (0 : Int32) (by decide) (by decide) SAD pm dn SPM SDN npd b2 (0 : Int32) (own_nz (ig &&& (1 : Int32))) (1 : Int32) _ DD OL)) rfl (lenOf pd_7 rfl) (by decide) (W := 2) (Nat.le_of_eq rfl) (by decide) (k' := 4) (n' := 11) rfl rfl (by decide) (by decide) (argsL := [(.ref b2), (.int (own_nz (ig &&& (1 : Int32)))), (.int (1 : Int32))]) (rest := [(.long (18 : Int64))]) rfl (fun v14 h13 q15 => ?_)
    obtain ⟨rfl, OL, DD⟩ := q15
    have O_b2 := own_Dx DD
    have DD : own_D Z _ b2 (1 : Int32) ((0 : Int32) + (own_nz (own_nz (ig &&& (1 : Int32))))) := DD
    refine G.cast (st' := [(.long (own_len (own_nz (ig &&& (1 : Int32))) (1 : Int32))), (.long (18 : Int64))]) ?_ rfl
    refine g_ladd cx d0_47 ?_
    refine g_lstore cx d0_48 (Ls' := #[.val (.int ie), .val (.int ic), .val (.int ig), .val (.ref b2), .val (.int (ic &&& (7 : Int32))), .val (.long ((18 : Int64) + (own_len (own_nz (ig &&& (1 : Int32))) (1 : Int32)))), .second]) rfl ?_
    refine g_iload cx d0_50 rfl ?_
    refine g_iconst cx d0_52 (v := (1 : Int32)) rfl ?_
    refine g_icmp_le cx d0_53 (fun hc53 => ?_) (fun hc53 => ?_)
    · refine g_iload cx d0_77 rfl ?_
      refine g_iconst cx d0_79 (v := (2 : Int32)) rfl ?_
      refine g_icmp_le cx d0_80 (fun hc80 => ?_) (fun q => absurd q (fun q => by have i_hc26 : ((0 : Int32)).toInt < ((ic &&& (7 : Int32))).toInt := Int32.lt_iff_toInt_lt.mp hc26; have i_hc53 : ¬ ((1 : Int32)).toInt < ((ic &&& (7 : Int32))).toInt := fun z => hc53 (Int32.lt_iff_toInt_lt.mpr z); have i_q : ((2 : Int32)).toInt < ((ic &&& (7 : Int32))).toInt := Int32.lt_iff_toInt_lt.mp q; have e1 : (0 : Int32).toInt = 0 := rfl; have r3 := rng32 ic; have e2 : ((ic &&& (7 : Int32))).toInt = (ic).toInt % 8 := c_mask ic (7 : Int32) 3 (by decide) (by decide); have e4 : (1 : Int32).toInt = 1 := rfl; have e5 : (2 : Int32).toInt = 2 := rfl; omega))
      refine g_iload cx d0_104 rfl ?_
      refine g_iconst cx d0_106 (v := (3 : Int32)) rfl ?_
      refine g_icmp_le cx d0_107 (fun hc107 => ?_) (fun q => absurd q (fun q => by have i_hc26 : ((0 : Int32)).toInt < ((ic &&& (7 : Int32))).toInt := Int32.lt_iff_toInt_lt.mp hc26; have i_hc53 : ¬ ((1 : Int32)).toInt < ((ic &&& (7 : Int32))).toInt := fun z => hc53 (Int32.lt_iff_toInt_lt.mpr z); have i_hc80 : ¬ ((2 : Int32)).toInt < ((ic &&& (7 : Int32))).toInt := fun z => hc80 (Int32.lt_iff_toInt_lt.mpr z); have i_q : ((3 : Int32)).toInt < ((ic &&& (7 : Int32))).toInt := Int32.lt_iff_toInt_lt.mp q; have e1 : (0 : Int32).toInt = 0 := rfl; have r3 := rng32 ic; have e2 : ((ic &&& (7 : Int32))).toInt = (ic).toInt % 8 := c_mask ic (7 : Int32) 3 (by decide) (by decide); have e4 : (1 : Int32).toInt = 1 := rfl; have e5 : (2 : Int32).toInt = 2 := rfl; have e6 : (3 : Int32).toInt = 3 := rfl; omega))
      refine g_iload cx d0_132 rfl ?_
      refine g_iconst cx d0_134 (v := (4 : Int32)) rfl ?_
      refine g_icmp_le cx d0_135 (fun hc135 => ?_) (fun q => absurd q (fun q => by have i_hc26 : ((0 : Int32)).toInt < ((ic &&& (7 : Int32))).toInt := Int32.lt_iff_toInt_lt.mp hc26; have i_hc53 : ¬ ((1 : Int32)).toInt < ((ic &&& (7 : Int32))).toInt := fun z => hc53 (Int32.lt_iff_toInt_lt.mpr z); have i_hc80 : ¬ ((2 : Int32)).toInt < ((ic &&& (7 : Int32))).toInt := fun z => hc80 (Int32.lt_iff_toInt_lt.mpr z); have i_hc107 : ¬ ((3 : Int32)).toInt < ((ic &&& (7 : Int32))).toInt := fun z => hc107 (Int32.lt_iff_toInt_lt.mpr z); have i_q : ((4 : Int32)).toInt < ((ic &&& (7 : Int32))).toInt := Int32.lt_iff_toInt_lt.mp q; have e1 : (0 : Int32).toInt = 0 := rfl; have r3 := rng32 ic; have e2 : ((ic &&& (7 : Int32))).toInt = (ic).toInt % 8 := c_mask ic (7 : Int32) 3 (by decide) (by decide); have e4 : (1 : Int32).toInt = 1 := rfl; have e5 : (2 : Int32).toInt = 2 := rfl; have e6 : (3 : Int32).toInt = 3 := rfl; have e7 : (4 : Int32).toInt = 4 := rfl; omega))
      refine g_iload cx d0_160 rfl ?_
      refine g_iconst cx d0_162 (v := (5 : Int32)) rfl ?_
      refine g_icmp_le cx d0_163 (fun hc163 => ?_) (fun q => absurd q (fun q => by have i_hc26 : ((0 : Int32)).toInt < ((ic &&& (7 : Int32))).toInt := Int32.lt_iff_toInt_lt.mp hc26; have i_hc53 : ¬ ((1 : Int32)).toInt < ((ic &&& (7 : Int32))).toInt := fun z => hc53 (Int32.lt_iff_toInt_lt.mpr z); have i_hc80 : ¬ ((2 : Int32)).toInt < ((ic &&& (7 : Int32))).toInt := fun z => hc80 (Int32.lt_iff_toInt_lt.mpr z); have i_hc107 : ¬ ((3 : Int32)).toInt < ((ic &&& (7 : Int32))).toInt := fun z => hc107 (Int32.lt_iff_toInt_lt.mpr z); have i_hc135 : ¬ ((4 : Int32)).toInt < ((ic &&& (7 : Int32))).toInt := fun z => hc135 (Int32.lt_iff_toInt_lt.mpr z); have i_q : ((5 : Int32)).toInt < ((ic &&& (7 : Int32))).toInt := Int32.lt_iff_toInt_lt.mp q; have e1 : (0 : Int32).toInt = 0 := rfl; have r3 := rng32 ic; have e2 : ((ic &&& (7 : Int32))).toInt = (ic).toInt % 8 := c_mask ic (7 : Int32) 3 (by decide) (by decide); have e4 : (1 : Int32).toInt = 1 := rfl; have e5 : (2 : Int32).toInt = 2 := rfl; have e6 : (3 : Int32).toInt = 3 := rfl; have e7 : (4 : Int32).toInt = 4 := rfl; have e8 : (5 : Int32).toInt = 5 := rfl; omega))
      refine g_iload cx d0_188 rfl ?_
      refine g_bipush cx d0_190 (v := (6 : Int32)) rfl ?_
      refine g_icmp_le cx d0_192 (fun hc192 => ?_) (fun q => absurd q (fun q => by have i_hc26 : ((0 : Int32)).toInt < ((ic &&& (7 : Int32))).toInt := Int32.lt_iff_toInt_lt.mp hc26; have i_hc53 : ¬ ((1 : Int32)).toInt < ((ic &&& (7 : Int32))).toInt := fun z => hc53 (Int32.lt_iff_toInt_lt.mpr z); have i_hc80 : ¬ ((2 : Int32)).toInt < ((ic &&& (7 : Int32))).toInt := fun z => hc80 (Int32.lt_iff_toInt_lt.mpr z); have i_hc107 : ¬ ((3 : Int32)).toInt < ((ic &&& (7 : Int32))).toInt := fun z => hc107 (Int32.lt_iff_toInt_lt.mpr z); have i_hc135 : ¬ ((4 : Int32)).toInt < ((ic &&& (7 : Int32))).toInt := fun z => hc135 (Int32.lt_iff_toInt_lt.mpr z); have i_hc163 : ¬ ((5 : Int32)).toInt < ((ic &&& (7 : Int32))).toInt := fun z => hc163 (Int32.lt_iff_toInt_lt.mpr z); have i_q : ((6 : Int32)).toInt < ((ic &&& (7 : Int32))).toInt := Int32.lt_iff_toInt_lt.mp q; have e1 : (0 : Int32).toInt = 0 := rfl; have r3 := rng32 ic; have e2 : ((ic &&& (7 : Int32))).toInt = (ic).toInt % 8 := c_mask ic (7 : Int32) 3 (by decide) (by decide); have e4 : (1 : Int32).toInt = 1 := rfl; have e5 : (2 : Int32).toInt = 2 := rfl; have e6 : (3 : Int32).toInt = 3 := rfl; have e7 : (4 : Int32).toInt = 4 := rfl; have e8 : (5 : Int32).toInt = 5 := rfl; have e9 : (6 : Int32).toInt = 6 := rfl; omega))
      refine g_aloadN cx d0_217 rfl rfl ?_
      refine g_virtual cx (y := (⟨"com/example/dyn_authz/dynauthz/service/Decisions", "length", "()J"⟩ : MethodName)) (z := (⟨"com/example/dyn_authz/dynauthz/service/Decisions", "length", "()J"⟩ : MethodName)) (a := b2) d0_218 (hw _ (List.mem_of_getElem? (i := 90) rfl)) (hw _ (List.mem_of_getElem? (i := 91) rfl)) (hw _ (List.mem_of_getElem? (i := 2) rfl)) (hw _ (List.mem_of_getElem? (i := 94) rfl)) (hw _ (List.mem_of_getElem? (i := 93) rfl)) (hw _ (List.mem_of_getElem? (i := 92) rfl)) rfl (by decide) O_b2.1 (bytes := prog_43_method_4_code) (maxL' := 3) (M := (rml l Z a0 hw sPERMIT cPERMIT SPERMIT VPERMIT sDENY cDENY SDENY VDENY sOPENING cOPENING SOPENING VOPENING sCLOSING cCLOSING SCLOSING VCLOSING b2 (1 : Int32) ((0 : Int32) + (own_nz (own_nz (ig &&& (1 : Int32))))) _ DD OL)) rfl (lenOf pd_6 rfl) (by decide) (W := 0) (Nat.le_of_eq rfl) (by decide) (k' := 4) (n' := 11) rfl rfl (by decide) (by decide) (argsL := []) (rest := []) rfl (fun v17 h16 q18 => ?_)
      obtain ⟨rfl, rfl⟩ := q18
      refine G.cast (st' := [(.long (((16 : Int64) + (((((((0 : Int32) + (own_nz (own_nz (ig &&& (1 : Int32)))))).toInt64) * (17 : Int64)) + (((((1 : Int32) - ((0 : Int32) + (own_nz (own_nz (ig &&& (1 : Int32))))))).toInt64) * (18 : Int64))) + (((own_mx (0 : Int32) ((1 : Int32) - (1 : Int32)))).toInt64))) + (2 : Int64)))]) ?_ rfl
      refine g_lload cx d0_221 rfl ?_
      refine g_lif_ne cx d0_223 d0_224 (fun hc224 => ?_) (fun hc224 => ?_)
      · refine g_iconst cx d0_231 (v := (0 : Int32)) rfl ?_
        refine g_retZ cx d0_232 rfl rfl (by decide) (by decide) ?_
        exfalso
        have e1 : (0 : Int32).toInt = 0 := rfl
        have e3 : (1 : Int32).toInt = 1 := rfl
        have e2 : (((1 : Int32) - (1 : Int32))).toInt = ((1 : Int32)).toInt - ((1 : Int32)).toInt := by have w := c_isub (1 : Int32) (1 : Int32); have r := rng32 ((1 : Int32) - (1 : Int32)); omega
        have := own_nz_b (own_nz (ig &&& (1 : Int32)))
        have := own_nz_b (ig &&& (1 : Int32))
        have := own_mx_t (0 : Int32) ((1 : Int32) - (1 : Int32))
        have := own_len1 (own_nz (ig &&& (1 : Int32)))
        have := own_nz_b (own_nz (ig &&& (1 : Int32)))
        have r5 := rng32 ic
        have e4 : ((ic &&& (7 : Int32))).toInt = (ic).toInt % 8 := c_mask ic (7 : Int32) 3 (by decide) (by decide)
        have e6 : (2 : Int32).toInt = 2 := rfl
        have e7 : (3 : Int32).toInt = 3 := rfl
        have e8 : (4 : Int32).toInt = 4 := rfl
        have e9 : (5 : Int32).toInt = 5 := rfl
        have e10 : (6 : Int32).toInt = 6 := rfl
        have e13 : (16 : Int64).toInt = 16 := rfl
        have r19 := rng32 (own_nz (own_nz (ig &&& (1 : Int32))))
        have e18 : (((0 : Int32) + (own_nz (own_nz (ig &&& (1 : Int32)))))).toInt = ((0 : Int32)).toInt + ((own_nz (own_nz (ig &&& (1 : Int32))))).toInt := by have w := c_iadd (0 : Int32) (own_nz (own_nz (ig &&& (1 : Int32)))); have r := rng32 ((0 : Int32) + (own_nz (own_nz (ig &&& (1 : Int32))))); omega
        have e17 := c_i2l ((0 : Int32) + (own_nz (own_nz (ig &&& (1 : Int32)))))
        have e20 : (17 : Int64).toInt = 17 := rfl
        have e16 : ((((((0 : Int32) + (own_nz (own_nz (ig &&& (1 : Int32)))))).toInt64) * (17 : Int64))).toInt = (((((0 : Int32) + (own_nz (own_nz (ig &&& (1 : Int32)))))).toInt64)).toInt * 17 := by have w : (((((((0 : Int32) + (own_nz (own_nz (ig &&& (1 : Int32)))))).toInt64) * (17 : Int64))).toInt - (((((0 : Int32) + (own_nz (own_nz (ig &&& (1 : Int32)))))).toInt64)).toInt * 17) % 18446744073709551616 = 0 := c_lmul ((((0 : Int32) + (own_nz (own_nz (ig &&& (1 : Int32)))))).toInt64) (17 : Int64); have r := rng64 (((((0 : Int32) + (own_nz (own_nz (ig &&& (1 : Int32)))))).toInt64) * (17 : Int64)); omega
        have e23 : (((1 : Int32) - ((0 : Int32) + (own_nz (own_nz (ig &&& (1 : Int32))))))).toInt = ((1 : Int32)).toInt - (((0 : Int32) + (own_nz (own_nz (ig &&& (1 : Int32)))))).toInt := by have w := c_isub (1 : Int32) ((0 : Int32) + (own_nz (own_nz (ig &&& (1 : Int32))))); have r := rng32 ((1 : Int32) - ((0 : Int32) + (own_nz (own_nz (ig &&& (1 : Int32)))))); omega
        have e22 := c_i2l ((1 : Int32) - ((0 : Int32) + (own_nz (own_nz (ig &&& (1 : Int32))))))
        have e24 : (18 : Int64).toInt = 18 := rfl
        have e21 : ((((((1 : Int32) - ((0 : Int32) + (own_nz (own_nz (ig &&& (1 : Int32))))))).toInt64) * (18 : Int64))).toInt = (((((1 : Int32) - ((0 : Int32) + (own_nz (own_nz (ig &&& (1 : Int32))))))).toInt64)).toInt * 18 := by have w : (((((((1 : Int32) - ((0 : Int32) + (own_nz (own_nz (ig &&& (1 : Int32))))))).toInt64) * (18 : Int64))).toInt - (((((1 : Int32) - ((0 : Int32) + (own_nz (own_nz (ig &&& (1 : Int32))))))).toInt64)).toInt * 18) % 18446744073709551616 = 0 := c_lmul ((((1 : Int32) - ((0 : Int32) + (own_nz (own_nz (ig &&& (1 : Int32))))))).toInt64) (18 : Int64); have r := rng64 (((((1 : Int32) - ((0 : Int32) + (own_nz (own_nz (ig &&& (1 : Int32))))))).toInt64) * (18 : Int64)); omega
        have e15 : (((((((0 : Int32) + (own_nz (own_nz (ig &&& (1 : Int32)))))).toInt64) * (17 : Int64)) + (((((1 : Int32) - ((0 : Int32) + (own_nz (own_nz (ig &&& (1 : Int32))))))).toInt64) * (18 : Int64)))).toInt = ((((((0 : Int32) + (own_nz (own_nz (ig &&& (1 : Int32)))))).toInt64) * (17 : Int64))).toInt + ((((((1 : Int32) - ((0 : Int32) + (own_nz (own_nz (ig &&& (1 : Int32))))))).toInt64) * (18 : Int64))).toInt := by have w := c_ladd (((((0 : Int32) + (own_nz (own_nz (ig &&& (1 : Int32)))))).toInt64) * (17 : Int64)) (((((1 : Int32) - ((0 : Int32) + (own_nz (own_nz (ig &&& (1 : Int32))))))).toInt64) * (18 : Int64)); have r := rng64 ((((((0 : Int32) + (own_nz (own_nz (ig &&& (1 : Int32)))))).toInt64) * (17 : Int64)) + (((((1 : Int32) - ((0 : Int32) + (own_nz (own_nz (ig &&& (1 : Int32))))))).toInt64) * (18 : Int64))); omega
        have r26 := rng32 (own_mx (0 : Int32) ((1 : Int32) - (1 : Int32)))
        have e25 := c_i2l (own_mx (0 : Int32) ((1 : Int32) - (1 : Int32)))
        have e14 : ((((((((0 : Int32) + (own_nz (own_nz (ig &&& (1 : Int32)))))).toInt64) * (17 : Int64)) + (((((1 : Int32) - ((0 : Int32) + (own_nz (own_nz (ig &&& (1 : Int32))))))).toInt64) * (18 : Int64))) + (((own_mx (0 : Int32) ((1 : Int32) - (1 : Int32)))).toInt64))).toInt = (((((((0 : Int32) + (own_nz (own_nz (ig &&& (1 : Int32)))))).toInt64) * (17 : Int64)) + (((((1 : Int32) - ((0 : Int32) + (own_nz (own_nz (ig &&& (1 : Int32))))))).toInt64) * (18 : Int64)))).toInt + ((((own_mx (0 : Int32) ((1 : Int32) - (1 : Int32)))).toInt64)).toInt := by have w := c_ladd ((((((0 : Int32) + (own_nz (own_nz (ig &&& (1 : Int32)))))).toInt64) * (17 : Int64)) + (((((1 : Int32) - ((0 : Int32) + (own_nz (own_nz (ig &&& (1 : Int32))))))).toInt64) * (18 : Int64))) (((own_mx (0 : Int32) ((1 : Int32) - (1 : Int32)))).toInt64); have r := rng64 (((((((0 : Int32) + (own_nz (own_nz (ig &&& (1 : Int32)))))).toInt64) * (17 : Int64)) + (((((1 : Int32) - ((0 : Int32) + (own_nz (own_nz (ig &&& (1 : Int32))))))).toInt64) * (18 : Int64))) + (((own_mx (0 : Int32) ((1 : Int32) - (1 : Int32)))).toInt64)); omega
        have e12 : (((16 : Int64) + (((((((0 : Int32) + (own_nz (own_nz (ig &&& (1 : Int32)))))).toInt64) * (17 : Int64)) + (((((1 : Int32) - ((0 : Int32) + (own_nz (own_nz (ig &&& (1 : Int32))))))).toInt64) * (18 : Int64))) + (((own_mx (0 : Int32) ((1 : Int32) - (1 : Int32)))).toInt64)))).toInt = ((16 : Int64)).toInt + ((((((((0 : Int32) + (own_nz (own_nz (ig &&& (1 : Int32)))))).toInt64) * (17 : Int64)) + (((((1 : Int32) - ((0 : Int32) + (own_nz (own_nz (ig &&& (1 : Int32))))))).toInt64) * (18 : Int64))) + (((own_mx (0 : Int32) ((1 : Int32) - (1 : Int32)))).toInt64))).toInt := by have w := c_ladd (16 : Int64) (((((((0 : Int32) + (own_nz (own_nz (ig &&& (1 : Int32)))))).toInt64) * (17 : Int64)) + (((((1 : Int32) - ((0 : Int32) + (own_nz (own_nz (ig &&& (1 : Int32))))))).toInt64) * (18 : Int64))) + (((own_mx (0 : Int32) ((1 : Int32) - (1 : Int32)))).toInt64)); have r := rng64 ((16 : Int64) + (((((((0 : Int32) + (own_nz (own_nz (ig &&& (1 : Int32)))))).toInt64) * (17 : Int64)) + (((((1 : Int32) - ((0 : Int32) + (own_nz (own_nz (ig &&& (1 : Int32))))))).toInt64) * (18 : Int64))) + (((own_mx (0 : Int32) ((1 : Int32) - (1 : Int32)))).toInt64))); omega
        have e27 : (2 : Int64).toInt = 2 := rfl
        have e11 : ((((16 : Int64) + (((((((0 : Int32) + (own_nz (own_nz (ig &&& (1 : Int32)))))).toInt64) * (17 : Int64)) + (((((1 : Int32) - ((0 : Int32) + (own_nz (own_nz (ig &&& (1 : Int32))))))).toInt64) * (18 : Int64))) + (((own_mx (0 : Int32) ((1 : Int32) - (1 : Int32)))).toInt64))) + (2 : Int64))).toInt = (((16 : Int64) + (((((((0 : Int32) + (own_nz (own_nz (ig &&& (1 : Int32)))))).toInt64) * (17 : Int64)) + (((((1 : Int32) - ((0 : Int32) + (own_nz (own_nz (ig &&& (1 : Int32))))))).toInt64) * (18 : Int64))) + (((own_mx (0 : Int32) ((1 : Int32) - (1 : Int32)))).toInt64)))).toInt + ((2 : Int64)).toInt := by have w := c_ladd ((16 : Int64) + (((((((0 : Int32) + (own_nz (own_nz (ig &&& (1 : Int32)))))).toInt64) * (17 : Int64)) + (((((1 : Int32) - ((0 : Int32) + (own_nz (own_nz (ig &&& (1 : Int32))))))).toInt64) * (18 : Int64))) + (((own_mx (0 : Int32) ((1 : Int32) - (1 : Int32)))).toInt64))) (2 : Int64); have r := rng64 (((16 : Int64) + (((((((0 : Int32) + (own_nz (own_nz (ig &&& (1 : Int32)))))).toInt64) * (17 : Int64)) + (((((1 : Int32) - ((0 : Int32) + (own_nz (own_nz (ig &&& (1 : Int32))))))).toInt64) * (18 : Int64))) + (((own_mx (0 : Int32) ((1 : Int32) - (1 : Int32)))).toInt64))) + (2 : Int64)); omega
        have r29 := rng64 (own_len (own_nz (ig &&& (1 : Int32))) (1 : Int32))
        have e28 : (((18 : Int64) + (own_len (own_nz (ig &&& (1 : Int32))) (1 : Int32)))).toInt = ((18 : Int64)).toInt + ((own_len (own_nz (ig &&& (1 : Int32))) (1 : Int32))).toInt := by have w := c_ladd (18 : Int64) (own_len (own_nz (ig &&& (1 : Int32))) (1 : Int32)); have r := rng64 ((18 : Int64) + (own_len (own_nz (ig &&& (1 : Int32))) (1 : Int32))); omega
        have i_hc26 : ((0 : Int32)).toInt < ((ic &&& (7 : Int32))).toInt := Int32.lt_iff_toInt_lt.mp hc26
        have i_hc53 : ¬ ((1 : Int32)).toInt < ((ic &&& (7 : Int32))).toInt := fun z => hc53 (Int32.lt_iff_toInt_lt.mpr z)
        have i_hc80 : ¬ ((2 : Int32)).toInt < ((ic &&& (7 : Int32))).toInt := fun z => hc80 (Int32.lt_iff_toInt_lt.mpr z)
        have i_hc107 : ¬ ((3 : Int32)).toInt < ((ic &&& (7 : Int32))).toInt := fun z => hc107 (Int32.lt_iff_toInt_lt.mpr z)
        have i_hc135 : ¬ ((4 : Int32)).toInt < ((ic &&& (7 : Int32))).toInt := fun z => hc135 (Int32.lt_iff_toInt_lt.mpr z)
        have i_hc163 : ¬ ((5 : Int32)).toInt < ((ic &&& (7 : Int32))).toInt := fun z => hc163 (Int32.lt_iff_toInt_lt.mpr z)
        have i_hc192 : ¬ ((6 : Int32)).toInt < ((ic &&& (7 : Int32))).toInt := fun z => hc192 (Int32.lt_iff_toInt_lt.mpr z)
        have i_hc224 : ¬ ((((16 : Int64) + (((((((0 : Int32) + (own_nz (own_nz (ig &&& (1 : Int32)))))).toInt64) * (17 : Int64)) + (((((1 : Int32) - ((0 : Int32) + (own_nz (own_nz (ig &&& (1 : Int32))))))).toInt64) * (18 : Int64))) + (((own_mx (0 : Int32) ((1 : Int32) - (1 : Int32)))).toInt64))) + (2 : Int64))).toInt = (((18 : Int64) + (own_len (own_nz (ig &&& (1 : Int32))) (1 : Int32)))).toInt := fun z => hc224 (Int64.toInt_inj.mp z)
        omega
      · refine g_iconst cx d0_227 (v := (1 : Int32)) rfl ?_
        refine g_goto cx d0_228 ?_
        refine g_retZ cx d0_232 rfl rfl (by decide) (by decide) ?_
        rfl
    · refine g_lload cx d0_56 rfl ?_
      refine g_aloadN cx d0_58 rfl rfl ?_
      refine g_iloadN cx d0_59 rfl ?_
      refine g_iconst cx d0_60 (v := (2 : Int32)) rfl ?_
      refine g_iand cx d0_61 ?_
      refine g_tern cx d0_62 d0_65 d0_66 d0_69 ?_
      refine g_iconst cx d0_70 (v := (0 : Int32)) rfl ?_
      refine g_static cx (y := (⟨"com/example/dyn_authz/dynauthz/service/DecisionsLengthPinLaw", "addOne", "(Lcom/example/dyn_authz/dynauthz/service/Decisions;ZZ)J"⟩ : MethodName)) d0_71 (hw _ (List.mem_of_getElem? (i := 34) rfl)) (hw _ (List.mem_of_getElem? (i := 35) rfl)) (hw _ (List.mem_of_getElem? (i := 36) rfl)) (hw _ (List.mem_of_getElem? (i := 37) rfl)) (by decide) (bytes := method_2_code) (maxL' := 5) (M := (rmo l Z a0 hw (1 : Int32) (by decide) (by decide) SAD pm dn SPM SDN npd b2 ((0 : Int32) + (own_nz (own_nz (ig &&& (1 : Int32))))) (own_nz (ig &&& (2 : Int32))) (0 : Int32) _ DD OL)) rfl (lenOf pd_7 rfl) (by decide) (W := 2) (Nat.le_of_eq rfl) (by decide) (k' := 5) (n' := 12) rfl rfl (by decide) (by decide) (argsL := [(.ref b2), (.int (own_nz (ig &&& (2 : Int32)))), (.int (0 : Int32))]) (rest := [(.long ((18 : Int64) + (own_len (own_nz (ig &&& (1 : Int32))) (1 : Int32))))]) rfl (fun v20 h19 q21 => ?_)
      obtain ⟨rfl, OL, DD⟩ := q21
      have O_b2 := own_Dx DD
      have DD : own_D Z _ b2 (2 : Int32) (((0 : Int32) + (own_nz (own_nz (ig &&& (1 : Int32))))) + (own_nz (own_nz (ig &&& (2 : Int32))))) := DD
      refine G.cast (st' := [(.long (own_len (own_nz (ig &&& (2 : Int32))) (0 : Int32))), (.long ((18 : Int64) + (own_len (own_nz (ig &&& (1 : Int32))) (1 : Int32))))]) ?_ rfl
      refine g_ladd cx d0_74 ?_
      refine g_lstore cx d0_75 (Ls' := #[.val (.int ie), .val (.int ic), .val (.int ig), .val (.ref b2), .val (.int (ic &&& (7 : Int32))), .val (.long (((18 : Int64) + (own_len (own_nz (ig &&& (1 : Int32))) (1 : Int32))) + (own_len (own_nz (ig &&& (2 : Int32))) (0 : Int32)))), .second]) rfl ?_
      refine g_iload cx d0_77 rfl ?_
      refine g_iconst cx d0_79 (v := (2 : Int32)) rfl ?_
      refine g_icmp_le cx d0_80 (fun hc80 => ?_) (fun hc80 => ?_)
      · refine g_iload cx d0_104 rfl ?_
        refine g_iconst cx d0_106 (v := (3 : Int32)) rfl ?_
        refine g_icmp_le cx d0_107 (fun hc107 => ?_) (fun q => absurd q (fun q => by have i_hc26 : ((0 : Int32)).toInt < ((ic &&& (7 : Int32))).toInt := Int32.lt_iff_toInt_lt.mp hc26; have i_hc53 : ((1 : Int32)).toInt < ((ic &&& (7 : Int32))).toInt := Int32.lt_iff_toInt_lt.mp hc53; have i_hc80 : ¬ ((2 : Int32)).toInt < ((ic &&& (7 : Int32))).toInt := fun z => hc80 (Int32.lt_iff_toInt_lt.mpr z); have i_q : ((3 : Int32)).toInt < ((ic &&& (7 : Int32))).toInt := Int32.lt_iff_toInt_lt.mp q; have e1 : (0 : Int32).toInt = 0 := rfl; have r3 := rng32 ic; have e2 : ((ic &&& (7 : Int32))).toInt = (ic).toInt % 8 := c_mask ic (7 : Int32) 3 (by decide) (by decide); have e4 : (1 : Int32).toInt = 1 := rfl; have e5 : (2 : Int32).toInt = 2 := rfl; have e6 : (3 : Int32).toInt = 3 := rfl; omega))
        refine g_iload cx d0_132 rfl ?_
        refine g_iconst cx d0_134 (v := (4 : Int32)) rfl ?_
        refine g_icmp_le cx d0_135 (fun hc135 => ?_) (fun q => absurd q (fun q => by have i_hc26 : ((0 : Int32)).toInt < ((ic &&& (7 : Int32))).toInt := Int32.lt_iff_toInt_lt.mp hc26; have i_hc53 : ((1 : Int32)).toInt < ((ic &&& (7 : Int32))).toInt := Int32.lt_iff_toInt_lt.mp hc53; have i_hc80 : ¬ ((2 : Int32)).toInt < ((ic &&& (7 : Int32))).toInt := fun z => hc80 (Int32.lt_iff_toInt_lt.mpr z); have i_hc107 : ¬ ((3 : Int32)).toInt < ((ic &&& (7 : Int32))).toInt := fun z => hc107 (Int32.lt_iff_toInt_lt.mpr z); have i_q : ((4 : Int32)).toInt < ((ic &&& (7 : Int32))).toInt := Int32.lt_iff_toInt_lt.mp q; have e1 : (0 : Int32).toInt = 0 := rfl; have r3 := rng32 ic; have e2 : ((ic &&& (7 : Int32))).toInt = (ic).toInt % 8 := c_mask ic (7 : Int32) 3 (by decide) (by decide); have e4 : (1 : Int32).toInt = 1 := rfl; have e5 : (2 : Int32).toInt = 2 := rfl; have e6 : (3 : Int32).toInt = 3 := rfl; have e7 : (4 : Int32).toInt = 4 := rfl; omega))
        refine g_iload cx d0_160 rfl ?_
        refine g_iconst cx d0_162 (v := (5 : Int32)) rfl ?_
        refine g_icmp_le cx d0_163 (fun hc163 => ?_) (fun q => absurd q (fun q => by have i_hc26 : ((0 : Int32)).toInt < ((ic &&& (7 : Int32))).toInt := Int32.lt_iff_toInt_lt.mp hc26; have i_hc53 : ((1 : Int32)).toInt < ((ic &&& (7 : Int32))).toInt := Int32.lt_iff_toInt_lt.mp hc53; have i_hc80 : ¬ ((2 : Int32)).toInt < ((ic &&& (7 : Int32))).toInt := fun z => hc80 (Int32.lt_iff_toInt_lt.mpr z); have i_hc107 : ¬ ((3 : Int32)).toInt < ((ic &&& (7 : Int32))).toInt := fun z => hc107 (Int32.lt_iff_toInt_lt.mpr z); have i_hc135 : ¬ ((4 : Int32)).toInt < ((ic &&& (7 : Int32))).toInt := fun z => hc135 (Int32.lt_iff_toInt_lt.mpr z); have i_q : ((5 : Int32)).toInt < ((ic &&& (7 : Int32))).toInt := Int32.lt_iff_toInt_lt.mp q; have e1 : (0 : Int32).toInt = 0 := rfl; have r3 := rng32 ic; have e2 : ((ic &&& (7 : Int32))).toInt = (ic).toInt % 8 := c_mask ic (7 : Int32) 3 (by decide) (by decide); have e4 : (1 : Int32).toInt = 1 := rfl; have e5 : (2 : Int32).toInt = 2 := rfl; have e6 : (3 : Int32).toInt = 3 := rfl; have e7 : (4 : Int32).toInt = 4 := rfl; have e8 : (5 : Int32).toInt = 5 := rfl; omega))
        refine g_iload cx d0_188 rfl ?_
        refine g_bipush cx d0_190 (v := (6 : Int32)) rfl ?_
        refine g_icmp_le cx d0_192 (fun hc192 => ?_) (fun q => absurd q (fun q => by have i_hc26 : ((0 : Int32)).toInt < ((ic &&& (7 : Int32))).toInt := Int32.lt_iff_toInt_lt.mp hc26; have i_hc53 : ((1 : Int32)).toInt < ((ic &&& (7 : Int32))).toInt := Int32.lt_iff_toInt_lt.mp hc53; have i_hc80 : ¬ ((2 : Int32)).toInt < ((ic &&& (7 : Int32))).toInt := fun z => hc80 (Int32.lt_iff_toInt_lt.mpr z); have i_hc107 : ¬ ((3 : Int32)).toInt < ((ic &&& (7 : Int32))).toInt := fun z => hc107 (Int32.lt_iff_toInt_lt.mpr z); have i_hc135 : ¬ ((4 : Int32)).toInt < ((ic &&& (7 : Int32))).toInt := fun z => hc135 (Int32.lt_iff_toInt_lt.mpr z); have i_hc163 : ¬ ((5 : Int32)).toInt < ((ic &&& (7 : Int32))).toInt := fun z => hc163 (Int32.lt_iff_toInt_lt.mpr z); have i_q : ((6 : Int32)).toInt < ((ic &&& (7 : Int32))).toInt := Int32.lt_iff_toInt_lt.mp q; have e1 : (0 : Int32).toInt = 0 := rfl; have r3 := rng32 ic; have e2 : ((ic &&& (7 : Int32))).toInt = (ic).toInt % 8 := c_mask ic (7 : Int32) 3 (by decide) (by decide); have e4 : (1 : Int32).toInt = 1 := rfl; have e5 : (2 : Int32).toInt = 2 := rfl; have e6 : (3 : Int32).toInt = 3 := rfl; have e7 : (4 : Int32).toInt = 4 := rfl; have e8 : (5 : Int32).toInt = 5 := rfl; have e9 : (6 : Int32).toInt = 6 := rfl; omega))
        refine g_aloadN cx d0_217 rfl rfl ?_
        refine g_virtual cx (y := (⟨"com/example/dyn_authz/dynauthz/service/Decisions", "length", "()J"⟩ : MethodName)) (z := (⟨"com/example/dyn_authz/dynauthz/service/Decisions", "length", "()J"⟩ : MethodName)) (a := b2) d0_218 (hw _ (List.mem_of_getElem? (i := 90) rfl)) (hw _ (List.mem_of_getElem? (i := 91) rfl)) (hw _ (List.mem_of_getElem? (i := 2) rfl)) (hw _ (List.mem_of_getElem? (i := 94) rfl)) (hw _ (List.mem_of_getElem? (i := 93) rfl)) (hw _ (List.mem_of_getElem? (i := 92) rfl)) rfl (by decide) O_b2.1 (bytes := prog_43_method_4_code) (maxL' := 3) (M := (rml l Z a0 hw sPERMIT cPERMIT SPERMIT VPERMIT sDENY cDENY SDENY VDENY sOPENING cOPENING SOPENING VOPENING sCLOSING cCLOSING SCLOSING VCLOSING b2 (2 : Int32) (((0 : Int32) + (own_nz (own_nz (ig &&& (1 : Int32))))) + (own_nz (own_nz (ig &&& (2 : Int32))))) _ DD OL)) rfl (lenOf pd_6 rfl) (by decide) (W := 0) (Nat.le_of_eq rfl) (by decide) (k' := 5) (n' := 12) rfl rfl (by decide) (by decide) (argsL := []) (rest := []) rfl (fun v23 h22 q24 => ?_)
        obtain ⟨rfl, rfl⟩ := q24
        refine G.cast (st' := [(.long (((16 : Int64) + ((((((((0 : Int32) + (own_nz (own_nz (ig &&& (1 : Int32))))) + (own_nz (own_nz (ig &&& (2 : Int32)))))).toInt64) * (17 : Int64)) + (((((2 : Int32) - (((0 : Int32) + (own_nz (own_nz (ig &&& (1 : Int32))))) + (own_nz (own_nz (ig &&& (2 : Int32))))))).toInt64) * (18 : Int64))) + (((own_mx (0 : Int32) ((2 : Int32) - (1 : Int32)))).toInt64))) + (2 : Int64)))]) ?_ rfl
        refine g_lload cx d0_221 rfl ?_
        refine g_lif_ne cx d0_223 d0_224 (fun hc224 => ?_) (fun hc224 => ?_)
        · refine g_iconst cx d0_231 (v := (0 : Int32)) rfl ?_
          refine g_retZ cx d0_232 rfl rfl (by decide) (by decide) ?_
          exfalso
          have e1 : (0 : Int32).toInt = 0 := rfl
          have e3 : (2 : Int32).toInt = 2 := rfl
          have e4 : (1 : Int32).toInt = 1 := rfl
          have e2 : (((2 : Int32) - (1 : Int32))).toInt = ((2 : Int32)).toInt - ((1 : Int32)).toInt := by have w := c_isub (2 : Int32) (1 : Int32); have r := rng32 ((2 : Int32) - (1 : Int32)); omega
          have := own_nz_b (own_nz (ig &&& (1 : Int32)))
          have := own_nz_b (ig &&& (1 : Int32))
          have := own_nz_b (own_nz (ig &&& (2 : Int32)))
          have := own_nz_b (ig &&& (2 : Int32))
          have := own_mx_t (0 : Int32) ((2 : Int32) - (1 : Int32))
          have := own_len1 (own_nz (ig &&& (1 : Int32)))
          have := own_nz_b (own_nz (ig &&& (1 : Int32)))
          have := own_len0 (own_nz (ig &&& (2 : Int32)))
          have := own_nz_b (own_nz (ig &&& (2 : Int32)))
          have r6 := rng32 ic
          have e5 : ((ic &&& (7 : Int32))).toInt = (ic).toInt % 8 := c_mask ic (7 : Int32) 3 (by decide) (by decide)
          have e7 : (3 : Int32).toInt = 3 := rfl
          have e8 : (4 : Int32).toInt = 4 := rfl
          have e9 : (5 : Int32).toInt = 5 := rfl
          have e10 : (6 : Int32).toInt = 6 := rfl
          have e13 : (16 : Int64).toInt = 16 := rfl
          have r20 := rng32 (own_nz (own_nz (ig &&& (1 : Int32))))
          have e19 : (((0 : Int32) + (own_nz (own_nz (ig &&& (1 : Int32)))))).toInt = ((0 : Int32)).toInt + ((own_nz (own_nz (ig &&& (1 : Int32))))).toInt := by have w := c_iadd (0 : Int32) (own_nz (own_nz (ig &&& (1 : Int32)))); have r := rng32 ((0 : Int32) + (own_nz (own_nz (ig &&& (1 : Int32))))); omega
          have r21 := rng32 (own_nz (own_nz (ig &&& (2 : Int32))))
          have e18 : ((((0 : Int32) + (own_nz (own_nz (ig &&& (1 : Int32))))) + (own_nz (own_nz (ig &&& (2 : Int32)))))).toInt = (((0 : Int32) + (own_nz (own_nz (ig &&& (1 : Int32)))))).toInt + ((own_nz (own_nz (ig &&& (2 : Int32))))).toInt := by have w := c_iadd ((0 : Int32) + (own_nz (own_nz (ig &&& (1 : Int32))))) (own_nz (own_nz (ig &&& (2 : Int32)))); have r := rng32 (((0 : Int32) + (own_nz (own_nz (ig &&& (1 : Int32))))) + (own_nz (own_nz (ig &&& (2 : Int32))))); omega
          have e17 := c_i2l (((0 : Int32) + (own_nz (own_nz (ig &&& (1 : Int32))))) + (own_nz (own_nz (ig &&& (2 : Int32)))))
          have e22 : (17 : Int64).toInt = 17 := rfl
          have e16 : (((((((0 : Int32) + (own_nz (own_nz (ig &&& (1 : Int32))))) + (own_nz (own_nz (ig &&& (2 : Int32)))))).toInt64) * (17 : Int64))).toInt = ((((((0 : Int32) + (own_nz (own_nz (ig &&& (1 : Int32))))) + (own_nz (own_nz (ig &&& (2 : Int32)))))).toInt64)).toInt * 17 := by have w : ((((((((0 : Int32) + (own_nz (own_nz (ig &&& (1 : Int32))))) + (own_nz (own_nz (ig &&& (2 : Int32)))))).toInt64) * (17 : Int64))).toInt - ((((((0 : Int32) + (own_nz (own_nz (ig &&& (1 : Int32))))) + (own_nz (own_nz (ig &&& (2 : Int32)))))).toInt64)).toInt * 17) % 18446744073709551616 = 0 := c_lmul (((((0 : Int32) + (own_nz (own_nz (ig &&& (1 : Int32))))) + (own_nz (own_nz (ig &&& (2 : Int32)))))).toInt64) (17 : Int64); have r := rng64 ((((((0 : Int32) + (own_nz (own_nz (ig &&& (1 : Int32))))) + (own_nz (own_nz (ig &&& (2 : Int32)))))).toInt64) * (17 : Int64)); omega
          have e25 : (((2 : Int32) - (((0 : Int32) + (own_nz (own_nz (ig &&& (1 : Int32))))) + (own_nz (own_nz (ig &&& (2 : Int32))))))).toInt = ((2 : Int32)).toInt - ((((0 : Int32) + (own_nz (own_nz (ig &&& (1 : Int32))))) + (own_nz (own_nz (ig &&& (2 : Int32)))))).toInt := by have w := c_isub (2 : Int32) (((0 : Int32) + (own_nz (own_nz (ig &&& (1 : Int32))))) + (own_nz (own_nz (ig &&& (2 : Int32))))); have r := rng32 ((2 : Int32) - (((0 : Int32) + (own_nz (own_nz (ig &&& (1 : Int32))))) + (own_nz (own_nz (ig &&& (2 : Int32)))))); omega
          have e24 := c_i2l ((2 : Int32) - (((0 : Int32) + (own_nz (own_nz (ig &&& (1 : Int32))))) + (own_nz (own_nz (ig &&& (2 : Int32))))))
          have e26 : (18 : Int64).toInt = 18 := rfl
          have e23 : ((((((2 : Int32) - (((0 : Int32) + (own_nz (own_nz (ig &&& (1 : Int32))))) + (own_nz (own_nz (ig &&& (2 : Int32))))))).toInt64) * (18 : Int64))).toInt = (((((2 : Int32) - (((0 : Int32) + (own_nz (own_nz (ig &&& (1 : Int32))))) + (own_nz (own_nz (ig &&& (2 : Int32))))))).toInt64)).toInt * 18 := by have w : (((((((2 : Int32) - (((0 : Int32) + (own_nz (own_nz (ig &&& (1 : Int32))))) + (own_nz (own_nz (ig &&& (2 : Int32))))))).toInt64) * (18 : Int64))).toInt - (((((2 : Int32) - (((0 : Int32) + (own_nz (own_nz (ig &&& (1 : Int32))))) + (own_nz (own_nz (ig &&& (2 : Int32))))))).toInt64)).toInt * 18) % 18446744073709551616 = 0 := c_lmul ((((2 : Int32) - (((0 : Int32) + (own_nz (own_nz (ig &&& (1 : Int32))))) + (own_nz (own_nz (ig &&& (2 : Int32))))))).toInt64) (18 : Int64); have r := rng64 (((((2 : Int32) - (((0 : Int32) + (own_nz (own_nz (ig &&& (1 : Int32))))) + (own_nz (own_nz (ig &&& (2 : Int32))))))).toInt64) * (18 : Int64)); omega
          have e15 : ((((((((0 : Int32) + (own_nz (own_nz (ig &&& (1 : Int32))))) + (own_nz (own_nz (ig &&& (2 : Int32)))))).toInt64) * (17 : Int64)) + (((((2 : Int32) - (((0 : Int32) + (own_nz (own_nz (ig &&& (1 : Int32))))) + (own_nz (own_nz (ig &&& (2 : Int32))))))).toInt64) * (18 : Int64)))).toInt = (((((((0 : Int32) + (own_nz (own_nz (ig &&& (1 : Int32))))) + (own_nz (own_nz (ig &&& (2 : Int32)))))).toInt64) * (17 : Int64))).toInt + ((((((2 : Int32) - (((0 : Int32) + (own_nz (own_nz (ig &&& (1 : Int32))))) + (own_nz (own_nz (ig &&& (2 : Int32))))))).toInt64) * (18 : Int64))).toInt := by have w := c_ladd ((((((0 : Int32) + (own_nz (own_nz (ig &&& (1 : Int32))))) + (own_nz (own_nz (ig &&& (2 : Int32)))))).toInt64) * (17 : Int64)) (((((2 : Int32) - (((0 : Int32) + (own_nz (own_nz (ig &&& (1 : Int32))))) + (own_nz (own_nz (ig &&& (2 : Int32))))))).toInt64) * (18 : Int64)); have r := rng64 (((((((0 : Int32) + (own_nz (own_nz (ig &&& (1 : Int32))))) + (own_nz (own_nz (ig &&& (2 : Int32)))))).toInt64) * (17 : Int64)) + (((((2 : Int32) - (((0 : Int32) + (own_nz (own_nz (ig &&& (1 : Int32))))) + (own_nz (own_nz (ig &&& (2 : Int32))))))).toInt64) * (18 : Int64))); omega
          have r28 := rng32 (own_mx (0 : Int32) ((2 : Int32) - (1 : Int32)))
          have e27 := c_i2l (own_mx (0 : Int32) ((2 : Int32) - (1 : Int32)))
          have e14 : (((((((((0 : Int32) + (own_nz (own_nz (ig &&& (1 : Int32))))) + (own_nz (own_nz (ig &&& (2 : Int32)))))).toInt64) * (17 : Int64)) + (((((2 : Int32) - (((0 : Int32) + (own_nz (own_nz (ig &&& (1 : Int32))))) + (own_nz (own_nz (ig &&& (2 : Int32))))))).toInt64) * (18 : Int64))) + (((own_mx (0 : Int32) ((2 : Int32) - (1 : Int32)))).toInt64))).toInt = ((((((((0 : Int32) + (own_nz (own_nz (ig &&& (1 : Int32))))) + (own_nz (own_nz (ig &&& (2 : Int32)))))).toInt64) * (17 : Int64)) + (((((2 : Int32) - (((0 : Int32) + (own_nz (own_nz (ig &&& (1 : Int32))))) + (own_nz (own_nz (ig &&& (2 : Int32))))))).toInt64) * (18 : Int64)))).toInt + ((((own_mx (0 : Int32) ((2 : Int32) - (1 : Int32)))).toInt64)).toInt := by have w := c_ladd (((((((0 : Int32) + (own_nz (own_nz (ig &&& (1 : Int32))))) + (own_nz (own_nz (ig &&& (2 : Int32)))))).toInt64) * (17 : Int64)) + (((((2 : Int32) - (((0 : Int32) + (own_nz (own_nz (ig &&& (1 : Int32))))) + (own_nz (own_nz (ig &&& (2 : Int32))))))).toInt64) * (18 : Int64))) (((own_mx (0 : Int32) ((2 : Int32) - (1 : Int32)))).toInt64); have r := rng64 ((((((((0 : Int32) + (own_nz (own_nz (ig &&& (1 : Int32))))) + (own_nz (own_nz (ig &&& (2 : Int32)))))).toInt64) * (17 : Int64)) + (((((2 : Int32) - (((0 : Int32) + (own_nz (own_nz (ig &&& (1 : Int32))))) + (own_nz (own_nz (ig &&& (2 : Int32))))))).toInt64) * (18 : Int64))) + (((own_mx (0 : Int32) ((2 : Int32) - (1 : Int32)))).toInt64)); omega
          have e12 : (((16 : Int64) + ((((((((0 : Int32) + (own_nz (own_nz (ig &&& (1 : Int32))))) + (own_nz (own_nz (ig &&& (2 : Int32)))))).toInt64) * (17 : Int64)) + (((((2 : Int32) - (((0 : Int32) + (own_nz (own_nz (ig &&& (1 : Int32))))) + (own_nz (own_nz (ig &&& (2 : Int32))))))).toInt64) * (18 : Int64))) + (((own_mx (0 : Int32) ((2 : Int32) - (1 : Int32)))).toInt64)))).toInt = ((16 : Int64)).toInt + (((((((((0 : Int32) + (own_nz (own_nz (ig &&& (1 : Int32))))) + (own_nz (own_nz (ig &&& (2 : Int32)))))).toInt64) * (17 : Int64)) + (((((2 : Int32) - (((0 : Int32) + (own_nz (own_nz (ig &&& (1 : Int32))))) + (own_nz (own_nz (ig &&& (2 : Int32))))))).toInt64) * (18 : Int64))) + (((own_mx (0 : Int32) ((2 : Int32) - (1 : Int32)))).toInt64))).toInt := by have w := c_ladd (16 : Int64) ((((((((0 : Int32) + (own_nz (own_nz (ig &&& (1 : Int32))))) + (own_nz (own_nz (ig &&& (2 : Int32)))))).toInt64) * (17 : Int64)) + (((((2 : Int32) - (((0 : Int32) + (own_nz (own_nz (ig &&& (1 : Int32))))) + (own_nz (own_nz (ig &&& (2 : Int32))))))).toInt64) * (18 : Int64))) + (((own_mx (0 : Int32) ((2 : Int32) - (1 : Int32)))).toInt64)); have r := rng64 ((16 : Int64) + ((((((((0 : Int32) + (own_nz (own_nz (ig &&& (1 : Int32))))) + (own_nz (own_nz (ig &&& (2 : Int32)))))).toInt64) * (17 : Int64)) + (((((2 : Int32) - (((0 : Int32) + (own_nz (own_nz (ig &&& (1 : Int32))))) + (own_nz (own_nz (ig &&& (2 : Int32))))))).toInt64) * (18 : Int64))) + (((own_mx (0 : Int32) ((2 : Int32) - (1 : Int32)))).toInt64))); omega
          have e29 : (2 : Int64).toInt = 2 := rfl
          have e11 : ((((16 : Int64) + ((((((((0 : Int32) + (own_nz (own_nz (ig &&& (1 : Int32))))) + (own_nz (own_nz (ig &&& (2 : Int32)))))).toInt64) * (17 : Int64)) + (((((2 : Int32) - (((0 : Int32) + (own_nz (own_nz (ig &&& (1 : Int32))))) + (own_nz (own_nz (ig &&& (2 : Int32))))))).toInt64) * (18 : Int64))) + (((own_mx (0 : Int32) ((2 : Int32) - (1 : Int32)))).toInt64))) + (2 : Int64))).toInt = (((16 : Int64) + ((((((((0 : Int32) + (own_nz (own_nz (ig &&& (1 : Int32))))) + (own_nz (own_nz (ig &&& (2 : Int32)))))).toInt64) * (17 : Int64)) + (((((2 : Int32) - (((0 : Int32) + (own_nz (own_nz (ig &&& (1 : Int32))))) + (own_nz (own_nz (ig &&& (2 : Int32))))))).toInt64) * (18 : Int64))) + (((own_mx (0 : Int32) ((2 : Int32) - (1 : Int32)))).toInt64)))).toInt + ((2 : Int64)).toInt := by have w := c_ladd ((16 : Int64) + ((((((((0 : Int32) + (own_nz (own_nz (ig &&& (1 : Int32))))) + (own_nz (own_nz (ig &&& (2 : Int32)))))).toInt64) * (17 : Int64)) + (((((2 : Int32) - (((0 : Int32) + (own_nz (own_nz (ig &&& (1 : Int32))))) + (own_nz (own_nz (ig &&& (2 : Int32))))))).toInt64) * (18 : Int64))) + (((own_mx (0 : Int32) ((2 : Int32) - (1 : Int32)))).toInt64))) (2 : Int64); have r := rng64 (((16 : Int64) + ((((((((0 : Int32) + (own_nz (own_nz (ig &&& (1 : Int32))))) + (own_nz (own_nz (ig &&& (2 : Int32)))))).toInt64) * (17 : Int64)) + (((((2 : Int32) - (((0 : Int32) + (own_nz (own_nz (ig &&& (1 : Int32))))) + (own_nz (own_nz (ig &&& (2 : Int32))))))).toInt64) * (18 : Int64))) + (((own_mx (0 : Int32) ((2 : Int32) - (1 : Int32)))).toInt64))) + (2 : Int64)); omega
          have r32 := rng64 (own_len (own_nz (ig &&& (1 : Int32))) (1 : Int32))
          have e31 : (((18 : Int64) + (own_len (own_nz (ig &&& (1 : Int32))) (1 : Int32)))).toInt = ((18 : Int64)).toInt + ((own_len (own_nz (ig &&& (1 : Int32))) (1 : Int32))).toInt := by have w := c_ladd (18 : Int64) (own_len (own_nz (ig &&& (1 : Int32))) (1 : Int32)); have r := rng64 ((18 : Int64) + (own_len (own_nz (ig &&& (1 : Int32))) (1 : Int32))); omega
          have r33 := rng64 (own_len (own_nz (ig &&& (2 : Int32))) (0 : Int32))
          have e30 : ((((18 : Int64) + (own_len (own_nz (ig &&& (1 : Int32))) (1 : Int32))) + (own_len (own_nz (ig &&& (2 : Int32))) (0 : Int32)))).toInt = (((18 : Int64) + (own_len (own_nz (ig &&& (1 : Int32))) (1 : Int32)))).toInt + ((own_len (own_nz (ig &&& (2 : Int32))) (0 : Int32))).toInt := by have w := c_ladd ((18 : Int64) + (own_len (own_nz (ig &&& (1 : Int32))) (1 : Int32))) (own_len (own_nz (ig &&& (2 : Int32))) (0 : Int32)); have r := rng64 (((18 : Int64) + (own_len (own_nz (ig &&& (1 : Int32))) (1 : Int32))) + (own_len (own_nz (ig &&& (2 : Int32))) (0 : Int32))); omega
          have i_hc26 : ((0 : Int32)).toInt < ((ic &&& (7 : Int32))).toInt := Int32.lt_iff_toInt_lt.mp hc26
          have i_hc53 : ((1 : Int32)).toInt < ((ic &&& (7 : Int32))).toInt := Int32.lt_iff_toInt_lt.mp hc53
          have i_hc80 : ¬ ((2 : Int32)).toInt < ((ic &&& (7 : Int32))).toInt := fun z => hc80 (Int32.lt_iff_toInt_lt.mpr z)
          have i_hc107 : ¬ ((3 : Int32)).toInt < ((ic &&& (7 : Int32))).toInt := fun z => hc107 (Int32.lt_iff_toInt_lt.mpr z)
          have i_hc135 : ¬ ((4 : Int32)).toInt < ((ic &&& (7 : Int32))).toInt := fun z => hc135 (Int32.lt_iff_toInt_lt.mpr z)
          have i_hc163 : ¬ ((5 : Int32)).toInt < ((ic &&& (7 : Int32))).toInt := fun z => hc163 (Int32.lt_iff_toInt_lt.mpr z)
          have i_hc192 : ¬ ((6 : Int32)).toInt < ((ic &&& (7 : Int32))).toInt := fun z => hc192 (Int32.lt_iff_toInt_lt.mpr z)
          have i_hc224 : ¬ ((((16 : Int64) + ((((((((0 : Int32) + (own_nz (own_nz (ig &&& (1 : Int32))))) + (own_nz (own_nz (ig &&& (2 : Int32)))))).toInt64) * (17 : Int64)) + (((((2 : Int32) - (((0 : Int32) + (own_nz (own_nz (ig &&& (1 : Int32))))) + (own_nz (own_nz (ig &&& (2 : Int32))))))).toInt64) * (18 : Int64))) + (((own_mx (0 : Int32) ((2 : Int32) - (1 : Int32)))).toInt64))) + (2 : Int64))).toInt = ((((18 : Int64) + (own_len (own_nz (ig &&& (1 : Int32))) (1 : Int32))) + (own_len (own_nz (ig &&& (2 : Int32))) (0 : Int32)))).toInt := fun z => hc224 (Int64.toInt_inj.mp z)
          omega
        · refine g_iconst cx d0_227 (v := (1 : Int32)) rfl ?_
          refine g_goto cx d0_228 ?_
          refine g_retZ cx d0_232 rfl rfl (by decide) (by decide) ?_
          rfl
      · refine g_lload cx d0_83 rfl ?_
        refine g_aloadN cx d0_85 rfl rfl ?_
        refine g_iloadN cx d0_86 rfl ?_
        refine g_iconst cx d0_87 (v := (4 : Int32)) rfl ?_
        refine g_iand cx d0_88 ?_
        refine g_tern cx d0_89 d0_92 d0_93 d0_96 ?_
        refine g_iconst cx d0_97 (v := (0 : Int32)) rfl ?_
        refine g_static cx (y := (⟨"com/example/dyn_authz/dynauthz/service/DecisionsLengthPinLaw", "addOne", "(Lcom/example/dyn_authz/dynauthz/service/Decisions;ZZ)J"⟩ : MethodName)) d0_98 (hw _ (List.mem_of_getElem? (i := 34) rfl)) (hw _ (List.mem_of_getElem? (i := 35) rfl)) (hw _ (List.mem_of_getElem? (i := 36) rfl)) (hw _ (List.mem_of_getElem? (i := 37) rfl)) (by decide) (bytes := method_2_code) (maxL' := 5) (M := (rmo l Z a0 hw (2 : Int32) (by decide) (by decide) SAD pm dn SPM SDN npd b2 (((0 : Int32) + (own_nz (own_nz (ig &&& (1 : Int32))))) + (own_nz (own_nz (ig &&& (2 : Int32))))) (own_nz (ig &&& (4 : Int32))) (0 : Int32) _ DD OL)) rfl (lenOf pd_7 rfl) (by decide) (W := 2) (Nat.le_of_eq rfl) (by decide) (k' := 6) (n' := 13) rfl rfl (by decide) (by decide) (argsL := [(.ref b2), (.int (own_nz (ig &&& (4 : Int32)))), (.int (0 : Int32))]) (rest := [(.long (((18 : Int64) + (own_len (own_nz (ig &&& (1 : Int32))) (1 : Int32))) + (own_len (own_nz (ig &&& (2 : Int32))) (0 : Int32))))]) rfl (fun v26 h25 q27 => ?_)
        obtain ⟨rfl, OL, DD⟩ := q27
        have O_b2 := own_Dx DD
        have DD : own_D Z _ b2 (3 : Int32) ((((0 : Int32) + (own_nz (own_nz (ig &&& (1 : Int32))))) + (own_nz (own_nz (ig &&& (2 : Int32))))) + (own_nz (own_nz (ig &&& (4 : Int32))))) := DD
        refine G.cast (st' := [(.long (own_len (own_nz (ig &&& (4 : Int32))) (0 : Int32))), (.long (((18 : Int64) + (own_len (own_nz (ig &&& (1 : Int32))) (1 : Int32))) + (own_len (own_nz (ig &&& (2 : Int32))) (0 : Int32))))]) ?_ rfl
        refine g_ladd cx d0_101 ?_
        refine g_lstore cx d0_102 (Ls' := #[.val (.int ie), .val (.int ic), .val (.int ig), .val (.ref b2), .val (.int (ic &&& (7 : Int32))), .val (.long ((((18 : Int64) + (own_len (own_nz (ig &&& (1 : Int32))) (1 : Int32))) + (own_len (own_nz (ig &&& (2 : Int32))) (0 : Int32))) + (own_len (own_nz (ig &&& (4 : Int32))) (0 : Int32)))), .second]) rfl ?_
        refine g_iload cx d0_104 rfl ?_
        refine g_iconst cx d0_106 (v := (3 : Int32)) rfl ?_
        refine g_icmp_le cx d0_107 (fun hc107 => ?_) (fun hc107 => ?_)
        · refine g_iload cx d0_132 rfl ?_
          refine g_iconst cx d0_134 (v := (4 : Int32)) rfl ?_
          refine g_icmp_le cx d0_135 (fun hc135 => ?_) (fun q => absurd q (fun q => by have i_hc26 : ((0 : Int32)).toInt < ((ic &&& (7 : Int32))).toInt := Int32.lt_iff_toInt_lt.mp hc26; have i_hc53 : ((1 : Int32)).toInt < ((ic &&& (7 : Int32))).toInt := Int32.lt_iff_toInt_lt.mp hc53; have i_hc80 : ((2 : Int32)).toInt < ((ic &&& (7 : Int32))).toInt := Int32.lt_iff_toInt_lt.mp hc80; have i_hc107 : ¬ ((3 : Int32)).toInt < ((ic &&& (7 : Int32))).toInt := fun z => hc107 (Int32.lt_iff_toInt_lt.mpr z); have i_q : ((4 : Int32)).toInt < ((ic &&& (7 : Int32))).toInt := Int32.lt_iff_toInt_lt.mp q; have e1 : (0 : Int32).toInt = 0 := rfl; have r3 := rng32 ic; have e2 : ((ic &&& (7 : Int32))).toInt = (ic).toInt % 8 := c_mask ic (7 : Int32) 3 (by decide) (by decide); have e4 : (1 : Int32).toInt = 1 := rfl; have e5 : (2 : Int32).toInt = 2 := rfl; have e6 : (3 : Int32).toInt = 3 := rfl; have e7 : (4 : Int32).toInt = 4 := rfl; omega))
          refine g_iload cx d0_160 rfl ?_
          refine g_iconst cx d0_162 (v := (5 : Int32)) rfl ?_
          refine g_icmp_le cx d0_163 (fun hc163 => ?_) (fun q => absurd q (fun q => by have i_hc26 : ((0 : Int32)).toInt < ((ic &&& (7 : Int32))).toInt := Int32.lt_iff_toInt_lt.mp hc26; have i_hc53 : ((1 : Int32)).toInt < ((ic &&& (7 : Int32))).toInt := Int32.lt_iff_toInt_lt.mp hc53; have i_hc80 : ((2 : Int32)).toInt < ((ic &&& (7 : Int32))).toInt := Int32.lt_iff_toInt_lt.mp hc80; have i_hc107 : ¬ ((3 : Int32)).toInt < ((ic &&& (7 : Int32))).toInt := fun z => hc107 (Int32.lt_iff_toInt_lt.mpr z); have i_hc135 : ¬ ((4 : Int32)).toInt < ((ic &&& (7 : Int32))).toInt := fun z => hc135 (Int32.lt_iff_toInt_lt.mpr z); have i_q : ((5 : Int32)).toInt < ((ic &&& (7 : Int32))).toInt := Int32.lt_iff_toInt_lt.mp q; have e1 : (0 : Int32).toInt = 0 := rfl; have r3 := rng32 ic; have e2 : ((ic &&& (7 : Int32))).toInt = (ic).toInt % 8 := c_mask ic (7 : Int32) 3 (by decide) (by decide); have e4 : (1 : Int32).toInt = 1 := rfl; have e5 : (2 : Int32).toInt = 2 := rfl; have e6 : (3 : Int32).toInt = 3 := rfl; have e7 : (4 : Int32).toInt = 4 := rfl; have e8 : (5 : Int32).toInt = 5 := rfl; omega))
          refine g_iload cx d0_188 rfl ?_
          refine g_bipush cx d0_190 (v := (6 : Int32)) rfl ?_
          refine g_icmp_le cx d0_192 (fun hc192 => ?_) (fun q => absurd q (fun q => by have i_hc26 : ((0 : Int32)).toInt < ((ic &&& (7 : Int32))).toInt := Int32.lt_iff_toInt_lt.mp hc26; have i_hc53 : ((1 : Int32)).toInt < ((ic &&& (7 : Int32))).toInt := Int32.lt_iff_toInt_lt.mp hc53; have i_hc80 : ((2 : Int32)).toInt < ((ic &&& (7 : Int32))).toInt := Int32.lt_iff_toInt_lt.mp hc80; have i_hc107 : ¬ ((3 : Int32)).toInt < ((ic &&& (7 : Int32))).toInt := fun z => hc107 (Int32.lt_iff_toInt_lt.mpr z); have i_hc135 : ¬ ((4 : Int32)).toInt < ((ic &&& (7 : Int32))).toInt := fun z => hc135 (Int32.lt_iff_toInt_lt.mpr z); have i_hc163 : ¬ ((5 : Int32)).toInt < ((ic &&& (7 : Int32))).toInt := fun z => hc163 (Int32.lt_iff_toInt_lt.mpr z); have i_q : ((6 : Int32)).toInt < ((ic &&& (7 : Int32))).toInt := Int32.lt_iff_toInt_lt.mp q; have e1 : (0 : Int32).toInt = 0 := rfl; have r3 := rng32 ic; have e2 : ((ic &&& (7 : Int32))).toInt = (ic).toInt % 8 := c_mask ic (7 : Int32) 3 (by decide) (by decide); have e4 : (1 : Int32).toInt = 1 := rfl; have e5 : (2 : Int32).toInt = 2 := rfl; have e6 : (3 : Int32).toInt = 3 := rfl; have e7 : (4 : Int32).toInt = 4 := rfl; have e8 : (5 : Int32).toInt = 5 := rfl; have e9 : (6 : Int32).toInt = 6 := rfl; omega))
          refine g_aloadN cx d0_217 rfl rfl ?_
          refine g_virtual cx (y := (⟨"com/example/dyn_authz/dynauthz/service/Decisions", "length", "()J"⟩ : MethodName)) (z := (⟨"com/example/dyn_authz/dynauthz/service/Decisions", "length", "()J"⟩ : MethodName)) (a := b2) d0_218 (hw _ (List.mem_of_getElem? (i := 90) rfl)) (hw _ (List.mem_of_getElem? (i := 91) rfl)) (hw _ (List.mem_of_getElem? (i := 2) rfl)) (hw _ (List.mem_of_getElem? (i := 94) rfl)) (hw _ (List.mem_of_getElem? (i := 93) rfl)) (hw _ (List.mem_of_getElem? (i := 92) rfl)) rfl (by decide) O_b2.1 (bytes := prog_43_method_4_code) (maxL' := 3) (M := (rml l Z a0 hw sPERMIT cPERMIT SPERMIT VPERMIT sDENY cDENY SDENY VDENY sOPENING cOPENING SOPENING VOPENING sCLOSING cCLOSING SCLOSING VCLOSING b2 (3 : Int32) ((((0 : Int32) + (own_nz (own_nz (ig &&& (1 : Int32))))) + (own_nz (own_nz (ig &&& (2 : Int32))))) + (own_nz (own_nz (ig &&& (4 : Int32))))) _ DD OL)) rfl (lenOf pd_6 rfl) (by decide) (W := 0) (Nat.le_of_eq rfl) (by decide) (k' := 6) (n' := 13) rfl rfl (by decide) (by decide) (argsL := []) (rest := []) rfl (fun v29 h28 q30 => ?_)
          obtain ⟨rfl, rfl⟩ := q30
          refine G.cast (st' := [(.long (((16 : Int64) + (((((((((0 : Int32) + (own_nz (own_nz (ig &&& (1 : Int32))))) + (own_nz (own_nz (ig &&& (2 : Int32))))) + (own_nz (own_nz (ig &&& (4 : Int32)))))).toInt64) * (17 : Int64)) + (((((3 : Int32) - ((((0 : Int32) + (own_nz (own_nz (ig &&& (1 : Int32))))) + (own_nz (own_nz (ig &&& (2 : Int32))))) + (own_nz (own_nz (ig &&& (4 : Int32))))))).toInt64) * (18 : Int64))) + (((own_mx (0 : Int32) ((3 : Int32) - (1 : Int32)))).toInt64))) + (2 : Int64)))]) ?_ rfl
          refine g_lload cx d0_221 rfl ?_
          refine g_lif_ne cx d0_223 d0_224 (fun hc224 => ?_) (fun hc224 => ?_)
          · refine g_iconst cx d0_231 (v := (0 : Int32)) rfl ?_
            refine g_retZ cx d0_232 rfl rfl (by decide) (by decide) ?_
            exfalso
            have e1 : (0 : Int32).toInt = 0 := rfl
            have e3 : (3 : Int32).toInt = 3 := rfl
            have e4 : (1 : Int32).toInt = 1 := rfl
            have e2 : (((3 : Int32) - (1 : Int32))).toInt = ((3 : Int32)).toInt - ((1 : Int32)).toInt := by have w := c_isub (3 : Int32) (1 : Int32); have r := rng32 ((3 : Int32) - (1 : Int32)); omega
            have := own_nz_b (own_nz (ig &&& (1 : Int32)))
            have := own_nz_b (ig &&& (1 : Int32))
            have := own_nz_b (own_nz (ig &&& (2 : Int32)))
            have := own_nz_b (ig &&& (2 : Int32))
            have := own_nz_b (own_nz (ig &&& (4 : Int32)))
            have := own_nz_b (ig &&& (4 : Int32))
            have := own_mx_t (0 : Int32) ((3 : Int32) - (1 : Int32))
            have := own_len1 (own_nz (ig &&& (1 : Int32)))
            have := own_nz_b (own_nz (ig &&& (1 : Int32)))
            have := own_len0 (own_nz (ig &&& (2 : Int32)))
            have := own_nz_b (own_nz (ig &&& (2 : Int32)))
            have := own_len0 (own_nz (ig &&& (4 : Int32)))
            have := own_nz_b (own_nz (ig &&& (4 : Int32)))
            have r6 := rng32 ic
            have e5 : ((ic &&& (7 : Int32))).toInt = (ic).toInt % 8 := c_mask ic (7 : Int32) 3 (by decide) (by decide)
            have e7 : (2 : Int32).toInt = 2 := rfl
            have e8 : (4 : Int32).toInt = 4 := rfl
            have e9 : (5 : Int32).toInt = 5 := rfl
            have e10 : (6 : Int32).toInt = 6 := rfl
            have e13 : (16 : Int64).toInt = 16 := rfl
            have r21 := rng32 (own_nz (own_nz (ig &&& (1 : Int32))))
            have e20 : (((0 : Int32) + (own_nz (own_nz (ig &&& (1 : Int32)))))).toInt = ((0 : Int32)).toInt + ((own_nz (own_nz (ig &&& (1 : Int32))))).toInt := by have w := c_iadd (0 : Int32) (own_nz (own_nz (ig &&& (1 : Int32)))); have r := rng32 ((0 : Int32) + (own_nz (own_nz (ig &&& (1 : Int32))))); omega
            have r22 := rng32 (own_nz (own_nz (ig &&& (2 : Int32))))
            have e19 : ((((0 : Int32) + (own_nz (own_nz (ig &&& (1 : Int32))))) + (own_nz (own_nz (ig &&& (2 : Int32)))))).toInt = (((0 : Int32) + (own_nz (own_nz (ig &&& (1 : Int32)))))).toInt + ((own_nz (own_nz (ig &&& (2 : Int32))))).toInt := by have w := c_iadd ((0 : Int32) + (own_nz (own_nz (ig &&& (1 : Int32))))) (own_nz (own_nz (ig &&& (2 : Int32)))); have r := rng32 (((0 : Int32) + (own_nz (own_nz (ig &&& (1 : Int32))))) + (own_nz (own_nz (ig &&& (2 : Int32))))); omega
            have r23 := rng32 (own_nz (own_nz (ig &&& (4 : Int32))))
            have e18 : (((((0 : Int32) + (own_nz (own_nz (ig &&& (1 : Int32))))) + (own_nz (own_nz (ig &&& (2 : Int32))))) + (own_nz (own_nz (ig &&& (4 : Int32)))))).toInt = ((((0 : Int32) + (own_nz (own_nz (ig &&& (1 : Int32))))) + (own_nz (own_nz (ig &&& (2 : Int32)))))).toInt + ((own_nz (own_nz (ig &&& (4 : Int32))))).toInt := by have w := c_iadd (((0 : Int32) + (own_nz (own_nz (ig &&& (1 : Int32))))) + (own_nz (own_nz (ig &&& (2 : Int32))))) (own_nz (own_nz (ig &&& (4 : Int32)))); have r := rng32 ((((0 : Int32) + (own_nz (own_nz (ig &&& (1 : Int32))))) + (own_nz (own_nz (ig &&& (2 : Int32))))) + (own_nz (own_nz (ig &&& (4 : Int32))))); omega
            have e17 := c_i2l ((((0 : Int32) + (own_nz (own_nz (ig &&& (1 : Int32))))) + (own_nz (own_nz (ig &&& (2 : Int32))))) + (own_nz (own_nz (ig &&& (4 : Int32)))))
            have e24 : (17 : Int64).toInt = 17 := rfl
            have e16 : ((((((((0 : Int32) + (own_nz (own_nz (ig &&& (1 : Int32))))) + (own_nz (own_nz (ig &&& (2 : Int32))))) + (own_nz (own_nz (ig &&& (4 : Int32)))))).toInt64) * (17 : Int64))).toInt = (((((((0 : Int32) + (own_nz (own_nz (ig &&& (1 : Int32))))) + (own_nz (own_nz (ig &&& (2 : Int32))))) + (own_nz (own_nz (ig &&& (4 : Int32)))))).toInt64)).toInt * 17 := by have w : (((((((((0 : Int32) + (own_nz (own_nz (ig &&& (1 : Int32))))) + (own_nz (own_nz (ig &&& (2 : Int32))))) + (own_nz (own_nz (ig &&& (4 : Int32)))))).toInt64) * (17 : Int64))).toInt - (((((((0 : Int32) + (own_nz (own_nz (ig &&& (1 : Int32))))) + (own_nz (own_nz (ig &&& (2 : Int32))))) + (own_nz (own_nz (ig &&& (4 : Int32)))))).toInt64)).toInt * 17) % 18446744073709551616 = 0 := c_lmul ((((((0 : Int32) + (own_nz (own_nz (ig &&& (1 : Int32))))) + (own_nz (own_nz (ig &&& (2 : Int32))))) + (own_nz (own_nz (ig &&& (4 : Int32)))))).toInt64) (17 : Int64); have r := rng64 (((((((0 : Int32) + (own_nz (own_nz (ig &&& (1 : Int32))))) + (own_nz (own_nz (ig &&& (2 : Int32))))) + (own_nz (own_nz (ig &&& (4 : Int32)))))).toInt64) * (17 : Int64)); omega
            have e27 : (((3 : Int32) - ((((0 : Int32) + (own_nz (own_nz (ig &&& (1 : Int32))))) + (own_nz (own_nz (ig &&& (2 : Int32))))) + (own_nz (own_nz (ig &&& (4 : Int32))))))).toInt = ((3 : Int32)).toInt - (((((0 : Int32) + (own_nz (own_nz (ig &&& (1 : Int32))))) + (own_nz (own_nz (ig &&& (2 : Int32))))) + (own_nz (own_nz (ig &&& (4 : Int32)))))).toInt := by have w := c_isub (3 : Int32) ((((0 : Int32) + (own_nz (own_nz (ig &&& (1 : Int32))))) + (own_nz (own_nz (ig &&& (2 : Int32))))) + (own_nz (own_nz (ig &&& (4 : Int32))))); have r := rng32 ((3 : Int32) - ((((0 : Int32) + (own_nz (own_nz (ig &&& (1 : Int32))))) + (own_nz (own_nz (ig &&& (2 : Int32))))) + (own_nz (own_nz (ig &&& (4 : Int32)))))); omega
            have e26 := c_i2l ((3 : Int32) - ((((0 : Int32) + (own_nz (own_nz (ig &&& (1 : Int32))))) + (own_nz (own_nz (ig &&& (2 : Int32))))) + (own_nz (own_nz (ig &&& (4 : Int32))))))
            have e28 : (18 : Int64).toInt = 18 := rfl
            have e25 : ((((((3 : Int32) - ((((0 : Int32) + (own_nz (own_nz (ig &&& (1 : Int32))))) + (own_nz (own_nz (ig &&& (2 : Int32))))) + (own_nz (own_nz (ig &&& (4 : Int32))))))).toInt64) * (18 : Int64))).toInt = (((((3 : Int32) - ((((0 : Int32) + (own_nz (own_nz (ig &&& (1 : Int32))))) + (own_nz (own_nz (ig &&& (2 : Int32))))) + (own_nz (own_nz (ig &&& (4 : Int32))))))).toInt64)).toInt * 18 := by have w : (((((((3 : Int32) - ((((0 : Int32) + (own_nz (own_nz (ig &&& (1 : Int32))))) + (own_nz (own_nz (ig &&& (2 : Int32))))) + (own_nz (own_nz (ig &&& (4 : Int32))))))).toInt64) * (18 : Int64))).toInt - (((((3 : Int32) - ((((0 : Int32) + (own_nz (own_nz (ig &&& (1 : Int32))))) + (own_nz (own_nz (ig &&& (2 : Int32))))) + (own_nz (own_nz (ig &&& (4 : Int32))))))).toInt64)).toInt * 18) % 18446744073709551616 = 0 := c_lmul ((((3 : Int32) - ((((0 : Int32) + (own_nz (own_nz (ig &&& (1 : Int32))))) + (own_nz (own_nz (ig &&& (2 : Int32))))) + (own_nz (own_nz (ig &&& (4 : Int32))))))).toInt64) (18 : Int64); have r := rng64 (((((3 : Int32) - ((((0 : Int32) + (own_nz (own_nz (ig &&& (1 : Int32))))) + (own_nz (own_nz (ig &&& (2 : Int32))))) + (own_nz (own_nz (ig &&& (4 : Int32))))))).toInt64) * (18 : Int64)); omega
            have e15 : (((((((((0 : Int32) + (own_nz (own_nz (ig &&& (1 : Int32))))) + (own_nz (own_nz (ig &&& (2 : Int32))))) + (own_nz (own_nz (ig &&& (4 : Int32)))))).toInt64) * (17 : Int64)) + (((((3 : Int32) - ((((0 : Int32) + (own_nz (own_nz (ig &&& (1 : Int32))))) + (own_nz (own_nz (ig &&& (2 : Int32))))) + (own_nz (own_nz (ig &&& (4 : Int32))))))).toInt64) * (18 : Int64)))).toInt = ((((((((0 : Int32) + (own_nz (own_nz (ig &&& (1 : Int32))))) + (own_nz (own_nz (ig &&& (2 : Int32))))) + (own_nz (own_nz (ig &&& (4 : Int32)))))).toInt64) * (17 : Int64))).toInt + ((((((3 : Int32) - ((((0 : Int32) + (own_nz (own_nz (ig &&& (1 : Int32))))) + (own_nz (own_nz (ig &&& (2 : Int32))))) + (own_nz (own_nz (ig &&& (4 : Int32))))))).toInt64) * (18 : Int64))).toInt := by have w := c_ladd (((((((0 : Int32) + (own_nz (own_nz (ig &&& (1 : Int32))))) + (own_nz (own_nz (ig &&& (2 : Int32))))) + (own_nz (own_nz (ig &&& (4 : Int32)))))).toInt64) * (17 : Int64)) (((((3 : Int32) - ((((0 : Int32) + (own_nz (own_nz (ig &&& (1 : Int32))))) + (own_nz (own_nz (ig &&& (2 : Int32))))) + (own_nz (own_nz (ig &&& (4 : Int32))))))).toInt64) * (18 : Int64)); have r := rng64 ((((((((0 : Int32) + (own_nz (own_nz (ig &&& (1 : Int32))))) + (own_nz (own_nz (ig &&& (2 : Int32))))) + (own_nz (own_nz (ig &&& (4 : Int32)))))).toInt64) * (17 : Int64)) + (((((3 : Int32) - ((((0 : Int32) + (own_nz (own_nz (ig &&& (1 : Int32))))) + (own_nz (own_nz (ig &&& (2 : Int32))))) + (own_nz (own_nz (ig &&& (4 : Int32))))))).toInt64) * (18 : Int64))); omega
            have r30 := rng32 (own_mx (0 : Int32) ((3 : Int32) - (1 : Int32)))
            have e29 := c_i2l (own_mx (0 : Int32) ((3 : Int32) - (1 : Int32)))
            have e14 : ((((((((((0 : Int32) + (own_nz (own_nz (ig &&& (1 : Int32))))) + (own_nz (own_nz (ig &&& (2 : Int32))))) + (own_nz (own_nz (ig &&& (4 : Int32)))))).toInt64) * (17 : Int64)) + (((((3 : Int32) - ((((0 : Int32) + (own_nz (own_nz (ig &&& (1 : Int32))))) + (own_nz (own_nz (ig &&& (2 : Int32))))) + (own_nz (own_nz (ig &&& (4 : Int32))))))).toInt64) * (18 : Int64))) + (((own_mx (0 : Int32) ((3 : Int32) - (1 : Int32)))).toInt64))).toInt = (((((((((0 : Int32) + (own_nz (own_nz (ig &&& (1 : Int32))))) + (own_nz (own_nz (ig &&& (2 : Int32))))) + (own_nz (own_nz (ig &&& (4 : Int32)))))).toInt64) * (17 : Int64)) + (((((3 : Int32) - ((((0 : Int32) + (own_nz (own_nz (ig &&& (1 : Int32))))) + (own_nz (own_nz (ig &&& (2 : Int32))))) + (own_nz (own_nz (ig &&& (4 : Int32))))))).toInt64) * (18 : Int64)))).toInt + ((((own_mx (0 : Int32) ((3 : Int32) - (1 : Int32)))).toInt64)).toInt := by have w := c_ladd ((((((((0 : Int32) + (own_nz (own_nz (ig &&& (1 : Int32))))) + (own_nz (own_nz (ig &&& (2 : Int32))))) + (own_nz (own_nz (ig &&& (4 : Int32)))))).toInt64) * (17 : Int64)) + (((((3 : Int32) - ((((0 : Int32) + (own_nz (own_nz (ig &&& (1 : Int32))))) + (own_nz (own_nz (ig &&& (2 : Int32))))) + (own_nz (own_nz (ig &&& (4 : Int32))))))).toInt64) * (18 : Int64))) (((own_mx (0 : Int32) ((3 : Int32) - (1 : Int32)))).toInt64); have r := rng64 (((((((((0 : Int32) + (own_nz (own_nz (ig &&& (1 : Int32))))) + (own_nz (own_nz (ig &&& (2 : Int32))))) + (own_nz (own_nz (ig &&& (4 : Int32)))))).toInt64) * (17 : Int64)) + (((((3 : Int32) - ((((0 : Int32) + (own_nz (own_nz (ig &&& (1 : Int32))))) + (own_nz (own_nz (ig &&& (2 : Int32))))) + (own_nz (own_nz (ig &&& (4 : Int32))))))).toInt64) * (18 : Int64))) + (((own_mx (0 : Int32) ((3 : Int32) - (1 : Int32)))).toInt64)); omega
            have e12 : (((16 : Int64) + (((((((((0 : Int32) + (own_nz (own_nz (ig &&& (1 : Int32))))) + (own_nz (own_nz (ig &&& (2 : Int32))))) + (own_nz (own_nz (ig &&& (4 : Int32)))))).toInt64) * (17 : Int64)) + (((((3 : Int32) - ((((0 : Int32) + (own_nz (own_nz (ig &&& (1 : Int32))))) + (own_nz (own_nz (ig &&& (2 : Int32))))) + (own_nz (own_nz (ig &&& (4 : Int32))))))).toInt64) * (18 : Int64))) + (((own_mx (0 : Int32) ((3 : Int32) - (1 : Int32)))).toInt64)))).toInt = ((16 : Int64)).toInt + ((((((((((0 : Int32) + (own_nz (own_nz (ig &&& (1 : Int32))))) + (own_nz (own_nz (ig &&& (2 : Int32))))) + (own_nz (own_nz (ig &&& (4 : Int32)))))).toInt64) * (17 : Int64)) + (((((3 : Int32) - ((((0 : Int32) + (own_nz (own_nz (ig &&& (1 : Int32))))) + (own_nz (own_nz (ig &&& (2 : Int32))))) + (own_nz (own_nz (ig &&& (4 : Int32))))))).toInt64) * (18 : Int64))) + (((own_mx (0 : Int32) ((3 : Int32) - (1 : Int32)))).toInt64))).toInt := by have w := c_ladd (16 : Int64) (((((((((0 : Int32) + (own_nz (own_nz (ig &&& (1 : Int32))))) + (own_nz (own_nz (ig &&& (2 : Int32))))) + (own_nz (own_nz (ig &&& (4 : Int32)))))).toInt64) * (17 : Int64)) + (((((3 : Int32) - ((((0 : Int32) + (own_nz (own_nz (ig &&& (1 : Int32))))) + (own_nz (own_nz (ig &&& (2 : Int32))))) + (own_nz (own_nz (ig &&& (4 : Int32))))))).toInt64) * (18 : Int64))) + (((own_mx (0 : Int32) ((3 : Int32) - (1 : Int32)))).toInt64)); have r := rng64 ((16 : Int64) + (((((((((0 : Int32) + (own_nz (own_nz (ig &&& (1 : Int32))))) + (own_nz (own_nz (ig &&& (2 : Int32))))) + (own_nz (own_nz (ig &&& (4 : Int32)))))).toInt64) * (17 : Int64)) + (((((3 : Int32) - ((((0 : Int32) + (own_nz (own_nz (ig &&& (1 : Int32))))) + (own_nz (own_nz (ig &&& (2 : Int32))))) + (own_nz (own_nz (ig &&& (4 : Int32))))))).toInt64) * (18 : Int64))) + (((own_mx (0 : Int32) ((3 : Int32) - (1 : Int32)))).toInt64))); omega
            have e31 : (2 : Int64).toInt = 2 := rfl
            have e11 : ((((16 : Int64) + (((((((((0 : Int32) + (own_nz (own_nz (ig &&& (1 : Int32))))) + (own_nz (own_nz (ig &&& (2 : Int32))))) + (own_nz (own_nz (ig &&& (4 : Int32)))))).toInt64) * (17 : Int64)) + (((((3 : Int32) - ((((0 : Int32) + (own_nz (own_nz (ig &&& (1 : Int32))))) + (own_nz (own_nz (ig &&& (2 : Int32))))) + (own_nz (own_nz (ig &&& (4 : Int32))))))).toInt64) * (18 : Int64))) + (((own_mx (0 : Int32) ((3 : Int32) - (1 : Int32)))).toInt64))) + (2 : Int64))).toInt = (((16 : Int64) + (((((((((0 : Int32) + (own_nz (own_nz (ig &&& (1 : Int32))))) + (own_nz (own_nz (ig &&& (2 : Int32))))) + (own_nz (own_nz (ig &&& (4 : Int32)))))).toInt64) * (17 : Int64)) + (((((3 : Int32) - ((((0 : Int32) + (own_nz (own_nz (ig &&& (1 : Int32))))) + (own_nz (own_nz (ig &&& (2 : Int32))))) + (own_nz (own_nz (ig &&& (4 : Int32))))))).toInt64) * (18 : Int64))) + (((own_mx (0 : Int32) ((3 : Int32) - (1 : Int32)))).toInt64)))).toInt + ((2 : Int64)).toInt := by have w := c_ladd ((16 : Int64) + (((((((((0 : Int32) + (own_nz (own_nz (ig &&& (1 : Int32))))) + (own_nz (own_nz (ig &&& (2 : Int32))))) + (own_nz (own_nz (ig &&& (4 : Int32)))))).toInt64) * (17 : Int64)) + (((((3 : Int32) - ((((0 : Int32) + (own_nz (own_nz (ig &&& (1 : Int32))))) + (own_nz (own_nz (ig &&& (2 : Int32))))) + (own_nz (own_nz (ig &&& (4 : Int32))))))).toInt64) * (18 : Int64))) + (((own_mx (0 : Int32) ((3 : Int32) - (1 : Int32)))).toInt64))) (2 : Int64); have r := rng64 (((16 : Int64) + (((((((((0 : Int32) + (own_nz (own_nz (ig &&& (1 : Int32))))) + (own_nz (own_nz (ig &&& (2 : Int32))))) + (own_nz (own_nz (ig &&& (4 : Int32)))))).toInt64) * (17 : Int64)) + (((((3 : Int32) - ((((0 : Int32) + (own_nz (own_nz (ig &&& (1 : Int32))))) + (own_nz (own_nz (ig &&& (2 : Int32))))) + (own_nz (own_nz (ig &&& (4 : Int32))))))).toInt64) * (18 : Int64))) + (((own_mx (0 : Int32) ((3 : Int32) - (1 : Int32)))).toInt64))) + (2 : Int64)); omega
            have r35 := rng64 (own_len (own_nz (ig &&& (1 : Int32))) (1 : Int32))
            have e34 : (((18 : Int64) + (own_len (own_nz (ig &&& (1 : Int32))) (1 : Int32)))).toInt = ((18 : Int64)).toInt + ((own_len (own_nz (ig &&& (1 : Int32))) (1 : Int32))).toInt := by have w := c_ladd (18 : Int64) (own_len (own_nz (ig &&& (1 : Int32))) (1 : Int32)); have r := rng64 ((18 : Int64) + (own_len (own_nz (ig &&& (1 : Int32))) (1 : Int32))); omega
            have r36 := rng64 (own_len (own_nz (ig &&& (2 : Int32))) (0 : Int32))
            have e33 : ((((18 : Int64) + (own_len (own_nz (ig &&& (1 : Int32))) (1 : Int32))) + (own_len (own_nz (ig &&& (2 : Int32))) (0 : Int32)))).toInt = (((18 : Int64) + (own_len (own_nz (ig &&& (1 : Int32))) (1 : Int32)))).toInt + ((own_len (own_nz (ig &&& (2 : Int32))) (0 : Int32))).toInt := by have w := c_ladd ((18 : Int64) + (own_len (own_nz (ig &&& (1 : Int32))) (1 : Int32))) (own_len (own_nz (ig &&& (2 : Int32))) (0 : Int32)); have r := rng64 (((18 : Int64) + (own_len (own_nz (ig &&& (1 : Int32))) (1 : Int32))) + (own_len (own_nz (ig &&& (2 : Int32))) (0 : Int32))); omega
            have r37 := rng64 (own_len (own_nz (ig &&& (4 : Int32))) (0 : Int32))
            have e32 : (((((18 : Int64) + (own_len (own_nz (ig &&& (1 : Int32))) (1 : Int32))) + (own_len (own_nz (ig &&& (2 : Int32))) (0 : Int32))) + (own_len (own_nz (ig &&& (4 : Int32))) (0 : Int32)))).toInt = ((((18 : Int64) + (own_len (own_nz (ig &&& (1 : Int32))) (1 : Int32))) + (own_len (own_nz (ig &&& (2 : Int32))) (0 : Int32)))).toInt + ((own_len (own_nz (ig &&& (4 : Int32))) (0 : Int32))).toInt := by have w := c_ladd (((18 : Int64) + (own_len (own_nz (ig &&& (1 : Int32))) (1 : Int32))) + (own_len (own_nz (ig &&& (2 : Int32))) (0 : Int32))) (own_len (own_nz (ig &&& (4 : Int32))) (0 : Int32)); have r := rng64 ((((18 : Int64) + (own_len (own_nz (ig &&& (1 : Int32))) (1 : Int32))) + (own_len (own_nz (ig &&& (2 : Int32))) (0 : Int32))) + (own_len (own_nz (ig &&& (4 : Int32))) (0 : Int32))); omega
            have i_hc26 : ((0 : Int32)).toInt < ((ic &&& (7 : Int32))).toInt := Int32.lt_iff_toInt_lt.mp hc26
            have i_hc53 : ((1 : Int32)).toInt < ((ic &&& (7 : Int32))).toInt := Int32.lt_iff_toInt_lt.mp hc53
            have i_hc80 : ((2 : Int32)).toInt < ((ic &&& (7 : Int32))).toInt := Int32.lt_iff_toInt_lt.mp hc80
            have i_hc107 : ¬ ((3 : Int32)).toInt < ((ic &&& (7 : Int32))).toInt := fun z => hc107 (Int32.lt_iff_toInt_lt.mpr z)
            have i_hc135 : ¬ ((4 : Int32)).toInt < ((ic &&& (7 : Int32))).toInt := fun z => hc135 (Int32.lt_iff_toInt_lt.mpr z)
            have i_hc163 : ¬ ((5 : Int32)).toInt < ((ic &&& (7 : Int32))).toInt := fun z => hc163 (Int32.lt_iff_toInt_lt.mpr z)
            have i_hc192 : ¬ ((6 : Int32)).toInt < ((ic &&& (7 : Int32))).toInt := fun z => hc192 (Int32.lt_iff_toInt_lt.mpr z)
            have i_hc224 : ¬ ((((16 : Int64) + (((((((((0 : Int32) + (own_nz (own_nz (ig &&& (1 : Int32))))) + (own_nz (own_nz (ig &&& (2 : Int32))))) + (own_nz (own_nz (ig &&& (4 : Int32)))))).toInt64) * (17 : Int64)) + (((((3 : Int32) - ((((0 : Int32) + (own_nz (own_nz (ig &&& (1 : Int32))))) + (own_nz (own_nz (ig &&& (2 : Int32))))) + (own_nz (own_nz (ig &&& (4 : Int32))))))).toInt64) * (18 : Int64))) + (((own_mx (0 : Int32) ((3 : Int32) - (1 : Int32)))).toInt64))) + (2 : Int64))).toInt = (((((18 : Int64) + (own_len (own_nz (ig &&& (1 : Int32))) (1 : Int32))) + (own_len (own_nz (ig &&& (2 : Int32))) (0 : Int32))) + (own_len (own_nz (ig &&& (4 : Int32))) (0 : Int32)))).toInt := fun z => hc224 (Int64.toInt_inj.mp z)
            omega
          · refine g_iconst cx d0_227 (v := (1 : Int32)) rfl ?_
            refine g_goto cx d0_228 ?_
            refine g_retZ cx d0_232 rfl rfl (by decide) (by decide) ?_
            rfl
        · refine g_lload cx d0_110 rfl ?_
          refine g_aloadN cx d0_112 rfl rfl ?_
          refine g_iloadN cx d0_113 rfl ?_
          refine g_bipush cx d0_114 (v := (8 : Int32)) rfl ?_
          refine g_iand cx d0_116 ?_
          refine g_tern cx d0_117 d0_120 d0_121 d0_124 ?_
          refine g_iconst cx d0_125 (v := (0 : Int32)) rfl ?_
          refine g_static cx (y := (⟨"com/example/dyn_authz/dynauthz/service/DecisionsLengthPinLaw", "addOne", "(Lcom/example/dyn_authz/dynauthz/service/Decisions;ZZ)J"⟩ : MethodName)) d0_126 (hw _ (List.mem_of_getElem? (i := 34) rfl)) (hw _ (List.mem_of_getElem? (i := 35) rfl)) (hw _ (List.mem_of_getElem? (i := 36) rfl)) (hw _ (List.mem_of_getElem? (i := 37) rfl)) (by decide) (bytes := method_2_code) (maxL' := 5) (M := (rmo l Z a0 hw (3 : Int32) (by decide) (by decide) SAD pm dn SPM SDN npd b2 ((((0 : Int32) + (own_nz (own_nz (ig &&& (1 : Int32))))) + (own_nz (own_nz (ig &&& (2 : Int32))))) + (own_nz (own_nz (ig &&& (4 : Int32))))) (own_nz (ig &&& (8 : Int32))) (0 : Int32) _ DD OL)) rfl (lenOf pd_7 rfl) (by decide) (W := 2) (Nat.le_of_eq rfl) (by decide) (k' := 7) (n' := 14) rfl rfl (by decide) (by decide) (argsL := [(.ref b2), (.int (own_nz (ig &&& (8 : Int32)))), (.int (0 : Int32))]) (rest := [(.long ((((18 : Int64) + (own_len (own_nz (ig &&& (1 : Int32))) (1 : Int32))) + (own_len (own_nz (ig &&& (2 : Int32))) (0 : Int32))) + (own_len (own_nz (ig &&& (4 : Int32))) (0 : Int32))))]) rfl (fun v32 h31 q33 => ?_)
          obtain ⟨rfl, OL, DD⟩ := q33
          have O_b2 := own_Dx DD
          have DD : own_D Z _ b2 (4 : Int32) (((((0 : Int32) + (own_nz (own_nz (ig &&& (1 : Int32))))) + (own_nz (own_nz (ig &&& (2 : Int32))))) + (own_nz (own_nz (ig &&& (4 : Int32))))) + (own_nz (own_nz (ig &&& (8 : Int32))))) := DD
          refine G.cast (st' := [(.long (own_len (own_nz (ig &&& (8 : Int32))) (0 : Int32))), (.long ((((18 : Int64) + (own_len (own_nz (ig &&& (1 : Int32))) (1 : Int32))) + (own_len (own_nz (ig &&& (2 : Int32))) (0 : Int32))) + (own_len (own_nz (ig &&& (4 : Int32))) (0 : Int32))))]) ?_ rfl
          refine g_ladd cx d0_129 ?_
          refine g_lstore cx d0_130 (Ls' := #[.val (.int ie), .val (.int ic), .val (.int ig), .val (.ref b2), .val (.int (ic &&& (7 : Int32))), .val (.long (((((18 : Int64) + (own_len (own_nz (ig &&& (1 : Int32))) (1 : Int32))) + (own_len (own_nz (ig &&& (2 : Int32))) (0 : Int32))) + (own_len (own_nz (ig &&& (4 : Int32))) (0 : Int32))) + (own_len (own_nz (ig &&& (8 : Int32))) (0 : Int32)))), .second]) rfl ?_
          refine g_iload cx d0_132 rfl ?_
          refine g_iconst cx d0_134 (v := (4 : Int32)) rfl ?_
          refine g_icmp_le cx d0_135 (fun hc135 => ?_) (fun hc135 => ?_)
          · refine g_iload cx d0_160 rfl ?_
            refine g_iconst cx d0_162 (v := (5 : Int32)) rfl ?_
            refine g_icmp_le cx d0_163 (fun hc163 => ?_) (fun q => absurd q (fun q => by have i_hc26 : ((0 : Int32)).toInt < ((ic &&& (7 : Int32))).toInt := Int32.lt_iff_toInt_lt.mp hc26; have i_hc53 : ((1 : Int32)).toInt < ((ic &&& (7 : Int32))).toInt := Int32.lt_iff_toInt_lt.mp hc53; have i_hc80 : ((2 : Int32)).toInt < ((ic &&& (7 : Int32))).toInt := Int32.lt_iff_toInt_lt.mp hc80; have i_hc107 : ((3 : Int32)).toInt < ((ic &&& (7 : Int32))).toInt := Int32.lt_iff_toInt_lt.mp hc107; have i_hc135 : ¬ ((4 : Int32)).toInt < ((ic &&& (7 : Int32))).toInt := fun z => hc135 (Int32.lt_iff_toInt_lt.mpr z); have i_q : ((5 : Int32)).toInt < ((ic &&& (7 : Int32))).toInt := Int32.lt_iff_toInt_lt.mp q; have e1 : (0 : Int32).toInt = 0 := rfl; have r3 := rng32 ic; have e2 : ((ic &&& (7 : Int32))).toInt = (ic).toInt % 8 := c_mask ic (7 : Int32) 3 (by decide) (by decide); have e4 : (1 : Int32).toInt = 1 := rfl; have e5 : (2 : Int32).toInt = 2 := rfl; have e6 : (3 : Int32).toInt = 3 := rfl; have e7 : (4 : Int32).toInt = 4 := rfl; have e8 : (5 : Int32).toInt = 5 := rfl; omega))
            refine g_iload cx d0_188 rfl ?_
            refine g_bipush cx d0_190 (v := (6 : Int32)) rfl ?_
            refine g_icmp_le cx d0_192 (fun hc192 => ?_) (fun q => absurd q (fun q => by have i_hc26 : ((0 : Int32)).toInt < ((ic &&& (7 : Int32))).toInt := Int32.lt_iff_toInt_lt.mp hc26; have i_hc53 : ((1 : Int32)).toInt < ((ic &&& (7 : Int32))).toInt := Int32.lt_iff_toInt_lt.mp hc53; have i_hc80 : ((2 : Int32)).toInt < ((ic &&& (7 : Int32))).toInt := Int32.lt_iff_toInt_lt.mp hc80; have i_hc107 : ((3 : Int32)).toInt < ((ic &&& (7 : Int32))).toInt := Int32.lt_iff_toInt_lt.mp hc107; have i_hc135 : ¬ ((4 : Int32)).toInt < ((ic &&& (7 : Int32))).toInt := fun z => hc135 (Int32.lt_iff_toInt_lt.mpr z); have i_hc163 : ¬ ((5 : Int32)).toInt < ((ic &&& (7 : Int32))).toInt := fun z => hc163 (Int32.lt_iff_toInt_lt.mpr z); have i_q : ((6 : Int32)).toInt < ((ic &&& (7 : Int32))).toInt := Int32.lt_iff_toInt_lt.mp q; have e1 : (0 : Int32).toInt = 0 := rfl; have r3 := rng32 ic; have e2 : ((ic &&& (7 : Int32))).toInt = (ic).toInt % 8 := c_mask ic (7 : Int32) 3 (by decide) (by decide); have e4 : (1 : Int32).toInt = 1 := rfl; have e5 : (2 : Int32).toInt = 2 := rfl; have e6 : (3 : Int32).toInt = 3 := rfl; have e7 : (4 : Int32).toInt = 4 := rfl; have e8 : (5 : Int32).toInt = 5 := rfl; have e9 : (6 : Int32).toInt = 6 := rfl; omega))
            refine g_aloadN cx d0_217 rfl rfl ?_
            refine g_virtual cx (y := (⟨"com/example/dyn_authz/dynauthz/service/Decisions", "length", "()J"⟩ : MethodName)) (z := (⟨"com/example/dyn_authz/dynauthz/service/Decisions", "length", "()J"⟩ : MethodName)) (a := b2) d0_218 (hw _ (List.mem_of_getElem? (i := 90) rfl)) (hw _ (List.mem_of_getElem? (i := 91) rfl)) (hw _ (List.mem_of_getElem? (i := 2) rfl)) (hw _ (List.mem_of_getElem? (i := 94) rfl)) (hw _ (List.mem_of_getElem? (i := 93) rfl)) (hw _ (List.mem_of_getElem? (i := 92) rfl)) rfl (by decide) O_b2.1 (bytes := prog_43_method_4_code) (maxL' := 3) (M := (rml l Z a0 hw sPERMIT cPERMIT SPERMIT VPERMIT sDENY cDENY SDENY VDENY sOPENING cOPENING SOPENING VOPENING sCLOSING cCLOSING SCLOSING VCLOSING b2 (4 : Int32) (((((0 : Int32) + (own_nz (own_nz (ig &&& (1 : Int32))))) + (own_nz (own_nz (ig &&& (2 : Int32))))) + (own_nz (own_nz (ig &&& (4 : Int32))))) + (own_nz (own_nz (ig &&& (8 : Int32))))) _ DD OL)) rfl (lenOf pd_6 rfl) (by decide) (W := 0) (Nat.le_of_eq rfl) (by decide) (k' := 7) (n' := 14) rfl rfl (by decide) (by decide) (argsL := []) (rest := []) rfl (fun v35 h34 q36 => ?_)
            obtain ⟨rfl, rfl⟩ := q36
            refine G.cast (st' := [(.long (((16 : Int64) + ((((((((((0 : Int32) + (own_nz (own_nz (ig &&& (1 : Int32))))) + (own_nz (own_nz (ig &&& (2 : Int32))))) + (own_nz (own_nz (ig &&& (4 : Int32))))) + (own_nz (own_nz (ig &&& (8 : Int32)))))).toInt64) * (17 : Int64)) + (((((4 : Int32) - (((((0 : Int32) + (own_nz (own_nz (ig &&& (1 : Int32))))) + (own_nz (own_nz (ig &&& (2 : Int32))))) + (own_nz (own_nz (ig &&& (4 : Int32))))) + (own_nz (own_nz (ig &&& (8 : Int32))))))).toInt64) * (18 : Int64))) + (((own_mx (0 : Int32) ((4 : Int32) - (1 : Int32)))).toInt64))) + (2 : Int64)))]) ?_ rfl
            refine g_lload cx d0_221 rfl ?_
            refine g_lif_ne cx d0_223 d0_224 (fun hc224 => ?_) (fun hc224 => ?_)
            · refine g_iconst cx d0_231 (v := (0 : Int32)) rfl ?_
              refine g_retZ cx d0_232 rfl rfl (by decide) (by decide) ?_
              exfalso
              have e1 : (0 : Int32).toInt = 0 := rfl
              have e3 : (4 : Int32).toInt = 4 := rfl
              have e4 : (1 : Int32).toInt = 1 := rfl
              have e2 : (((4 : Int32) - (1 : Int32))).toInt = ((4 : Int32)).toInt - ((1 : Int32)).toInt := by have w := c_isub (4 : Int32) (1 : Int32); have r := rng32 ((4 : Int32) - (1 : Int32)); omega
              have := own_nz_b (own_nz (ig &&& (1 : Int32)))
              have := own_nz_b (ig &&& (1 : Int32))
              have := own_nz_b (own_nz (ig &&& (2 : Int32)))
              have := own_nz_b (ig &&& (2 : Int32))
              have := own_nz_b (own_nz (ig &&& (4 : Int32)))
              have := own_nz_b (ig &&& (4 : Int32))
              have := own_nz_b (own_nz (ig &&& (8 : Int32)))
              have := own_nz_b (ig &&& (8 : Int32))
              have := own_mx_t (0 : Int32) ((4 : Int32) - (1 : Int32))
              have := own_len1 (own_nz (ig &&& (1 : Int32)))
              have := own_nz_b (own_nz (ig &&& (1 : Int32)))
              have := own_len0 (own_nz (ig &&& (2 : Int32)))
              have := own_nz_b (own_nz (ig &&& (2 : Int32)))
              have := own_len0 (own_nz (ig &&& (4 : Int32)))
              have := own_nz_b (own_nz (ig &&& (4 : Int32)))
              have := own_len0 (own_nz (ig &&& (8 : Int32)))
              have := own_nz_b (own_nz (ig &&& (8 : Int32)))
              have r6 := rng32 ic
              have e5 : ((ic &&& (7 : Int32))).toInt = (ic).toInt % 8 := c_mask ic (7 : Int32) 3 (by decide) (by decide)
              have e7 : (2 : Int32).toInt = 2 := rfl
              have e8 : (3 : Int32).toInt = 3 := rfl
              have e9 : (5 : Int32).toInt = 5 := rfl
              have e10 : (6 : Int32).toInt = 6 := rfl
              have e13 : (16 : Int64).toInt = 16 := rfl
              have r22 := rng32 (own_nz (own_nz (ig &&& (1 : Int32))))
              have e21 : (((0 : Int32) + (own_nz (own_nz (ig &&& (1 : Int32)))))).toInt = ((0 : Int32)).toInt + ((own_nz (own_nz (ig &&& (1 : Int32))))).toInt := by have w := c_iadd (0 : Int32) (own_nz (own_nz (ig &&& (1 : Int32)))); have r := rng32 ((0 : Int32) + (own_nz (own_nz (ig &&& (1 : Int32))))); omega
              have r23 := rng32 (own_nz (own_nz (ig &&& (2 : Int32))))
              have e20 : ((((0 : Int32) + (own_nz (own_nz (ig &&& (1 : Int32))))) + (own_nz (own_nz (ig &&& (2 : Int32)))))).toInt = (((0 : Int32) + (own_nz (own_nz (ig &&& (1 : Int32)))))).toInt + ((own_nz (own_nz (ig &&& (2 : Int32))))).toInt := by have w := c_iadd ((0 : Int32) + (own_nz (own_nz (ig &&& (1 : Int32))))) (own_nz (own_nz (ig &&& (2 : Int32)))); have r := rng32 (((0 : Int32) + (own_nz (own_nz (ig &&& (1 : Int32))))) + (own_nz (own_nz (ig &&& (2 : Int32))))); omega
              have r24 := rng32 (own_nz (own_nz (ig &&& (4 : Int32))))
              have e19 : (((((0 : Int32) + (own_nz (own_nz (ig &&& (1 : Int32))))) + (own_nz (own_nz (ig &&& (2 : Int32))))) + (own_nz (own_nz (ig &&& (4 : Int32)))))).toInt = ((((0 : Int32) + (own_nz (own_nz (ig &&& (1 : Int32))))) + (own_nz (own_nz (ig &&& (2 : Int32)))))).toInt + ((own_nz (own_nz (ig &&& (4 : Int32))))).toInt := by have w := c_iadd (((0 : Int32) + (own_nz (own_nz (ig &&& (1 : Int32))))) + (own_nz (own_nz (ig &&& (2 : Int32))))) (own_nz (own_nz (ig &&& (4 : Int32)))); have r := rng32 ((((0 : Int32) + (own_nz (own_nz (ig &&& (1 : Int32))))) + (own_nz (own_nz (ig &&& (2 : Int32))))) + (own_nz (own_nz (ig &&& (4 : Int32))))); omega
              have r25 := rng32 (own_nz (own_nz (ig &&& (8 : Int32))))
              have e18 : ((((((0 : Int32) + (own_nz (own_nz (ig &&& (1 : Int32))))) + (own_nz (own_nz (ig &&& (2 : Int32))))) + (own_nz (own_nz (ig &&& (4 : Int32))))) + (own_nz (own_nz (ig &&& (8 : Int32)))))).toInt = (((((0 : Int32) + (own_nz (own_nz (ig &&& (1 : Int32))))) + (own_nz (own_nz (ig &&& (2 : Int32))))) + (own_nz (own_nz (ig &&& (4 : Int32)))))).toInt + ((own_nz (own_nz (ig &&& (8 : Int32))))).toInt := by have w := c_iadd ((((0 : Int32) + (own_nz (own_nz (ig &&& (1 : Int32))))) + (own_nz (own_nz (ig &&& (2 : Int32))))) + (own_nz (own_nz (ig &&& (4 : Int32))))) (own_nz (own_nz (ig &&& (8 : Int32)))); have r := rng32 (((((0 : Int32) + (own_nz (own_nz (ig &&& (1 : Int32))))) + (own_nz (own_nz (ig &&& (2 : Int32))))) + (own_nz (own_nz (ig &&& (4 : Int32))))) + (own_nz (own_nz (ig &&& (8 : Int32))))); omega
              have e17 := c_i2l (((((0 : Int32) + (own_nz (own_nz (ig &&& (1 : Int32))))) + (own_nz (own_nz (ig &&& (2 : Int32))))) + (own_nz (own_nz (ig &&& (4 : Int32))))) + (own_nz (own_nz (ig &&& (8 : Int32)))))
              have e26 : (17 : Int64).toInt = 17 := rfl
              have e16 : (((((((((0 : Int32) + (own_nz (own_nz (ig &&& (1 : Int32))))) + (own_nz (own_nz (ig &&& (2 : Int32))))) + (own_nz (own_nz (ig &&& (4 : Int32))))) + (own_nz (own_nz (ig &&& (8 : Int32)))))).toInt64) * (17 : Int64))).toInt = ((((((((0 : Int32) + (own_nz (own_nz (ig &&& (1 : Int32))))) + (own_nz (own_nz (ig &&& (2 : Int32))))) + (own_nz (own_nz (ig &&& (4 : Int32))))) + (own_nz (own_nz (ig &&& (8 : Int32)))))).toInt64)).toInt * 17 := by have w : ((((((((((0 : Int32) + (own_nz (own_nz (ig &&& (1 : Int32))))) + (own_nz (own_nz (ig &&& (2 : Int32))))) + (own_nz (own_nz (ig &&& (4 : Int32))))) + (own_nz (own_nz (ig &&& (8 : Int32)))))).toInt64) * (17 : Int64))).toInt - ((((((((0 : Int32) + (own_nz (own_nz (ig &&& (1 : Int32))))) + (own_nz (own_nz (ig &&& (2 : Int32))))) + (own_nz (own_nz (ig &&& (4 : Int32))))) + (own_nz (own_nz (ig &&& (8 : Int32)))))).toInt64)).toInt * 17) % 18446744073709551616 = 0 := c_lmul (((((((0 : Int32) + (own_nz (own_nz (ig &&& (1 : Int32))))) + (own_nz (own_nz (ig &&& (2 : Int32))))) + (own_nz (own_nz (ig &&& (4 : Int32))))) + (own_nz (own_nz (ig &&& (8 : Int32)))))).toInt64) (17 : Int64); have r := rng64 ((((((((0 : Int32) + (own_nz (own_nz (ig &&& (1 : Int32))))) + (own_nz (own_nz (ig &&& (2 : Int32))))) + (own_nz (own_nz (ig &&& (4 : Int32))))) + (own_nz (own_nz (ig &&& (8 : Int32)))))).toInt64) * (17 : Int64)); omega
              have e29 : (((4 : Int32) - (((((0 : Int32) + (own_nz (own_nz (ig &&& (1 : Int32))))) + (own_nz (own_nz (ig &&& (2 : Int32))))) + (own_nz (own_nz (ig &&& (4 : Int32))))) + (own_nz (own_nz (ig &&& (8 : Int32))))))).toInt = ((4 : Int32)).toInt - ((((((0 : Int32) + (own_nz (own_nz (ig &&& (1 : Int32))))) + (own_nz (own_nz (ig &&& (2 : Int32))))) + (own_nz (own_nz (ig &&& (4 : Int32))))) + (own_nz (own_nz (ig &&& (8 : Int32)))))).toInt := by have w := c_isub (4 : Int32) (((((0 : Int32) + (own_nz (own_nz (ig &&& (1 : Int32))))) + (own_nz (own_nz (ig &&& (2 : Int32))))) + (own_nz (own_nz (ig &&& (4 : Int32))))) + (own_nz (own_nz (ig &&& (8 : Int32))))); have r := rng32 ((4 : Int32) - (((((0 : Int32) + (own_nz (own_nz (ig &&& (1 : Int32))))) + (own_nz (own_nz (ig &&& (2 : Int32))))) + (own_nz (own_nz (ig &&& (4 : Int32))))) + (own_nz (own_nz (ig &&& (8 : Int32)))))); omega
              have e28 := c_i2l ((4 : Int32) - (((((0 : Int32) + (own_nz (own_nz (ig &&& (1 : Int32))))) + (own_nz (own_nz (ig &&& (2 : Int32))))) + (own_nz (own_nz (ig &&& (4 : Int32))))) + (own_nz (own_nz (ig &&& (8 : Int32))))))
              have e30 : (18 : Int64).toInt = 18 := rfl
              have e27 : ((((((4 : Int32) - (((((0 : Int32) + (own_nz (own_nz (ig &&& (1 : Int32))))) + (own_nz (own_nz (ig &&& (2 : Int32))))) + (own_nz (own_nz (ig &&& (4 : Int32))))) + (own_nz (own_nz (ig &&& (8 : Int32))))))).toInt64) * (18 : Int64))).toInt = (((((4 : Int32) - (((((0 : Int32) + (own_nz (own_nz (ig &&& (1 : Int32))))) + (own_nz (own_nz (ig &&& (2 : Int32))))) + (own_nz (own_nz (ig &&& (4 : Int32))))) + (own_nz (own_nz (ig &&& (8 : Int32))))))).toInt64)).toInt * 18 := by have w : (((((((4 : Int32) - (((((0 : Int32) + (own_nz (own_nz (ig &&& (1 : Int32))))) + (own_nz (own_nz (ig &&& (2 : Int32))))) + (own_nz (own_nz (ig &&& (4 : Int32))))) + (own_nz (own_nz (ig &&& (8 : Int32))))))).toInt64) * (18 : Int64))).toInt - (((((4 : Int32) - (((((0 : Int32) + (own_nz (own_nz (ig &&& (1 : Int32))))) + (own_nz (own_nz (ig &&& (2 : Int32))))) + (own_nz (own_nz (ig &&& (4 : Int32))))) + (own_nz (own_nz (ig &&& (8 : Int32))))))).toInt64)).toInt * 18) % 18446744073709551616 = 0 := c_lmul ((((4 : Int32) - (((((0 : Int32) + (own_nz (own_nz (ig &&& (1 : Int32))))) + (own_nz (own_nz (ig &&& (2 : Int32))))) + (own_nz (own_nz (ig &&& (4 : Int32))))) + (own_nz (own_nz (ig &&& (8 : Int32))))))).toInt64) (18 : Int64); have r := rng64 (((((4 : Int32) - (((((0 : Int32) + (own_nz (own_nz (ig &&& (1 : Int32))))) + (own_nz (own_nz (ig &&& (2 : Int32))))) + (own_nz (own_nz (ig &&& (4 : Int32))))) + (own_nz (own_nz (ig &&& (8 : Int32))))))).toInt64) * (18 : Int64)); omega
              have e15 : ((((((((((0 : Int32) + (own_nz (own_nz (ig &&& (1 : Int32))))) + (own_nz (own_nz (ig &&& (2 : Int32))))) + (own_nz (own_nz (ig &&& (4 : Int32))))) + (own_nz (own_nz (ig &&& (8 : Int32)))))).toInt64) * (17 : Int64)) + (((((4 : Int32) - (((((0 : Int32) + (own_nz (own_nz (ig &&& (1 : Int32))))) + (own_nz (own_nz (ig &&& (2 : Int32))))) + (own_nz (own_nz (ig &&& (4 : Int32))))) + (own_nz (own_nz (ig &&& (8 : Int32))))))).toInt64) * (18 : Int64)))).toInt = (((((((((0 : Int32) + (own_nz (own_nz (ig &&& (1 : Int32))))) + (own_nz (own_nz (ig &&& (2 : Int32))))) + (own_nz (own_nz (ig &&& (4 : Int32))))) + (own_nz (own_nz (ig &&& (8 : Int32)))))).toInt64) * (17 : Int64))).toInt + ((((((4 : Int32) - (((((0 : Int32) + (own_nz (own_nz (ig &&& (1 : Int32))))) + (own_nz (own_nz (ig &&& (2 : Int32))))) + (own_nz (own_nz (ig &&& (4 : Int32))))) + (own_nz (own_nz (ig &&& (8 : Int32))))))).toInt64) * (18 : Int64))).toInt := by have w := c_ladd ((((((((0 : Int32) + (own_nz (own_nz (ig &&& (1 : Int32))))) + (own_nz (own_nz (ig &&& (2 : Int32))))) + (own_nz (own_nz (ig &&& (4 : Int32))))) + (own_nz (own_nz (ig &&& (8 : Int32)))))).toInt64) * (17 : Int64)) (((((4 : Int32) - (((((0 : Int32) + (own_nz (own_nz (ig &&& (1 : Int32))))) + (own_nz (own_nz (ig &&& (2 : Int32))))) + (own_nz (own_nz (ig &&& (4 : Int32))))) + (own_nz (own_nz (ig &&& (8 : Int32))))))).toInt64) * (18 : Int64)); have r := rng64 (((((((((0 : Int32) + (own_nz (own_nz (ig &&& (1 : Int32))))) + (own_nz (own_nz (ig &&& (2 : Int32))))) + (own_nz (own_nz (ig &&& (4 : Int32))))) + (own_nz (own_nz (ig &&& (8 : Int32)))))).toInt64) * (17 : Int64)) + (((((4 : Int32) - (((((0 : Int32) + (own_nz (own_nz (ig &&& (1 : Int32))))) + (own_nz (own_nz (ig &&& (2 : Int32))))) + (own_nz (own_nz (ig &&& (4 : Int32))))) + (own_nz (own_nz (ig &&& (8 : Int32))))))).toInt64) * (18 : Int64))); omega
              have r32 := rng32 (own_mx (0 : Int32) ((4 : Int32) - (1 : Int32)))
              have e31 := c_i2l (own_mx (0 : Int32) ((4 : Int32) - (1 : Int32)))
              have e14 : (((((((((((0 : Int32) + (own_nz (own_nz (ig &&& (1 : Int32))))) + (own_nz (own_nz (ig &&& (2 : Int32))))) + (own_nz (own_nz (ig &&& (4 : Int32))))) + (own_nz (own_nz (ig &&& (8 : Int32)))))).toInt64) * (17 : Int64)) + (((((4 : Int32) - (((((0 : Int32) + (own_nz (own_nz (ig &&& (1 : Int32))))) + (own_nz (own_nz (ig &&& (2 : Int32))))) + (own_nz (own_nz (ig &&& (4 : Int32))))) + (own_nz (own_nz (ig &&& (8 : Int32))))))).toInt64) * (18 : Int64))) + (((own_mx (0 : Int32) ((4 : Int32) - (1 : Int32)))).toInt64))).toInt = ((((((((((0 : Int32) + (own_nz (own_nz (ig &&& (1 : Int32))))) + (own_nz (own_nz (ig &&& (2 : Int32))))) + (own_nz (own_nz (ig &&& (4 : Int32))))) + (own_nz (own_nz (ig &&& (8 : Int32)))))).toInt64) * (17 : Int64)) + (((((4 : Int32) - (((((0 : Int32) + (own_nz (own_nz (ig &&& (1 : Int32))))) + (own_nz (own_nz (ig &&& (2 : Int32))))) + (own_nz (own_nz (ig &&& (4 : Int32))))) + (own_nz (own_nz (ig &&& (8 : Int32))))))).toInt64) * (18 : Int64)))).toInt + ((((own_mx (0 : Int32) ((4 : Int32) - (1 : Int32)))).toInt64)).toInt := by have w := c_ladd (((((((((0 : Int32) + (own_nz (own_nz (ig &&& (1 : Int32))))) + (own_nz (own_nz (ig &&& (2 : Int32))))) + (own_nz (own_nz (ig &&& (4 : Int32))))) + (own_nz (own_nz (ig &&& (8 : Int32)))))).toInt64) * (17 : Int64)) + (((((4 : Int32) - (((((0 : Int32) + (own_nz (own_nz (ig &&& (1 : Int32))))) + (own_nz (own_nz (ig &&& (2 : Int32))))) + (own_nz (own_nz (ig &&& (4 : Int32))))) + (own_nz (own_nz (ig &&& (8 : Int32))))))).toInt64) * (18 : Int64))) (((own_mx (0 : Int32) ((4 : Int32) - (1 : Int32)))).toInt64); have r := rng64 ((((((((((0 : Int32) + (own_nz (own_nz (ig &&& (1 : Int32))))) + (own_nz (own_nz (ig &&& (2 : Int32))))) + (own_nz (own_nz (ig &&& (4 : Int32))))) + (own_nz (own_nz (ig &&& (8 : Int32)))))).toInt64) * (17 : Int64)) + (((((4 : Int32) - (((((0 : Int32) + (own_nz (own_nz (ig &&& (1 : Int32))))) + (own_nz (own_nz (ig &&& (2 : Int32))))) + (own_nz (own_nz (ig &&& (4 : Int32))))) + (own_nz (own_nz (ig &&& (8 : Int32))))))).toInt64) * (18 : Int64))) + (((own_mx (0 : Int32) ((4 : Int32) - (1 : Int32)))).toInt64)); omega
              have e12 : (((16 : Int64) + ((((((((((0 : Int32) + (own_nz (own_nz (ig &&& (1 : Int32))))) + (own_nz (own_nz (ig &&& (2 : Int32))))) + (own_nz (own_nz (ig &&& (4 : Int32))))) + (own_nz (own_nz (ig &&& (8 : Int32)))))).toInt64) * (17 : Int64)) + (((((4 : Int32) - (((((0 : Int32) + (own_nz (own_nz (ig &&& (1 : Int32))))) + (own_nz (own_nz (ig &&& (2 : Int32))))) + (own_nz (own_nz (ig &&& (4 : Int32))))) + (own_nz (own_nz (ig &&& (8 : Int32))))))).toInt64) * (18 : Int64))) + (((own_mx (0 : Int32) ((4 : Int32) - (1 : Int32)))).toInt64)))).toInt = ((16 : Int64)).toInt + (((((((((((0 : Int32) + (own_nz (own_nz (ig &&& (1 : Int32))))) + (own_nz (own_nz (ig &&& (2 : Int32))))) + (own_nz (own_nz (ig &&& (4 : Int32))))) + (own_nz (own_nz (ig &&& (8 : Int32)))))).toInt64) * (17 : Int64)) + (((((4 : Int32) - (((((0 : Int32) + (own_nz (own_nz (ig &&& (1 : Int32))))) + (own_nz (own_nz (ig &&& (2 : Int32))))) + (own_nz (own_nz (ig &&& (4 : Int32))))) + (own_nz (own_nz (ig &&& (8 : Int32))))))).toInt64) * (18 : Int64))) + (((own_mx (0 : Int32) ((4 : Int32) - (1 : Int32)))).toInt64))).toInt := by have w := c_ladd (16 : Int64) ((((((((((0 : Int32) + (own_nz (own_nz (ig &&& (1 : Int32))))) + (own_nz (own_nz (ig &&& (2 : Int32))))) + (own_nz (own_nz (ig &&& (4 : Int32))))) + (own_nz (own_nz (ig &&& (8 : Int32)))))).toInt64) * (17 : Int64)) + (((((4 : Int32) - (((((0 : Int32) + (own_nz (own_nz (ig &&& (1 : Int32))))) + (own_nz (own_nz (ig &&& (2 : Int32))))) + (own_nz (own_nz (ig &&& (4 : Int32))))) + (own_nz (own_nz (ig &&& (8 : Int32))))))).toInt64) * (18 : Int64))) + (((own_mx (0 : Int32) ((4 : Int32) - (1 : Int32)))).toInt64)); have r := rng64 ((16 : Int64) + ((((((((((0 : Int32) + (own_nz (own_nz (ig &&& (1 : Int32))))) + (own_nz (own_nz (ig &&& (2 : Int32))))) + (own_nz (own_nz (ig &&& (4 : Int32))))) + (own_nz (own_nz (ig &&& (8 : Int32)))))).toInt64) * (17 : Int64)) + (((((4 : Int32) - (((((0 : Int32) + (own_nz (own_nz (ig &&& (1 : Int32))))) + (own_nz (own_nz (ig &&& (2 : Int32))))) + (own_nz (own_nz (ig &&& (4 : Int32))))) + (own_nz (own_nz (ig &&& (8 : Int32))))))).toInt64) * (18 : Int64))) + (((own_mx (0 : Int32) ((4 : Int32) - (1 : Int32)))).toInt64))); omega
              have e33 : (2 : Int64).toInt = 2 := rfl
              have e11 : ((((16 : Int64) + ((((((((((0 : Int32) + (own_nz (own_nz (ig &&& (1 : Int32))))) + (own_nz (own_nz (ig &&& (2 : Int32))))) + (own_nz (own_nz (ig &&& (4 : Int32))))) + (own_nz (own_nz (ig &&& (8 : Int32)))))).toInt64) * (17 : Int64)) + (((((4 : Int32) - (((((0 : Int32) + (own_nz (own_nz (ig &&& (1 : Int32))))) + (own_nz (own_nz (ig &&& (2 : Int32))))) + (own_nz (own_nz (ig &&& (4 : Int32))))) + (own_nz (own_nz (ig &&& (8 : Int32))))))).toInt64) * (18 : Int64))) + (((own_mx (0 : Int32) ((4 : Int32) - (1 : Int32)))).toInt64))) + (2 : Int64))).toInt = (((16 : Int64) + ((((((((((0 : Int32) + (own_nz (own_nz (ig &&& (1 : Int32))))) + (own_nz (own_nz (ig &&& (2 : Int32))))) + (own_nz (own_nz (ig &&& (4 : Int32))))) + (own_nz (own_nz (ig &&& (8 : Int32)))))).toInt64) * (17 : Int64)) + (((((4 : Int32) - (((((0 : Int32) + (own_nz (own_nz (ig &&& (1 : Int32))))) + (own_nz (own_nz (ig &&& (2 : Int32))))) + (own_nz (own_nz (ig &&& (4 : Int32))))) + (own_nz (own_nz (ig &&& (8 : Int32))))))).toInt64) * (18 : Int64))) + (((own_mx (0 : Int32) ((4 : Int32) - (1 : Int32)))).toInt64)))).toInt + ((2 : Int64)).toInt := by have w := c_ladd ((16 : Int64) + ((((((((((0 : Int32) + (own_nz (own_nz (ig &&& (1 : Int32))))) + (own_nz (own_nz (ig &&& (2 : Int32))))) + (own_nz (own_nz (ig &&& (4 : Int32))))) + (own_nz (own_nz (ig &&& (8 : Int32)))))).toInt64) * (17 : Int64)) + (((((4 : Int32) - (((((0 : Int32) + (own_nz (own_nz (ig &&& (1 : Int32))))) + (own_nz (own_nz (ig &&& (2 : Int32))))) + (own_nz (own_nz (ig &&& (4 : Int32))))) + (own_nz (own_nz (ig &&& (8 : Int32))))))).toInt64) * (18 : Int64))) + (((own_mx (0 : Int32) ((4 : Int32) - (1 : Int32)))).toInt64))) (2 : Int64); have r := rng64 (((16 : Int64) + ((((((((((0 : Int32) + (own_nz (own_nz (ig &&& (1 : Int32))))) + (own_nz (own_nz (ig &&& (2 : Int32))))) + (own_nz (own_nz (ig &&& (4 : Int32))))) + (own_nz (own_nz (ig &&& (8 : Int32)))))).toInt64) * (17 : Int64)) + (((((4 : Int32) - (((((0 : Int32) + (own_nz (own_nz (ig &&& (1 : Int32))))) + (own_nz (own_nz (ig &&& (2 : Int32))))) + (own_nz (own_nz (ig &&& (4 : Int32))))) + (own_nz (own_nz (ig &&& (8 : Int32))))))).toInt64) * (18 : Int64))) + (((own_mx (0 : Int32) ((4 : Int32) - (1 : Int32)))).toInt64))) + (2 : Int64)); omega
              have r38 := rng64 (own_len (own_nz (ig &&& (1 : Int32))) (1 : Int32))
              have e37 : (((18 : Int64) + (own_len (own_nz (ig &&& (1 : Int32))) (1 : Int32)))).toInt = ((18 : Int64)).toInt + ((own_len (own_nz (ig &&& (1 : Int32))) (1 : Int32))).toInt := by have w := c_ladd (18 : Int64) (own_len (own_nz (ig &&& (1 : Int32))) (1 : Int32)); have r := rng64 ((18 : Int64) + (own_len (own_nz (ig &&& (1 : Int32))) (1 : Int32))); omega
              have r39 := rng64 (own_len (own_nz (ig &&& (2 : Int32))) (0 : Int32))
              have e36 : ((((18 : Int64) + (own_len (own_nz (ig &&& (1 : Int32))) (1 : Int32))) + (own_len (own_nz (ig &&& (2 : Int32))) (0 : Int32)))).toInt = (((18 : Int64) + (own_len (own_nz (ig &&& (1 : Int32))) (1 : Int32)))).toInt + ((own_len (own_nz (ig &&& (2 : Int32))) (0 : Int32))).toInt := by have w := c_ladd ((18 : Int64) + (own_len (own_nz (ig &&& (1 : Int32))) (1 : Int32))) (own_len (own_nz (ig &&& (2 : Int32))) (0 : Int32)); have r := rng64 (((18 : Int64) + (own_len (own_nz (ig &&& (1 : Int32))) (1 : Int32))) + (own_len (own_nz (ig &&& (2 : Int32))) (0 : Int32))); omega
              have r40 := rng64 (own_len (own_nz (ig &&& (4 : Int32))) (0 : Int32))
              have e35 : (((((18 : Int64) + (own_len (own_nz (ig &&& (1 : Int32))) (1 : Int32))) + (own_len (own_nz (ig &&& (2 : Int32))) (0 : Int32))) + (own_len (own_nz (ig &&& (4 : Int32))) (0 : Int32)))).toInt = ((((18 : Int64) + (own_len (own_nz (ig &&& (1 : Int32))) (1 : Int32))) + (own_len (own_nz (ig &&& (2 : Int32))) (0 : Int32)))).toInt + ((own_len (own_nz (ig &&& (4 : Int32))) (0 : Int32))).toInt := by have w := c_ladd (((18 : Int64) + (own_len (own_nz (ig &&& (1 : Int32))) (1 : Int32))) + (own_len (own_nz (ig &&& (2 : Int32))) (0 : Int32))) (own_len (own_nz (ig &&& (4 : Int32))) (0 : Int32)); have r := rng64 ((((18 : Int64) + (own_len (own_nz (ig &&& (1 : Int32))) (1 : Int32))) + (own_len (own_nz (ig &&& (2 : Int32))) (0 : Int32))) + (own_len (own_nz (ig &&& (4 : Int32))) (0 : Int32))); omega
              have r41 := rng64 (own_len (own_nz (ig &&& (8 : Int32))) (0 : Int32))
              have e34 : ((((((18 : Int64) + (own_len (own_nz (ig &&& (1 : Int32))) (1 : Int32))) + (own_len (own_nz (ig &&& (2 : Int32))) (0 : Int32))) + (own_len (own_nz (ig &&& (4 : Int32))) (0 : Int32))) + (own_len (own_nz (ig &&& (8 : Int32))) (0 : Int32)))).toInt = (((((18 : Int64) + (own_len (own_nz (ig &&& (1 : Int32))) (1 : Int32))) + (own_len (own_nz (ig &&& (2 : Int32))) (0 : Int32))) + (own_len (own_nz (ig &&& (4 : Int32))) (0 : Int32)))).toInt + ((own_len (own_nz (ig &&& (8 : Int32))) (0 : Int32))).toInt := by have w := c_ladd ((((18 : Int64) + (own_len (own_nz (ig &&& (1 : Int32))) (1 : Int32))) + (own_len (own_nz (ig &&& (2 : Int32))) (0 : Int32))) + (own_len (own_nz (ig &&& (4 : Int32))) (0 : Int32))) (own_len (own_nz (ig &&& (8 : Int32))) (0 : Int32)); have r := rng64 (((((18 : Int64) + (own_len (own_nz (ig &&& (1 : Int32))) (1 : Int32))) + (own_len (own_nz (ig &&& (2 : Int32))) (0 : Int32))) + (own_len (own_nz (ig &&& (4 : Int32))) (0 : Int32))) + (own_len (own_nz (ig &&& (8 : Int32))) (0 : Int32))); omega
              have i_hc26 : ((0 : Int32)).toInt < ((ic &&& (7 : Int32))).toInt := Int32.lt_iff_toInt_lt.mp hc26
              have i_hc53 : ((1 : Int32)).toInt < ((ic &&& (7 : Int32))).toInt := Int32.lt_iff_toInt_lt.mp hc53
              have i_hc80 : ((2 : Int32)).toInt < ((ic &&& (7 : Int32))).toInt := Int32.lt_iff_toInt_lt.mp hc80
              have i_hc107 : ((3 : Int32)).toInt < ((ic &&& (7 : Int32))).toInt := Int32.lt_iff_toInt_lt.mp hc107
              have i_hc135 : ¬ ((4 : Int32)).toInt < ((ic &&& (7 : Int32))).toInt := fun z => hc135 (Int32.lt_iff_toInt_lt.mpr z)
              have i_hc163 : ¬ ((5 : Int32)).toInt < ((ic &&& (7 : Int32))).toInt := fun z => hc163 (Int32.lt_iff_toInt_lt.mpr z)
              have i_hc192 : ¬ ((6 : Int32)).toInt < ((ic &&& (7 : Int32))).toInt := fun z => hc192 (Int32.lt_iff_toInt_lt.mpr z)
              have i_hc224 : ¬ ((((16 : Int64) + ((((((((((0 : Int32) + (own_nz (own_nz (ig &&& (1 : Int32))))) + (own_nz (own_nz (ig &&& (2 : Int32))))) + (own_nz (own_nz (ig &&& (4 : Int32))))) + (own_nz (own_nz (ig &&& (8 : Int32)))))).toInt64) * (17 : Int64)) + (((((4 : Int32) - (((((0 : Int32) + (own_nz (own_nz (ig &&& (1 : Int32))))) + (own_nz (own_nz (ig &&& (2 : Int32))))) + (own_nz (own_nz (ig &&& (4 : Int32))))) + (own_nz (own_nz (ig &&& (8 : Int32))))))).toInt64) * (18 : Int64))) + (((own_mx (0 : Int32) ((4 : Int32) - (1 : Int32)))).toInt64))) + (2 : Int64))).toInt = ((((((18 : Int64) + (own_len (own_nz (ig &&& (1 : Int32))) (1 : Int32))) + (own_len (own_nz (ig &&& (2 : Int32))) (0 : Int32))) + (own_len (own_nz (ig &&& (4 : Int32))) (0 : Int32))) + (own_len (own_nz (ig &&& (8 : Int32))) (0 : Int32)))).toInt := fun z => hc224 (Int64.toInt_inj.mp z)
              omega
            · refine g_iconst cx d0_227 (v := (1 : Int32)) rfl ?_
              refine g_goto cx d0_228 ?_
              refine g_retZ cx d0_232 rfl rfl (by decide) (by decide) ?_
              rfl
          · refine g_lload cx d0_138 rfl ?_
            refine g_aloadN cx d0_140 rfl rfl ?_
            refine g_iloadN cx d0_141 rfl ?_
            refine g_bipush cx d0_142 (v := (16 : Int32)) rfl ?_
            refine g_iand cx d0_144 ?_
            refine g_tern cx d0_145 d0_148 d0_149 d0_152 ?_
            refine g_iconst cx d0_153 (v := (0 : Int32)) rfl ?_
            refine g_static cx (y := (⟨"com/example/dyn_authz/dynauthz/service/DecisionsLengthPinLaw", "addOne", "(Lcom/example/dyn_authz/dynauthz/service/Decisions;ZZ)J"⟩ : MethodName)) d0_154 (hw _ (List.mem_of_getElem? (i := 34) rfl)) (hw _ (List.mem_of_getElem? (i := 35) rfl)) (hw _ (List.mem_of_getElem? (i := 36) rfl)) (hw _ (List.mem_of_getElem? (i := 37) rfl)) (by decide) (bytes := method_2_code) (maxL' := 5) (M := (rmo l Z a0 hw (4 : Int32) (by decide) (by decide) SAD pm dn SPM SDN npd b2 (((((0 : Int32) + (own_nz (own_nz (ig &&& (1 : Int32))))) + (own_nz (own_nz (ig &&& (2 : Int32))))) + (own_nz (own_nz (ig &&& (4 : Int32))))) + (own_nz (own_nz (ig &&& (8 : Int32))))) (own_nz (ig &&& (16 : Int32))) (0 : Int32) _ DD OL)) rfl (lenOf pd_7 rfl) (by decide) (W := 2) (Nat.le_of_eq rfl) (by decide) (k' := 8) (n' := 15) rfl rfl (by decide) (by decide) (argsL := [(.ref b2), (.int (own_nz (ig &&& (16 : Int32)))), (.int (0 : Int32))]) (rest := [(.long (((((18 : Int64) + (own_len (own_nz (ig &&& (1 : Int32))) (1 : Int32))) + (own_len (own_nz (ig &&& (2 : Int32))) (0 : Int32))) + (own_len (own_nz (ig &&& (4 : Int32))) (0 : Int32))) + (own_len (own_nz (ig &&& (8 : Int32))) (0 : Int32))))]) rfl (fun v38 h37 q39 => ?_)
            obtain ⟨rfl, OL, DD⟩ := q39
            have O_b2 := own_Dx DD
            have DD : own_D Z _ b2 (5 : Int32) ((((((0 : Int32) + (own_nz (own_nz (ig &&& (1 : Int32))))) + (own_nz (own_nz (ig &&& (2 : Int32))))) + (own_nz (own_nz (ig &&& (4 : Int32))))) + (own_nz (own_nz (ig &&& (8 : Int32))))) + (own_nz (own_nz (ig &&& (16 : Int32))))) := DD
            refine G.cast (st' := [(.long (own_len (own_nz (ig &&& (16 : Int32))) (0 : Int32))), (.long (((((18 : Int64) + (own_len (own_nz (ig &&& (1 : Int32))) (1 : Int32))) + (own_len (own_nz (ig &&& (2 : Int32))) (0 : Int32))) + (own_len (own_nz (ig &&& (4 : Int32))) (0 : Int32))) + (own_len (own_nz (ig &&& (8 : Int32))) (0 : Int32))))]) ?_ rfl
            refine g_ladd cx d0_157 ?_
            refine g_lstore cx d0_158 (Ls' := #[.val (.int ie), .val (.int ic), .val (.int ig), .val (.ref b2), .val (.int (ic &&& (7 : Int32))), .val (.long ((((((18 : Int64) + (own_len (own_nz (ig &&& (1 : Int32))) (1 : Int32))) + (own_len (own_nz (ig &&& (2 : Int32))) (0 : Int32))) + (own_len (own_nz (ig &&& (4 : Int32))) (0 : Int32))) + (own_len (own_nz (ig &&& (8 : Int32))) (0 : Int32))) + (own_len (own_nz (ig &&& (16 : Int32))) (0 : Int32)))), .second]) rfl ?_
            refine g_iload cx d0_160 rfl ?_
            refine g_iconst cx d0_162 (v := (5 : Int32)) rfl ?_
            refine g_icmp_le cx d0_163 (fun hc163 => ?_) (fun hc163 => ?_)
            · refine g_iload cx d0_188 rfl ?_
              refine g_bipush cx d0_190 (v := (6 : Int32)) rfl ?_
              refine g_icmp_le cx d0_192 (fun hc192 => ?_) (fun q => absurd q (fun q => by have i_hc26 : ((0 : Int32)).toInt < ((ic &&& (7 : Int32))).toInt := Int32.lt_iff_toInt_lt.mp hc26; have i_hc53 : ((1 : Int32)).toInt < ((ic &&& (7 : Int32))).toInt := Int32.lt_iff_toInt_lt.mp hc53; have i_hc80 : ((2 : Int32)).toInt < ((ic &&& (7 : Int32))).toInt := Int32.lt_iff_toInt_lt.mp hc80; have i_hc107 : ((3 : Int32)).toInt < ((ic &&& (7 : Int32))).toInt := Int32.lt_iff_toInt_lt.mp hc107; have i_hc135 : ((4 : Int32)).toInt < ((ic &&& (7 : Int32))).toInt := Int32.lt_iff_toInt_lt.mp hc135; have i_hc163 : ¬ ((5 : Int32)).toInt < ((ic &&& (7 : Int32))).toInt := fun z => hc163 (Int32.lt_iff_toInt_lt.mpr z); have i_q : ((6 : Int32)).toInt < ((ic &&& (7 : Int32))).toInt := Int32.lt_iff_toInt_lt.mp q; have e1 : (0 : Int32).toInt = 0 := rfl; have r3 := rng32 ic; have e2 : ((ic &&& (7 : Int32))).toInt = (ic).toInt % 8 := c_mask ic (7 : Int32) 3 (by decide) (by decide); have e4 : (1 : Int32).toInt = 1 := rfl; have e5 : (2 : Int32).toInt = 2 := rfl; have e6 : (3 : Int32).toInt = 3 := rfl; have e7 : (4 : Int32).toInt = 4 := rfl; have e8 : (5 : Int32).toInt = 5 := rfl; have e9 : (6 : Int32).toInt = 6 := rfl; omega))
              refine g_aloadN cx d0_217 rfl rfl ?_
              refine g_virtual cx (y := (⟨"com/example/dyn_authz/dynauthz/service/Decisions", "length", "()J"⟩ : MethodName)) (z := (⟨"com/example/dyn_authz/dynauthz/service/Decisions", "length", "()J"⟩ : MethodName)) (a := b2) d0_218 (hw _ (List.mem_of_getElem? (i := 90) rfl)) (hw _ (List.mem_of_getElem? (i := 91) rfl)) (hw _ (List.mem_of_getElem? (i := 2) rfl)) (hw _ (List.mem_of_getElem? (i := 94) rfl)) (hw _ (List.mem_of_getElem? (i := 93) rfl)) (hw _ (List.mem_of_getElem? (i := 92) rfl)) rfl (by decide) O_b2.1 (bytes := prog_43_method_4_code) (maxL' := 3) (M := (rml l Z a0 hw sPERMIT cPERMIT SPERMIT VPERMIT sDENY cDENY SDENY VDENY sOPENING cOPENING SOPENING VOPENING sCLOSING cCLOSING SCLOSING VCLOSING b2 (5 : Int32) ((((((0 : Int32) + (own_nz (own_nz (ig &&& (1 : Int32))))) + (own_nz (own_nz (ig &&& (2 : Int32))))) + (own_nz (own_nz (ig &&& (4 : Int32))))) + (own_nz (own_nz (ig &&& (8 : Int32))))) + (own_nz (own_nz (ig &&& (16 : Int32))))) _ DD OL)) rfl (lenOf pd_6 rfl) (by decide) (W := 0) (Nat.le_of_eq rfl) (by decide) (k' := 8) (n' := 15) rfl rfl (by decide) (by decide) (argsL := []) (rest := []) rfl (fun v41 h40 q42 => ?_)
              obtain ⟨rfl, rfl⟩ := q42
              refine G.cast (st' := [(.long (((16 : Int64) + (((((((((((0 : Int32) + (own_nz (own_nz (ig &&& (1 : Int32))))) + (own_nz (own_nz (ig &&& (2 : Int32))))) + (own_nz (own_nz (ig &&& (4 : Int32))))) + (own_nz (own_nz (ig &&& (8 : Int32))))) + (own_nz (own_nz (ig &&& (16 : Int32)))))).toInt64) * (17 : Int64)) + (((((5 : Int32) - ((((((0 : Int32) + (own_nz (own_nz (ig &&& (1 : Int32))))) + (own_nz (own_nz (ig &&& (2 : Int32))))) + (own_nz (own_nz (ig &&& (4 : Int32))))) + (own_nz (own_nz (ig &&& (8 : Int32))))) + (own_nz (own_nz (ig &&& (16 : Int32))))))).toInt64) * (18 : Int64))) + (((own_mx (0 : Int32) ((5 : Int32) - (1 : Int32)))).toInt64))) + (2 : Int64)))]) ?_ rfl
              refine g_lload cx d0_221 rfl ?_
              refine g_lif_ne cx d0_223 d0_224 (fun hc224 => ?_) (fun hc224 => ?_)
              · refine g_iconst cx d0_231 (v := (0 : Int32)) rfl ?_
                refine g_retZ cx d0_232 rfl rfl (by decide) (by decide) ?_
                exfalso
                have e1 : (0 : Int32).toInt = 0 := rfl
                have e3 : (5 : Int32).toInt = 5 := rfl
                have e4 : (1 : Int32).toInt = 1 := rfl
                have e2 : (((5 : Int32) - (1 : Int32))).toInt = ((5 : Int32)).toInt - ((1 : Int32)).toInt := by have w := c_isub (5 : Int32) (1 : Int32); have r := rng32 ((5 : Int32) - (1 : Int32)); omega
                have := own_nz_b (own_nz (ig &&& (1 : Int32)))
                have := own_nz_b (ig &&& (1 : Int32))
                have := own_nz_b (own_nz (ig &&& (2 : Int32)))
                have := own_nz_b (ig &&& (2 : Int32))
                have := own_nz_b (own_nz (ig &&& (4 : Int32)))
                have := own_nz_b (ig &&& (4 : Int32))
                have := own_nz_b (own_nz (ig &&& (8 : Int32)))
                have := own_nz_b (ig &&& (8 : Int32))
                have := own_nz_b (own_nz (ig &&& (16 : Int32)))
                have := own_nz_b (ig &&& (16 : Int32))
                have := own_mx_t (0 : Int32) ((5 : Int32) - (1 : Int32))
                have := own_len1 (own_nz (ig &&& (1 : Int32)))
                have := own_nz_b (own_nz (ig &&& (1 : Int32)))
                have := own_len0 (own_nz (ig &&& (2 : Int32)))
                have := own_nz_b (own_nz (ig &&& (2 : Int32)))
                have := own_len0 (own_nz (ig &&& (4 : Int32)))
                have := own_nz_b (own_nz (ig &&& (4 : Int32)))
                have := own_len0 (own_nz (ig &&& (8 : Int32)))
                have := own_nz_b (own_nz (ig &&& (8 : Int32)))
                have := own_len0 (own_nz (ig &&& (16 : Int32)))
                have := own_nz_b (own_nz (ig &&& (16 : Int32)))
                have r6 := rng32 ic
                have e5 : ((ic &&& (7 : Int32))).toInt = (ic).toInt % 8 := c_mask ic (7 : Int32) 3 (by decide) (by decide)
                have e7 : (2 : Int32).toInt = 2 := rfl
                have e8 : (3 : Int32).toInt = 3 := rfl
                have e9 : (4 : Int32).toInt = 4 := rfl
                have e10 : (6 : Int32).toInt = 6 := rfl
                have e13 : (16 : Int64).toInt = 16 := rfl
                have r23 := rng32 (own_nz (own_nz (ig &&& (1 : Int32))))
                have e22 : (((0 : Int32) + (own_nz (own_nz (ig &&& (1 : Int32)))))).toInt = ((0 : Int32)).toInt + ((own_nz (own_nz (ig &&& (1 : Int32))))).toInt := by have w := c_iadd (0 : Int32) (own_nz (own_nz (ig &&& (1 : Int32)))); have r := rng32 ((0 : Int32) + (own_nz (own_nz (ig &&& (1 : Int32))))); omega
                have r24 := rng32 (own_nz (own_nz (ig &&& (2 : Int32))))
                have e21 : ((((0 : Int32) + (own_nz (own_nz (ig &&& (1 : Int32))))) + (own_nz (own_nz (ig &&& (2 : Int32)))))).toInt = (((0 : Int32) + (own_nz (own_nz (ig &&& (1 : Int32)))))).toInt + ((own_nz (own_nz (ig &&& (2 : Int32))))).toInt := by have w := c_iadd ((0 : Int32) + (own_nz (own_nz (ig &&& (1 : Int32))))) (own_nz (own_nz (ig &&& (2 : Int32)))); have r := rng32 (((0 : Int32) + (own_nz (own_nz (ig &&& (1 : Int32))))) + (own_nz (own_nz (ig &&& (2 : Int32))))); omega
                have r25 := rng32 (own_nz (own_nz (ig &&& (4 : Int32))))
                have e20 : (((((0 : Int32) + (own_nz (own_nz (ig &&& (1 : Int32))))) + (own_nz (own_nz (ig &&& (2 : Int32))))) + (own_nz (own_nz (ig &&& (4 : Int32)))))).toInt = ((((0 : Int32) + (own_nz (own_nz (ig &&& (1 : Int32))))) + (own_nz (own_nz (ig &&& (2 : Int32)))))).toInt + ((own_nz (own_nz (ig &&& (4 : Int32))))).toInt := by have w := c_iadd (((0 : Int32) + (own_nz (own_nz (ig &&& (1 : Int32))))) + (own_nz (own_nz (ig &&& (2 : Int32))))) (own_nz (own_nz (ig &&& (4 : Int32)))); have r := rng32 ((((0 : Int32) + (own_nz (own_nz (ig &&& (1 : Int32))))) + (own_nz (own_nz (ig &&& (2 : Int32))))) + (own_nz (own_nz (ig &&& (4 : Int32))))); omega
                have r26 := rng32 (own_nz (own_nz (ig &&& (8 : Int32))))
                have e19 : ((((((0 : Int32) + (own_nz (own_nz (ig &&& (1 : Int32))))) + (own_nz (own_nz (ig &&& (2 : Int32))))) + (own_nz (own_nz (ig &&& (4 : Int32))))) + (own_nz (own_nz (ig &&& (8 : Int32)))))).toInt = (((((0 : Int32) + (own_nz (own_nz (ig &&& (1 : Int32))))) + (own_nz (own_nz (ig &&& (2 : Int32))))) + (own_nz (own_nz (ig &&& (4 : Int32)))))).toInt + ((own_nz (own_nz (ig &&& (8 : Int32))))).toInt := by have w := c_iadd ((((0 : Int32) + (own_nz (own_nz (ig &&& (1 : Int32))))) + (own_nz (own_nz (ig &&& (2 : Int32))))) + (own_nz (own_nz (ig &&& (4 : Int32))))) (own_nz (own_nz (ig &&& (8 : Int32)))); have r := rng32 (((((0 : Int32) + (own_nz (own_nz (ig &&& (1 : Int32))))) + (own_nz (own_nz (ig &&& (2 : Int32))))) + (own_nz (own_nz (ig &&& (4 : Int32))))) + (own_nz (own_nz (ig &&& (8 : Int32))))); omega
                have r27 := rng32 (own_nz (own_nz (ig &&& (16 : Int32))))
                have e18 : (((((((0 : Int32) + (own_nz (own_nz (ig &&& (1 : Int32))))) + (own_nz (own_nz (ig &&& (2 : Int32))))) + (own_nz (own_nz (ig &&& (4 : Int32))))) + (own_nz (own_nz (ig &&& (8 : Int32))))) + (own_nz (own_nz (ig &&& (16 : Int32)))))).toInt = ((((((0 : Int32) + (own_nz (own_nz (ig &&& (1 : Int32))))) + (own_nz (own_nz (ig &&& (2 : Int32))))) + (own_nz (own_nz (ig &&& (4 : Int32))))) + (own_nz (own_nz (ig &&& (8 : Int32)))))).toInt + ((own_nz (own_nz (ig &&& (16 : Int32))))).toInt := by have w := c_iadd (((((0 : Int32) + (own_nz (own_nz (ig &&& (1 : Int32))))) + (own_nz (own_nz (ig &&& (2 : Int32))))) + (own_nz (own_nz (ig &&& (4 : Int32))))) + (own_nz (own_nz (ig &&& (8 : Int32))))) (own_nz (own_nz (ig &&& (16 : Int32)))); have r := rng32 ((((((0 : Int32) + (own_nz (own_nz (ig &&& (1 : Int32))))) + (own_nz (own_nz (ig &&& (2 : Int32))))) + (own_nz (own_nz (ig &&& (4 : Int32))))) + (own_nz (own_nz (ig &&& (8 : Int32))))) + (own_nz (own_nz (ig &&& (16 : Int32))))); omega
                have e17 := c_i2l ((((((0 : Int32) + (own_nz (own_nz (ig &&& (1 : Int32))))) + (own_nz (own_nz (ig &&& (2 : Int32))))) + (own_nz (own_nz (ig &&& (4 : Int32))))) + (own_nz (own_nz (ig &&& (8 : Int32))))) + (own_nz (own_nz (ig &&& (16 : Int32)))))
                have e28 : (17 : Int64).toInt = 17 := rfl
                have e16 : ((((((((((0 : Int32) + (own_nz (own_nz (ig &&& (1 : Int32))))) + (own_nz (own_nz (ig &&& (2 : Int32))))) + (own_nz (own_nz (ig &&& (4 : Int32))))) + (own_nz (own_nz (ig &&& (8 : Int32))))) + (own_nz (own_nz (ig &&& (16 : Int32)))))).toInt64) * (17 : Int64))).toInt = (((((((((0 : Int32) + (own_nz (own_nz (ig &&& (1 : Int32))))) + (own_nz (own_nz (ig &&& (2 : Int32))))) + (own_nz (own_nz (ig &&& (4 : Int32))))) + (own_nz (own_nz (ig &&& (8 : Int32))))) + (own_nz (own_nz (ig &&& (16 : Int32)))))).toInt64)).toInt * 17 := by have w : (((((((((((0 : Int32) + (own_nz (own_nz (ig &&& (1 : Int32))))) + (own_nz (own_nz (ig &&& (2 : Int32))))) + (own_nz (own_nz (ig &&& (4 : Int32))))) + (own_nz (own_nz (ig &&& (8 : Int32))))) + (own_nz (own_nz (ig &&& (16 : Int32)))))).toInt64) * (17 : Int64))).toInt - (((((((((0 : Int32) + (own_nz (own_nz (ig &&& (1 : Int32))))) + (own_nz (own_nz (ig &&& (2 : Int32))))) + (own_nz (own_nz (ig &&& (4 : Int32))))) + (own_nz (own_nz (ig &&& (8 : Int32))))) + (own_nz (own_nz (ig &&& (16 : Int32)))))).toInt64)).toInt * 17) % 18446744073709551616 = 0 := c_lmul ((((((((0 : Int32) + (own_nz (own_nz (ig &&& (1 : Int32))))) + (own_nz (own_nz (ig &&& (2 : Int32))))) + (own_nz (own_nz (ig &&& (4 : Int32))))) + (own_nz (own_nz (ig &&& (8 : Int32))))) + (own_nz (own_nz (ig &&& (16 : Int32)))))).toInt64) (17 : Int64); have r := rng64 (((((((((0 : Int32) + (own_nz (own_nz (ig &&& (1 : Int32))))) + (own_nz (own_nz (ig &&& (2 : Int32))))) + (own_nz (own_nz (ig &&& (4 : Int32))))) + (own_nz (own_nz (ig &&& (8 : Int32))))) + (own_nz (own_nz (ig &&& (16 : Int32)))))).toInt64) * (17 : Int64)); omega
                have e31 : (((5 : Int32) - ((((((0 : Int32) + (own_nz (own_nz (ig &&& (1 : Int32))))) + (own_nz (own_nz (ig &&& (2 : Int32))))) + (own_nz (own_nz (ig &&& (4 : Int32))))) + (own_nz (own_nz (ig &&& (8 : Int32))))) + (own_nz (own_nz (ig &&& (16 : Int32))))))).toInt = ((5 : Int32)).toInt - (((((((0 : Int32) + (own_nz (own_nz (ig &&& (1 : Int32))))) + (own_nz (own_nz (ig &&& (2 : Int32))))) + (own_nz (own_nz (ig &&& (4 : Int32))))) + (own_nz (own_nz (ig &&& (8 : Int32))))) + (own_nz (own_nz (ig &&& (16 : Int32)))))).toInt := by have w := c_isub (5 : Int32) ((((((0 : Int32) + (own_nz (own_nz (ig &&& (1 : Int32))))) + (own_nz (own_nz (ig &&& (2 : Int32))))) + (own_nz (own_nz (ig &&& (4 : Int32))))) + (own_nz (own_nz (ig &&& (8 : Int32))))) + (own_nz (own_nz (ig &&& (16 : Int32))))); have r := rng32 ((5 : Int32) - ((((((0 : Int32) + (own_nz (own_nz (ig &&& (1 : Int32))))) + (own_nz (own_nz (ig &&& (2 : Int32))))) + (own_nz (own_nz (ig &&& (4 : Int32))))) + (own_nz (own_nz (ig &&& (8 : Int32))))) + (own_nz (own_nz (ig &&& (16 : Int32)))))); omega
                have e30 := c_i2l ((5 : Int32) - ((((((0 : Int32) + (own_nz (own_nz (ig &&& (1 : Int32))))) + (own_nz (own_nz (ig &&& (2 : Int32))))) + (own_nz (own_nz (ig &&& (4 : Int32))))) + (own_nz (own_nz (ig &&& (8 : Int32))))) + (own_nz (own_nz (ig &&& (16 : Int32))))))
                have e32 : (18 : Int64).toInt = 18 := rfl
                have e29 : ((((((5 : Int32) - ((((((0 : Int32) + (own_nz (own_nz (ig &&& (1 : Int32))))) + (own_nz (own_nz (ig &&& (2 : Int32))))) + (own_nz (own_nz (ig &&& (4 : Int32))))) + (own_nz (own_nz (ig &&& (8 : Int32))))) + (own_nz (own_nz (ig &&& (16 : Int32))))))).toInt64) * (18 : Int64))).toInt = (((((5 : Int32) - ((((((0 : Int32) + (own_nz (own_nz (ig &&& (1 : Int32))))) + (own_nz (own_nz (ig &&& (2 : Int32))))) + (own_nz (own_nz (ig &&& (4 : Int32))))) + (own_nz (own_nz (ig &&& (8 : Int32))))) + (own_nz (own_nz (ig &&& (16 : Int32))))))).toInt64)).toInt * 18 := by have w : (((((((5 : Int32) - ((((((0 : Int32) + (own_nz (own_nz (ig &&& (1 : Int32))))) + (own_nz (own_nz (ig &&& (2 : Int32))))) + (own_nz (own_nz (ig &&& (4 : Int32))))) + (own_nz (own_nz (ig &&& (8 : Int32))))) + (own_nz (own_nz (ig &&& (16 : Int32))))))).toInt64) * (18 : Int64))).toInt - (((((5 : Int32) - ((((((0 : Int32) + (own_nz (own_nz (ig &&& (1 : Int32))))) + (own_nz (own_nz (ig &&& (2 : Int32))))) + (own_nz (own_nz (ig &&& (4 : Int32))))) + (own_nz (own_nz (ig &&& (8 : Int32))))) + (own_nz (own_nz (ig &&& (16 : Int32))))))).toInt64)).toInt * 18) % 18446744073709551616 = 0 := c_lmul ((((5 : Int32) - ((((((0 : Int32) + (own_nz (own_nz (ig &&& (1 : Int32))))) + (own_nz (own_nz (ig &&& (2 : Int32))))) + (own_nz (own_nz (ig &&& (4 : Int32))))) + (own_nz (own_nz (ig &&& (8 : Int32))))) + (own_nz (own_nz (ig &&& (16 : Int32))))))).toInt64) (18 : Int64); have r := rng64 (((((5 : Int32) - ((((((0 : Int32) + (own_nz (own_nz (ig &&& (1 : Int32))))) + (own_nz (own_nz (ig &&& (2 : Int32))))) + (own_nz (own_nz (ig &&& (4 : Int32))))) + (own_nz (own_nz (ig &&& (8 : Int32))))) + (own_nz (own_nz (ig &&& (16 : Int32))))))).toInt64) * (18 : Int64)); omega
                have e15 : (((((((((((0 : Int32) + (own_nz (own_nz (ig &&& (1 : Int32))))) + (own_nz (own_nz (ig &&& (2 : Int32))))) + (own_nz (own_nz (ig &&& (4 : Int32))))) + (own_nz (own_nz (ig &&& (8 : Int32))))) + (own_nz (own_nz (ig &&& (16 : Int32)))))).toInt64) * (17 : Int64)) + (((((5 : Int32) - ((((((0 : Int32) + (own_nz (own_nz (ig &&& (1 : Int32))))) + (own_nz (own_nz (ig &&& (2 : Int32))))) + (own_nz (own_nz (ig &&& (4 : Int32))))) + (own_nz (own_nz (ig &&& (8 : Int32))))) + (own_nz (own_nz (ig &&& (16 : Int32))))))).toInt64) * (18 : Int64)))).toInt = ((((((((((0 : Int32) + (own_nz (own_nz (ig &&& (1 : Int32))))) + (own_nz (own_nz (ig &&& (2 : Int32))))) + (own_nz (own_nz (ig &&& (4 : Int32))))) + (own_nz (own_nz (ig &&& (8 : Int32))))) + (own_nz (own_nz (ig &&& (16 : Int32)))))).toInt64) * (17 : Int64))).toInt + ((((((5 : Int32) - ((((((0 : Int32) + (own_nz (own_nz (ig &&& (1 : Int32))))) + (own_nz (own_nz (ig &&& (2 : Int32))))) + (own_nz (own_nz (ig &&& (4 : Int32))))) + (own_nz (own_nz (ig &&& (8 : Int32))))) + (own_nz (own_nz (ig &&& (16 : Int32))))))).toInt64) * (18 : Int64))).toInt := by have w := c_ladd (((((((((0 : Int32) + (own_nz (own_nz (ig &&& (1 : Int32))))) + (own_nz (own_nz (ig &&& (2 : Int32))))) + (own_nz (own_nz (ig &&& (4 : Int32))))) + (own_nz (own_nz (ig &&& (8 : Int32))))) + (own_nz (own_nz (ig &&& (16 : Int32)))))).toInt64) * (17 : Int64)) (((((5 : Int32) - ((((((0 : Int32) + (own_nz (own_nz (ig &&& (1 : Int32))))) + (own_nz (own_nz (ig &&& (2 : Int32))))) + (own_nz (own_nz (ig &&& (4 : Int32))))) + (own_nz (own_nz (ig &&& (8 : Int32))))) + (own_nz (own_nz (ig &&& (16 : Int32))))))).toInt64) * (18 : Int64)); have r := rng64 ((((((((((0 : Int32) + (own_nz (own_nz (ig &&& (1 : Int32))))) + (own_nz (own_nz (ig &&& (2 : Int32))))) + (own_nz (own_nz (ig &&& (4 : Int32))))) + (own_nz (own_nz (ig &&& (8 : Int32))))) + (own_nz (own_nz (ig &&& (16 : Int32)))))).toInt64) * (17 : Int64)) + (((((5 : Int32) - ((((((0 : Int32) + (own_nz (own_nz (ig &&& (1 : Int32))))) + (own_nz (own_nz (ig &&& (2 : Int32))))) + (own_nz (own_nz (ig &&& (4 : Int32))))) + (own_nz (own_nz (ig &&& (8 : Int32))))) + (own_nz (own_nz (ig &&& (16 : Int32))))))).toInt64) * (18 : Int64))); omega
                have r34 := rng32 (own_mx (0 : Int32) ((5 : Int32) - (1 : Int32)))
                have e33 := c_i2l (own_mx (0 : Int32) ((5 : Int32) - (1 : Int32)))
                have e14 : ((((((((((((0 : Int32) + (own_nz (own_nz (ig &&& (1 : Int32))))) + (own_nz (own_nz (ig &&& (2 : Int32))))) + (own_nz (own_nz (ig &&& (4 : Int32))))) + (own_nz (own_nz (ig &&& (8 : Int32))))) + (own_nz (own_nz (ig &&& (16 : Int32)))))).toInt64) * (17 : Int64)) + (((((5 : Int32) - ((((((0 : Int32) + (own_nz (own_nz (ig &&& (1 : Int32))))) + (own_nz (own_nz (ig &&& (2 : Int32))))) + (own_nz (own_nz (ig &&& (4 : Int32))))) + (own_nz (own_nz (ig &&& (8 : Int32))))) + (own_nz (own_nz (ig &&& (16 : Int32))))))).toInt64) * (18 : Int64))) + (((own_mx (0 : Int32) ((5 : Int32) - (1 : Int32)))).toInt64))).toInt = (((((((((((0 : Int32) + (own_nz (own_nz (ig &&& (1 : Int32))))) + (own_nz (own_nz (ig &&& (2 : Int32))))) + (own_nz (own_nz (ig &&& (4 : Int32))))) + (own_nz (own_nz (ig &&& (8 : Int32))))) + (own_nz (own_nz (ig &&& (16 : Int32)))))).toInt64) * (17 : Int64)) + (((((5 : Int32) - ((((((0 : Int32) + (own_nz (own_nz (ig &&& (1 : Int32))))) + (own_nz (own_nz (ig &&& (2 : Int32))))) + (own_nz (own_nz (ig &&& (4 : Int32))))) + (own_nz (own_nz (ig &&& (8 : Int32))))) + (own_nz (own_nz (ig &&& (16 : Int32))))))).toInt64) * (18 : Int64)))).toInt + ((((own_mx (0 : Int32) ((5 : Int32) - (1 : Int32)))).toInt64)).toInt := by have w := c_ladd ((((((((((0 : Int32) + (own_nz (own_nz (ig &&& (1 : Int32))))) + (own_nz (own_nz (ig &&& (2 : Int32))))) + (own_nz (own_nz (ig &&& (4 : Int32))))) + (own_nz (own_nz (ig &&& (8 : Int32))))) + (own_nz (own_nz (ig &&& (16 : Int32)))))).toInt64) * (17 : Int64)) + (((((5 : Int32) - ((((((0 : Int32) + (own_nz (own_nz (ig &&& (1 : Int32))))) + (own_nz (own_nz (ig &&& (2 : Int32))))) + (own_nz (own_nz (ig &&& (4 : Int32))))) + (own_nz (own_nz (ig &&& (8 : Int32))))) + (own_nz (own_nz (ig &&& (16 : Int32))))))).toInt64) * (18 : Int64))) (((own_mx (0 : Int32) ((5 : Int32) - (1 : Int32)))).toInt64); have r := rng64 (((((((((((0 : Int32) + (own_nz (own_nz (ig &&& (1 : Int32))))) + (own_nz (own_nz (ig &&& (2 : Int32))))) + (own_nz (own_nz (ig &&& (4 : Int32))))) + (own_nz (own_nz (ig &&& (8 : Int32))))) + (own_nz (own_nz (ig &&& (16 : Int32)))))).toInt64) * (17 : Int64)) + (((((5 : Int32) - ((((((0 : Int32) + (own_nz (own_nz (ig &&& (1 : Int32))))) + (own_nz (own_nz (ig &&& (2 : Int32))))) + (own_nz (own_nz (ig &&& (4 : Int32))))) + (own_nz (own_nz (ig &&& (8 : Int32))))) + (own_nz (own_nz (ig &&& (16 : Int32))))))).toInt64) * (18 : Int64))) + (((own_mx (0 : Int32) ((5 : Int32) - (1 : Int32)))).toInt64)); omega
                have e12 : (((16 : Int64) + (((((((((((0 : Int32) + (own_nz (own_nz (ig &&& (1 : Int32))))) + (own_nz (own_nz (ig &&& (2 : Int32))))) + (own_nz (own_nz (ig &&& (4 : Int32))))) + (own_nz (own_nz (ig &&& (8 : Int32))))) + (own_nz (own_nz (ig &&& (16 : Int32)))))).toInt64) * (17 : Int64)) + (((((5 : Int32) - ((((((0 : Int32) + (own_nz (own_nz (ig &&& (1 : Int32))))) + (own_nz (own_nz (ig &&& (2 : Int32))))) + (own_nz (own_nz (ig &&& (4 : Int32))))) + (own_nz (own_nz (ig &&& (8 : Int32))))) + (own_nz (own_nz (ig &&& (16 : Int32))))))).toInt64) * (18 : Int64))) + (((own_mx (0 : Int32) ((5 : Int32) - (1 : Int32)))).toInt64)))).toInt = ((16 : Int64)).toInt + ((((((((((((0 : Int32) + (own_nz (own_nz (ig &&& (1 : Int32))))) + (own_nz (own_nz (ig &&& (2 : Int32))))) + (own_nz (own_nz (ig &&& (4 : Int32))))) + (own_nz (own_nz (ig &&& (8 : Int32))))) + (own_nz (own_nz (ig &&& (16 : Int32)))))).toInt64) * (17 : Int64)) + (((((5 : Int32) - ((((((0 : Int32) + (own_nz (own_nz (ig &&& (1 : Int32))))) + (own_nz (own_nz (ig &&& (2 : Int32))))) + (own_nz (own_nz (ig &&& (4 : Int32))))) + (own_nz (own_nz (ig &&& (8 : Int32))))) + (own_nz (own_nz (ig &&& (16 : Int32))))))).toInt64) * (18 : Int64))) + (((own_mx (0 : Int32) ((5 : Int32) - (1 : Int32)))).toInt64))).toInt := by have w := c_ladd (16 : Int64) (((((((((((0 : Int32) + (own_nz (own_nz (ig &&& (1 : Int32))))) + (own_nz (own_nz (ig &&& (2 : Int32))))) + (own_nz (own_nz (ig &&& (4 : Int32))))) + (own_nz (own_nz (ig &&& (8 : Int32))))) + (own_nz (own_nz (ig &&& (16 : Int32)))))).toInt64) * (17 : Int64)) + (((((5 : Int32) - ((((((0 : Int32) + (own_nz (own_nz (ig &&& (1 : Int32))))) + (own_nz (own_nz (ig &&& (2 : Int32))))) + (own_nz (own_nz (ig &&& (4 : Int32))))) + (own_nz (own_nz (ig &&& (8 : Int32))))) + (own_nz (own_nz (ig &&& (16 : Int32))))))).toInt64) * (18 : Int64))) + (((own_mx (0 : Int32) ((5 : Int32) - (1 : Int32)))).toInt64)); have r := rng64 ((16 : Int64) + (((((((((((0 : Int32) + (own_nz (own_nz (ig &&& (1 : Int32))))) + (own_nz (own_nz (ig &&& (2 : Int32))))) + (own_nz (own_nz (ig &&& (4 : Int32))))) + (own_nz (own_nz (ig &&& (8 : Int32))))) + (own_nz (own_nz (ig &&& (16 : Int32)))))).toInt64) * (17 : Int64)) + (((((5 : Int32) - ((((((0 : Int32) + (own_nz (own_nz (ig &&& (1 : Int32))))) + (own_nz (own_nz (ig &&& (2 : Int32))))) + (own_nz (own_nz (ig &&& (4 : Int32))))) + (own_nz (own_nz (ig &&& (8 : Int32))))) + (own_nz (own_nz (ig &&& (16 : Int32))))))).toInt64) * (18 : Int64))) + (((own_mx (0 : Int32) ((5 : Int32) - (1 : Int32)))).toInt64))); omega
                have e35 : (2 : Int64).toInt = 2 := rfl
                have e11 : ((((16 : Int64) + (((((((((((0 : Int32) + (own_nz (own_nz (ig &&& (1 : Int32))))) + (own_nz (own_nz (ig &&& (2 : Int32))))) + (own_nz (own_nz (ig &&& (4 : Int32))))) + (own_nz (own_nz (ig &&& (8 : Int32))))) + (own_nz (own_nz (ig &&& (16 : Int32)))))).toInt64) * (17 : Int64)) + (((((5 : Int32) - ((((((0 : Int32) + (own_nz (own_nz (ig &&& (1 : Int32))))) + (own_nz (own_nz (ig &&& (2 : Int32))))) + (own_nz (own_nz (ig &&& (4 : Int32))))) + (own_nz (own_nz (ig &&& (8 : Int32))))) + (own_nz (own_nz (ig &&& (16 : Int32))))))).toInt64) * (18 : Int64))) + (((own_mx (0 : Int32) ((5 : Int32) - (1 : Int32)))).toInt64))) + (2 : Int64))).toInt = (((16 : Int64) + (((((((((((0 : Int32) + (own_nz (own_nz (ig &&& (1 : Int32))))) + (own_nz (own_nz (ig &&& (2 : Int32))))) + (own_nz (own_nz (ig &&& (4 : Int32))))) + (own_nz (own_nz (ig &&& (8 : Int32))))) + (own_nz (own_nz (ig &&& (16 : Int32)))))).toInt64) * (17 : Int64)) + (((((5 : Int32) - ((((((0 : Int32) + (own_nz (own_nz (ig &&& (1 : Int32))))) + (own_nz (own_nz (ig &&& (2 : Int32))))) + (own_nz (own_nz (ig &&& (4 : Int32))))) + (own_nz (own_nz (ig &&& (8 : Int32))))) + (own_nz (own_nz (ig &&& (16 : Int32))))))).toInt64) * (18 : Int64))) + (((own_mx (0 : Int32) ((5 : Int32) - (1 : Int32)))).toInt64)))).toInt + ((2 : Int64)).toInt := by have w := c_ladd ((16 : Int64) + (((((((((((0 : Int32) + (own_nz (own_nz (ig &&& (1 : Int32))))) + (own_nz (own_nz (ig &&& (2 : Int32))))) + (own_nz (own_nz (ig &&& (4 : Int32))))) + (own_nz (own_nz (ig &&& (8 : Int32))))) + (own_nz (own_nz (ig &&& (16 : Int32)))))).toInt64) * (17 : Int64)) + (((((5 : Int32) - ((((((0 : Int32) + (own_nz (own_nz (ig &&& (1 : Int32))))) + (own_nz (own_nz (ig &&& (2 : Int32))))) + (own_nz (own_nz (ig &&& (4 : Int32))))) + (own_nz (own_nz (ig &&& (8 : Int32))))) + (own_nz (own_nz (ig &&& (16 : Int32))))))).toInt64) * (18 : Int64))) + (((own_mx (0 : Int32) ((5 : Int32) - (1 : Int32)))).toInt64))) (2 : Int64); have r := rng64 (((16 : Int64) + (((((((((((0 : Int32) + (own_nz (own_nz (ig &&& (1 : Int32))))) + (own_nz (own_nz (ig &&& (2 : Int32))))) + (own_nz (own_nz (ig &&& (4 : Int32))))) + (own_nz (own_nz (ig &&& (8 : Int32))))) + (own_nz (own_nz (ig &&& (16 : Int32)))))).toInt64) * (17 : Int64)) + (((((5 : Int32) - ((((((0 : Int32) + (own_nz (own_nz (ig &&& (1 : Int32))))) + (own_nz (own_nz (ig &&& (2 : Int32))))) + (own_nz (own_nz (ig &&& (4 : Int32))))) + (own_nz (own_nz (ig &&& (8 : Int32))))) + (own_nz (own_nz (ig &&& (16 : Int32))))))).toInt64) * (18 : Int64))) + (((own_mx (0 : Int32) ((5 : Int32) - (1 : Int32)))).toInt64))) + (2 : Int64)); omega
                have r41 := rng64 (own_len (own_nz (ig &&& (1 : Int32))) (1 : Int32))
                have e40 : (((18 : Int64) + (own_len (own_nz (ig &&& (1 : Int32))) (1 : Int32)))).toInt = ((18 : Int64)).toInt + ((own_len (own_nz (ig &&& (1 : Int32))) (1 : Int32))).toInt := by have w := c_ladd (18 : Int64) (own_len (own_nz (ig &&& (1 : Int32))) (1 : Int32)); have r := rng64 ((18 : Int64) + (own_len (own_nz (ig &&& (1 : Int32))) (1 : Int32))); omega
                have r42 := rng64 (own_len (own_nz (ig &&& (2 : Int32))) (0 : Int32))
                have e39 : ((((18 : Int64) + (own_len (own_nz (ig &&& (1 : Int32))) (1 : Int32))) + (own_len (own_nz (ig &&& (2 : Int32))) (0 : Int32)))).toInt = (((18 : Int64) + (own_len (own_nz (ig &&& (1 : Int32))) (1 : Int32)))).toInt + ((own_len (own_nz (ig &&& (2 : Int32))) (0 : Int32))).toInt := by have w := c_ladd ((18 : Int64) + (own_len (own_nz (ig &&& (1 : Int32))) (1 : Int32))) (own_len (own_nz (ig &&& (2 : Int32))) (0 : Int32)); have r := rng64 (((18 : Int64) + (own_len (own_nz (ig &&& (1 : Int32))) (1 : Int32))) + (own_len (own_nz (ig &&& (2 : Int32))) (0 : Int32))); omega
                have r43 := rng64 (own_len (own_nz (ig &&& (4 : Int32))) (0 : Int32))
                have e38 : (((((18 : Int64) + (own_len (own_nz (ig &&& (1 : Int32))) (1 : Int32))) + (own_len (own_nz (ig &&& (2 : Int32))) (0 : Int32))) + (own_len (own_nz (ig &&& (4 : Int32))) (0 : Int32)))).toInt = ((((18 : Int64) + (own_len (own_nz (ig &&& (1 : Int32))) (1 : Int32))) + (own_len (own_nz (ig &&& (2 : Int32))) (0 : Int32)))).toInt + ((own_len (own_nz (ig &&& (4 : Int32))) (0 : Int32))).toInt := by have w := c_ladd (((18 : Int64) + (own_len (own_nz (ig &&& (1 : Int32))) (1 : Int32))) + (own_len (own_nz (ig &&& (2 : Int32))) (0 : Int32))) (own_len (own_nz (ig &&& (4 : Int32))) (0 : Int32)); have r := rng64 ((((18 : Int64) + (own_len (own_nz (ig &&& (1 : Int32))) (1 : Int32))) + (own_len (own_nz (ig &&& (2 : Int32))) (0 : Int32))) + (own_len (own_nz (ig &&& (4 : Int32))) (0 : Int32))); omega
                have r44 := rng64 (own_len (own_nz (ig &&& (8 : Int32))) (0 : Int32))
                have e37 : ((((((18 : Int64) + (own_len (own_nz (ig &&& (1 : Int32))) (1 : Int32))) + (own_len (own_nz (ig &&& (2 : Int32))) (0 : Int32))) + (own_len (own_nz (ig &&& (4 : Int32))) (0 : Int32))) + (own_len (own_nz (ig &&& (8 : Int32))) (0 : Int32)))).toInt = (((((18 : Int64) + (own_len (own_nz (ig &&& (1 : Int32))) (1 : Int32))) + (own_len (own_nz (ig &&& (2 : Int32))) (0 : Int32))) + (own_len (own_nz (ig &&& (4 : Int32))) (0 : Int32)))).toInt + ((own_len (own_nz (ig &&& (8 : Int32))) (0 : Int32))).toInt := by have w := c_ladd ((((18 : Int64) + (own_len (own_nz (ig &&& (1 : Int32))) (1 : Int32))) + (own_len (own_nz (ig &&& (2 : Int32))) (0 : Int32))) + (own_len (own_nz (ig &&& (4 : Int32))) (0 : Int32))) (own_len (own_nz (ig &&& (8 : Int32))) (0 : Int32)); have r := rng64 (((((18 : Int64) + (own_len (own_nz (ig &&& (1 : Int32))) (1 : Int32))) + (own_len (own_nz (ig &&& (2 : Int32))) (0 : Int32))) + (own_len (own_nz (ig &&& (4 : Int32))) (0 : Int32))) + (own_len (own_nz (ig &&& (8 : Int32))) (0 : Int32))); omega
                have r45 := rng64 (own_len (own_nz (ig &&& (16 : Int32))) (0 : Int32))
                have e36 : (((((((18 : Int64) + (own_len (own_nz (ig &&& (1 : Int32))) (1 : Int32))) + (own_len (own_nz (ig &&& (2 : Int32))) (0 : Int32))) + (own_len (own_nz (ig &&& (4 : Int32))) (0 : Int32))) + (own_len (own_nz (ig &&& (8 : Int32))) (0 : Int32))) + (own_len (own_nz (ig &&& (16 : Int32))) (0 : Int32)))).toInt = ((((((18 : Int64) + (own_len (own_nz (ig &&& (1 : Int32))) (1 : Int32))) + (own_len (own_nz (ig &&& (2 : Int32))) (0 : Int32))) + (own_len (own_nz (ig &&& (4 : Int32))) (0 : Int32))) + (own_len (own_nz (ig &&& (8 : Int32))) (0 : Int32)))).toInt + ((own_len (own_nz (ig &&& (16 : Int32))) (0 : Int32))).toInt := by have w := c_ladd (((((18 : Int64) + (own_len (own_nz (ig &&& (1 : Int32))) (1 : Int32))) + (own_len (own_nz (ig &&& (2 : Int32))) (0 : Int32))) + (own_len (own_nz (ig &&& (4 : Int32))) (0 : Int32))) + (own_len (own_nz (ig &&& (8 : Int32))) (0 : Int32))) (own_len (own_nz (ig &&& (16 : Int32))) (0 : Int32)); have r := rng64 ((((((18 : Int64) + (own_len (own_nz (ig &&& (1 : Int32))) (1 : Int32))) + (own_len (own_nz (ig &&& (2 : Int32))) (0 : Int32))) + (own_len (own_nz (ig &&& (4 : Int32))) (0 : Int32))) + (own_len (own_nz (ig &&& (8 : Int32))) (0 : Int32))) + (own_len (own_nz (ig &&& (16 : Int32))) (0 : Int32))); omega
                have i_hc26 : ((0 : Int32)).toInt < ((ic &&& (7 : Int32))).toInt := Int32.lt_iff_toInt_lt.mp hc26
                have i_hc53 : ((1 : Int32)).toInt < ((ic &&& (7 : Int32))).toInt := Int32.lt_iff_toInt_lt.mp hc53
                have i_hc80 : ((2 : Int32)).toInt < ((ic &&& (7 : Int32))).toInt := Int32.lt_iff_toInt_lt.mp hc80
                have i_hc107 : ((3 : Int32)).toInt < ((ic &&& (7 : Int32))).toInt := Int32.lt_iff_toInt_lt.mp hc107
                have i_hc135 : ((4 : Int32)).toInt < ((ic &&& (7 : Int32))).toInt := Int32.lt_iff_toInt_lt.mp hc135
                have i_hc163 : ¬ ((5 : Int32)).toInt < ((ic &&& (7 : Int32))).toInt := fun z => hc163 (Int32.lt_iff_toInt_lt.mpr z)
                have i_hc192 : ¬ ((6 : Int32)).toInt < ((ic &&& (7 : Int32))).toInt := fun z => hc192 (Int32.lt_iff_toInt_lt.mpr z)
                have i_hc224 : ¬ ((((16 : Int64) + (((((((((((0 : Int32) + (own_nz (own_nz (ig &&& (1 : Int32))))) + (own_nz (own_nz (ig &&& (2 : Int32))))) + (own_nz (own_nz (ig &&& (4 : Int32))))) + (own_nz (own_nz (ig &&& (8 : Int32))))) + (own_nz (own_nz (ig &&& (16 : Int32)))))).toInt64) * (17 : Int64)) + (((((5 : Int32) - ((((((0 : Int32) + (own_nz (own_nz (ig &&& (1 : Int32))))) + (own_nz (own_nz (ig &&& (2 : Int32))))) + (own_nz (own_nz (ig &&& (4 : Int32))))) + (own_nz (own_nz (ig &&& (8 : Int32))))) + (own_nz (own_nz (ig &&& (16 : Int32))))))).toInt64) * (18 : Int64))) + (((own_mx (0 : Int32) ((5 : Int32) - (1 : Int32)))).toInt64))) + (2 : Int64))).toInt = (((((((18 : Int64) + (own_len (own_nz (ig &&& (1 : Int32))) (1 : Int32))) + (own_len (own_nz (ig &&& (2 : Int32))) (0 : Int32))) + (own_len (own_nz (ig &&& (4 : Int32))) (0 : Int32))) + (own_len (own_nz (ig &&& (8 : Int32))) (0 : Int32))) + (own_len (own_nz (ig &&& (16 : Int32))) (0 : Int32)))).toInt := fun z => hc224 (Int64.toInt_inj.mp z)
                omega
              · refine g_iconst cx d0_227 (v := (1 : Int32)) rfl ?_
                refine g_goto cx d0_228 ?_
                refine g_retZ cx d0_232 rfl rfl (by decide) (by decide) ?_
                rfl
            · refine g_lload cx d0_166 rfl ?_
              refine g_aloadN cx d0_168 rfl rfl ?_
              refine g_iloadN cx d0_169 rfl ?_
              refine g_bipush cx d0_170 (v := (32 : Int32)) rfl ?_
              refine g_iand cx d0_172 ?_
              refine g_tern cx d0_173 d0_176 d0_177 d0_180 ?_
              refine g_iconst cx d0_181 (v := (0 : Int32)) rfl ?_
              refine g_static cx (y := (⟨"com/example/dyn_authz/dynauthz/service/DecisionsLengthPinLaw", "addOne", "(Lcom/example/dyn_authz/dynauthz/service/Decisions;ZZ)J"⟩ : MethodName)) d0_182 (hw _ (List.mem_of_getElem? (i := 34) rfl)) (hw _ (List.mem_of_getElem? (i := 35) rfl)) (hw _ (List.mem_of_getElem? (i := 36) rfl)) (hw _ (List.mem_of_getElem? (i := 37) rfl)) (by decide) (bytes := method_2_code) (maxL' := 5) (M := (rmo l Z a0 hw (5 : Int32) (by decide) (by decide) SAD pm dn SPM SDN npd b2 ((((((0 : Int32) + (own_nz (own_nz (ig &&& (1 : Int32))))) + (own_nz (own_nz (ig &&& (2 : Int32))))) + (own_nz (own_nz (ig &&& (4 : Int32))))) + (own_nz (own_nz (ig &&& (8 : Int32))))) + (own_nz (own_nz (ig &&& (16 : Int32))))) (own_nz (ig &&& (32 : Int32))) (0 : Int32) _ DD OL)) rfl (lenOf pd_7 rfl) (by decide) (W := 2) (Nat.le_of_eq rfl) (by decide) (k' := 9) (n' := 16) rfl rfl (by decide) (by decide) (argsL := [(.ref b2), (.int (own_nz (ig &&& (32 : Int32)))), (.int (0 : Int32))]) (rest := [(.long ((((((18 : Int64) + (own_len (own_nz (ig &&& (1 : Int32))) (1 : Int32))) + (own_len (own_nz (ig &&& (2 : Int32))) (0 : Int32))) + (own_len (own_nz (ig &&& (4 : Int32))) (0 : Int32))) + (own_len (own_nz (ig &&& (8 : Int32))) (0 : Int32))) + (own_len (own_nz (ig &&& (16 : Int32))) (0 : Int32))))]) rfl (fun v44 h43 q45 => ?_)
              obtain ⟨rfl, OL, DD⟩ := q45
              have O_b2 := own_Dx DD
              have DD : own_D Z _ b2 (6 : Int32) (((((((0 : Int32) + (own_nz (own_nz (ig &&& (1 : Int32))))) + (own_nz (own_nz (ig &&& (2 : Int32))))) + (own_nz (own_nz (ig &&& (4 : Int32))))) + (own_nz (own_nz (ig &&& (8 : Int32))))) + (own_nz (own_nz (ig &&& (16 : Int32))))) + (own_nz (own_nz (ig &&& (32 : Int32))))) := DD
              refine G.cast (st' := [(.long (own_len (own_nz (ig &&& (32 : Int32))) (0 : Int32))), (.long ((((((18 : Int64) + (own_len (own_nz (ig &&& (1 : Int32))) (1 : Int32))) + (own_len (own_nz (ig &&& (2 : Int32))) (0 : Int32))) + (own_len (own_nz (ig &&& (4 : Int32))) (0 : Int32))) + (own_len (own_nz (ig &&& (8 : Int32))) (0 : Int32))) + (own_len (own_nz (ig &&& (16 : Int32))) (0 : Int32))))]) ?_ rfl
              refine g_ladd cx d0_185 ?_
              refine g_lstore cx d0_186 (Ls' := #[.val (.int ie), .val (.int ic), .val (.int ig), .val (.ref b2), .val (.int (ic &&& (7 : Int32))), .val (.long (((((((18 : Int64) + (own_len (own_nz (ig &&& (1 : Int32))) (1 : Int32))) + (own_len (own_nz (ig &&& (2 : Int32))) (0 : Int32))) + (own_len (own_nz (ig &&& (4 : Int32))) (0 : Int32))) + (own_len (own_nz (ig &&& (8 : Int32))) (0 : Int32))) + (own_len (own_nz (ig &&& (16 : Int32))) (0 : Int32))) + (own_len (own_nz (ig &&& (32 : Int32))) (0 : Int32)))), .second]) rfl ?_
              refine g_iload cx d0_188 rfl ?_
              refine g_bipush cx d0_190 (v := (6 : Int32)) rfl ?_
              refine g_icmp_le cx d0_192 (fun hc192 => ?_) (fun hc192 => ?_)
              · refine g_aloadN cx d0_217 rfl rfl ?_
                refine g_virtual cx (y := (⟨"com/example/dyn_authz/dynauthz/service/Decisions", "length", "()J"⟩ : MethodName)) (z := (⟨"com/example/dyn_authz/dynauthz/service/Decisions", "length", "()J"⟩ : MethodName)) (a := b2) d0_218 (hw _ (List.mem_of_getElem? (i := 90) rfl)) (hw _ (List.mem_of_getElem? (i := 91) rfl)) (hw _ (List.mem_of_getElem? (i := 2) rfl)) (hw _ (List.mem_of_getElem? (i := 94) rfl)) (hw _ (List.mem_of_getElem? (i := 93) rfl)) (hw _ (List.mem_of_getElem? (i := 92) rfl)) rfl (by decide) O_b2.1 (bytes := prog_43_method_4_code) (maxL' := 3) (M := (rml l Z a0 hw sPERMIT cPERMIT SPERMIT VPERMIT sDENY cDENY SDENY VDENY sOPENING cOPENING SOPENING VOPENING sCLOSING cCLOSING SCLOSING VCLOSING b2 (6 : Int32) (((((((0 : Int32) + (own_nz (own_nz (ig &&& (1 : Int32))))) + (own_nz (own_nz (ig &&& (2 : Int32))))) + (own_nz (own_nz (ig &&& (4 : Int32))))) + (own_nz (own_nz (ig &&& (8 : Int32))))) + (own_nz (own_nz (ig &&& (16 : Int32))))) + (own_nz (own_nz (ig &&& (32 : Int32))))) _ DD OL)) rfl (lenOf pd_6 rfl) (by decide) (W := 0) (Nat.le_of_eq rfl) (by decide) (k' := 9) (n' := 16) rfl rfl (by decide) (by decide) (argsL := []) (rest := []) rfl (fun v47 h46 q48 => ?_)
                obtain ⟨rfl, rfl⟩ := q48
                refine G.cast (st' := [(.long (((16 : Int64) + ((((((((((((0 : Int32) + (own_nz (own_nz (ig &&& (1 : Int32))))) + (own_nz (own_nz (ig &&& (2 : Int32))))) + (own_nz (own_nz (ig &&& (4 : Int32))))) + (own_nz (own_nz (ig &&& (8 : Int32))))) + (own_nz (own_nz (ig &&& (16 : Int32))))) + (own_nz (own_nz (ig &&& (32 : Int32)))))).toInt64) * (17 : Int64)) + (((((6 : Int32) - (((((((0 : Int32) + (own_nz (own_nz (ig &&& (1 : Int32))))) + (own_nz (own_nz (ig &&& (2 : Int32))))) + (own_nz (own_nz (ig &&& (4 : Int32))))) + (own_nz (own_nz (ig &&& (8 : Int32))))) + (own_nz (own_nz (ig &&& (16 : Int32))))) + (own_nz (own_nz (ig &&& (32 : Int32))))))).toInt64) * (18 : Int64))) + (((own_mx (0 : Int32) ((6 : Int32) - (1 : Int32)))).toInt64))) + (2 : Int64)))]) ?_ rfl
                refine g_lload cx d0_221 rfl ?_
                refine g_lif_ne cx d0_223 d0_224 (fun hc224 => ?_) (fun hc224 => ?_)
                · refine g_iconst cx d0_231 (v := (0 : Int32)) rfl ?_
                  refine g_retZ cx d0_232 rfl rfl (by decide) (by decide) ?_
                  exfalso
                  have e1 : (0 : Int32).toInt = 0 := rfl
                  have e3 : (6 : Int32).toInt = 6 := rfl
                  have e4 : (1 : Int32).toInt = 1 := rfl
                  have e2 : (((6 : Int32) - (1 : Int32))).toInt = ((6 : Int32)).toInt - ((1 : Int32)).toInt := by have w := c_isub (6 : Int32) (1 : Int32); have r := rng32 ((6 : Int32) - (1 : Int32)); omega
                  have := own_nz_b (own_nz (ig &&& (1 : Int32)))
                  have := own_nz_b (ig &&& (1 : Int32))
                  have := own_nz_b (own_nz (ig &&& (2 : Int32)))
                  have := own_nz_b (ig &&& (2 : Int32))
                  have := own_nz_b (own_nz (ig &&& (4 : Int32)))
                  have := own_nz_b (ig &&& (4 : Int32))
                  have := own_nz_b (own_nz (ig &&& (8 : Int32)))
                  have := own_nz_b (ig &&& (8 : Int32))
                  have := own_nz_b (own_nz (ig &&& (16 : Int32)))
                  have := own_nz_b (ig &&& (16 : Int32))
                  have := own_nz_b (own_nz (ig &&& (32 : Int32)))
                  have := own_nz_b (ig &&& (32 : Int32))
                  have := own_mx_t (0 : Int32) ((6 : Int32) - (1 : Int32))
                  have := own_len1 (own_nz (ig &&& (1 : Int32)))
                  have := own_nz_b (own_nz (ig &&& (1 : Int32)))
                  have := own_len0 (own_nz (ig &&& (2 : Int32)))
                  have := own_nz_b (own_nz (ig &&& (2 : Int32)))
                  have := own_len0 (own_nz (ig &&& (4 : Int32)))
                  have := own_nz_b (own_nz (ig &&& (4 : Int32)))
                  have := own_len0 (own_nz (ig &&& (8 : Int32)))
                  have := own_nz_b (own_nz (ig &&& (8 : Int32)))
                  have := own_len0 (own_nz (ig &&& (16 : Int32)))
                  have := own_nz_b (own_nz (ig &&& (16 : Int32)))
                  have := own_len0 (own_nz (ig &&& (32 : Int32)))
                  have := own_nz_b (own_nz (ig &&& (32 : Int32)))
                  have r6 := rng32 ic
                  have e5 : ((ic &&& (7 : Int32))).toInt = (ic).toInt % 8 := c_mask ic (7 : Int32) 3 (by decide) (by decide)
                  have e7 : (2 : Int32).toInt = 2 := rfl
                  have e8 : (3 : Int32).toInt = 3 := rfl
                  have e9 : (4 : Int32).toInt = 4 := rfl
                  have e10 : (5 : Int32).toInt = 5 := rfl
                  have e13 : (16 : Int64).toInt = 16 := rfl
                  have r24 := rng32 (own_nz (own_nz (ig &&& (1 : Int32))))
                  have e23 : (((0 : Int32) + (own_nz (own_nz (ig &&& (1 : Int32)))))).toInt = ((0 : Int32)).toInt + ((own_nz (own_nz (ig &&& (1 : Int32))))).toInt := by have w := c_iadd (0 : Int32) (own_nz (own_nz (ig &&& (1 : Int32)))); have r := rng32 ((0 : Int32) + (own_nz (own_nz (ig &&& (1 : Int32))))); omega
                  have r25 := rng32 (own_nz (own_nz (ig &&& (2 : Int32))))
                  have e22 : ((((0 : Int32) + (own_nz (own_nz (ig &&& (1 : Int32))))) + (own_nz (own_nz (ig &&& (2 : Int32)))))).toInt = (((0 : Int32) + (own_nz (own_nz (ig &&& (1 : Int32)))))).toInt + ((own_nz (own_nz (ig &&& (2 : Int32))))).toInt := by have w := c_iadd ((0 : Int32) + (own_nz (own_nz (ig &&& (1 : Int32))))) (own_nz (own_nz (ig &&& (2 : Int32)))); have r := rng32 (((0 : Int32) + (own_nz (own_nz (ig &&& (1 : Int32))))) + (own_nz (own_nz (ig &&& (2 : Int32))))); omega
                  have r26 := rng32 (own_nz (own_nz (ig &&& (4 : Int32))))
                  have e21 : (((((0 : Int32) + (own_nz (own_nz (ig &&& (1 : Int32))))) + (own_nz (own_nz (ig &&& (2 : Int32))))) + (own_nz (own_nz (ig &&& (4 : Int32)))))).toInt = ((((0 : Int32) + (own_nz (own_nz (ig &&& (1 : Int32))))) + (own_nz (own_nz (ig &&& (2 : Int32)))))).toInt + ((own_nz (own_nz (ig &&& (4 : Int32))))).toInt := by have w := c_iadd (((0 : Int32) + (own_nz (own_nz (ig &&& (1 : Int32))))) + (own_nz (own_nz (ig &&& (2 : Int32))))) (own_nz (own_nz (ig &&& (4 : Int32)))); have r := rng32 ((((0 : Int32) + (own_nz (own_nz (ig &&& (1 : Int32))))) + (own_nz (own_nz (ig &&& (2 : Int32))))) + (own_nz (own_nz (ig &&& (4 : Int32))))); omega
                  have r27 := rng32 (own_nz (own_nz (ig &&& (8 : Int32))))
                  have e20 : ((((((0 : Int32) + (own_nz (own_nz (ig &&& (1 : Int32))))) + (own_nz (own_nz (ig &&& (2 : Int32))))) + (own_nz (own_nz (ig &&& (4 : Int32))))) + (own_nz (own_nz (ig &&& (8 : Int32)))))).toInt = (((((0 : Int32) + (own_nz (own_nz (ig &&& (1 : Int32))))) + (own_nz (own_nz (ig &&& (2 : Int32))))) + (own_nz (own_nz (ig &&& (4 : Int32)))))).toInt + ((own_nz (own_nz (ig &&& (8 : Int32))))).toInt := by have w := c_iadd ((((0 : Int32) + (own_nz (own_nz (ig &&& (1 : Int32))))) + (own_nz (own_nz (ig &&& (2 : Int32))))) + (own_nz (own_nz (ig &&& (4 : Int32))))) (own_nz (own_nz (ig &&& (8 : Int32)))); have r := rng32 (((((0 : Int32) + (own_nz (own_nz (ig &&& (1 : Int32))))) + (own_nz (own_nz (ig &&& (2 : Int32))))) + (own_nz (own_nz (ig &&& (4 : Int32))))) + (own_nz (own_nz (ig &&& (8 : Int32))))); omega
                  have r28 := rng32 (own_nz (own_nz (ig &&& (16 : Int32))))
                  have e19 : (((((((0 : Int32) + (own_nz (own_nz (ig &&& (1 : Int32))))) + (own_nz (own_nz (ig &&& (2 : Int32))))) + (own_nz (own_nz (ig &&& (4 : Int32))))) + (own_nz (own_nz (ig &&& (8 : Int32))))) + (own_nz (own_nz (ig &&& (16 : Int32)))))).toInt = ((((((0 : Int32) + (own_nz (own_nz (ig &&& (1 : Int32))))) + (own_nz (own_nz (ig &&& (2 : Int32))))) + (own_nz (own_nz (ig &&& (4 : Int32))))) + (own_nz (own_nz (ig &&& (8 : Int32)))))).toInt + ((own_nz (own_nz (ig &&& (16 : Int32))))).toInt := by have w := c_iadd (((((0 : Int32) + (own_nz (own_nz (ig &&& (1 : Int32))))) + (own_nz (own_nz (ig &&& (2 : Int32))))) + (own_nz (own_nz (ig &&& (4 : Int32))))) + (own_nz (own_nz (ig &&& (8 : Int32))))) (own_nz (own_nz (ig &&& (16 : Int32)))); have r := rng32 ((((((0 : Int32) + (own_nz (own_nz (ig &&& (1 : Int32))))) + (own_nz (own_nz (ig &&& (2 : Int32))))) + (own_nz (own_nz (ig &&& (4 : Int32))))) + (own_nz (own_nz (ig &&& (8 : Int32))))) + (own_nz (own_nz (ig &&& (16 : Int32))))); omega
                  have r29 := rng32 (own_nz (own_nz (ig &&& (32 : Int32))))
                  have e18 : ((((((((0 : Int32) + (own_nz (own_nz (ig &&& (1 : Int32))))) + (own_nz (own_nz (ig &&& (2 : Int32))))) + (own_nz (own_nz (ig &&& (4 : Int32))))) + (own_nz (own_nz (ig &&& (8 : Int32))))) + (own_nz (own_nz (ig &&& (16 : Int32))))) + (own_nz (own_nz (ig &&& (32 : Int32)))))).toInt = (((((((0 : Int32) + (own_nz (own_nz (ig &&& (1 : Int32))))) + (own_nz (own_nz (ig &&& (2 : Int32))))) + (own_nz (own_nz (ig &&& (4 : Int32))))) + (own_nz (own_nz (ig &&& (8 : Int32))))) + (own_nz (own_nz (ig &&& (16 : Int32)))))).toInt + ((own_nz (own_nz (ig &&& (32 : Int32))))).toInt := by have w := c_iadd ((((((0 : Int32) + (own_nz (own_nz (ig &&& (1 : Int32))))) + (own_nz (own_nz (ig &&& (2 : Int32))))) + (own_nz (own_nz (ig &&& (4 : Int32))))) + (own_nz (own_nz (ig &&& (8 : Int32))))) + (own_nz (own_nz (ig &&& (16 : Int32))))) (own_nz (own_nz (ig &&& (32 : Int32)))); have r := rng32 (((((((0 : Int32) + (own_nz (own_nz (ig &&& (1 : Int32))))) + (own_nz (own_nz (ig &&& (2 : Int32))))) + (own_nz (own_nz (ig &&& (4 : Int32))))) + (own_nz (own_nz (ig &&& (8 : Int32))))) + (own_nz (own_nz (ig &&& (16 : Int32))))) + (own_nz (own_nz (ig &&& (32 : Int32))))); omega
                  have e17 := c_i2l (((((((0 : Int32) + (own_nz (own_nz (ig &&& (1 : Int32))))) + (own_nz (own_nz (ig &&& (2 : Int32))))) + (own_nz (own_nz (ig &&& (4 : Int32))))) + (own_nz (own_nz (ig &&& (8 : Int32))))) + (own_nz (own_nz (ig &&& (16 : Int32))))) + (own_nz (own_nz (ig &&& (32 : Int32)))))
                  have e30 : (17 : Int64).toInt = 17 := rfl
                  have e16 : (((((((((((0 : Int32) + (own_nz (own_nz (ig &&& (1 : Int32))))) + (own_nz (own_nz (ig &&& (2 : Int32))))) + (own_nz (own_nz (ig &&& (4 : Int32))))) + (own_nz (own_nz (ig &&& (8 : Int32))))) + (own_nz (own_nz (ig &&& (16 : Int32))))) + (own_nz (own_nz (ig &&& (32 : Int32)))))).toInt64) * (17 : Int64))).toInt = ((((((((((0 : Int32) + (own_nz (own_nz (ig &&& (1 : Int32))))) + (own_nz (own_nz (ig &&& (2 : Int32))))) + (own_nz (own_nz (ig &&& (4 : Int32))))) + (own_nz (own_nz (ig &&& (8 : Int32))))) + (own_nz (own_nz (ig &&& (16 : Int32))))) + (own_nz (own_nz (ig &&& (32 : Int32)))))).toInt64)).toInt * 17 := by have w : ((((((((((((0 : Int32) + (own_nz (own_nz (ig &&& (1 : Int32))))) + (own_nz (own_nz (ig &&& (2 : Int32))))) + (own_nz (own_nz (ig &&& (4 : Int32))))) + (own_nz (own_nz (ig &&& (8 : Int32))))) + (own_nz (own_nz (ig &&& (16 : Int32))))) + (own_nz (own_nz (ig &&& (32 : Int32)))))).toInt64) * (17 : Int64))).toInt - ((((((((((0 : Int32) + (own_nz (own_nz (ig &&& (1 : Int32))))) + (own_nz (own_nz (ig &&& (2 : Int32))))) + (own_nz (own_nz (ig &&& (4 : Int32))))) + (own_nz (own_nz (ig &&& (8 : Int32))))) + (own_nz (own_nz (ig &&& (16 : Int32))))) + (own_nz (own_nz (ig &&& (32 : Int32)))))).toInt64)).toInt * 17) % 18446744073709551616 = 0 := c_lmul (((((((((0 : Int32) + (own_nz (own_nz (ig &&& (1 : Int32))))) + (own_nz (own_nz (ig &&& (2 : Int32))))) + (own_nz (own_nz (ig &&& (4 : Int32))))) + (own_nz (own_nz (ig &&& (8 : Int32))))) + (own_nz (own_nz (ig &&& (16 : Int32))))) + (own_nz (own_nz (ig &&& (32 : Int32)))))).toInt64) (17 : Int64); have r := rng64 ((((((((((0 : Int32) + (own_nz (own_nz (ig &&& (1 : Int32))))) + (own_nz (own_nz (ig &&& (2 : Int32))))) + (own_nz (own_nz (ig &&& (4 : Int32))))) + (own_nz (own_nz (ig &&& (8 : Int32))))) + (own_nz (own_nz (ig &&& (16 : Int32))))) + (own_nz (own_nz (ig &&& (32 : Int32)))))).toInt64) * (17 : Int64)); omega
                  have e33 : (((6 : Int32) - (((((((0 : Int32) + (own_nz (own_nz (ig &&& (1 : Int32))))) + (own_nz (own_nz (ig &&& (2 : Int32))))) + (own_nz (own_nz (ig &&& (4 : Int32))))) + (own_nz (own_nz (ig &&& (8 : Int32))))) + (own_nz (own_nz (ig &&& (16 : Int32))))) + (own_nz (own_nz (ig &&& (32 : Int32))))))).toInt = ((6 : Int32)).toInt - ((((((((0 : Int32) + (own_nz (own_nz (ig &&& (1 : Int32))))) + (own_nz (own_nz (ig &&& (2 : Int32))))) + (own_nz (own_nz (ig &&& (4 : Int32))))) + (own_nz (own_nz (ig &&& (8 : Int32))))) + (own_nz (own_nz (ig &&& (16 : Int32))))) + (own_nz (own_nz (ig &&& (32 : Int32)))))).toInt := by have w := c_isub (6 : Int32) (((((((0 : Int32) + (own_nz (own_nz (ig &&& (1 : Int32))))) + (own_nz (own_nz (ig &&& (2 : Int32))))) + (own_nz (own_nz (ig &&& (4 : Int32))))) + (own_nz (own_nz (ig &&& (8 : Int32))))) + (own_nz (own_nz (ig &&& (16 : Int32))))) + (own_nz (own_nz (ig &&& (32 : Int32))))); have r := rng32 ((6 : Int32) - (((((((0 : Int32) + (own_nz (own_nz (ig &&& (1 : Int32))))) + (own_nz (own_nz (ig &&& (2 : Int32))))) + (own_nz (own_nz (ig &&& (4 : Int32))))) + (own_nz (own_nz (ig &&& (8 : Int32))))) + (own_nz (own_nz (ig &&& (16 : Int32))))) + (own_nz (own_nz (ig &&& (32 : Int32)))))); omega
                  have e32 := c_i2l ((6 : Int32) - (((((((0 : Int32) + (own_nz (own_nz (ig &&& (1 : Int32))))) + (own_nz (own_nz (ig &&& (2 : Int32))))) + (own_nz (own_nz (ig &&& (4 : Int32))))) + (own_nz (own_nz (ig &&& (8 : Int32))))) + (own_nz (own_nz (ig &&& (16 : Int32))))) + (own_nz (own_nz (ig &&& (32 : Int32))))))
                  have e34 : (18 : Int64).toInt = 18 := rfl
                  have e31 : ((((((6 : Int32) - (((((((0 : Int32) + (own_nz (own_nz (ig &&& (1 : Int32))))) + (own_nz (own_nz (ig &&& (2 : Int32))))) + (own_nz (own_nz (ig &&& (4 : Int32))))) + (own_nz (own_nz (ig &&& (8 : Int32))))) + (own_nz (own_nz (ig &&& (16 : Int32))))) + (own_nz (own_nz (ig &&& (32 : Int32))))))).toInt64) * (18 : Int64))).toInt = (((((6 : Int32) - (((((((0 : Int32) + (own_nz (own_nz (ig &&& (1 : Int32))))) + (own_nz (own_nz (ig &&& (2 : Int32))))) + (own_nz (own_nz (ig &&& (4 : Int32))))) + (own_nz (own_nz (ig &&& (8 : Int32))))) + (own_nz (own_nz (ig &&& (16 : Int32))))) + (own_nz (own_nz (ig &&& (32 : Int32))))))).toInt64)).toInt * 18 := by have w : (((((((6 : Int32) - (((((((0 : Int32) + (own_nz (own_nz (ig &&& (1 : Int32))))) + (own_nz (own_nz (ig &&& (2 : Int32))))) + (own_nz (own_nz (ig &&& (4 : Int32))))) + (own_nz (own_nz (ig &&& (8 : Int32))))) + (own_nz (own_nz (ig &&& (16 : Int32))))) + (own_nz (own_nz (ig &&& (32 : Int32))))))).toInt64) * (18 : Int64))).toInt - (((((6 : Int32) - (((((((0 : Int32) + (own_nz (own_nz (ig &&& (1 : Int32))))) + (own_nz (own_nz (ig &&& (2 : Int32))))) + (own_nz (own_nz (ig &&& (4 : Int32))))) + (own_nz (own_nz (ig &&& (8 : Int32))))) + (own_nz (own_nz (ig &&& (16 : Int32))))) + (own_nz (own_nz (ig &&& (32 : Int32))))))).toInt64)).toInt * 18) % 18446744073709551616 = 0 := c_lmul ((((6 : Int32) - (((((((0 : Int32) + (own_nz (own_nz (ig &&& (1 : Int32))))) + (own_nz (own_nz (ig &&& (2 : Int32))))) + (own_nz (own_nz (ig &&& (4 : Int32))))) + (own_nz (own_nz (ig &&& (8 : Int32))))) + (own_nz (own_nz (ig &&& (16 : Int32))))) + (own_nz (own_nz (ig &&& (32 : Int32))))))).toInt64) (18 : Int64); have r := rng64 (((((6 : Int32) - (((((((0 : Int32) + (own_nz (own_nz (ig &&& (1 : Int32))))) + (own_nz (own_nz (ig &&& (2 : Int32))))) + (own_nz (own_nz (ig &&& (4 : Int32))))) + (own_nz (own_nz (ig &&& (8 : Int32))))) + (own_nz (own_nz (ig &&& (16 : Int32))))) + (own_nz (own_nz (ig &&& (32 : Int32))))))).toInt64) * (18 : Int64)); omega
                  have e15 : ((((((((((((0 : Int32) + (own_nz (own_nz (ig &&& (1 : Int32))))) + (own_nz (own_nz (ig &&& (2 : Int32))))) + (own_nz (own_nz (ig &&& (4 : Int32))))) + (own_nz (own_nz (ig &&& (8 : Int32))))) + (own_nz (own_nz (ig &&& (16 : Int32))))) + (own_nz (own_nz (ig &&& (32 : Int32)))))).toInt64) * (17 : Int64)) + (((((6 : Int32) - (((((((0 : Int32) + (own_nz (own_nz (ig &&& (1 : Int32))))) + (own_nz (own_nz (ig &&& (2 : Int32))))) + (own_nz (own_nz (ig &&& (4 : Int32))))) + (own_nz (own_nz (ig &&& (8 : Int32))))) + (own_nz (own_nz (ig &&& (16 : Int32))))) + (own_nz (own_nz (ig &&& (32 : Int32))))))).toInt64) * (18 : Int64)))).toInt = (((((((((((0 : Int32) + (own_nz (own_nz (ig &&& (1 : Int32))))) + (own_nz (own_nz (ig &&& (2 : Int32))))) + (own_nz (own_nz (ig &&& (4 : Int32))))) + (own_nz (own_nz (ig &&& (8 : Int32))))) + (own_nz (own_nz (ig &&& (16 : Int32))))) + (own_nz (own_nz (ig &&& (32 : Int32)))))).toInt64) * (17 : Int64))).toInt + ((((((6 : Int32) - (((((((0 : Int32) + (own_nz (own_nz (ig &&& (1 : Int32))))) + (own_nz (own_nz (ig &&& (2 : Int32))))) + (own_nz (own_nz (ig &&& (4 : Int32))))) + (own_nz (own_nz (ig &&& (8 : Int32))))) + (own_nz (own_nz (ig &&& (16 : Int32))))) + (own_nz (own_nz (ig &&& (32 : Int32))))))).toInt64) * (18 : Int64))).toInt := by have w := c_ladd ((((((((((0 : Int32) + (own_nz (own_nz (ig &&& (1 : Int32))))) + (own_nz (own_nz (ig &&& (2 : Int32))))) + (own_nz (own_nz (ig &&& (4 : Int32))))) + (own_nz (own_nz (ig &&& (8 : Int32))))) + (own_nz (own_nz (ig &&& (16 : Int32))))) + (own_nz (own_nz (ig &&& (32 : Int32)))))).toInt64) * (17 : Int64)) (((((6 : Int32) - (((((((0 : Int32) + (own_nz (own_nz (ig &&& (1 : Int32))))) + (own_nz (own_nz (ig &&& (2 : Int32))))) + (own_nz (own_nz (ig &&& (4 : Int32))))) + (own_nz (own_nz (ig &&& (8 : Int32))))) + (own_nz (own_nz (ig &&& (16 : Int32))))) + (own_nz (own_nz (ig &&& (32 : Int32))))))).toInt64) * (18 : Int64)); have r := rng64 (((((((((((0 : Int32) + (own_nz (own_nz (ig &&& (1 : Int32))))) + (own_nz (own_nz (ig &&& (2 : Int32))))) + (own_nz (own_nz (ig &&& (4 : Int32))))) + (own_nz (own_nz (ig &&& (8 : Int32))))) + (own_nz (own_nz (ig &&& (16 : Int32))))) + (own_nz (own_nz (ig &&& (32 : Int32)))))).toInt64) * (17 : Int64)) + (((((6 : Int32) - (((((((0 : Int32) + (own_nz (own_nz (ig &&& (1 : Int32))))) + (own_nz (own_nz (ig &&& (2 : Int32))))) + (own_nz (own_nz (ig &&& (4 : Int32))))) + (own_nz (own_nz (ig &&& (8 : Int32))))) + (own_nz (own_nz (ig &&& (16 : Int32))))) + (own_nz (own_nz (ig &&& (32 : Int32))))))).toInt64) * (18 : Int64))); omega
                  have r36 := rng32 (own_mx (0 : Int32) ((6 : Int32) - (1 : Int32)))
                  have e35 := c_i2l (own_mx (0 : Int32) ((6 : Int32) - (1 : Int32)))
                  have e14 : (((((((((((((0 : Int32) + (own_nz (own_nz (ig &&& (1 : Int32))))) + (own_nz (own_nz (ig &&& (2 : Int32))))) + (own_nz (own_nz (ig &&& (4 : Int32))))) + (own_nz (own_nz (ig &&& (8 : Int32))))) + (own_nz (own_nz (ig &&& (16 : Int32))))) + (own_nz (own_nz (ig &&& (32 : Int32)))))).toInt64) * (17 : Int64)) + (((((6 : Int32) - (((((((0 : Int32) + (own_nz (own_nz (ig &&& (1 : Int32))))) + (own_nz (own_nz (ig &&& (2 : Int32))))) + (own_nz (own_nz (ig &&& (4 : Int32))))) + (own_nz (own_nz (ig &&& (8 : Int32))))) + (own_nz (own_nz (ig &&& (16 : Int32))))) + (own_nz (own_nz (ig &&& (32 : Int32))))))).toInt64) * (18 : Int64))) + (((own_mx (0 : Int32) ((6 : Int32) - (1 : Int32)))).toInt64))).toInt = ((((((((((((0 : Int32) + (own_nz (own_nz (ig &&& (1 : Int32))))) + (own_nz (own_nz (ig &&& (2 : Int32))))) + (own_nz (own_nz (ig &&& (4 : Int32))))) + (own_nz (own_nz (ig &&& (8 : Int32))))) + (own_nz (own_nz (ig &&& (16 : Int32))))) + (own_nz (own_nz (ig &&& (32 : Int32)))))).toInt64) * (17 : Int64)) + (((((6 : Int32) - (((((((0 : Int32) + (own_nz (own_nz (ig &&& (1 : Int32))))) + (own_nz (own_nz (ig &&& (2 : Int32))))) + (own_nz (own_nz (ig &&& (4 : Int32))))) + (own_nz (own_nz (ig &&& (8 : Int32))))) + (own_nz (own_nz (ig &&& (16 : Int32))))) + (own_nz (own_nz (ig &&& (32 : Int32))))))).toInt64) * (18 : Int64)))).toInt + ((((own_mx (0 : Int32) ((6 : Int32) - (1 : Int32)))).toInt64)).toInt := by have w := c_ladd (((((((((((0 : Int32) + (own_nz (own_nz (ig &&& (1 : Int32))))) + (own_nz (own_nz (ig &&& (2 : Int32))))) + (own_nz (own_nz (ig &&& (4 : Int32))))) + (own_nz (own_nz (ig &&& (8 : Int32))))) + (own_nz (own_nz (ig &&& (16 : Int32))))) + (own_nz (own_nz (ig &&& (32 : Int32)))))).toInt64) * (17 : Int64)) + (((((6 : Int32) - (((((((0 : Int32) + (own_nz (own_nz (ig &&& (1 : Int32))))) + (own_nz (own_nz (ig &&& (2 : Int32))))) + (own_nz (own_nz (ig &&& (4 : Int32))))) + (own_nz (own_nz (ig &&& (8 : Int32))))) + (own_nz (own_nz (ig &&& (16 : Int32))))) + (own_nz (own_nz (ig &&& (32 : Int32))))))).toInt64) * (18 : Int64))) (((own_mx (0 : Int32) ((6 : Int32) - (1 : Int32)))).toInt64); have r := rng64 ((((((((((((0 : Int32) + (own_nz (own_nz (ig &&& (1 : Int32))))) + (own_nz (own_nz (ig &&& (2 : Int32))))) + (own_nz (own_nz (ig &&& (4 : Int32))))) + (own_nz (own_nz (ig &&& (8 : Int32))))) + (own_nz (own_nz (ig &&& (16 : Int32))))) + (own_nz (own_nz (ig &&& (32 : Int32)))))).toInt64) * (17 : Int64)) + (((((6 : Int32) - (((((((0 : Int32) + (own_nz (own_nz (ig &&& (1 : Int32))))) + (own_nz (own_nz (ig &&& (2 : Int32))))) + (own_nz (own_nz (ig &&& (4 : Int32))))) + (own_nz (own_nz (ig &&& (8 : Int32))))) + (own_nz (own_nz (ig &&& (16 : Int32))))) + (own_nz (own_nz (ig &&& (32 : Int32))))))).toInt64) * (18 : Int64))) + (((own_mx (0 : Int32) ((6 : Int32) - (1 : Int32)))).toInt64)); omega
                  have e12 : (((16 : Int64) + ((((((((((((0 : Int32) + (own_nz (own_nz (ig &&& (1 : Int32))))) + (own_nz (own_nz (ig &&& (2 : Int32))))) + (own_nz (own_nz (ig &&& (4 : Int32))))) + (own_nz (own_nz (ig &&& (8 : Int32))))) + (own_nz (own_nz (ig &&& (16 : Int32))))) + (own_nz (own_nz (ig &&& (32 : Int32)))))).toInt64) * (17 : Int64)) + (((((6 : Int32) - (((((((0 : Int32) + (own_nz (own_nz (ig &&& (1 : Int32))))) + (own_nz (own_nz (ig &&& (2 : Int32))))) + (own_nz (own_nz (ig &&& (4 : Int32))))) + (own_nz (own_nz (ig &&& (8 : Int32))))) + (own_nz (own_nz (ig &&& (16 : Int32))))) + (own_nz (own_nz (ig &&& (32 : Int32))))))).toInt64) * (18 : Int64))) + (((own_mx (0 : Int32) ((6 : Int32) - (1 : Int32)))).toInt64)))).toInt = ((16 : Int64)).toInt + (((((((((((((0 : Int32) + (own_nz (own_nz (ig &&& (1 : Int32))))) + (own_nz (own_nz (ig &&& (2 : Int32))))) + (own_nz (own_nz (ig &&& (4 : Int32))))) + (own_nz (own_nz (ig &&& (8 : Int32))))) + (own_nz (own_nz (ig &&& (16 : Int32))))) + (own_nz (own_nz (ig &&& (32 : Int32)))))).toInt64) * (17 : Int64)) + (((((6 : Int32) - (((((((0 : Int32) + (own_nz (own_nz (ig &&& (1 : Int32))))) + (own_nz (own_nz (ig &&& (2 : Int32))))) + (own_nz (own_nz (ig &&& (4 : Int32))))) + (own_nz (own_nz (ig &&& (8 : Int32))))) + (own_nz (own_nz (ig &&& (16 : Int32))))) + (own_nz (own_nz (ig &&& (32 : Int32))))))).toInt64) * (18 : Int64))) + (((own_mx (0 : Int32) ((6 : Int32) - (1 : Int32)))).toInt64))).toInt := by have w := c_ladd (16 : Int64) ((((((((((((0 : Int32) + (own_nz (own_nz (ig &&& (1 : Int32))))) + (own_nz (own_nz (ig &&& (2 : Int32))))) + (own_nz (own_nz (ig &&& (4 : Int32))))) + (own_nz (own_nz (ig &&& (8 : Int32))))) + (own_nz (own_nz (ig &&& (16 : Int32))))) + (own_nz (own_nz (ig &&& (32 : Int32)))))).toInt64) * (17 : Int64)) + (((((6 : Int32) - (((((((0 : Int32) + (own_nz (own_nz (ig &&& (1 : Int32))))) + (own_nz (own_nz (ig &&& (2 : Int32))))) + (own_nz (own_nz (ig &&& (4 : Int32))))) + (own_nz (own_nz (ig &&& (8 : Int32))))) + (own_nz (own_nz (ig &&& (16 : Int32))))) + (own_nz (own_nz (ig &&& (32 : Int32))))))).toInt64) * (18 : Int64))) + (((own_mx (0 : Int32) ((6 : Int32) - (1 : Int32)))).toInt64)); have r := rng64 ((16 : Int64) + ((((((((((((0 : Int32) + (own_nz (own_nz (ig &&& (1 : Int32))))) + (own_nz (own_nz (ig &&& (2 : Int32))))) + (own_nz (own_nz (ig &&& (4 : Int32))))) + (own_nz (own_nz (ig &&& (8 : Int32))))) + (own_nz (own_nz (ig &&& (16 : Int32))))) + (own_nz (own_nz (ig &&& (32 : Int32)))))).toInt64) * (17 : Int64)) + (((((6 : Int32) - (((((((0 : Int32) + (own_nz (own_nz (ig &&& (1 : Int32))))) + (own_nz (own_nz (ig &&& (2 : Int32))))) + (own_nz (own_nz (ig &&& (4 : Int32))))) + (own_nz (own_nz (ig &&& (8 : Int32))))) + (own_nz (own_nz (ig &&& (16 : Int32))))) + (own_nz (own_nz (ig &&& (32 : Int32))))))).toInt64) * (18 : Int64))) + (((own_mx (0 : Int32) ((6 : Int32) - (1 : Int32)))).toInt64))); omega
                  have e37 : (2 : Int64).toInt = 2 := rfl
                  have e11 : ((((16 : Int64) + ((((((((((((0 : Int32) + (own_nz (own_nz (ig &&& (1 : Int32))))) + (own_nz (own_nz (ig &&& (2 : Int32))))) + (own_nz (own_nz (ig &&& (4 : Int32))))) + (own_nz (own_nz (ig &&& (8 : Int32))))) + (own_nz (own_nz (ig &&& (16 : Int32))))) + (own_nz (own_nz (ig &&& (32 : Int32)))))).toInt64) * (17 : Int64)) + (((((6 : Int32) - (((((((0 : Int32) + (own_nz (own_nz (ig &&& (1 : Int32))))) + (own_nz (own_nz (ig &&& (2 : Int32))))) + (own_nz (own_nz (ig &&& (4 : Int32))))) + (own_nz (own_nz (ig &&& (8 : Int32))))) + (own_nz (own_nz (ig &&& (16 : Int32))))) + (own_nz (own_nz (ig &&& (32 : Int32))))))).toInt64) * (18 : Int64))) + (((own_mx (0 : Int32) ((6 : Int32) - (1 : Int32)))).toInt64))) + (2 : Int64))).toInt = (((16 : Int64) + ((((((((((((0 : Int32) + (own_nz (own_nz (ig &&& (1 : Int32))))) + (own_nz (own_nz (ig &&& (2 : Int32))))) + (own_nz (own_nz (ig &&& (4 : Int32))))) + (own_nz (own_nz (ig &&& (8 : Int32))))) + (own_nz (own_nz (ig &&& (16 : Int32))))) + (own_nz (own_nz (ig &&& (32 : Int32)))))).toInt64) * (17 : Int64)) + (((((6 : Int32) - (((((((0 : Int32) + (own_nz (own_nz (ig &&& (1 : Int32))))) + (own_nz (own_nz (ig &&& (2 : Int32))))) + (own_nz (own_nz (ig &&& (4 : Int32))))) + (own_nz (own_nz (ig &&& (8 : Int32))))) + (own_nz (own_nz (ig &&& (16 : Int32))))) + (own_nz (own_nz (ig &&& (32 : Int32))))))).toInt64) * (18 : Int64))) + (((own_mx (0 : Int32) ((6 : Int32) - (1 : Int32)))).toInt64)))).toInt + ((2 : Int64)).toInt := by have w := c_ladd ((16 : Int64) + ((((((((((((0 : Int32) + (own_nz (own_nz (ig &&& (1 : Int32))))) + (own_nz (own_nz (ig &&& (2 : Int32))))) + (own_nz (own_nz (ig &&& (4 : Int32))))) + (own_nz (own_nz (ig &&& (8 : Int32))))) + (own_nz (own_nz (ig &&& (16 : Int32))))) + (own_nz (own_nz (ig &&& (32 : Int32)))))).toInt64) * (17 : Int64)) + (((((6 : Int32) - (((((((0 : Int32) + (own_nz (own_nz (ig &&& (1 : Int32))))) + (own_nz (own_nz (ig &&& (2 : Int32))))) + (own_nz (own_nz (ig &&& (4 : Int32))))) + (own_nz (own_nz (ig &&& (8 : Int32))))) + (own_nz (own_nz (ig &&& (16 : Int32))))) + (own_nz (own_nz (ig &&& (32 : Int32))))))).toInt64) * (18 : Int64))) + (((own_mx (0 : Int32) ((6 : Int32) - (1 : Int32)))).toInt64))) (2 : Int64); have r := rng64 (((16 : Int64) + ((((((((((((0 : Int32) + (own_nz (own_nz (ig &&& (1 : Int32))))) + (own_nz (own_nz (ig &&& (2 : Int32))))) + (own_nz (own_nz (ig &&& (4 : Int32))))) + (own_nz (own_nz (ig &&& (8 : Int32))))) + (own_nz (own_nz (ig &&& (16 : Int32))))) + (own_nz (own_nz (ig &&& (32 : Int32)))))).toInt64) * (17 : Int64)) + (((((6 : Int32) - (((((((0 : Int32) + (own_nz (own_nz (ig &&& (1 : Int32))))) + (own_nz (own_nz (ig &&& (2 : Int32))))) + (own_nz (own_nz (ig &&& (4 : Int32))))) + (own_nz (own_nz (ig &&& (8 : Int32))))) + (own_nz (own_nz (ig &&& (16 : Int32))))) + (own_nz (own_nz (ig &&& (32 : Int32))))))).toInt64) * (18 : Int64))) + (((own_mx (0 : Int32) ((6 : Int32) - (1 : Int32)))).toInt64))) + (2 : Int64)); omega
                  have r44 := rng64 (own_len (own_nz (ig &&& (1 : Int32))) (1 : Int32))
                  have e43 : (((18 : Int64) + (own_len (own_nz (ig &&& (1 : Int32))) (1 : Int32)))).toInt = ((18 : Int64)).toInt + ((own_len (own_nz (ig &&& (1 : Int32))) (1 : Int32))).toInt := by have w := c_ladd (18 : Int64) (own_len (own_nz (ig &&& (1 : Int32))) (1 : Int32)); have r := rng64 ((18 : Int64) + (own_len (own_nz (ig &&& (1 : Int32))) (1 : Int32))); omega
                  have r45 := rng64 (own_len (own_nz (ig &&& (2 : Int32))) (0 : Int32))
                  have e42 : ((((18 : Int64) + (own_len (own_nz (ig &&& (1 : Int32))) (1 : Int32))) + (own_len (own_nz (ig &&& (2 : Int32))) (0 : Int32)))).toInt = (((18 : Int64) + (own_len (own_nz (ig &&& (1 : Int32))) (1 : Int32)))).toInt + ((own_len (own_nz (ig &&& (2 : Int32))) (0 : Int32))).toInt := by have w := c_ladd ((18 : Int64) + (own_len (own_nz (ig &&& (1 : Int32))) (1 : Int32))) (own_len (own_nz (ig &&& (2 : Int32))) (0 : Int32)); have r := rng64 (((18 : Int64) + (own_len (own_nz (ig &&& (1 : Int32))) (1 : Int32))) + (own_len (own_nz (ig &&& (2 : Int32))) (0 : Int32))); omega
                  have r46 := rng64 (own_len (own_nz (ig &&& (4 : Int32))) (0 : Int32))
                  have e41 : (((((18 : Int64) + (own_len (own_nz (ig &&& (1 : Int32))) (1 : Int32))) + (own_len (own_nz (ig &&& (2 : Int32))) (0 : Int32))) + (own_len (own_nz (ig &&& (4 : Int32))) (0 : Int32)))).toInt = ((((18 : Int64) + (own_len (own_nz (ig &&& (1 : Int32))) (1 : Int32))) + (own_len (own_nz (ig &&& (2 : Int32))) (0 : Int32)))).toInt + ((own_len (own_nz (ig &&& (4 : Int32))) (0 : Int32))).toInt := by have w := c_ladd (((18 : Int64) + (own_len (own_nz (ig &&& (1 : Int32))) (1 : Int32))) + (own_len (own_nz (ig &&& (2 : Int32))) (0 : Int32))) (own_len (own_nz (ig &&& (4 : Int32))) (0 : Int32)); have r := rng64 ((((18 : Int64) + (own_len (own_nz (ig &&& (1 : Int32))) (1 : Int32))) + (own_len (own_nz (ig &&& (2 : Int32))) (0 : Int32))) + (own_len (own_nz (ig &&& (4 : Int32))) (0 : Int32))); omega
                  have r47 := rng64 (own_len (own_nz (ig &&& (8 : Int32))) (0 : Int32))
                  have e40 : ((((((18 : Int64) + (own_len (own_nz (ig &&& (1 : Int32))) (1 : Int32))) + (own_len (own_nz (ig &&& (2 : Int32))) (0 : Int32))) + (own_len (own_nz (ig &&& (4 : Int32))) (0 : Int32))) + (own_len (own_nz (ig &&& (8 : Int32))) (0 : Int32)))).toInt = (((((18 : Int64) + (own_len (own_nz (ig &&& (1 : Int32))) (1 : Int32))) + (own_len (own_nz (ig &&& (2 : Int32))) (0 : Int32))) + (own_len (own_nz (ig &&& (4 : Int32))) (0 : Int32)))).toInt + ((own_len (own_nz (ig &&& (8 : Int32))) (0 : Int32))).toInt := by have w := c_ladd ((((18 : Int64) + (own_len (own_nz (ig &&& (1 : Int32))) (1 : Int32))) + (own_len (own_nz (ig &&& (2 : Int32))) (0 : Int32))) + (own_len (own_nz (ig &&& (4 : Int32))) (0 : Int32))) (own_len (own_nz (ig &&& (8 : Int32))) (0 : Int32)); have r := rng64 (((((18 : Int64) + (own_len (own_nz (ig &&& (1 : Int32))) (1 : Int32))) + (own_len (own_nz (ig &&& (2 : Int32))) (0 : Int32))) + (own_len (own_nz (ig &&& (4 : Int32))) (0 : Int32))) + (own_len (own_nz (ig &&& (8 : Int32))) (0 : Int32))); omega
                  have r48 := rng64 (own_len (own_nz (ig &&& (16 : Int32))) (0 : Int32))
                  have e39 : (((((((18 : Int64) + (own_len (own_nz (ig &&& (1 : Int32))) (1 : Int32))) + (own_len (own_nz (ig &&& (2 : Int32))) (0 : Int32))) + (own_len (own_nz (ig &&& (4 : Int32))) (0 : Int32))) + (own_len (own_nz (ig &&& (8 : Int32))) (0 : Int32))) + (own_len (own_nz (ig &&& (16 : Int32))) (0 : Int32)))).toInt = ((((((18 : Int64) + (own_len (own_nz (ig &&& (1 : Int32))) (1 : Int32))) + (own_len (own_nz (ig &&& (2 : Int32))) (0 : Int32))) + (own_len (own_nz (ig &&& (4 : Int32))) (0 : Int32))) + (own_len (own_nz (ig &&& (8 : Int32))) (0 : Int32)))).toInt + ((own_len (own_nz (ig &&& (16 : Int32))) (0 : Int32))).toInt := by have w := c_ladd (((((18 : Int64) + (own_len (own_nz (ig &&& (1 : Int32))) (1 : Int32))) + (own_len (own_nz (ig &&& (2 : Int32))) (0 : Int32))) + (own_len (own_nz (ig &&& (4 : Int32))) (0 : Int32))) + (own_len (own_nz (ig &&& (8 : Int32))) (0 : Int32))) (own_len (own_nz (ig &&& (16 : Int32))) (0 : Int32)); have r := rng64 ((((((18 : Int64) + (own_len (own_nz (ig &&& (1 : Int32))) (1 : Int32))) + (own_len (own_nz (ig &&& (2 : Int32))) (0 : Int32))) + (own_len (own_nz (ig &&& (4 : Int32))) (0 : Int32))) + (own_len (own_nz (ig &&& (8 : Int32))) (0 : Int32))) + (own_len (own_nz (ig &&& (16 : Int32))) (0 : Int32))); omega
                  have r49 := rng64 (own_len (own_nz (ig &&& (32 : Int32))) (0 : Int32))
                  have e38 : ((((((((18 : Int64) + (own_len (own_nz (ig &&& (1 : Int32))) (1 : Int32))) + (own_len (own_nz (ig &&& (2 : Int32))) (0 : Int32))) + (own_len (own_nz (ig &&& (4 : Int32))) (0 : Int32))) + (own_len (own_nz (ig &&& (8 : Int32))) (0 : Int32))) + (own_len (own_nz (ig &&& (16 : Int32))) (0 : Int32))) + (own_len (own_nz (ig &&& (32 : Int32))) (0 : Int32)))).toInt = (((((((18 : Int64) + (own_len (own_nz (ig &&& (1 : Int32))) (1 : Int32))) + (own_len (own_nz (ig &&& (2 : Int32))) (0 : Int32))) + (own_len (own_nz (ig &&& (4 : Int32))) (0 : Int32))) + (own_len (own_nz (ig &&& (8 : Int32))) (0 : Int32))) + (own_len (own_nz (ig &&& (16 : Int32))) (0 : Int32)))).toInt + ((own_len (own_nz (ig &&& (32 : Int32))) (0 : Int32))).toInt := by have w := c_ladd ((((((18 : Int64) + (own_len (own_nz (ig &&& (1 : Int32))) (1 : Int32))) + (own_len (own_nz (ig &&& (2 : Int32))) (0 : Int32))) + (own_len (own_nz (ig &&& (4 : Int32))) (0 : Int32))) + (own_len (own_nz (ig &&& (8 : Int32))) (0 : Int32))) + (own_len (own_nz (ig &&& (16 : Int32))) (0 : Int32))) (own_len (own_nz (ig &&& (32 : Int32))) (0 : Int32)); have r := rng64 (((((((18 : Int64) + (own_len (own_nz (ig &&& (1 : Int32))) (1 : Int32))) + (own_len (own_nz (ig &&& (2 : Int32))) (0 : Int32))) + (own_len (own_nz (ig &&& (4 : Int32))) (0 : Int32))) + (own_len (own_nz (ig &&& (8 : Int32))) (0 : Int32))) + (own_len (own_nz (ig &&& (16 : Int32))) (0 : Int32))) + (own_len (own_nz (ig &&& (32 : Int32))) (0 : Int32))); omega
                  have i_hc26 : ((0 : Int32)).toInt < ((ic &&& (7 : Int32))).toInt := Int32.lt_iff_toInt_lt.mp hc26
                  have i_hc53 : ((1 : Int32)).toInt < ((ic &&& (7 : Int32))).toInt := Int32.lt_iff_toInt_lt.mp hc53
                  have i_hc80 : ((2 : Int32)).toInt < ((ic &&& (7 : Int32))).toInt := Int32.lt_iff_toInt_lt.mp hc80
                  have i_hc107 : ((3 : Int32)).toInt < ((ic &&& (7 : Int32))).toInt := Int32.lt_iff_toInt_lt.mp hc107
                  have i_hc135 : ((4 : Int32)).toInt < ((ic &&& (7 : Int32))).toInt := Int32.lt_iff_toInt_lt.mp hc135
                  have i_hc163 : ((5 : Int32)).toInt < ((ic &&& (7 : Int32))).toInt := Int32.lt_iff_toInt_lt.mp hc163
                  have i_hc192 : ¬ ((6 : Int32)).toInt < ((ic &&& (7 : Int32))).toInt := fun z => hc192 (Int32.lt_iff_toInt_lt.mpr z)
                  have i_hc224 : ¬ ((((16 : Int64) + ((((((((((((0 : Int32) + (own_nz (own_nz (ig &&& (1 : Int32))))) + (own_nz (own_nz (ig &&& (2 : Int32))))) + (own_nz (own_nz (ig &&& (4 : Int32))))) + (own_nz (own_nz (ig &&& (8 : Int32))))) + (own_nz (own_nz (ig &&& (16 : Int32))))) + (own_nz (own_nz (ig &&& (32 : Int32)))))).toInt64) * (17 : Int64)) + (((((6 : Int32) - (((((((0 : Int32) + (own_nz (own_nz (ig &&& (1 : Int32))))) + (own_nz (own_nz (ig &&& (2 : Int32))))) + (own_nz (own_nz (ig &&& (4 : Int32))))) + (own_nz (own_nz (ig &&& (8 : Int32))))) + (own_nz (own_nz (ig &&& (16 : Int32))))) + (own_nz (own_nz (ig &&& (32 : Int32))))))).toInt64) * (18 : Int64))) + (((own_mx (0 : Int32) ((6 : Int32) - (1 : Int32)))).toInt64))) + (2 : Int64))).toInt = ((((((((18 : Int64) + (own_len (own_nz (ig &&& (1 : Int32))) (1 : Int32))) + (own_len (own_nz (ig &&& (2 : Int32))) (0 : Int32))) + (own_len (own_nz (ig &&& (4 : Int32))) (0 : Int32))) + (own_len (own_nz (ig &&& (8 : Int32))) (0 : Int32))) + (own_len (own_nz (ig &&& (16 : Int32))) (0 : Int32))) + (own_len (own_nz (ig &&& (32 : Int32))) (0 : Int32)))).toInt := fun z => hc224 (Int64.toInt_inj.mp z)
                  omega
                · refine g_iconst cx d0_227 (v := (1 : Int32)) rfl ?_
                  refine g_goto cx d0_228 ?_
                  refine g_retZ cx d0_232 rfl rfl (by decide) (by decide) ?_
                  rfl
              · refine g_lload cx d0_195 rfl ?_
                refine g_aloadN cx d0_197 rfl rfl ?_
                refine g_iloadN cx d0_198 rfl ?_
                refine g_bipush cx d0_199 (v := (64 : Int32)) rfl ?_
                refine g_iand cx d0_201 ?_
                refine g_tern cx d0_202 d0_205 d0_206 d0_209 ?_
                refine g_iconst cx d0_210 (v := (0 : Int32)) rfl ?_
                refine g_static cx (y := (⟨"com/example/dyn_authz/dynauthz/service/DecisionsLengthPinLaw", "addOne", "(Lcom/example/dyn_authz/dynauthz/service/Decisions;ZZ)J"⟩ : MethodName)) d0_211 (hw _ (List.mem_of_getElem? (i := 34) rfl)) (hw _ (List.mem_of_getElem? (i := 35) rfl)) (hw _ (List.mem_of_getElem? (i := 36) rfl)) (hw _ (List.mem_of_getElem? (i := 37) rfl)) (by decide) (bytes := method_2_code) (maxL' := 5) (M := (rmo l Z a0 hw (6 : Int32) (by decide) (by decide) SAD pm dn SPM SDN npd b2 (((((((0 : Int32) + (own_nz (own_nz (ig &&& (1 : Int32))))) + (own_nz (own_nz (ig &&& (2 : Int32))))) + (own_nz (own_nz (ig &&& (4 : Int32))))) + (own_nz (own_nz (ig &&& (8 : Int32))))) + (own_nz (own_nz (ig &&& (16 : Int32))))) + (own_nz (own_nz (ig &&& (32 : Int32))))) (own_nz (ig &&& (64 : Int32))) (0 : Int32) _ DD OL)) rfl (lenOf pd_7 rfl) (by decide) (W := 2) (Nat.le_of_eq rfl) (by decide) (k' := 10) (n' := 17) rfl rfl (by decide) (by decide) (argsL := [(.ref b2), (.int (own_nz (ig &&& (64 : Int32)))), (.int (0 : Int32))]) (rest := [(.long (((((((18 : Int64) + (own_len (own_nz (ig &&& (1 : Int32))) (1 : Int32))) + (own_len (own_nz (ig &&& (2 : Int32))) (0 : Int32))) + (own_len (own_nz (ig &&& (4 : Int32))) (0 : Int32))) + (own_len (own_nz (ig &&& (8 : Int32))) (0 : Int32))) + (own_len (own_nz (ig &&& (16 : Int32))) (0 : Int32))) + (own_len (own_nz (ig &&& (32 : Int32))) (0 : Int32))))]) rfl (fun v50 h49 q51 => ?_)
                obtain ⟨rfl, OL, DD⟩ := q51
                have O_b2 := own_Dx DD
                have DD : own_D Z _ b2 (7 : Int32) ((((((((0 : Int32) + (own_nz (own_nz (ig &&& (1 : Int32))))) + (own_nz (own_nz (ig &&& (2 : Int32))))) + (own_nz (own_nz (ig &&& (4 : Int32))))) + (own_nz (own_nz (ig &&& (8 : Int32))))) + (own_nz (own_nz (ig &&& (16 : Int32))))) + (own_nz (own_nz (ig &&& (32 : Int32))))) + (own_nz (own_nz (ig &&& (64 : Int32))))) := DD
                refine G.cast (st' := [(.long (own_len (own_nz (ig &&& (64 : Int32))) (0 : Int32))), (.long (((((((18 : Int64) + (own_len (own_nz (ig &&& (1 : Int32))) (1 : Int32))) + (own_len (own_nz (ig &&& (2 : Int32))) (0 : Int32))) + (own_len (own_nz (ig &&& (4 : Int32))) (0 : Int32))) + (own_len (own_nz (ig &&& (8 : Int32))) (0 : Int32))) + (own_len (own_nz (ig &&& (16 : Int32))) (0 : Int32))) + (own_len (own_nz (ig &&& (32 : Int32))) (0 : Int32))))]) ?_ rfl
                refine g_ladd cx d0_214 ?_
                refine g_lstore cx d0_215 (Ls' := #[.val (.int ie), .val (.int ic), .val (.int ig), .val (.ref b2), .val (.int (ic &&& (7 : Int32))), .val (.long ((((((((18 : Int64) + (own_len (own_nz (ig &&& (1 : Int32))) (1 : Int32))) + (own_len (own_nz (ig &&& (2 : Int32))) (0 : Int32))) + (own_len (own_nz (ig &&& (4 : Int32))) (0 : Int32))) + (own_len (own_nz (ig &&& (8 : Int32))) (0 : Int32))) + (own_len (own_nz (ig &&& (16 : Int32))) (0 : Int32))) + (own_len (own_nz (ig &&& (32 : Int32))) (0 : Int32))) + (own_len (own_nz (ig &&& (64 : Int32))) (0 : Int32)))), .second]) rfl ?_
                refine g_aloadN cx d0_217 rfl rfl ?_
                refine g_virtual cx (y := (⟨"com/example/dyn_authz/dynauthz/service/Decisions", "length", "()J"⟩ : MethodName)) (z := (⟨"com/example/dyn_authz/dynauthz/service/Decisions", "length", "()J"⟩ : MethodName)) (a := b2) d0_218 (hw _ (List.mem_of_getElem? (i := 90) rfl)) (hw _ (List.mem_of_getElem? (i := 91) rfl)) (hw _ (List.mem_of_getElem? (i := 2) rfl)) (hw _ (List.mem_of_getElem? (i := 94) rfl)) (hw _ (List.mem_of_getElem? (i := 93) rfl)) (hw _ (List.mem_of_getElem? (i := 92) rfl)) rfl (by decide) O_b2.1 (bytes := prog_43_method_4_code) (maxL' := 3) (M := (rml l Z a0 hw sPERMIT cPERMIT SPERMIT VPERMIT sDENY cDENY SDENY VDENY sOPENING cOPENING SOPENING VOPENING sCLOSING cCLOSING SCLOSING VCLOSING b2 (7 : Int32) ((((((((0 : Int32) + (own_nz (own_nz (ig &&& (1 : Int32))))) + (own_nz (own_nz (ig &&& (2 : Int32))))) + (own_nz (own_nz (ig &&& (4 : Int32))))) + (own_nz (own_nz (ig &&& (8 : Int32))))) + (own_nz (own_nz (ig &&& (16 : Int32))))) + (own_nz (own_nz (ig &&& (32 : Int32))))) + (own_nz (own_nz (ig &&& (64 : Int32))))) _ DD OL)) rfl (lenOf pd_6 rfl) (by decide) (W := 0) (Nat.le_of_eq rfl) (by decide) (k' := 10) (n' := 17) rfl rfl (by decide) (by decide) (argsL := []) (rest := []) rfl (fun v53 h52 q54 => ?_)
                obtain ⟨rfl, rfl⟩ := q54
                refine G.cast (st' := [(.long (((16 : Int64) + (((((((((((((0 : Int32) + (own_nz (own_nz (ig &&& (1 : Int32))))) + (own_nz (own_nz (ig &&& (2 : Int32))))) + (own_nz (own_nz (ig &&& (4 : Int32))))) + (own_nz (own_nz (ig &&& (8 : Int32))))) + (own_nz (own_nz (ig &&& (16 : Int32))))) + (own_nz (own_nz (ig &&& (32 : Int32))))) + (own_nz (own_nz (ig &&& (64 : Int32)))))).toInt64) * (17 : Int64)) + (((((7 : Int32) - ((((((((0 : Int32) + (own_nz (own_nz (ig &&& (1 : Int32))))) + (own_nz (own_nz (ig &&& (2 : Int32))))) + (own_nz (own_nz (ig &&& (4 : Int32))))) + (own_nz (own_nz (ig &&& (8 : Int32))))) + (own_nz (own_nz (ig &&& (16 : Int32))))) + (own_nz (own_nz (ig &&& (32 : Int32))))) + (own_nz (own_nz (ig &&& (64 : Int32))))))).toInt64) * (18 : Int64))) + (((own_mx (0 : Int32) ((7 : Int32) - (1 : Int32)))).toInt64))) + (2 : Int64)))]) ?_ rfl
                refine g_lload cx d0_221 rfl ?_
                refine g_lif_ne cx d0_223 d0_224 (fun hc224 => ?_) (fun hc224 => ?_)
                · refine g_iconst cx d0_231 (v := (0 : Int32)) rfl ?_
                  refine g_retZ cx d0_232 rfl rfl (by decide) (by decide) ?_
                  exfalso
                  have e1 : (0 : Int32).toInt = 0 := rfl
                  have e3 : (7 : Int32).toInt = 7 := rfl
                  have e4 : (1 : Int32).toInt = 1 := rfl
                  have e2 : (((7 : Int32) - (1 : Int32))).toInt = ((7 : Int32)).toInt - ((1 : Int32)).toInt := by have w := c_isub (7 : Int32) (1 : Int32); have r := rng32 ((7 : Int32) - (1 : Int32)); omega
                  have := own_nz_b (own_nz (ig &&& (1 : Int32)))
                  have := own_nz_b (ig &&& (1 : Int32))
                  have := own_nz_b (own_nz (ig &&& (2 : Int32)))
                  have := own_nz_b (ig &&& (2 : Int32))
                  have := own_nz_b (own_nz (ig &&& (4 : Int32)))
                  have := own_nz_b (ig &&& (4 : Int32))
                  have := own_nz_b (own_nz (ig &&& (8 : Int32)))
                  have := own_nz_b (ig &&& (8 : Int32))
                  have := own_nz_b (own_nz (ig &&& (16 : Int32)))
                  have := own_nz_b (ig &&& (16 : Int32))
                  have := own_nz_b (own_nz (ig &&& (32 : Int32)))
                  have := own_nz_b (ig &&& (32 : Int32))
                  have := own_nz_b (own_nz (ig &&& (64 : Int32)))
                  have := own_nz_b (ig &&& (64 : Int32))
                  have := own_mx_t (0 : Int32) ((7 : Int32) - (1 : Int32))
                  have := own_len1 (own_nz (ig &&& (1 : Int32)))
                  have := own_nz_b (own_nz (ig &&& (1 : Int32)))
                  have := own_len0 (own_nz (ig &&& (2 : Int32)))
                  have := own_nz_b (own_nz (ig &&& (2 : Int32)))
                  have := own_len0 (own_nz (ig &&& (4 : Int32)))
                  have := own_nz_b (own_nz (ig &&& (4 : Int32)))
                  have := own_len0 (own_nz (ig &&& (8 : Int32)))
                  have := own_nz_b (own_nz (ig &&& (8 : Int32)))
                  have := own_len0 (own_nz (ig &&& (16 : Int32)))
                  have := own_nz_b (own_nz (ig &&& (16 : Int32)))
                  have := own_len0 (own_nz (ig &&& (32 : Int32)))
                  have := own_nz_b (own_nz (ig &&& (32 : Int32)))
                  have := own_len0 (own_nz (ig &&& (64 : Int32)))
                  have := own_nz_b (own_nz (ig &&& (64 : Int32)))
                  have r6 := rng32 ic
                  have e5 : ((ic &&& (7 : Int32))).toInt = (ic).toInt % 8 := c_mask ic (7 : Int32) 3 (by decide) (by decide)
                  have e7 : (2 : Int32).toInt = 2 := rfl
                  have e8 : (3 : Int32).toInt = 3 := rfl
                  have e9 : (4 : Int32).toInt = 4 := rfl
                  have e10 : (5 : Int32).toInt = 5 := rfl
                  have e11 : (6 : Int32).toInt = 6 := rfl
                  have e14 : (16 : Int64).toInt = 16 := rfl
                  have r26 := rng32 (own_nz (own_nz (ig &&& (1 : Int32))))
                  have e25 : (((0 : Int32) + (own_nz (own_nz (ig &&& (1 : Int32)))))).toInt = ((0 : Int32)).toInt + ((own_nz (own_nz (ig &&& (1 : Int32))))).toInt := by have w := c_iadd (0 : Int32) (own_nz (own_nz (ig &&& (1 : Int32)))); have r := rng32 ((0 : Int32) + (own_nz (own_nz (ig &&& (1 : Int32))))); omega
                  have r27 := rng32 (own_nz (own_nz (ig &&& (2 : Int32))))
                  have e24 : ((((0 : Int32) + (own_nz (own_nz (ig &&& (1 : Int32))))) + (own_nz (own_nz (ig &&& (2 : Int32)))))).toInt = (((0 : Int32) + (own_nz (own_nz (ig &&& (1 : Int32)))))).toInt + ((own_nz (own_nz (ig &&& (2 : Int32))))).toInt := by have w := c_iadd ((0 : Int32) + (own_nz (own_nz (ig &&& (1 : Int32))))) (own_nz (own_nz (ig &&& (2 : Int32)))); have r := rng32 (((0 : Int32) + (own_nz (own_nz (ig &&& (1 : Int32))))) + (own_nz (own_nz (ig &&& (2 : Int32))))); omega
                  have r28 := rng32 (own_nz (own_nz (ig &&& (4 : Int32))))
                  have e23 : (((((0 : Int32) + (own_nz (own_nz (ig &&& (1 : Int32))))) + (own_nz (own_nz (ig &&& (2 : Int32))))) + (own_nz (own_nz (ig &&& (4 : Int32)))))).toInt = ((((0 : Int32) + (own_nz (own_nz (ig &&& (1 : Int32))))) + (own_nz (own_nz (ig &&& (2 : Int32)))))).toInt + ((own_nz (own_nz (ig &&& (4 : Int32))))).toInt := by have w := c_iadd (((0 : Int32) + (own_nz (own_nz (ig &&& (1 : Int32))))) + (own_nz (own_nz (ig &&& (2 : Int32))))) (own_nz (own_nz (ig &&& (4 : Int32)))); have r := rng32 ((((0 : Int32) + (own_nz (own_nz (ig &&& (1 : Int32))))) + (own_nz (own_nz (ig &&& (2 : Int32))))) + (own_nz (own_nz (ig &&& (4 : Int32))))); omega
                  have r29 := rng32 (own_nz (own_nz (ig &&& (8 : Int32))))
                  have e22 : ((((((0 : Int32) + (own_nz (own_nz (ig &&& (1 : Int32))))) + (own_nz (own_nz (ig &&& (2 : Int32))))) + (own_nz (own_nz (ig &&& (4 : Int32))))) + (own_nz (own_nz (ig &&& (8 : Int32)))))).toInt = (((((0 : Int32) + (own_nz (own_nz (ig &&& (1 : Int32))))) + (own_nz (own_nz (ig &&& (2 : Int32))))) + (own_nz (own_nz (ig &&& (4 : Int32)))))).toInt + ((own_nz (own_nz (ig &&& (8 : Int32))))).toInt := by have w := c_iadd ((((0 : Int32) + (own_nz (own_nz (ig &&& (1 : Int32))))) + (own_nz (own_nz (ig &&& (2 : Int32))))) + (own_nz (own_nz (ig &&& (4 : Int32))))) (own_nz (own_nz (ig &&& (8 : Int32)))); have r := rng32 (((((0 : Int32) + (own_nz (own_nz (ig &&& (1 : Int32))))) + (own_nz (own_nz (ig &&& (2 : Int32))))) + (own_nz (own_nz (ig &&& (4 : Int32))))) + (own_nz (own_nz (ig &&& (8 : Int32))))); omega
                  have r30 := rng32 (own_nz (own_nz (ig &&& (16 : Int32))))
                  have e21 : (((((((0 : Int32) + (own_nz (own_nz (ig &&& (1 : Int32))))) + (own_nz (own_nz (ig &&& (2 : Int32))))) + (own_nz (own_nz (ig &&& (4 : Int32))))) + (own_nz (own_nz (ig &&& (8 : Int32))))) + (own_nz (own_nz (ig &&& (16 : Int32)))))).toInt = ((((((0 : Int32) + (own_nz (own_nz (ig &&& (1 : Int32))))) + (own_nz (own_nz (ig &&& (2 : Int32))))) + (own_nz (own_nz (ig &&& (4 : Int32))))) + (own_nz (own_nz (ig &&& (8 : Int32)))))).toInt + ((own_nz (own_nz (ig &&& (16 : Int32))))).toInt := by have w := c_iadd (((((0 : Int32) + (own_nz (own_nz (ig &&& (1 : Int32))))) + (own_nz (own_nz (ig &&& (2 : Int32))))) + (own_nz (own_nz (ig &&& (4 : Int32))))) + (own_nz (own_nz (ig &&& (8 : Int32))))) (own_nz (own_nz (ig &&& (16 : Int32)))); have r := rng32 ((((((0 : Int32) + (own_nz (own_nz (ig &&& (1 : Int32))))) + (own_nz (own_nz (ig &&& (2 : Int32))))) + (own_nz (own_nz (ig &&& (4 : Int32))))) + (own_nz (own_nz (ig &&& (8 : Int32))))) + (own_nz (own_nz (ig &&& (16 : Int32))))); omega
                  have r31 := rng32 (own_nz (own_nz (ig &&& (32 : Int32))))
                  have e20 : ((((((((0 : Int32) + (own_nz (own_nz (ig &&& (1 : Int32))))) + (own_nz (own_nz (ig &&& (2 : Int32))))) + (own_nz (own_nz (ig &&& (4 : Int32))))) + (own_nz (own_nz (ig &&& (8 : Int32))))) + (own_nz (own_nz (ig &&& (16 : Int32))))) + (own_nz (own_nz (ig &&& (32 : Int32)))))).toInt = (((((((0 : Int32) + (own_nz (own_nz (ig &&& (1 : Int32))))) + (own_nz (own_nz (ig &&& (2 : Int32))))) + (own_nz (own_nz (ig &&& (4 : Int32))))) + (own_nz (own_nz (ig &&& (8 : Int32))))) + (own_nz (own_nz (ig &&& (16 : Int32)))))).toInt + ((own_nz (own_nz (ig &&& (32 : Int32))))).toInt := by have w := c_iadd ((((((0 : Int32) + (own_nz (own_nz (ig &&& (1 : Int32))))) + (own_nz (own_nz (ig &&& (2 : Int32))))) + (own_nz (own_nz (ig &&& (4 : Int32))))) + (own_nz (own_nz (ig &&& (8 : Int32))))) + (own_nz (own_nz (ig &&& (16 : Int32))))) (own_nz (own_nz (ig &&& (32 : Int32)))); have r := rng32 (((((((0 : Int32) + (own_nz (own_nz (ig &&& (1 : Int32))))) + (own_nz (own_nz (ig &&& (2 : Int32))))) + (own_nz (own_nz (ig &&& (4 : Int32))))) + (own_nz (own_nz (ig &&& (8 : Int32))))) + (own_nz (own_nz (ig &&& (16 : Int32))))) + (own_nz (own_nz (ig &&& (32 : Int32))))); omega
                  have r32 := rng32 (own_nz (own_nz (ig &&& (64 : Int32))))
                  have e19 : (((((((((0 : Int32) + (own_nz (own_nz (ig &&& (1 : Int32))))) + (own_nz (own_nz (ig &&& (2 : Int32))))) + (own_nz (own_nz (ig &&& (4 : Int32))))) + (own_nz (own_nz (ig &&& (8 : Int32))))) + (own_nz (own_nz (ig &&& (16 : Int32))))) + (own_nz (own_nz (ig &&& (32 : Int32))))) + (own_nz (own_nz (ig &&& (64 : Int32)))))).toInt = ((((((((0 : Int32) + (own_nz (own_nz (ig &&& (1 : Int32))))) + (own_nz (own_nz (ig &&& (2 : Int32))))) + (own_nz (own_nz (ig &&& (4 : Int32))))) + (own_nz (own_nz (ig &&& (8 : Int32))))) + (own_nz (own_nz (ig &&& (16 : Int32))))) + (own_nz (own_nz (ig &&& (32 : Int32)))))).toInt + ((own_nz (own_nz (ig &&& (64 : Int32))))).toInt := by have w := c_iadd (((((((0 : Int32) + (own_nz (own_nz (ig &&& (1 : Int32))))) + (own_nz (own_nz (ig &&& (2 : Int32))))) + (own_nz (own_nz (ig &&& (4 : Int32))))) + (own_nz (own_nz (ig &&& (8 : Int32))))) + (own_nz (own_nz (ig &&& (16 : Int32))))) + (own_nz (own_nz (ig &&& (32 : Int32))))) (own_nz (own_nz (ig &&& (64 : Int32)))); have r := rng32 ((((((((0 : Int32) + (own_nz (own_nz (ig &&& (1 : Int32))))) + (own_nz (own_nz (ig &&& (2 : Int32))))) + (own_nz (own_nz (ig &&& (4 : Int32))))) + (own_nz (own_nz (ig &&& (8 : Int32))))) + (own_nz (own_nz (ig &&& (16 : Int32))))) + (own_nz (own_nz (ig &&& (32 : Int32))))) + (own_nz (own_nz (ig &&& (64 : Int32))))); omega
                  have e18 := c_i2l ((((((((0 : Int32) + (own_nz (own_nz (ig &&& (1 : Int32))))) + (own_nz (own_nz (ig &&& (2 : Int32))))) + (own_nz (own_nz (ig &&& (4 : Int32))))) + (own_nz (own_nz (ig &&& (8 : Int32))))) + (own_nz (own_nz (ig &&& (16 : Int32))))) + (own_nz (own_nz (ig &&& (32 : Int32))))) + (own_nz (own_nz (ig &&& (64 : Int32)))))
                  have e33 : (17 : Int64).toInt = 17 := rfl
                  have e17 : ((((((((((((0 : Int32) + (own_nz (own_nz (ig &&& (1 : Int32))))) + (own_nz (own_nz (ig &&& (2 : Int32))))) + (own_nz (own_nz (ig &&& (4 : Int32))))) + (own_nz (own_nz (ig &&& (8 : Int32))))) + (own_nz (own_nz (ig &&& (16 : Int32))))) + (own_nz (own_nz (ig &&& (32 : Int32))))) + (own_nz (own_nz (ig &&& (64 : Int32)))))).toInt64) * (17 : Int64))).toInt = (((((((((((0 : Int32) + (own_nz (own_nz (ig &&& (1 : Int32))))) + (own_nz (own_nz (ig &&& (2 : Int32))))) + (own_nz (own_nz (ig &&& (4 : Int32))))) + (own_nz (own_nz (ig &&& (8 : Int32))))) + (own_nz (own_nz (ig &&& (16 : Int32))))) + (own_nz (own_nz (ig &&& (32 : Int32))))) + (own_nz (own_nz (ig &&& (64 : Int32)))))).toInt64)).toInt * 17 := by have w : (((((((((((((0 : Int32) + (own_nz (own_nz (ig &&& (1 : Int32))))) + (own_nz (own_nz (ig &&& (2 : Int32))))) + (own_nz (own_nz (ig &&& (4 : Int32))))) + (own_nz (own_nz (ig &&& (8 : Int32))))) + (own_nz (own_nz (ig &&& (16 : Int32))))) + (own_nz (own_nz (ig &&& (32 : Int32))))) + (own_nz (own_nz (ig &&& (64 : Int32)))))).toInt64) * (17 : Int64))).toInt - (((((((((((0 : Int32) + (own_nz (own_nz (ig &&& (1 : Int32))))) + (own_nz (own_nz (ig &&& (2 : Int32))))) + (own_nz (own_nz (ig &&& (4 : Int32))))) + (own_nz (own_nz (ig &&& (8 : Int32))))) + (own_nz (own_nz (ig &&& (16 : Int32))))) + (own_nz (own_nz (ig &&& (32 : Int32))))) + (own_nz (own_nz (ig &&& (64 : Int32)))))).toInt64)).toInt * 17) % 18446744073709551616 = 0 := c_lmul ((((((((((0 : Int32) + (own_nz (own_nz (ig &&& (1 : Int32))))) + (own_nz (own_nz (ig &&& (2 : Int32))))) + (own_nz (own_nz (ig &&& (4 : Int32))))) + (own_nz (own_nz (ig &&& (8 : Int32))))) + (own_nz (own_nz (ig &&& (16 : Int32))))) + (own_nz (own_nz (ig &&& (32 : Int32))))) + (own_nz (own_nz (ig &&& (64 : Int32)))))).toInt64) (17 : Int64); have r := rng64 (((((((((((0 : Int32) + (own_nz (own_nz (ig &&& (1 : Int32))))) + (own_nz (own_nz (ig &&& (2 : Int32))))) + (own_nz (own_nz (ig &&& (4 : Int32))))) + (own_nz (own_nz (ig &&& (8 : Int32))))) + (own_nz (own_nz (ig &&& (16 : Int32))))) + (own_nz (own_nz (ig &&& (32 : Int32))))) + (own_nz (own_nz (ig &&& (64 : Int32)))))).toInt64) * (17 : Int64)); omega
                  have e36 : (((7 : Int32) - ((((((((0 : Int32) + (own_nz (own_nz (ig &&& (1 : Int32))))) + (own_nz (own_nz (ig &&& (2 : Int32))))) + (own_nz (own_nz (ig &&& (4 : Int32))))) + (own_nz (own_nz (ig &&& (8 : Int32))))) + (own_nz (own_nz (ig &&& (16 : Int32))))) + (own_nz (own_nz (ig &&& (32 : Int32))))) + (own_nz (own_nz (ig &&& (64 : Int32))))))).toInt = ((7 : Int32)).toInt - (((((((((0 : Int32) + (own_nz (own_nz (ig &&& (1 : Int32))))) + (own_nz (own_nz (ig &&& (2 : Int32))))) + (own_nz (own_nz (ig &&& (4 : Int32))))) + (own_nz (own_nz (ig &&& (8 : Int32))))) + (own_nz (own_nz (ig &&& (16 : Int32))))) + (own_nz (own_nz (ig &&& (32 : Int32))))) + (own_nz (own_nz (ig &&& (64 : Int32)))))).toInt := by have w := c_isub (7 : Int32) ((((((((0 : Int32) + (own_nz (own_nz (ig &&& (1 : Int32))))) + (own_nz (own_nz (ig &&& (2 : Int32))))) + (own_nz (own_nz (ig &&& (4 : Int32))))) + (own_nz (own_nz (ig &&& (8 : Int32))))) + (own_nz (own_nz (ig &&& (16 : Int32))))) + (own_nz (own_nz (ig &&& (32 : Int32))))) + (own_nz (own_nz (ig &&& (64 : Int32))))); have r := rng32 ((7 : Int32) - ((((((((0 : Int32) + (own_nz (own_nz (ig &&& (1 : Int32))))) + (own_nz (own_nz (ig &&& (2 : Int32))))) + (own_nz (own_nz (ig &&& (4 : Int32))))) + (own_nz (own_nz (ig &&& (8 : Int32))))) + (own_nz (own_nz (ig &&& (16 : Int32))))) + (own_nz (own_nz (ig &&& (32 : Int32))))) + (own_nz (own_nz (ig &&& (64 : Int32)))))); omega
                  have e35 := c_i2l ((7 : Int32) - ((((((((0 : Int32) + (own_nz (own_nz (ig &&& (1 : Int32))))) + (own_nz (own_nz (ig &&& (2 : Int32))))) + (own_nz (own_nz (ig &&& (4 : Int32))))) + (own_nz (own_nz (ig &&& (8 : Int32))))) + (own_nz (own_nz (ig &&& (16 : Int32))))) + (own_nz (own_nz (ig &&& (32 : Int32))))) + (own_nz (own_nz (ig &&& (64 : Int32))))))
                  have e37 : (18 : Int64).toInt = 18 := rfl
                  have e34 : ((((((7 : Int32) - ((((((((0 : Int32) + (own_nz (own_nz (ig &&& (1 : Int32))))) + (own_nz (own_nz (ig &&& (2 : Int32))))) + (own_nz (own_nz (ig &&& (4 : Int32))))) + (own_nz (own_nz (ig &&& (8 : Int32))))) + (own_nz (own_nz (ig &&& (16 : Int32))))) + (own_nz (own_nz (ig &&& (32 : Int32))))) + (own_nz (own_nz (ig &&& (64 : Int32))))))).toInt64) * (18 : Int64))).toInt = (((((7 : Int32) - ((((((((0 : Int32) + (own_nz (own_nz (ig &&& (1 : Int32))))) + (own_nz (own_nz (ig &&& (2 : Int32))))) + (own_nz (own_nz (ig &&& (4 : Int32))))) + (own_nz (own_nz (ig &&& (8 : Int32))))) + (own_nz (own_nz (ig &&& (16 : Int32))))) + (own_nz (own_nz (ig &&& (32 : Int32))))) + (own_nz (own_nz (ig &&& (64 : Int32))))))).toInt64)).toInt * 18 := by have w : (((((((7 : Int32) - ((((((((0 : Int32) + (own_nz (own_nz (ig &&& (1 : Int32))))) + (own_nz (own_nz (ig &&& (2 : Int32))))) + (own_nz (own_nz (ig &&& (4 : Int32))))) + (own_nz (own_nz (ig &&& (8 : Int32))))) + (own_nz (own_nz (ig &&& (16 : Int32))))) + (own_nz (own_nz (ig &&& (32 : Int32))))) + (own_nz (own_nz (ig &&& (64 : Int32))))))).toInt64) * (18 : Int64))).toInt - (((((7 : Int32) - ((((((((0 : Int32) + (own_nz (own_nz (ig &&& (1 : Int32))))) + (own_nz (own_nz (ig &&& (2 : Int32))))) + (own_nz (own_nz (ig &&& (4 : Int32))))) + (own_nz (own_nz (ig &&& (8 : Int32))))) + (own_nz (own_nz (ig &&& (16 : Int32))))) + (own_nz (own_nz (ig &&& (32 : Int32))))) + (own_nz (own_nz (ig &&& (64 : Int32))))))).toInt64)).toInt * 18) % 18446744073709551616 = 0 := c_lmul ((((7 : Int32) - ((((((((0 : Int32) + (own_nz (own_nz (ig &&& (1 : Int32))))) + (own_nz (own_nz (ig &&& (2 : Int32))))) + (own_nz (own_nz (ig &&& (4 : Int32))))) + (own_nz (own_nz (ig &&& (8 : Int32))))) + (own_nz (own_nz (ig &&& (16 : Int32))))) + (own_nz (own_nz (ig &&& (32 : Int32))))) + (own_nz (own_nz (ig &&& (64 : Int32))))))).toInt64) (18 : Int64); have r := rng64 (((((7 : Int32) - ((((((((0 : Int32) + (own_nz (own_nz (ig &&& (1 : Int32))))) + (own_nz (own_nz (ig &&& (2 : Int32))))) + (own_nz (own_nz (ig &&& (4 : Int32))))) + (own_nz (own_nz (ig &&& (8 : Int32))))) + (own_nz (own_nz (ig &&& (16 : Int32))))) + (own_nz (own_nz (ig &&& (32 : Int32))))) + (own_nz (own_nz (ig &&& (64 : Int32))))))).toInt64) * (18 : Int64)); omega
                  have e16 : (((((((((((((0 : Int32) + (own_nz (own_nz (ig &&& (1 : Int32))))) + (own_nz (own_nz (ig &&& (2 : Int32))))) + (own_nz (own_nz (ig &&& (4 : Int32))))) + (own_nz (own_nz (ig &&& (8 : Int32))))) + (own_nz (own_nz (ig &&& (16 : Int32))))) + (own_nz (own_nz (ig &&& (32 : Int32))))) + (own_nz (own_nz (ig &&& (64 : Int32)))))).toInt64) * (17 : Int64)) + (((((7 : Int32) - ((((((((0 : Int32) + (own_nz (own_nz (ig &&& (1 : Int32))))) + (own_nz (own_nz (ig &&& (2 : Int32))))) + (own_nz (own_nz (ig &&& (4 : Int32))))) + (own_nz (own_nz (ig &&& (8 : Int32))))) + (own_nz (own_nz (ig &&& (16 : Int32))))) + (own_nz (own_nz (ig &&& (32 : Int32))))) + (own_nz (own_nz (ig &&& (64 : Int32))))))).toInt64) * (18 : Int64)))).toInt = ((((((((((((0 : Int32) + (own_nz (own_nz (ig &&& (1 : Int32))))) + (own_nz (own_nz (ig &&& (2 : Int32))))) + (own_nz (own_nz (ig &&& (4 : Int32))))) + (own_nz (own_nz (ig &&& (8 : Int32))))) + (own_nz (own_nz (ig &&& (16 : Int32))))) + (own_nz (own_nz (ig &&& (32 : Int32))))) + (own_nz (own_nz (ig &&& (64 : Int32)))))).toInt64) * (17 : Int64))).toInt + ((((((7 : Int32) - ((((((((0 : Int32) + (own_nz (own_nz (ig &&& (1 : Int32))))) + (own_nz (own_nz (ig &&& (2 : Int32))))) + (own_nz (own_nz (ig &&& (4 : Int32))))) + (own_nz (own_nz (ig &&& (8 : Int32))))) + (own_nz (own_nz (ig &&& (16 : Int32))))) + (own_nz (own_nz (ig &&& (32 : Int32))))) + (own_nz (own_nz (ig &&& (64 : Int32))))))).toInt64) * (18 : Int64))).toInt := by have w := c_ladd (((((((((((0 : Int32) + (own_nz (own_nz (ig &&& (1 : Int32))))) + (own_nz (own_nz (ig &&& (2 : Int32))))) + (own_nz (own_nz (ig &&& (4 : Int32))))) + (own_nz (own_nz (ig &&& (8 : Int32))))) + (own_nz (own_nz (ig &&& (16 : Int32))))) + (own_nz (own_nz (ig &&& (32 : Int32))))) + (own_nz (own_nz (ig &&& (64 : Int32)))))).toInt64) * (17 : Int64)) (((((7 : Int32) - ((((((((0 : Int32) + (own_nz (own_nz (ig &&& (1 : Int32))))) + (own_nz (own_nz (ig &&& (2 : Int32))))) + (own_nz (own_nz (ig &&& (4 : Int32))))) + (own_nz (own_nz (ig &&& (8 : Int32))))) + (own_nz (own_nz (ig &&& (16 : Int32))))) + (own_nz (own_nz (ig &&& (32 : Int32))))) + (own_nz (own_nz (ig &&& (64 : Int32))))))).toInt64) * (18 : Int64)); have r := rng64 ((((((((((((0 : Int32) + (own_nz (own_nz (ig &&& (1 : Int32))))) + (own_nz (own_nz (ig &&& (2 : Int32))))) + (own_nz (own_nz (ig &&& (4 : Int32))))) + (own_nz (own_nz (ig &&& (8 : Int32))))) + (own_nz (own_nz (ig &&& (16 : Int32))))) + (own_nz (own_nz (ig &&& (32 : Int32))))) + (own_nz (own_nz (ig &&& (64 : Int32)))))).toInt64) * (17 : Int64)) + (((((7 : Int32) - ((((((((0 : Int32) + (own_nz (own_nz (ig &&& (1 : Int32))))) + (own_nz (own_nz (ig &&& (2 : Int32))))) + (own_nz (own_nz (ig &&& (4 : Int32))))) + (own_nz (own_nz (ig &&& (8 : Int32))))) + (own_nz (own_nz (ig &&& (16 : Int32))))) + (own_nz (own_nz (ig &&& (32 : Int32))))) + (own_nz (own_nz (ig &&& (64 : Int32))))))).toInt64) * (18 : Int64))); omega
                  have r39 := rng32 (own_mx (0 : Int32) ((7 : Int32) - (1 : Int32)))
                  have e38 := c_i2l (own_mx (0 : Int32) ((7 : Int32) - (1 : Int32)))
                  have e15 : ((((((((((((((0 : Int32) + (own_nz (own_nz (ig &&& (1 : Int32))))) + (own_nz (own_nz (ig &&& (2 : Int32))))) + (own_nz (own_nz (ig &&& (4 : Int32))))) + (own_nz (own_nz (ig &&& (8 : Int32))))) + (own_nz (own_nz (ig &&& (16 : Int32))))) + (own_nz (own_nz (ig &&& (32 : Int32))))) + (own_nz (own_nz (ig &&& (64 : Int32)))))).toInt64) * (17 : Int64)) + (((((7 : Int32) - ((((((((0 : Int32) + (own_nz (own_nz (ig &&& (1 : Int32))))) + (own_nz (own_nz (ig &&& (2 : Int32))))) + (own_nz (own_nz (ig &&& (4 : Int32))))) + (own_nz (own_nz (ig &&& (8 : Int32))))) + (own_nz (own_nz (ig &&& (16 : Int32))))) + (own_nz (own_nz (ig &&& (32 : Int32))))) + (own_nz (own_nz (ig &&& (64 : Int32))))))).toInt64) * (18 : Int64))) + (((own_mx (0 : Int32) ((7 : Int32) - (1 : Int32)))).toInt64))).toInt = (((((((((((((0 : Int32) + (own_nz (own_nz (ig &&& (1 : Int32))))) + (own_nz (own_nz (ig &&& (2 : Int32))))) + (own_nz (own_nz (ig &&& (4 : Int32))))) + (own_nz (own_nz (ig &&& (8 : Int32))))) + (own_nz (own_nz (ig &&& (16 : Int32))))) + (own_nz (own_nz (ig &&& (32 : Int32))))) + (own_nz (own_nz (ig &&& (64 : Int32)))))).toInt64) * (17 : Int64)) + (((((7 : Int32) - ((((((((0 : Int32) + (own_nz (own_nz (ig &&& (1 : Int32))))) + (own_nz (own_nz (ig &&& (2 : Int32))))) + (own_nz (own_nz (ig &&& (4 : Int32))))) + (own_nz (own_nz (ig &&& (8 : Int32))))) + (own_nz (own_nz (ig &&& (16 : Int32))))) + (own_nz (own_nz (ig &&& (32 : Int32))))) + (own_nz (own_nz (ig &&& (64 : Int32))))))).toInt64) * (18 : Int64)))).toInt + ((((own_mx (0 : Int32) ((7 : Int32) - (1 : Int32)))).toInt64)).toInt := by have w := c_ladd ((((((((((((0 : Int32) + (own_nz (own_nz (ig &&& (1 : Int32))))) + (own_nz (own_nz (ig &&& (2 : Int32))))) + (own_nz (own_nz (ig &&& (4 : Int32))))) + (own_nz (own_nz (ig &&& (8 : Int32))))) + (own_nz (own_nz (ig &&& (16 : Int32))))) + (own_nz (own_nz (ig &&& (32 : Int32))))) + (own_nz (own_nz (ig &&& (64 : Int32)))))).toInt64) * (17 : Int64)) + (((((7 : Int32) - ((((((((0 : Int32) + (own_nz (own_nz (ig &&& (1 : Int32))))) + (own_nz (own_nz (ig &&& (2 : Int32))))) + (own_nz (own_nz (ig &&& (4 : Int32))))) + (own_nz (own_nz (ig &&& (8 : Int32))))) + (own_nz (own_nz (ig &&& (16 : Int32))))) + (own_nz (own_nz (ig &&& (32 : Int32))))) + (own_nz (own_nz (ig &&& (64 : Int32))))))).toInt64) * (18 : Int64))) (((own_mx (0 : Int32) ((7 : Int32) - (1 : Int32)))).toInt64); have r := rng64 (((((((((((((0 : Int32) + (own_nz (own_nz (ig &&& (1 : Int32))))) + (own_nz (own_nz (ig &&& (2 : Int32))))) + (own_nz (own_nz (ig &&& (4 : Int32))))) + (own_nz (own_nz (ig &&& (8 : Int32))))) + (own_nz (own_nz (ig &&& (16 : Int32))))) + (own_nz (own_nz (ig &&& (32 : Int32))))) + (own_nz (own_nz (ig &&& (64 : Int32)))))).toInt64) * (17 : Int64)) + (((((7 : Int32) - ((((((((0 : Int32) + (own_nz (own_nz (ig &&& (1 : Int32))))) + (own_nz (own_nz (ig &&& (2 : Int32))))) + (own_nz (own_nz (ig &&& (4 : Int32))))) + (own_nz (own_nz (ig &&& (8 : Int32))))) + (own_nz (own_nz (ig &&& (16 : Int32))))) + (own_nz (own_nz (ig &&& (32 : Int32))))) + (own_nz (own_nz (ig &&& (64 : Int32))))))).toInt64) * (18 : Int64))) + (((own_mx (0 : Int32) ((7 : Int32) - (1 : Int32)))).toInt64)); omega
                  have e13 : (((16 : Int64) + (((((((((((((0 : Int32) + (own_nz (own_nz (ig &&& (1 : Int32))))) + (own_nz (own_nz (ig &&& (2 : Int32))))) + (own_nz (own_nz (ig &&& (4 : Int32))))) + (own_nz (own_nz (ig &&& (8 : Int32))))) + (own_nz (own_nz (ig &&& (16 : Int32))))) + (own_nz (own_nz (ig &&& (32 : Int32))))) + (own_nz (own_nz (ig &&& (64 : Int32)))))).toInt64) * (17 : Int64)) + (((((7 : Int32) - ((((((((0 : Int32) + (own_nz (own_nz (ig &&& (1 : Int32))))) + (own_nz (own_nz (ig &&& (2 : Int32))))) + (own_nz (own_nz (ig &&& (4 : Int32))))) + (own_nz (own_nz (ig &&& (8 : Int32))))) + (own_nz (own_nz (ig &&& (16 : Int32))))) + (own_nz (own_nz (ig &&& (32 : Int32))))) + (own_nz (own_nz (ig &&& (64 : Int32))))))).toInt64) * (18 : Int64))) + (((own_mx (0 : Int32) ((7 : Int32) - (1 : Int32)))).toInt64)))).toInt = ((16 : Int64)).toInt + ((((((((((((((0 : Int32) + (own_nz (own_nz (ig &&& (1 : Int32))))) + (own_nz (own_nz (ig &&& (2 : Int32))))) + (own_nz (own_nz (ig &&& (4 : Int32))))) + (own_nz (own_nz (ig &&& (8 : Int32))))) + (own_nz (own_nz (ig &&& (16 : Int32))))) + (own_nz (own_nz (ig &&& (32 : Int32))))) + (own_nz (own_nz (ig &&& (64 : Int32)))))).toInt64) * (17 : Int64)) + (((((7 : Int32) - ((((((((0 : Int32) + (own_nz (own_nz (ig &&& (1 : Int32))))) + (own_nz (own_nz (ig &&& (2 : Int32))))) + (own_nz (own_nz (ig &&& (4 : Int32))))) + (own_nz (own_nz (ig &&& (8 : Int32))))) + (own_nz (own_nz (ig &&& (16 : Int32))))) + (own_nz (own_nz (ig &&& (32 : Int32))))) + (own_nz (own_nz (ig &&& (64 : Int32))))))).toInt64) * (18 : Int64))) + (((own_mx (0 : Int32) ((7 : Int32) - (1 : Int32)))).toInt64))).toInt := by have w := c_ladd (16 : Int64) (((((((((((((0 : Int32) + (own_nz (own_nz (ig &&& (1 : Int32))))) + (own_nz (own_nz (ig &&& (2 : Int32))))) + (own_nz (own_nz (ig &&& (4 : Int32))))) + (own_nz (own_nz (ig &&& (8 : Int32))))) + (own_nz (own_nz (ig &&& (16 : Int32))))) + (own_nz (own_nz (ig &&& (32 : Int32))))) + (own_nz (own_nz (ig &&& (64 : Int32)))))).toInt64) * (17 : Int64)) + (((((7 : Int32) - ((((((((0 : Int32) + (own_nz (own_nz (ig &&& (1 : Int32))))) + (own_nz (own_nz (ig &&& (2 : Int32))))) + (own_nz (own_nz (ig &&& (4 : Int32))))) + (own_nz (own_nz (ig &&& (8 : Int32))))) + (own_nz (own_nz (ig &&& (16 : Int32))))) + (own_nz (own_nz (ig &&& (32 : Int32))))) + (own_nz (own_nz (ig &&& (64 : Int32))))))).toInt64) * (18 : Int64))) + (((own_mx (0 : Int32) ((7 : Int32) - (1 : Int32)))).toInt64)); have r := rng64 ((16 : Int64) + (((((((((((((0 : Int32) + (own_nz (own_nz (ig &&& (1 : Int32))))) + (own_nz (own_nz (ig &&& (2 : Int32))))) + (own_nz (own_nz (ig &&& (4 : Int32))))) + (own_nz (own_nz (ig &&& (8 : Int32))))) + (own_nz (own_nz (ig &&& (16 : Int32))))) + (own_nz (own_nz (ig &&& (32 : Int32))))) + (own_nz (own_nz (ig &&& (64 : Int32)))))).toInt64) * (17 : Int64)) + (((((7 : Int32) - ((((((((0 : Int32) + (own_nz (own_nz (ig &&& (1 : Int32))))) + (own_nz (own_nz (ig &&& (2 : Int32))))) + (own_nz (own_nz (ig &&& (4 : Int32))))) + (own_nz (own_nz (ig &&& (8 : Int32))))) + (own_nz (own_nz (ig &&& (16 : Int32))))) + (own_nz (own_nz (ig &&& (32 : Int32))))) + (own_nz (own_nz (ig &&& (64 : Int32))))))).toInt64) * (18 : Int64))) + (((own_mx (0 : Int32) ((7 : Int32) - (1 : Int32)))).toInt64))); omega
                  have e40 : (2 : Int64).toInt = 2 := rfl
                  have e12 : ((((16 : Int64) + (((((((((((((0 : Int32) + (own_nz (own_nz (ig &&& (1 : Int32))))) + (own_nz (own_nz (ig &&& (2 : Int32))))) + (own_nz (own_nz (ig &&& (4 : Int32))))) + (own_nz (own_nz (ig &&& (8 : Int32))))) + (own_nz (own_nz (ig &&& (16 : Int32))))) + (own_nz (own_nz (ig &&& (32 : Int32))))) + (own_nz (own_nz (ig &&& (64 : Int32)))))).toInt64) * (17 : Int64)) + (((((7 : Int32) - ((((((((0 : Int32) + (own_nz (own_nz (ig &&& (1 : Int32))))) + (own_nz (own_nz (ig &&& (2 : Int32))))) + (own_nz (own_nz (ig &&& (4 : Int32))))) + (own_nz (own_nz (ig &&& (8 : Int32))))) + (own_nz (own_nz (ig &&& (16 : Int32))))) + (own_nz (own_nz (ig &&& (32 : Int32))))) + (own_nz (own_nz (ig &&& (64 : Int32))))))).toInt64) * (18 : Int64))) + (((own_mx (0 : Int32) ((7 : Int32) - (1 : Int32)))).toInt64))) + (2 : Int64))).toInt = (((16 : Int64) + (((((((((((((0 : Int32) + (own_nz (own_nz (ig &&& (1 : Int32))))) + (own_nz (own_nz (ig &&& (2 : Int32))))) + (own_nz (own_nz (ig &&& (4 : Int32))))) + (own_nz (own_nz (ig &&& (8 : Int32))))) + (own_nz (own_nz (ig &&& (16 : Int32))))) + (own_nz (own_nz (ig &&& (32 : Int32))))) + (own_nz (own_nz (ig &&& (64 : Int32)))))).toInt64) * (17 : Int64)) + (((((7 : Int32) - ((((((((0 : Int32) + (own_nz (own_nz (ig &&& (1 : Int32))))) + (own_nz (own_nz (ig &&& (2 : Int32))))) + (own_nz (own_nz (ig &&& (4 : Int32))))) + (own_nz (own_nz (ig &&& (8 : Int32))))) + (own_nz (own_nz (ig &&& (16 : Int32))))) + (own_nz (own_nz (ig &&& (32 : Int32))))) + (own_nz (own_nz (ig &&& (64 : Int32))))))).toInt64) * (18 : Int64))) + (((own_mx (0 : Int32) ((7 : Int32) - (1 : Int32)))).toInt64)))).toInt + ((2 : Int64)).toInt := by have w := c_ladd ((16 : Int64) + (((((((((((((0 : Int32) + (own_nz (own_nz (ig &&& (1 : Int32))))) + (own_nz (own_nz (ig &&& (2 : Int32))))) + (own_nz (own_nz (ig &&& (4 : Int32))))) + (own_nz (own_nz (ig &&& (8 : Int32))))) + (own_nz (own_nz (ig &&& (16 : Int32))))) + (own_nz (own_nz (ig &&& (32 : Int32))))) + (own_nz (own_nz (ig &&& (64 : Int32)))))).toInt64) * (17 : Int64)) + (((((7 : Int32) - ((((((((0 : Int32) + (own_nz (own_nz (ig &&& (1 : Int32))))) + (own_nz (own_nz (ig &&& (2 : Int32))))) + (own_nz (own_nz (ig &&& (4 : Int32))))) + (own_nz (own_nz (ig &&& (8 : Int32))))) + (own_nz (own_nz (ig &&& (16 : Int32))))) + (own_nz (own_nz (ig &&& (32 : Int32))))) + (own_nz (own_nz (ig &&& (64 : Int32))))))).toInt64) * (18 : Int64))) + (((own_mx (0 : Int32) ((7 : Int32) - (1 : Int32)))).toInt64))) (2 : Int64); have r := rng64 (((16 : Int64) + (((((((((((((0 : Int32) + (own_nz (own_nz (ig &&& (1 : Int32))))) + (own_nz (own_nz (ig &&& (2 : Int32))))) + (own_nz (own_nz (ig &&& (4 : Int32))))) + (own_nz (own_nz (ig &&& (8 : Int32))))) + (own_nz (own_nz (ig &&& (16 : Int32))))) + (own_nz (own_nz (ig &&& (32 : Int32))))) + (own_nz (own_nz (ig &&& (64 : Int32)))))).toInt64) * (17 : Int64)) + (((((7 : Int32) - ((((((((0 : Int32) + (own_nz (own_nz (ig &&& (1 : Int32))))) + (own_nz (own_nz (ig &&& (2 : Int32))))) + (own_nz (own_nz (ig &&& (4 : Int32))))) + (own_nz (own_nz (ig &&& (8 : Int32))))) + (own_nz (own_nz (ig &&& (16 : Int32))))) + (own_nz (own_nz (ig &&& (32 : Int32))))) + (own_nz (own_nz (ig &&& (64 : Int32))))))).toInt64) * (18 : Int64))) + (((own_mx (0 : Int32) ((7 : Int32) - (1 : Int32)))).toInt64))) + (2 : Int64)); omega
                  have r48 := rng64 (own_len (own_nz (ig &&& (1 : Int32))) (1 : Int32))
                  have e47 : (((18 : Int64) + (own_len (own_nz (ig &&& (1 : Int32))) (1 : Int32)))).toInt = ((18 : Int64)).toInt + ((own_len (own_nz (ig &&& (1 : Int32))) (1 : Int32))).toInt := by have w := c_ladd (18 : Int64) (own_len (own_nz (ig &&& (1 : Int32))) (1 : Int32)); have r := rng64 ((18 : Int64) + (own_len (own_nz (ig &&& (1 : Int32))) (1 : Int32))); omega
                  have r49 := rng64 (own_len (own_nz (ig &&& (2 : Int32))) (0 : Int32))
                  have e46 : ((((18 : Int64) + (own_len (own_nz (ig &&& (1 : Int32))) (1 : Int32))) + (own_len (own_nz (ig &&& (2 : Int32))) (0 : Int32)))).toInt = (((18 : Int64) + (own_len (own_nz (ig &&& (1 : Int32))) (1 : Int32)))).toInt + ((own_len (own_nz (ig &&& (2 : Int32))) (0 : Int32))).toInt := by have w := c_ladd ((18 : Int64) + (own_len (own_nz (ig &&& (1 : Int32))) (1 : Int32))) (own_len (own_nz (ig &&& (2 : Int32))) (0 : Int32)); have r := rng64 (((18 : Int64) + (own_len (own_nz (ig &&& (1 : Int32))) (1 : Int32))) + (own_len (own_nz (ig &&& (2 : Int32))) (0 : Int32))); omega
                  have r50 := rng64 (own_len (own_nz (ig &&& (4 : Int32))) (0 : Int32))
                  have e45 : (((((18 : Int64) + (own_len (own_nz (ig &&& (1 : Int32))) (1 : Int32))) + (own_len (own_nz (ig &&& (2 : Int32))) (0 : Int32))) + (own_len (own_nz (ig &&& (4 : Int32))) (0 : Int32)))).toInt = ((((18 : Int64) + (own_len (own_nz (ig &&& (1 : Int32))) (1 : Int32))) + (own_len (own_nz (ig &&& (2 : Int32))) (0 : Int32)))).toInt + ((own_len (own_nz (ig &&& (4 : Int32))) (0 : Int32))).toInt := by have w := c_ladd (((18 : Int64) + (own_len (own_nz (ig &&& (1 : Int32))) (1 : Int32))) + (own_len (own_nz (ig &&& (2 : Int32))) (0 : Int32))) (own_len (own_nz (ig &&& (4 : Int32))) (0 : Int32)); have r := rng64 ((((18 : Int64) + (own_len (own_nz (ig &&& (1 : Int32))) (1 : Int32))) + (own_len (own_nz (ig &&& (2 : Int32))) (0 : Int32))) + (own_len (own_nz (ig &&& (4 : Int32))) (0 : Int32))); omega
                  have r51 := rng64 (own_len (own_nz (ig &&& (8 : Int32))) (0 : Int32))
                  have e44 : ((((((18 : Int64) + (own_len (own_nz (ig &&& (1 : Int32))) (1 : Int32))) + (own_len (own_nz (ig &&& (2 : Int32))) (0 : Int32))) + (own_len (own_nz (ig &&& (4 : Int32))) (0 : Int32))) + (own_len (own_nz (ig &&& (8 : Int32))) (0 : Int32)))).toInt = (((((18 : Int64) + (own_len (own_nz (ig &&& (1 : Int32))) (1 : Int32))) + (own_len (own_nz (ig &&& (2 : Int32))) (0 : Int32))) + (own_len (own_nz (ig &&& (4 : Int32))) (0 : Int32)))).toInt + ((own_len (own_nz (ig &&& (8 : Int32))) (0 : Int32))).toInt := by have w := c_ladd ((((18 : Int64) + (own_len (own_nz (ig &&& (1 : Int32))) (1 : Int32))) + (own_len (own_nz (ig &&& (2 : Int32))) (0 : Int32))) + (own_len (own_nz (ig &&& (4 : Int32))) (0 : Int32))) (own_len (own_nz (ig &&& (8 : Int32))) (0 : Int32)); have r := rng64 (((((18 : Int64) + (own_len (own_nz (ig &&& (1 : Int32))) (1 : Int32))) + (own_len (own_nz (ig &&& (2 : Int32))) (0 : Int32))) + (own_len (own_nz (ig &&& (4 : Int32))) (0 : Int32))) + (own_len (own_nz (ig &&& (8 : Int32))) (0 : Int32))); omega
                  have r52 := rng64 (own_len (own_nz (ig &&& (16 : Int32))) (0 : Int32))
                  have e43 : (((((((18 : Int64) + (own_len (own_nz (ig &&& (1 : Int32))) (1 : Int32))) + (own_len (own_nz (ig &&& (2 : Int32))) (0 : Int32))) + (own_len (own_nz (ig &&& (4 : Int32))) (0 : Int32))) + (own_len (own_nz (ig &&& (8 : Int32))) (0 : Int32))) + (own_len (own_nz (ig &&& (16 : Int32))) (0 : Int32)))).toInt = ((((((18 : Int64) + (own_len (own_nz (ig &&& (1 : Int32))) (1 : Int32))) + (own_len (own_nz (ig &&& (2 : Int32))) (0 : Int32))) + (own_len (own_nz (ig &&& (4 : Int32))) (0 : Int32))) + (own_len (own_nz (ig &&& (8 : Int32))) (0 : Int32)))).toInt + ((own_len (own_nz (ig &&& (16 : Int32))) (0 : Int32))).toInt := by have w := c_ladd (((((18 : Int64) + (own_len (own_nz (ig &&& (1 : Int32))) (1 : Int32))) + (own_len (own_nz (ig &&& (2 : Int32))) (0 : Int32))) + (own_len (own_nz (ig &&& (4 : Int32))) (0 : Int32))) + (own_len (own_nz (ig &&& (8 : Int32))) (0 : Int32))) (own_len (own_nz (ig &&& (16 : Int32))) (0 : Int32)); have r := rng64 ((((((18 : Int64) + (own_len (own_nz (ig &&& (1 : Int32))) (1 : Int32))) + (own_len (own_nz (ig &&& (2 : Int32))) (0 : Int32))) + (own_len (own_nz (ig &&& (4 : Int32))) (0 : Int32))) + (own_len (own_nz (ig &&& (8 : Int32))) (0 : Int32))) + (own_len (own_nz (ig &&& (16 : Int32))) (0 : Int32))); omega
                  have r53 := rng64 (own_len (own_nz (ig &&& (32 : Int32))) (0 : Int32))
                  have e42 : ((((((((18 : Int64) + (own_len (own_nz (ig &&& (1 : Int32))) (1 : Int32))) + (own_len (own_nz (ig &&& (2 : Int32))) (0 : Int32))) + (own_len (own_nz (ig &&& (4 : Int32))) (0 : Int32))) + (own_len (own_nz (ig &&& (8 : Int32))) (0 : Int32))) + (own_len (own_nz (ig &&& (16 : Int32))) (0 : Int32))) + (own_len (own_nz (ig &&& (32 : Int32))) (0 : Int32)))).toInt = (((((((18 : Int64) + (own_len (own_nz (ig &&& (1 : Int32))) (1 : Int32))) + (own_len (own_nz (ig &&& (2 : Int32))) (0 : Int32))) + (own_len (own_nz (ig &&& (4 : Int32))) (0 : Int32))) + (own_len (own_nz (ig &&& (8 : Int32))) (0 : Int32))) + (own_len (own_nz (ig &&& (16 : Int32))) (0 : Int32)))).toInt + ((own_len (own_nz (ig &&& (32 : Int32))) (0 : Int32))).toInt := by have w := c_ladd ((((((18 : Int64) + (own_len (own_nz (ig &&& (1 : Int32))) (1 : Int32))) + (own_len (own_nz (ig &&& (2 : Int32))) (0 : Int32))) + (own_len (own_nz (ig &&& (4 : Int32))) (0 : Int32))) + (own_len (own_nz (ig &&& (8 : Int32))) (0 : Int32))) + (own_len (own_nz (ig &&& (16 : Int32))) (0 : Int32))) (own_len (own_nz (ig &&& (32 : Int32))) (0 : Int32)); have r := rng64 (((((((18 : Int64) + (own_len (own_nz (ig &&& (1 : Int32))) (1 : Int32))) + (own_len (own_nz (ig &&& (2 : Int32))) (0 : Int32))) + (own_len (own_nz (ig &&& (4 : Int32))) (0 : Int32))) + (own_len (own_nz (ig &&& (8 : Int32))) (0 : Int32))) + (own_len (own_nz (ig &&& (16 : Int32))) (0 : Int32))) + (own_len (own_nz (ig &&& (32 : Int32))) (0 : Int32))); omega
                  have r54 := rng64 (own_len (own_nz (ig &&& (64 : Int32))) (0 : Int32))
                  have e41 : (((((((((18 : Int64) + (own_len (own_nz (ig &&& (1 : Int32))) (1 : Int32))) + (own_len (own_nz (ig &&& (2 : Int32))) (0 : Int32))) + (own_len (own_nz (ig &&& (4 : Int32))) (0 : Int32))) + (own_len (own_nz (ig &&& (8 : Int32))) (0 : Int32))) + (own_len (own_nz (ig &&& (16 : Int32))) (0 : Int32))) + (own_len (own_nz (ig &&& (32 : Int32))) (0 : Int32))) + (own_len (own_nz (ig &&& (64 : Int32))) (0 : Int32)))).toInt = ((((((((18 : Int64) + (own_len (own_nz (ig &&& (1 : Int32))) (1 : Int32))) + (own_len (own_nz (ig &&& (2 : Int32))) (0 : Int32))) + (own_len (own_nz (ig &&& (4 : Int32))) (0 : Int32))) + (own_len (own_nz (ig &&& (8 : Int32))) (0 : Int32))) + (own_len (own_nz (ig &&& (16 : Int32))) (0 : Int32))) + (own_len (own_nz (ig &&& (32 : Int32))) (0 : Int32)))).toInt + ((own_len (own_nz (ig &&& (64 : Int32))) (0 : Int32))).toInt := by have w := c_ladd (((((((18 : Int64) + (own_len (own_nz (ig &&& (1 : Int32))) (1 : Int32))) + (own_len (own_nz (ig &&& (2 : Int32))) (0 : Int32))) + (own_len (own_nz (ig &&& (4 : Int32))) (0 : Int32))) + (own_len (own_nz (ig &&& (8 : Int32))) (0 : Int32))) + (own_len (own_nz (ig &&& (16 : Int32))) (0 : Int32))) + (own_len (own_nz (ig &&& (32 : Int32))) (0 : Int32))) (own_len (own_nz (ig &&& (64 : Int32))) (0 : Int32)); have r := rng64 ((((((((18 : Int64) + (own_len (own_nz (ig &&& (1 : Int32))) (1 : Int32))) + (own_len (own_nz (ig &&& (2 : Int32))) (0 : Int32))) + (own_len (own_nz (ig &&& (4 : Int32))) (0 : Int32))) + (own_len (own_nz (ig &&& (8 : Int32))) (0 : Int32))) + (own_len (own_nz (ig &&& (16 : Int32))) (0 : Int32))) + (own_len (own_nz (ig &&& (32 : Int32))) (0 : Int32))) + (own_len (own_nz (ig &&& (64 : Int32))) (0 : Int32))); omega
                  have i_hc26 : ((0 : Int32)).toInt < ((ic &&& (7 : Int32))).toInt := Int32.lt_iff_toInt_lt.mp hc26
                  have i_hc53 : ((1 : Int32)).toInt < ((ic &&& (7 : Int32))).toInt := Int32.lt_iff_toInt_lt.mp hc53
                  have i_hc80 : ((2 : Int32)).toInt < ((ic &&& (7 : Int32))).toInt := Int32.lt_iff_toInt_lt.mp hc80
                  have i_hc107 : ((3 : Int32)).toInt < ((ic &&& (7 : Int32))).toInt := Int32.lt_iff_toInt_lt.mp hc107
                  have i_hc135 : ((4 : Int32)).toInt < ((ic &&& (7 : Int32))).toInt := Int32.lt_iff_toInt_lt.mp hc135
                  have i_hc163 : ((5 : Int32)).toInt < ((ic &&& (7 : Int32))).toInt := Int32.lt_iff_toInt_lt.mp hc163
                  have i_hc192 : ((6 : Int32)).toInt < ((ic &&& (7 : Int32))).toInt := Int32.lt_iff_toInt_lt.mp hc192
                  have i_hc224 : ¬ ((((16 : Int64) + (((((((((((((0 : Int32) + (own_nz (own_nz (ig &&& (1 : Int32))))) + (own_nz (own_nz (ig &&& (2 : Int32))))) + (own_nz (own_nz (ig &&& (4 : Int32))))) + (own_nz (own_nz (ig &&& (8 : Int32))))) + (own_nz (own_nz (ig &&& (16 : Int32))))) + (own_nz (own_nz (ig &&& (32 : Int32))))) + (own_nz (own_nz (ig &&& (64 : Int32)))))).toInt64) * (17 : Int64)) + (((((7 : Int32) - ((((((((0 : Int32) + (own_nz (own_nz (ig &&& (1 : Int32))))) + (own_nz (own_nz (ig &&& (2 : Int32))))) + (own_nz (own_nz (ig &&& (4 : Int32))))) + (own_nz (own_nz (ig &&& (8 : Int32))))) + (own_nz (own_nz (ig &&& (16 : Int32))))) + (own_nz (own_nz (ig &&& (32 : Int32))))) + (own_nz (own_nz (ig &&& (64 : Int32))))))).toInt64) * (18 : Int64))) + (((own_mx (0 : Int32) ((7 : Int32) - (1 : Int32)))).toInt64))) + (2 : Int64))).toInt = (((((((((18 : Int64) + (own_len (own_nz (ig &&& (1 : Int32))) (1 : Int32))) + (own_len (own_nz (ig &&& (2 : Int32))) (0 : Int32))) + (own_len (own_nz (ig &&& (4 : Int32))) (0 : Int32))) + (own_len (own_nz (ig &&& (8 : Int32))) (0 : Int32))) + (own_len (own_nz (ig &&& (16 : Int32))) (0 : Int32))) + (own_len (own_nz (ig &&& (32 : Int32))) (0 : Int32))) + (own_len (own_nz (ig &&& (64 : Int32))) (0 : Int32)))).toInt := fun z => hc224 (Int64.toInt_inj.mp z)
                  omega
                · refine g_iconst cx d0_227 (v := (1 : Int32)) rfl ?_
                  refine g_goto cx d0_228 ?_
                  refine g_retZ cx d0_232 rfl rfl (by decide) (by decide) ?_
                  rfl
theorem own_hasl (c : Cell) : ∀ (vs : List Value) (i : Nat), c.slots.toList.drop i = vs → HasL c i vs
  | [], _, _ => trivial
  | v :: r, i, q => by
    have h1 : c.slots.toList[i]? = some v := by
      have := congrArg (fun (z : List Value) => z[0]?) q
      simpa using this
    refine ⟨by simpa using h1, own_hasl c r (i + 1) ?_⟩
    have := congrArg List.tail q
    simpa using this
theorem own_arv {Z : State} {a : Addr} {cl : Cell} {ty : FieldType} {z : Int32} {dv : Value} (hf : Fit Z) (A : Arr Z Z.heap a cl ty) (q : cl.slots.size < 2 ^ 31) (e : cl.slots.size.toInt32 = z) (hz : ¬ z < 0) : Arv Z Z.heap a cl.cls ty z cl.slots.toList dv := by
  refine Arv.start hf A q e hz ?_ (own_hasl cl _ 0 (by simp))
  rw [← e]
  simp only [Int32.toNatClampNeg, len_toInt q, Array.length_toList]
  rfl
set_option maxRecDepth 65536 in
set_option maxHeartbeats 40000000 in
theorem comes_1 {Post : Tables → Env → Array Value → State → Outcome → State → Prop} (hpost : ∀ tb e args s v u, (limb_1_1.after args s (.returned v) u = true ∧ limb_1_2.after args s (.returned v) u = true ∧ True) → FrameEnd s (.returned v) u (Jvm.fieldLocs frame_1_writes args s ++ Jvm.arrayLocs frame_1_arrays args s ++ Jvm.staticLocs frame_1_statics s) 16 128 → Post tb e args s (.returned v) u) :
    ArmFor flags0 classFile x code maxLocals ret World_1 tables_1 room_1 Calls_1 rest_1 Pre_1 Post := by
  intro l hfl _ _ p e ha hc hk s m args below hf hA hF happ hP
  obtain ⟨hcalls, hrest, hpre⟩ := hP
  obtain ⟨-, -, -, hnamed, -, -, -, hat⟩ := (Spec.applies_iff hf).mp happ
  obtain ⟨hg, hn⟩ := and_e (Cond.before_iff.mp (show (Jvm.Cond.and given_1 narrow_1).before args s = true from hpre))
  obtain ⟨g1, g2⟩ := and_e hg
  obtain ⟨g3, g4⟩ := and_e g2
  obtain ⟨g5, g6⟩ := and_e g4
  obtain ⟨w0, w1, w2, rfl⟩ : ∃ w0 w1 w2 : Value, args = #[w0, w1, w2] := by
    have hs : args.size = 3 := by simpa [Cond.value, given_1] using g1
    obtain ⟨L⟩ := args
    match L, hs with
    | [w0, w1, w2], _ => exact ⟨w0, w1, w2, rfl⟩
  have hw := fun d (hd : d ∈ tables_1) => atoms_spec (ws := Jvm.Cond.code x code maxLocals ret :: tables_1) hat d (List.mem_cons_of_mem _ hd)
  have hfit : Fit s := fun {y c} hc i hi => by
    obtain ⟨ha, rfl⟩ := Array.getElem?_eq_some_iff.mp hc
    have q := List.all_eq_true.mp ((Array.all_eq_true_iff_forall_mem.mp hF) _ (Array.getElem_mem ha)) i (List.mem_range.mpr hi)
    simpa [Array.getElem?_eq_getElem hi] using q
  obtain ⟨i0, ei0⟩ := is_v g3
  obtain rfl : w0 = (.int i0) := Option.some.inj ei0
  obtain ⟨i1, ei1⟩ := is_v g5
  obtain rfl : w1 = (.int i1) := Option.some.inj ei1
  obtain ⟨i2, ei2⟩ := is_v g6
  obtain rfl : w2 = (.int i2) := Option.some.inj ei2
  obtain ⟨n0, hn⟩ := and_e hn
  obtain ⟨n1, hn⟩ := and_e hn
  obtain ⟨n2, hn⟩ := and_e hn
  obtain ⟨n3, hn⟩ := and_e hn
  obtain ⟨n4, hn⟩ := and_e hn
  obtain ⟨n5, hn⟩ := and_e hn
  obtain ⟨n6, hn⟩ := and_e hn
  obtain ⟨n7, hn⟩ := and_e hn
  obtain ⟨n8, hn⟩ := and_e hn
  obtain ⟨n9, hn⟩ := and_e hn
  obtain ⟨n10, hn⟩ := and_e hn
  have n11 := hn
  obtain ⟨hsets, hown0⟩ := atoms_of _ (rest_1_c_eq ▸ (show rest_1_c.before _ s = true from hrest))
  obtain ⟨pm, Spm, Epm, evpm⟩ := sta_exa n1 (hw _ (List.mem_of_getElem? (i := 39) rfl)) (hw _ (List.mem_of_getElem? (i := 47) rfl))
  have Fpm := fld_eq evpm n3
  obtain ⟨dn, Sdn, Edn, evdn⟩ := sta_exa n0 (hw _ (List.mem_of_getElem? (i := 39) rfl)) (hw _ (List.mem_of_getElem? (i := 40) rfl))
  have Fdn := fld_eq evdn n2
  have npd : pm ≠ dn := Fpm.ne Fdn (by decide)
  have SAD : Sta s s.heap "java/util/BitSet" "$assertionsDisabled" "Z" (.int (1 : Int32)) := Sta.start (eqv_i (F := .int 1) rfl (Cond.before_iff.mp (hsets _ (List.mem_of_getElem? (i := 2) rfl)))) (Or.inl (hsets _ (List.mem_of_getElem? (i := 1) rfl)))
  obtain ⟨sPERMIT, cPERMIT, SPERMIT, evPERMIT, ArPERMIT, szAPERMIT, szBPERMIT⟩ := sta_arr (Or.inr ⟨(hw _ (List.mem_of_getElem? (i := 2) rfl)), (hw _ (List.mem_of_getElem? (i := 96) rfl))⟩) n4 n5
  have VPERMIT := own_arv (dv := .int 0) hfit ArPERMIT szAPERMIT szBPERMIT (by decide)
  obtain ⟨sDENY, cDENY, SDENY, evDENY, ArDENY, szADENY, szBDENY⟩ := sta_arr (Or.inr ⟨(hw _ (List.mem_of_getElem? (i := 2) rfl)), (hw _ (List.mem_of_getElem? (i := 98) rfl))⟩) n6 n7
  have VDENY := own_arv (dv := .int 0) hfit ArDENY szADENY szBDENY (by decide)
  obtain ⟨sOPENING, cOPENING, SOPENING, evOPENING, ArOPENING, szAOPENING, szBOPENING⟩ := sta_arr (Or.inr ⟨(hw _ (List.mem_of_getElem? (i := 2) rfl)), (hw _ (List.mem_of_getElem? (i := 101) rfl))⟩) n8 n9
  have VOPENING := own_arv (dv := .int 0) hfit ArOPENING szAOPENING szBOPENING (by decide)
  obtain ⟨sCLOSING, cCLOSING, SCLOSING, evCLOSING, ArCLOSING, szACLOSING, szBCLOSING⟩ := sta_arr (Or.inr ⟨(hw _ (List.mem_of_getElem? (i := 2) rfl)), (hw _ (List.mem_of_getElem? (i := 103) rfl))⟩) n10 n11
  have VCLOSING := own_arv (dv := .int 0) hfit ArCLOSING szACLOSING szBCLOSING (by decide)
  obtain ⟨n, o, h1, h2, h3, _, L, rfl, ⟨rfl, N⟩, hq⟩ := rm0 l s _ hw i0 i1 i2 s.heap (Old.start s) SAD pm dn Spm Sdn npd sPERMIT cPERMIT SPERMIT VPERMIT sDENY cDENY SDENY VDENY sOPENING cOPENING SOPENING VOPENING sCLOSING cCLOSING SCLOSING VCLOSING tables_1 p e ha hc hk s m _ below hf ((Spec.applies_iff_loose hf).mp happ).1 ⟨rfl, State.Warmed39.refl s, rfl⟩ trivial
  refine ⟨n, _, h1, h2, h3, hpost _ _ _ _ _ _ ⟨Cond.after_iff.mpr rfl, Cond.after_iff.mpr (eq_i res_at (Term.int_eval (1)) rfl), trivial⟩ ⟨hq.1, hq.2.1, (hq.2.2.sift fun y hy => Or.inr (N y hy)).mono (by decide) (by decide)⟩⟩
theorem main_1_1 : Claimed_1_1 := comes_1 fun _ _ _ _ _ _ h hF => ⟨h.1, hF⟩
theorem main_1_2 : Claimed_1_2 := comes_1 fun _ _ _ _ _ _ h hF => ⟨h.2.1, hF⟩
end Jvm.Pilot.@@N@@
namespace Jvm.Pilot.@@N@@
open Jvm Jvm.ClassFile Sem Op Lib Jvm.Free Jvm.Stand Jvm.Pilot.@@N@@.Jvm.D
/-! MADE BY PROGRAM (witnessworld.py) out of the Statement's table words and the real class files: 20 classes; the members and pool entries that the words name. The judged class is class 1, her method 2. -/
namespace start1
open Jvm.ClassFile
def u (s : String) : CpInfo := .utf8 (stringToUtf16 s)
/-- a pool by its gaps: so many unusable entries, then the entry; so many at the end -/
def gap : Nat → List CpInfo → List CpInfo
  | 0, r => r
  | n + 1, r => .unusable :: gap n r
def poolList (es : List (Nat × CpInfo)) (last : Nat) : List CpInfo := es.foldr (fun e r => gap e.1 (e.2 :: r)) (gap last [])
def pool (es : List (Nat × CpInfo)) (last : Nat) : Array CpInfo := ⟨poolList es last⟩
def fileOf (pool : Array CpInfo) (this : Nat) (attrs : Array Attribute := #[]) (ms : Array MethodInfo := #[]) (fl : Nat := 33) (sup : Nat := 0) (ifs : Array Nat := #[]) (fds : Array FieldInfo := #[]) : ClassFile where
  minorVersion := 0
  majorVersion := 65
  constantPool := pool
  accessFlags := fl
  thisClass := this
  superClass := sup
  interfaces := ifs
  fields := fds
  methods := ms
  attributes := attrs
def plain (name : String) (sup : Option ClassId) : Class where
  name := name
  kind := .ordinary
  loader := none
  accessFlags := 33
  super := sup
  interfaces := #[]
  cf := none
  fields := #[]
  methods := #[]
  instanceTypes := #[]
  staticTypes := #[]
  resolved := #[]
  callSites := []
  init := .initialized
  statics := none
  mirror := none

def pool0 : Array CpInfo := pool [(5, u "<init>"), (0, u "()V"), (1, .class_ 10), (1, u "java/lang/Object")] 113

def k0c0 : Code := { maxStack := 0, maxLocals := 1, code := object_method_1_code, exceptionTable := #[], attributes := #[] }
def k0m0 : Method := { name := "<init>", desc := "()V", sig := { parameters := [], returnType := none }, accessFlags := 1, code := some k0c0 }
/-- java/lang/Object -/
def k0 : Class := { plain "java/lang/Object" none with
  accessFlags := 33
  interfaces := #[]
  cf := some (fileOf pool0 8 #[] #[{ accessFlags := 1, nameIndex := 5, descriptorIndex := 6, attributes := #[] }] 33 0 #[] #[])
  fields := #[]
  methods := #[k0m0]
  instanceTypes := #[]
  staticTypes := #[]
  resolved := Array.replicate 124 none
  statics := none }

def pool1 : Array CpInfo := pool [(2, .class_ 4), (1, u "java/lang/Object"), (0, u "<init>"), (0, u "()V"), (0, .fieldref 8 9), (0, .class_ 10), (0, .nameAndType 11 12), (0, u "com/example/dyn_authz/dynauthz/policy/Decision"), (0, u "PERMIT"), (0, u "Lcom/example/dyn_authz/dynauthz/policy/Decision;"), (0, .fieldref 8 14), (0, .nameAndType 15 12), (0, u "DENY"), (0, .methodref 17 18), (0, .class_ 19), (0, .nameAndType 20 21), (0, u "com/example/dyn_authz/dynauthz/service/Decisions"), (0, u "add"), (0, u "(Lcom/example/dyn_authz/dynauthz/policy/Decision;)V"), (0, .long 17), (1, .long 18), (1, .methodref 17 27), (0, .nameAndType 5 28), (0, u "(I)V"), (0, .methodref 30 31), (0, .class_ 32), (0, .nameAndType 33 34), (0, u "com/example/dyn_authz/dynauthz/service/DecisionsLengthPinLaw"), (0, u "addOne"), (0, u "(Lcom/example/dyn_authz/dynauthz/service/Decisions;ZZ)J"), (0, .methodref 17 36), (0, .nameAndType 37 38), (0, u "length"), (0, u "()J"), (3, u "law"), (0, u "(III)Z")] 2

def k1m0 : Method := { name := "<init>", desc := "()V", sig := { parameters := [], returnType := none }, accessFlags := 1, code := none }
def k1c1 : Code := { maxStack := 4, maxLocals := 5, code := method_2_code, exceptionTable := #[], attributes := #[] }
def k1m1 : Method := { name := "addOne", desc := "(Lcom/example/dyn_authz/dynauthz/service/Decisions;ZZ)J", sig := { parameters := [(.object "com/example/dyn_authz/dynauthz/service/Decisions"), .boolean, .boolean], returnType := some .long }, accessFlags := 10, code := some k1c1 }
def k1c2 : Code := { maxStack := 5, maxLocals := 7, code := code, exceptionTable := #[], attributes := #[] }
def k1m2 : Method := { name := "law", desc := "(III)Z", sig := { parameters := [.int, .int, .int], returnType := some .boolean }, accessFlags := 9, code := some k1c2 }
/-- com/example/dyn_authz/dynauthz/service/DecisionsLengthPinLaw -/
def k1 : Class := { plain "com/example/dyn_authz/dynauthz/service/DecisionsLengthPinLaw" (some 0) with
  accessFlags := 49
  interfaces := #[]
  cf := some (fileOf pool1 30 #[] #[{ accessFlags := 1, nameIndex := 5, descriptorIndex := 6, attributes := #[] }, { accessFlags := 10, nameIndex := 33, descriptorIndex := 34, attributes := #[] }, { accessFlags := 9, nameIndex := 42, descriptorIndex := 43, attributes := #[] }] 49 2 #[] #[])
  fields := #[]
  methods := #[k1m0, k1m1, k1m2]
  instanceTypes := #[]
  staticTypes := #[]
  resolved := Array.replicate 46 none
  statics := none }

def pool2 : Array CpInfo := pool [(1, .class_ 2), (0, u "com/example/dyn_authz/dynauthz/service/Body$1"), (5, .class_ 10), (1, u "com/example/dyn_authz/dynauthz/service/Body"), (4, u "EMPTY"), (0, u "Lcom/example/dyn_authz/dynauthz/service/Body;"), (0, .class_ 18), (0, u "java/lang/Object")] 15

/-- com/example/dyn_authz/dynauthz/service/Body -/
def k2 : Class := { plain "com/example/dyn_authz/dynauthz/service/Body" (some 0) with
  accessFlags := 1536
  interfaces := #[]
  cf := some (fileOf pool2 8 #[.nestMembers #[1]] #[] 1536 17 #[] #[{ accessFlags := 25, nameIndex := 15, descriptorIndex := 16, attributes := #[] }])
  fields := #[{ name := "EMPTY", type := (.object "com/example/dyn_authz/dynauthz/service/Body"), accessFlags := 25, slot := 0, constantValue := 0 }]
  methods := #[]
  instanceTypes := #[]
  staticTypes := #[(.object "com/example/dyn_authz/dynauthz/service/Body")]
  resolved := Array.replicate 34 none
  statics := none }

def pool3 : Array CpInfo := pool [(1, .methodref 2 3), (0, .class_ 4), (0, .nameAndType 5 6), (0, u "java/lang/Object"), (0, u "<init>"), (0, u "()V"), (0, .class_ 8), (0, u "java/util/BitSet"), (0, .methodref 7 10), (0, .nameAndType 5 11), (0, u "(I)V"), (0, .fieldref 13 14), (0, .class_ 15), (0, .nameAndType 16 17), (0, u "com/example/dyn_authz/dynauthz/service/Decisions"), (0, u "_permits"), (0, u "Ljava/util/BitSet;"), (0, .fieldref 19 20), (0, .class_ 21), (0, .nameAndType 22 23), (0, u "com/example/dyn_authz/dynauthz/policy/Decision"), (0, u "PERMIT"), (0, u "Lcom/example/dyn_authz/dynauthz/policy/Decision;"), (4, .fieldref 13 29), (0, .nameAndType 30 31), (0, u "_count"), (0, u "I"), (0, .methodref 7 33), (0, .nameAndType 34 11), (0, u "set"), (0, .fieldref 13 36), (0, .nameAndType 37 31), (0, u "_permitCount"), (0, .fieldref 13 39), (0, .nameAndType 22 40), (0, u "[B"), (0, .fieldref 13 42), (0, .nameAndType 43 40), (0, u "DENY"), (0, .methodref 45 46), (0, .class_ 47), (0, .nameAndType 48 49), (0, u "java/lang/Math"), (0, u "max"), (0, u "(II)I"), (0, .fieldref 13 51), (0, .nameAndType 52 40), (0, u "OPENING"), (0, .fieldref 13 54), (0, .nameAndType 55 40), (0, u "CLOSING"), (7, .class_ 64), (0, u "com/example/dyn_authz/dynauthz/service/Decisions$1"), (31, u "MOST"), (0, .class_ 98), (0, u "com/example/dyn_authz/dynauthz/service/Body"), (0, u "PART"), (4, u "add"), (0, u "(Lcom/example/dyn_authz/dynauthz/policy/Decision;)V"), (0, u "length"), (0, u "()J")] 24

def k3c0 : Code := { maxStack := 4, maxLocals := 2, code := prog_43_method_1_code, exceptionTable := #[], attributes := #[] }
def k3m0 : Method := { name := "<init>", desc := "(I)V", sig := { parameters := [.int], returnType := none }, accessFlags := 0, code := some k3c0 }
def k3c1 : Code := { maxStack := 3, maxLocals := 2, code := prog_43_method_3_code, exceptionTable := #[], attributes := #[] }
def k3m1 : Method := { name := "add", desc := "(Lcom/example/dyn_authz/dynauthz/policy/Decision;)V", sig := { parameters := [(.object "com/example/dyn_authz/dynauthz/policy/Decision")], returnType := none }, accessFlags := 0, code := some k3c1 }
def k3c2 : Code := { maxStack := 6, maxLocals := 3, code := prog_43_method_4_code, exceptionTable := #[], attributes := #[] }
def k3m2 : Method := { name := "length", desc := "()J", sig := { parameters := [], returnType := some .long }, accessFlags := 1, code := some k3c2 }
/-- com/example/dyn_authz/dynauthz/service/Decisions -/
def k3 : Class := { plain "com/example/dyn_authz/dynauthz/service/Decisions" (some 0) with
  accessFlags := 48
  interfaces := #[2]
  cf := some (fileOf pool3 13 #[.nestMembers #[63]] #[{ accessFlags := 0, nameIndex := 5, descriptorIndex := 11, attributes := #[] }, { accessFlags := 0, nameIndex := 104, descriptorIndex := 105, attributes := #[] }, { accessFlags := 1, nameIndex := 106, descriptorIndex := 107, attributes := #[] }] 48 2 #[97] #[{ accessFlags := 26, nameIndex := 52, descriptorIndex := 40, attributes := #[] }, { accessFlags := 26, nameIndex := 22, descriptorIndex := 40, attributes := #[] }, { accessFlags := 26, nameIndex := 43, descriptorIndex := 40, attributes := #[] }, { accessFlags := 26, nameIndex := 55, descriptorIndex := 40, attributes := #[] }, { accessFlags := 26, nameIndex := 99, descriptorIndex := 31, attributes := #[] }, { accessFlags := 26, nameIndex := 96, descriptorIndex := 31, attributes := #[] }, { accessFlags := 18, nameIndex := 16, descriptorIndex := 17, attributes := #[] }, { accessFlags := 2, nameIndex := 30, descriptorIndex := 31, attributes := #[] }, { accessFlags := 2, nameIndex := 37, descriptorIndex := 31, attributes := #[] }])
  fields := #[{ name := "OPENING", type := (.array .byte), accessFlags := 26, slot := 0, constantValue := 0 }, { name := "PERMIT", type := (.array .byte), accessFlags := 26, slot := 1, constantValue := 0 }, { name := "DENY", type := (.array .byte), accessFlags := 26, slot := 2, constantValue := 0 }, { name := "CLOSING", type := (.array .byte), accessFlags := 26, slot := 3, constantValue := 0 }, { name := "PART", type := .int, accessFlags := 26, slot := 4, constantValue := 0 }, { name := "MOST", type := .int, accessFlags := 26, slot := 5, constantValue := 0 }, { name := "_permits", type := (.object "java/util/BitSet"), accessFlags := 18, slot := 0, constantValue := 0 }, { name := "_count", type := .int, accessFlags := 2, slot := 1, constantValue := 0 }, { name := "_permitCount", type := .int, accessFlags := 2, slot := 2, constantValue := 0 }]
  methods := #[k3m0, k3m1, k3m2]
  instanceTypes := #[(.object "java/util/BitSet"), .int, .int]
  staticTypes := #[(.array .byte), (.array .byte), (.array .byte), (.array .byte), .int, .int]
  resolved := Array.replicate 132 none
  statics := some 0 }

def pool4 : Array CpInfo := pool [(1, .class_ 2), (0, u "java/lang/Cloneable"), (0, .class_ 4), (0, u "java/lang/Object")] 2

/-- java/lang/Cloneable -/
def k4 : Class := { plain "java/lang/Cloneable" (some 0) with
  accessFlags := 1537
  interfaces := #[]
  cf := some (fileOf pool4 1 #[] #[] 1537 3 #[] #[])
  fields := #[]
  methods := #[]
  instanceTypes := #[]
  staticTypes := #[]
  resolved := Array.replicate 7 none
  statics := none }

def pool5 : Array CpInfo := pool [(1, .class_ 2), (0, u "java/io/Serializable"), (0, .class_ 4), (0, u "java/lang/Object")] 2

/-- java/io/Serializable -/
def k5 : Class := { plain "java/io/Serializable" (some 0) with
  accessFlags := 1537
  interfaces := #[]
  cf := some (fileOf pool5 1 #[] #[] 1537 3 #[] #[])
  fields := #[]
  methods := #[]
  instanceTypes := #[]
  staticTypes := #[]
  resolved := Array.replicate 7 none
  statics := none }

def pool6 : Array CpInfo := pool [(1, .class_ 2), (0, u "java/util/BitSet"), (0, .fieldref 1 4), (0, .nameAndType 5 6), (0, u "$assertionsDisabled"), (0, u "Z"), (0, .fieldref 1 8), (0, .nameAndType 9 10), (0, u "wordsInUse"), (0, u "I"), (0, .fieldref 1 12), (0, .nameAndType 13 14), (0, u "words"), (0, u "[J"), (3, .nameAndType 19 20), (0, u "<init>"), (0, u "()V"), (0, .methodref 22 18), (0, .class_ 23), (0, u "java/lang/Object"), (0, .fieldref 1 25), (0, .nameAndType 26 6), (0, u "sizeIsSticky"), (0, .methodref 1 28), (0, .nameAndType 29 30), (0, u "initWords"), (0, u "(I)V"), (21, .methodref 1 53), (0, .nameAndType 54 55), (0, u "wordIndex"), (0, u "(I)I"), (0, .methodref 1 57), (0, .nameAndType 58 20), (0, u "checkInvariants"), (0, .methodref 60 61), (0, .class_ 62), (0, .nameAndType 63 64), (0, u "java/util/Arrays"), (0, u "copyOf"), (0, u "([JI)[J"), (68, .methodref 134 135), (0, .class_ 136), (0, .nameAndType 137 138), (0, u "java/lang/Math"), (0, u "max"), (0, u "(II)I"), (0, .methodref 1 140), (0, .nameAndType 141 30), (0, u "ensureCapacity"), (13, .methodref 1 156), (0, .nameAndType 157 30), (0, u "expandTo"), (11, u "set"), (99, .class_ 270), (0, u "java/util/BitSet$1BitSetSpliterator"), (22, u "serialPersistentFields"), (0, u "[Ljava/io/ObjectStreamField;"), (0, .class_ 296), (0, u "java/lang/Cloneable"), (0, .class_ 298), (0, u "java/io/Serializable"), (0, u "ADDRESS_BITS_PER_WORD"), (2, u "BITS_PER_WORD"), (1, u "BIT_INDEX_MASK"), (1, u "WORD_MASK"), (0, u "J"), (0, u "serialVersionUID")] 108

def k6c0 : Code := { maxStack := 2, maxLocals := 1, code := jdk_92_method_1_code, exceptionTable := #[], attributes := #[] }
def k6m0 : Method := { name := "wordIndex", desc := "(I)I", sig := { parameters := [.int], returnType := some .int }, accessFlags := 10, code := some k6c0 }
def k6c1 : Code := { maxStack := 4, maxLocals := 1, code := jdk_92_method_2_code, exceptionTable := #[], attributes := #[] }
def k6m1 : Method := { name := "checkInvariants", desc := "()V", sig := { parameters := [], returnType := none }, accessFlags := 2, code := some k6c1 }
def k6m2 : Method := { name := "<init>", desc := "()V", sig := { parameters := [], returnType := none }, accessFlags := 1, code := none }
def k6c3 : Code := { maxStack := 4, maxLocals := 2, code := jdk_92_method_5_code, exceptionTable := #[], attributes := #[] }
def k6m3 : Method := { name := "<init>", desc := "(I)V", sig := { parameters := [.int], returnType := none }, accessFlags := 1, code := some k6c3 }
def k6c4 : Code := { maxStack := 3, maxLocals := 2, code := jdk_92_method_6_code, exceptionTable := #[], attributes := #[] }
def k6m4 : Method := { name := "initWords", desc := "(I)V", sig := { parameters := [.int], returnType := none }, accessFlags := 2, code := some k6c4 }
def k6c5 : Code := { maxStack := 3, maxLocals := 3, code := jdk_92_method_14_code, exceptionTable := #[], attributes := #[] }
def k6m5 : Method := { name := "ensureCapacity", desc := "(I)V", sig := { parameters := [.int], returnType := none }, accessFlags := 2, code := some k6c5 }
def k6c6 : Code := { maxStack := 2, maxLocals := 3, code := jdk_92_method_15_code, exceptionTable := #[], attributes := #[] }
def k6m6 : Method := { name := "expandTo", desc := "(I)V", sig := { parameters := [.int], returnType := none }, accessFlags := 2, code := some k6c6 }
def k6c7 : Code := { maxStack := 7, maxLocals := 3, code := jdk_92_method_19_code, exceptionTable := #[], attributes := #[] }
def k6m7 : Method := { name := "set", desc := "(I)V", sig := { parameters := [.int], returnType := none }, accessFlags := 1, code := some k6c7 }
/-- java/util/BitSet -/
def k6 : Class := { plain "java/util/BitSet" (some 0) with
  accessFlags := 33
  interfaces := #[4, 5]
  cf := some (fileOf pool6 1 #[.nestMembers #[269]] #[{ accessFlags := 10, nameIndex := 54, descriptorIndex := 55, attributes := #[] }, { accessFlags := 2, nameIndex := 58, descriptorIndex := 20, attributes := #[] }, { accessFlags := 1, nameIndex := 19, descriptorIndex := 20, attributes := #[] }, { accessFlags := 1, nameIndex := 19, descriptorIndex := 30, attributes := #[] }, { accessFlags := 2, nameIndex := 29, descriptorIndex := 30, attributes := #[] }, { accessFlags := 2, nameIndex := 141, descriptorIndex := 30, attributes := #[] }, { accessFlags := 2, nameIndex := 157, descriptorIndex := 30, attributes := #[] }, { accessFlags := 1, nameIndex := 169, descriptorIndex := 30, attributes := #[] }] 33 22 #[295, 297] #[{ accessFlags := 26, nameIndex := 299, descriptorIndex := 10, attributes := #[] }, { accessFlags := 26, nameIndex := 302, descriptorIndex := 10, attributes := #[] }, { accessFlags := 26, nameIndex := 304, descriptorIndex := 10, attributes := #[] }, { accessFlags := 26, nameIndex := 306, descriptorIndex := 307, attributes := #[] }, { accessFlags := 26, nameIndex := 293, descriptorIndex := 294, attributes := #[] }, { accessFlags := 2, nameIndex := 13, descriptorIndex := 14, attributes := #[] }, { accessFlags := 130, nameIndex := 9, descriptorIndex := 10, attributes := #[] }, { accessFlags := 130, nameIndex := 26, descriptorIndex := 6, attributes := #[] }, { accessFlags := 26, nameIndex := 308, descriptorIndex := 307, attributes := #[] }, { accessFlags := 4120, nameIndex := 5, descriptorIndex := 6, attributes := #[] }])
  fields := #[{ name := "ADDRESS_BITS_PER_WORD", type := .int, accessFlags := 26, slot := 0, constantValue := 0 }, { name := "BITS_PER_WORD", type := .int, accessFlags := 26, slot := 1, constantValue := 0 }, { name := "BIT_INDEX_MASK", type := .int, accessFlags := 26, slot := 2, constantValue := 0 }, { name := "WORD_MASK", type := .long, accessFlags := 26, slot := 3, constantValue := 0 }, { name := "serialPersistentFields", type := (.array (.object "java/io/ObjectStreamField")), accessFlags := 26, slot := 4, constantValue := 0 }, { name := "words", type := (.array .long), accessFlags := 2, slot := 0, constantValue := 0 }, { name := "wordsInUse", type := .int, accessFlags := 130, slot := 1, constantValue := 0 }, { name := "sizeIsSticky", type := .boolean, accessFlags := 130, slot := 2, constantValue := 0 }, { name := "serialVersionUID", type := .long, accessFlags := 26, slot := 5, constantValue := 0 }, { name := "$assertionsDisabled", type := .boolean, accessFlags := 4120, slot := 6, constantValue := 0 }]
  methods := #[k6m0, k6m1, k6m2, k6m3, k6m4, k6m5, k6m6, k6m7]
  instanceTypes := #[(.array .long), .int, .boolean]
  staticTypes := #[.int, .int, .int, .long, (.array (.object "java/io/ObjectStreamField")), .long, .boolean]
  resolved := Array.replicate 417 none
  statics := some 1 }

def pool7 : Array CpInfo := pool [(1, .class_ 2), (0, u "java/lang/constant/Constable"), (0, .class_ 4), (0, u "java/lang/Object")] 6

/-- java/lang/constant/Constable -/
def k7 : Class := { plain "java/lang/constant/Constable" (some 0) with
  accessFlags := 1537
  interfaces := #[]
  cf := some (fileOf pool7 1 #[] #[] 1537 3 #[] #[])
  fields := #[]
  methods := #[]
  instanceTypes := #[]
  staticTypes := #[]
  resolved := Array.replicate 11 none
  statics := none }

def pool8 : Array CpInfo := pool [(1, .class_ 2), (0, u "java/lang/Comparable"), (0, .class_ 4), (0, u "java/lang/Object")] 7

/-- java/lang/Comparable -/
def k8 : Class := { plain "java/lang/Comparable" (some 0) with
  accessFlags := 1537
  interfaces := #[]
  cf := some (fileOf pool8 1 #[] #[] 1537 3 #[] #[])
  fields := #[]
  methods := #[]
  instanceTypes := #[]
  staticTypes := #[]
  resolved := Array.replicate 12 none
  statics := none }

def pool9 : Array CpInfo := pool [(2, .class_ 4), (1, u "java/lang/Enum"), (0, u "name"), (0, u "Ljava/lang/String;"), (2, u "ordinal"), (0, u "I"), (1, .class_ 14), (1, u "java/lang/Object"), (4, u "hash"), (86, .class_ 108), (1, u "java/lang/Enum$EnumDesc"), (2, .class_ 112), (0, u "java/lang/constant/Constable"), (0, .class_ 114), (0, u "java/lang/Comparable"), (0, .class_ 116), (0, u "java/io/Serializable")] 87

/-- java/lang/Enum -/
def k9 : Class := { plain "java/lang/Enum" (some 0) with
  accessFlags := 1057
  interfaces := #[7, 8, 5]
  cf := some (fileOf pool9 2 #[.nestMembers #[106]] #[] 1057 12 #[111, 113, 115] #[{ accessFlags := 18, nameIndex := 5, descriptorIndex := 6, attributes := #[] }, { accessFlags := 18, nameIndex := 9, descriptorIndex := 10, attributes := #[] }, { accessFlags := 2, nameIndex := 19, descriptorIndex := 10, attributes := #[] }])
  fields := #[{ name := "name", type := (.object "java/lang/String"), accessFlags := 18, slot := 0, constantValue := 0 }, { name := "ordinal", type := .int, accessFlags := 18, slot := 1, constantValue := 0 }, { name := "hash", type := .int, accessFlags := 2, slot := 2, constantValue := 0 }]
  methods := #[]
  instanceTypes := #[(.object "java/lang/String"), .int, .int]
  staticTypes := #[]
  resolved := Array.replicate 204 none
  statics := none }

def pool10 : Array CpInfo := pool [(1, .class_ 2), (0, u "com/example/dyn_authz/dynauthz/policy/Decision"), (2, u "PERMIT"), (0, u "Lcom/example/dyn_authz/dynauthz/policy/Decision;"), (2, u "DENY"), (2, u "$VALUES"), (0, u "[Lcom/example/dyn_authz/dynauthz/policy/Decision;"), (6, .class_ 22), (1, u "java/lang/Enum")] 24

/-- com/example/dyn_authz/dynauthz/policy/Decision -/
def k10 : Class := { plain "com/example/dyn_authz/dynauthz/policy/Decision" (some 9) with
  accessFlags := 16433
  interfaces := #[]
  cf := some (fileOf pool10 1 #[] #[] 16433 20 #[] #[{ accessFlags := 16409, nameIndex := 5, descriptorIndex := 6, attributes := #[] }, { accessFlags := 16409, nameIndex := 9, descriptorIndex := 6, attributes := #[] }, { accessFlags := 4122, nameIndex := 12, descriptorIndex := 13, attributes := #[] }])
  fields := #[{ name := "PERMIT", type := (.object "com/example/dyn_authz/dynauthz/policy/Decision"), accessFlags := 16409, slot := 0, constantValue := 0 }, { name := "DENY", type := (.object "com/example/dyn_authz/dynauthz/policy/Decision"), accessFlags := 16409, slot := 1, constantValue := 0 }, { name := "$VALUES", type := (.array (.object "com/example/dyn_authz/dynauthz/policy/Decision")), accessFlags := 4122, slot := 2, constantValue := 0 }]
  methods := #[]
  instanceTypes := #[(.object "java/lang/String"), .int, .int]
  staticTypes := #[(.object "com/example/dyn_authz/dynauthz/policy/Decision"), (.object "com/example/dyn_authz/dynauthz/policy/Decision"), (.array (.object "com/example/dyn_authz/dynauthz/policy/Decision"))]
  resolved := Array.replicate 47 none
  statics := some 2 }

def pool11 : Array CpInfo := pool [(1, .class_ 2), (0, u "java/lang/Math"), (1, .class_ 6), (1, u "java/lang/Object"), (0, u "<init>"), (0, u "()V"), (89, .class_ 100), (1, u "java/lang/Math$RandomNumberGeneratorHolder"), (71, u "negativeZeroFloatBits"), (0, u "J"), (2, u "negativeZeroDoubleBits"), (21, u "max"), (2, u "min"), (43, u "$assertionsDisabled"), (0, u "Z"), (88, u "(II)I"), (2, u "twoToTheDoubleScaleDown"), (0, u "D"), (4, u "twoToTheDoubleScaleUp"), (9, u "E"), (3, u "PI"), (2, u "TAU"), (2, u "DEGREES_TO_RADIANS"), (0, u "RADIANS_TO_DEGREES")] 94

def k11m0 : Method := { name := "<init>", desc := "()V", sig := { parameters := [], returnType := none }, accessFlags := 2, code := none }
def k11c1 : Code := { maxStack := 2, maxLocals := 2, code := jdk_29_method_65_code, exceptionTable := #[], attributes := #[] }
def k11m1 : Method := { name := "max", desc := "(II)I", sig := { parameters := [.int, .int], returnType := some .int }, accessFlags := 9, code := some k11c1 }
def k11c2 : Code := { maxStack := 2, maxLocals := 2, code := jdk_29_method_69_code, exceptionTable := #[], attributes := #[] }
def k11m2 : Method := { name := "min", desc := "(II)I", sig := { parameters := [.int, .int], returnType := some .int }, accessFlags := 9, code := some k11c2 }
/-- java/lang/Math -/
def k11 : Class := { plain "java/lang/Math" (some 0) with
  accessFlags := 49
  interfaces := #[]
  cf := some (fileOf pool11 1 #[.nestMembers #[98]] #[{ accessFlags := 2, nameIndex := 7, descriptorIndex := 8, attributes := #[] }, { accessFlags := 9, nameIndex := 198, descriptorIndex := 335, attributes := #[] }, { accessFlags := 9, nameIndex := 201, descriptorIndex := 335, attributes := #[] }] 49 4 #[] #[{ accessFlags := 25, nameIndex := 354, descriptorIndex := 339, attributes := #[] }, { accessFlags := 25, nameIndex := 358, descriptorIndex := 339, attributes := #[] }, { accessFlags := 25, nameIndex := 361, descriptorIndex := 339, attributes := #[] }, { accessFlags := 26, nameIndex := 364, descriptorIndex := 339, attributes := #[] }, { accessFlags := 26, nameIndex := 365, descriptorIndex := 339, attributes := #[] }, { accessFlags := 26, nameIndex := 172, descriptorIndex := 173, attributes := #[] }, { accessFlags := 26, nameIndex := 176, descriptorIndex := 173, attributes := #[] }, { accessFlags := 8, nameIndex := 344, descriptorIndex := 339, attributes := #[] }, { accessFlags := 8, nameIndex := 338, descriptorIndex := 339, attributes := #[] }, { accessFlags := 4120, nameIndex := 245, descriptorIndex := 246, attributes := #[] }])
  fields := #[{ name := "E", type := .double, accessFlags := 25, slot := 0, constantValue := 0 }, { name := "PI", type := .double, accessFlags := 25, slot := 1, constantValue := 0 }, { name := "TAU", type := .double, accessFlags := 25, slot := 2, constantValue := 0 }, { name := "DEGREES_TO_RADIANS", type := .double, accessFlags := 26, slot := 3, constantValue := 0 }, { name := "RADIANS_TO_DEGREES", type := .double, accessFlags := 26, slot := 4, constantValue := 0 }, { name := "negativeZeroFloatBits", type := .long, accessFlags := 26, slot := 5, constantValue := 0 }, { name := "negativeZeroDoubleBits", type := .long, accessFlags := 26, slot := 6, constantValue := 0 }, { name := "twoToTheDoubleScaleUp", type := .double, accessFlags := 8, slot := 7, constantValue := 0 }, { name := "twoToTheDoubleScaleDown", type := .double, accessFlags := 8, slot := 8, constantValue := 0 }, { name := "$assertionsDisabled", type := .boolean, accessFlags := 4120, slot := 9, constantValue := 0 }]
  methods := #[k11m0, k11m1, k11m2]
  instanceTypes := #[]
  staticTypes := #[.double, .double, .double, .double, .double, .long, .long, .double, .double, .boolean]
  resolved := Array.replicate 460 none
  statics := none }

def pool12 : Array CpInfo := pool [(2, .class_ 4), (1, u "java/lang/Object"), (0, u "<init>"), (0, u "()V"), (7, .class_ 16), (1, u "java/util/Arrays"), (57, .class_ 76), (1, u "java/util/Arrays$NaturalOrder"), (36, .class_ 115), (1, u "java/util/Arrays$LegacyMergeSort"), (1, u "Z"), (32, .methodref 151 152), (0, .class_ 153), (0, .nameAndType 154 155), (0, u "java/lang/System"), (0, u "arraycopy"), (0, u "(Ljava/lang/Object;ILjava/lang/Object;II)V"), (146, u "copyOf"), (1, .methodref 305 306), (0, .class_ 307), (0, .nameAndType 308 309), (0, u "java/lang/Math"), (0, u "min"), (0, u "(II)I"), (65, .class_ 376), (0, u "java/util/Arrays$ArrayList"), (68, u "$assertionsDisabled"), (269, u "MIN_ARRAY_SORT_GRAN"), (0, u "I"), (2, u "INSERTIONSORT_THRESHOLD"), (152, u "([JI)[J"), (102, .class_ 976), (0, u "java/util/Arrays$ArrayItr")] 52

def k12m0 : Method := { name := "<init>", desc := "()V", sig := { parameters := [], returnType := none }, accessFlags := 2, code := none }
def k12c1 : Code := { maxStack := 6, maxLocals := 3, code := jdk_65_method_124_code, exceptionTable := #[], attributes := #[] }
def k12m1 : Method := { name := "copyOf", desc := "([JI)[J", sig := { parameters := [(.array .long), .int], returnType := some (.array .long) }, accessFlags := 9, code := some k12c1 }
/-- java/util/Arrays -/
def k12 : Class := { plain "java/util/Arrays" (some 0) with
  accessFlags := 49
  interfaces := #[]
  cf := some (fileOf pool12 14 #[.nestMembers #[975, 375, 113, 74]] #[{ accessFlags := 2, nameIndex := 5, descriptorIndex := 6, attributes := #[] }, { accessFlags := 9, nameIndex := 302, descriptorIndex := 872, attributes := #[] }] 49 2 #[] #[{ accessFlags := 26, nameIndex := 715, descriptorIndex := 716, attributes := #[] }, { accessFlags := 26, nameIndex := 719, descriptorIndex := 716, attributes := #[] }, { accessFlags := 4120, nameIndex := 445, descriptorIndex := 117, attributes := #[] }])
  fields := #[{ name := "MIN_ARRAY_SORT_GRAN", type := .int, accessFlags := 26, slot := 0, constantValue := 0 }, { name := "INSERTIONSORT_THRESHOLD", type := .int, accessFlags := 26, slot := 1, constantValue := 0 }, { name := "$assertionsDisabled", type := .boolean, accessFlags := 4120, slot := 2, constantValue := 0 }]
  methods := #[k12m0, k12m1]
  instanceTypes := #[]
  staticTypes := #[.int, .int, .boolean]
  resolved := Array.replicate 1029 none
  statics := none }

def pool13 : Array CpInfo := pool [(2, .class_ 4), (1, u "java/lang/Object"), (0, u "<init>"), (0, u "()V"), (1, .class_ 10), (1, u "java/lang/System"), (0, u "allowSecurityManager"), (0, u "I"), (16, u "cons"), (0, u "Ljava/io/Console;"), (77, .class_ 110), (1, u "java/lang/System$CallersHolder"), (43, u "initialErrStream"), (0, u "Ljava/io/PrintStream;"), (19, u "security"), (0, u "Ljava/lang/SecurityManager;"), (31, .class_ 209), (0, u "java/lang/System$1"), (7, u "props"), (0, u "Ljava/util/Properties;"), (2, u "lineSeparator"), (0, u "Ljava/lang/String;"), (96, .class_ 321), (1, u "java/lang/System$LoggerFinder"), (5, .class_ 328), (0, u "java/lang/System$Logger"), (67, u "err"), (2, u "out"), (91, u "notSupportedJnuEncoding"), (15, u "in"), (17, u "initialIn"), (0, u "Ljava/io/InputStream;"), (35, u "bootLayer"), (0, u "Ljava/lang/ModuleLayer;"), (99, .class_ 664), (0, u "java/lang/System$2"), (9, u "NEVER"), (2, u "MAYBE"), (49, u "arraycopy"), (0, u "(Ljava/lang/Object;ILjava/lang/Object;II)V"), (72, .class_ 802), (0, u "java/lang/System$Logger$Level")] 31

def k13m0 : Method := { name := "<init>", desc := "()V", sig := { parameters := [], returnType := none }, accessFlags := 2, code := none }
def k13m1 : Method := { name := "arraycopy", desc := "(Ljava/lang/Object;ILjava/lang/Object;II)V", sig := { parameters := [(.object "java/lang/Object"), .int, (.object "java/lang/Object"), .int, .int], returnType := none }, accessFlags := 265, code := none }
/-- java/lang/System -/
def k13 : Class := { plain "java/lang/System" (some 0) with
  accessFlags := 49
  interfaces := #[]
  cf := some (fileOf pool13 8 #[.nestMembers #[319, 327, 801, 108, 663, 208]] #[{ accessFlags := 2, nameIndex := 5, descriptorIndex := 6, attributes := #[] }, { accessFlags := 265, nameIndex := 727, descriptorIndex := 728, attributes := #[] }] 49 2 #[] #[{ accessFlags := 25, nameIndex := 507, descriptorIndex := 526, attributes := #[] }, { accessFlags := 25, nameIndex := 399, descriptorIndex := 155, attributes := #[] }, { accessFlags := 25, nameIndex := 396, descriptorIndex := 155, attributes := #[] }, { accessFlags := 10, nameIndex := 525, descriptorIndex := 526, attributes := #[] }, { accessFlags := 26, nameIndex := 674, descriptorIndex := 12, attributes := #[] }, { accessFlags := 26, nameIndex := 677, descriptorIndex := 12, attributes := #[] }, { accessFlags := 10, nameIndex := 11, descriptorIndex := 12, attributes := #[] }, { accessFlags := 74, nameIndex := 175, descriptorIndex := 176, attributes := #[] }, { accessFlags := 10, nameIndex := 491, descriptorIndex := 222, attributes := #[] }, { accessFlags := 74, nameIndex := 29, descriptorIndex := 30, attributes := #[] }, { accessFlags := 74, nameIndex := 154, descriptorIndex := 155, attributes := #[] }, { accessFlags := 10, nameIndex := 217, descriptorIndex := 218, attributes := #[] }, { accessFlags := 10, nameIndex := 221, descriptorIndex := 222, attributes := #[] }, { accessFlags := 8, nameIndex := 562, descriptorIndex := 563, attributes := #[] }])
  fields := #[{ name := "in", type := (.object "java/io/InputStream"), accessFlags := 25, slot := 0, constantValue := 0 }, { name := "out", type := (.object "java/io/PrintStream"), accessFlags := 25, slot := 1, constantValue := 0 }, { name := "err", type := (.object "java/io/PrintStream"), accessFlags := 25, slot := 2, constantValue := 0 }, { name := "initialIn", type := (.object "java/io/InputStream"), accessFlags := 10, slot := 3, constantValue := 0 }, { name := "NEVER", type := .int, accessFlags := 26, slot := 4, constantValue := 0 }, { name := "MAYBE", type := .int, accessFlags := 26, slot := 5, constantValue := 0 }, { name := "allowSecurityManager", type := .int, accessFlags := 10, slot := 6, constantValue := 0 }, { name := "security", type := (.object "java/lang/SecurityManager"), accessFlags := 74, slot := 7, constantValue := 0 }, { name := "notSupportedJnuEncoding", type := (.object "java/lang/String"), accessFlags := 10, slot := 8, constantValue := 0 }, { name := "cons", type := (.object "java/io/Console"), accessFlags := 74, slot := 9, constantValue := 0 }, { name := "initialErrStream", type := (.object "java/io/PrintStream"), accessFlags := 74, slot := 10, constantValue := 0 }, { name := "props", type := (.object "java/util/Properties"), accessFlags := 10, slot := 11, constantValue := 0 }, { name := "lineSeparator", type := (.object "java/lang/String"), accessFlags := 10, slot := 12, constantValue := 0 }, { name := "bootLayer", type := (.object "java/lang/ModuleLayer"), accessFlags := 8, slot := 13, constantValue := 0 }]
  methods := #[k13m0, k13m1]
  instanceTypes := #[]
  staticTypes := #[(.object "java/io/InputStream"), (.object "java/io/PrintStream"), (.object "java/io/PrintStream"), (.object "java/io/InputStream"), .int, .int, .int, (.object "java/lang/SecurityManager"), (.object "java/lang/String"), (.object "java/io/Console"), (.object "java/io/PrintStream"), (.object "java/util/Properties"), (.object "java/lang/String"), (.object "java/lang/ModuleLayer")]
  resolved := Array.replicate 834 none
  statics := none }

/-- the primitive byte -/
def k14 : Class := { plain "byte" none with kind := .primitive 'B', accessFlags := 0x411 }
/-- [B -/
def k15 : Class := { plain "[B" (some 0) with kind := .array 14 .byte, interfaces := #[4, 5], accessFlags := 1041 }

/-- the primitive int -/
def k16 : Class := { plain "int" none with kind := .primitive 'I', accessFlags := 0x411 }
/-- [I -/
def k17 : Class := { plain "[I" (some 0) with kind := .array 16 .int, interfaces := #[4, 5], accessFlags := 1041 }

/-- the primitive long -/
def k18 : Class := { plain "long" none with kind := .primitive 'J', accessFlags := 0x411 }
/-- [J -/
def k19 : Class := { plain "[J" (some 0) with kind := .array 18 .long, interfaces := #[4, 5], accessFlags := 1041 }

def heap : Heap := #[{ cls := 3, slots := #[.ref 7, .ref 5, .ref 6, .ref 8, .int 0, .int 0], vm := .statics 3 },
  { cls := 6, slots := #[.int 0, .int 0, .int 0, .long 0, .null, .long 0, .int 1], vm := .statics 6 },
  { cls := 10, slots := #[.ref 3, .ref 4, .null], vm := .statics 10 },
  { cls := 10, slots := #[.null, .int 0, .int 0], vm := .none },
  { cls := 10, slots := #[.null, .int 1, .int 0], vm := .none },
  { cls := 15, slots := #[.int 0, .int 0, .int 0, .int 0, .int 0, .int 0, .int 0, .int 0, .int 0, .int 0, .int 0, .int 0, .int 0, .int 0, .int 0, .int 0, .int 0], vm := .none },
  { cls := 15, slots := #[.int 0, .int 0, .int 0, .int 0, .int 0, .int 0, .int 0, .int 0, .int 0, .int 0, .int 0, .int 0, .int 0, .int 0, .int 0, .int 0, .int 0, .int 0], vm := .none },
  { cls := 15, slots := #[.int 0, .int 0, .int 0, .int 0, .int 0, .int 0, .int 0, .int 0, .int 0, .int 0, .int 0, .int 0, .int 0, .int 0, .int 0, .int 0], vm := .none },
  { cls := 15, slots := #[.int 0, .int 0], vm := .none }]
def classes : Array Class := #[k0, k1, k2, k3, k4, k5, k6, k7, k8, k9, k10, k11, k12, k13, k14, k15, k16, k17, k18, k19]
def interned : List (Array UInt16 × Addr) := []
def slotsUsed : Nat := 75
def theMethod : MethodId := ⟨1, 2⟩
def args0 : Array Value := #[.int 5, .int 7, .int 3]
def aboutOver (below : List Frame) : State where
  vm := { classes := classes, interned := interned.toArray }
  heap := heap
  slotsUsed := slotsUsed
  threads := #[{ frames := .invoking theMethod args0 :: below }]
def below0 : List Frame := [.native { method := ⟨0, 0⟩, args := #[] }]
def about1 : State := aboutOver below0
def p0 : Program := .bare "" "" ""
def e0 : Env := launch0.env 0 0 0
theorem w_frames : about1.frames = Frame.invoking theMethod args0 :: below0 := rfl
set_option maxRecDepth 65536 in
theorem w_args : argsFit about1.vm theMethod args0 = true := by decide +kernel
set_option maxRecDepth 65536 in
theorem w_heap : heapFits about1 = true := by decide +kernel
set_option maxRecDepth 65536 in
theorem w_runnable : about1.curStatus? = some .runnable := by decide +kernel
set_option maxRecDepth 65536 in
theorem w_alone : about1.alone = true := by decide +kernel
set_option maxRecDepth 65536 in
theorem w_named : about1.methodNamed? x = some theMethod := by decide +kernel
set_option maxRecDepth 65536 in
theorem w_hears : about1.hears theMethod below0 = true := by decide +kernel
set_option maxRecDepth 65536 in
theorem w_ripe : about1.ripe theMethod args0 below0 = true := by decide +kernel
theorem w_running : about1.status = .running := rfl
set_option maxRecDepth 65536 in
theorem w_room : about1.hasRoom e0.platform room_1 = true :=
  launch0.hasRoom_least _ room_1 (by decide +kernel) (by decide +kernel) (by decide +kernel) (by decide +kernel) (by decide +kernel) (by decide +kernel)
theorem allAtoms_all (ts : List Jvm.Cond) (a : Array Jvm.Value) (st : Jvm.State) : (allAtoms ts).before a st = ts.all (fun c => c.before a st) := by
  induction ts with
  | nil => rfl
  | cons c t ih =>
    show (Jvm.Cond.and c (allAtoms t)).before a st = _
    rw [Jvm.Cond.before_and, ih, List.all_cons]
def words1 : List Jvm.Cond := Jvm.Cond.code x code maxLocals ret :: tables_1
/-- a 'code' word, met by the world's own term for the bytes: nothing is compared byte by byte -/
theorem code_word {y : MethodName} {bytes : ByteArray} {mx : Nat} {rt : Option FieldType} {a : Array Value} {s : State} {m : MethodId} {meth : Method} {c : Code} (h1 : s.methodNamed? y = some m) (h2 : s.vm.method? m = some meth) (h3 : meth.code = some c) (h4 : c.code = bytes)
    (h5 : (c.maxLocals == mx && c.exceptionTable.isEmpty && decide (c.maxStack ≤ mostOperands) && decide (meth.sig.returnType = rt) && !meth.locks && decide (parseMethodDescriptor y.desc = some meth.sig)) = true) : (Jvm.Cond.code y bytes mx rt).before a s = true := by
  simp only [Bool.and_eq_true, beq_iff_eq, Bool.not_eq_true', decide_eq_true_eq] at h5
  obtain ⟨⟨⟨⟨⟨g1, g2⟩, g3⟩, g4⟩, g5⟩, g6⟩ := h5
  simp [Cond.before, Cond.holds, Cond.value, h1, h2, h3, h4, g1, g2, g3, g4, g5, g6]
def isCode : Jvm.Cond → Bool
  | .code _ _ _ _ => true
  | _ => false
theorem all_split {L : List Jvm.Cond} {P : Jvm.Cond → Bool} (h1 : L.all (fun c => isCode c || P c) = true) (h2 : ∀ c ∈ L.filter isCode, P c = true) : L.all P = true := by
  refine List.all_eq_true.mpr fun c hc => ?_
  have h := List.all_eq_true.mp h1 c hc
  rcases Bool.eq_false_or_eq_true (isCode c) with hi | hi
  · exact h2 c (List.mem_filter.mpr ⟨hc, hi⟩)
  · simpa [hi] using h
set_option maxRecDepth 65536 in
theorem w_c0 : (Jvm.Cond.code x code maxLocals ret).before args0 about1 = true := code_word (m := ⟨1, 2⟩) (meth := k1m2) (c := k1c2) (by decide +kernel) rfl rfl rfl (by decide +kernel)
set_option maxRecDepth 65536 in
theorem w_c1 : (Jvm.Cond.code ({ cls := "com/example/dyn_authz/dynauthz/service/Decisions", name := "<init>", desc := "(I)V" } : Jvm.MethodName) prog_43_method_1_code (2 : Nat) (Option.none : Option Jvm.ClassFile.FieldType)).before args0 about1 = true := code_word (m := ⟨3, 0⟩) (meth := k3m0) (c := k3c0) (by decide +kernel) rfl rfl rfl (by decide +kernel)
set_option maxRecDepth 65536 in
theorem w_c2 : (Jvm.Cond.code ({ cls := "java/lang/Object", name := "<init>", desc := "()V" } : Jvm.MethodName) object_method_1_code (1 : Nat) (Option.none : Option Jvm.ClassFile.FieldType)).before args0 about1 = true := code_word (m := ⟨0, 0⟩) (meth := k0m0) (c := k0c0) (by decide +kernel) rfl rfl rfl (by decide +kernel)
set_option maxRecDepth 65536 in
theorem w_c3 : (Jvm.Cond.code ({ cls := "java/util/BitSet", name := "<init>", desc := "(I)V" } : Jvm.MethodName) jdk_92_method_5_code (2 : Nat) (Option.none : Option Jvm.ClassFile.FieldType)).before args0 about1 = true := code_word (m := ⟨6, 3⟩) (meth := k6m3) (c := k6c3) (by decide +kernel) rfl rfl rfl (by decide +kernel)
set_option maxRecDepth 65536 in
theorem w_c4 : (Jvm.Cond.code ({ cls := "java/util/BitSet", name := "initWords", desc := "(I)V" } : Jvm.MethodName) jdk_92_method_6_code (2 : Nat) (Option.none : Option Jvm.ClassFile.FieldType)).before args0 about1 = true := code_word (m := ⟨6, 4⟩) (meth := k6m4) (c := k6c4) (by decide +kernel) rfl rfl rfl (by decide +kernel)
set_option maxRecDepth 65536 in
theorem w_c5 : (Jvm.Cond.code ({ cls := "java/util/BitSet", name := "wordIndex", desc := "(I)I" } : Jvm.MethodName) jdk_92_method_1_code (1 : Nat) (Option.some Jvm.ClassFile.FieldType.int)).before args0 about1 = true := code_word (m := ⟨6, 0⟩) (meth := k6m0) (c := k6c0) (by decide +kernel) rfl rfl rfl (by decide +kernel)
set_option maxRecDepth 65536 in
theorem w_c6 : (Jvm.Cond.code ({ cls := "com/example/dyn_authz/dynauthz/service/DecisionsLengthPinLaw", name := "addOne", desc := "(Lcom/example/dyn_authz/dynauthz/service/Decisions;ZZ)J" } : Jvm.MethodName) method_2_code (5 : Nat) (Option.some Jvm.ClassFile.FieldType.long)).before args0 about1 = true := code_word (m := ⟨1, 1⟩) (meth := k1m1) (c := k1c1) (by decide +kernel) rfl rfl rfl (by decide +kernel)
set_option maxRecDepth 65536 in
theorem w_c7 : (Jvm.Cond.code ({ cls := "com/example/dyn_authz/dynauthz/service/Decisions", name := "add", desc := "(Lcom/example/dyn_authz/dynauthz/policy/Decision;)V" } : Jvm.MethodName) prog_43_method_3_code (2 : Nat) (Option.none : Option Jvm.ClassFile.FieldType)).before args0 about1 = true := code_word (m := ⟨3, 1⟩) (meth := k3m1) (c := k3c1) (by decide +kernel) rfl rfl rfl (by decide +kernel)
set_option maxRecDepth 65536 in
theorem w_c8 : (Jvm.Cond.code ({ cls := "java/util/BitSet", name := "set", desc := "(I)V" } : Jvm.MethodName) jdk_92_method_19_code (3 : Nat) (Option.none : Option Jvm.ClassFile.FieldType)).before args0 about1 = true := code_word (m := ⟨6, 7⟩) (meth := k6m7) (c := k6c7) (by decide +kernel) rfl rfl rfl (by decide +kernel)
set_option maxRecDepth 65536 in
theorem w_c9 : (Jvm.Cond.code ({ cls := "java/util/BitSet", name := "expandTo", desc := "(I)V" } : Jvm.MethodName) jdk_92_method_15_code (3 : Nat) (Option.none : Option Jvm.ClassFile.FieldType)).before args0 about1 = true := code_word (m := ⟨6, 6⟩) (meth := k6m6) (c := k6c6) (by decide +kernel) rfl rfl rfl (by decide +kernel)
set_option maxRecDepth 65536 in
theorem w_c10 : (Jvm.Cond.code ({ cls := "java/util/BitSet", name := "ensureCapacity", desc := "(I)V" } : Jvm.MethodName) jdk_92_method_14_code (3 : Nat) (Option.none : Option Jvm.ClassFile.FieldType)).before args0 about1 = true := code_word (m := ⟨6, 5⟩) (meth := k6m5) (c := k6c5) (by decide +kernel) rfl rfl rfl (by decide +kernel)
set_option maxRecDepth 65536 in
theorem w_c11 : (Jvm.Cond.code ({ cls := "java/lang/Math", name := "max", desc := "(II)I" } : Jvm.MethodName) jdk_29_method_65_code (2 : Nat) (Option.some Jvm.ClassFile.FieldType.int)).before args0 about1 = true := code_word (m := ⟨11, 1⟩) (meth := k11m1) (c := k11c1) (by decide +kernel) rfl rfl rfl (by decide +kernel)
set_option maxRecDepth 65536 in
theorem w_c12 : (Jvm.Cond.code ({ cls := "java/util/Arrays", name := "copyOf", desc := "([JI)[J" } : Jvm.MethodName) jdk_65_method_124_code (3 : Nat) (Option.some (Jvm.ClassFile.FieldType.array Jvm.ClassFile.FieldType.long))).before args0 about1 = true := code_word (m := ⟨12, 1⟩) (meth := k12m1) (c := k12c1) (by decide +kernel) rfl rfl rfl (by decide +kernel)
set_option maxRecDepth 65536 in
theorem w_c13 : (Jvm.Cond.code ({ cls := "java/lang/Math", name := "min", desc := "(II)I" } : Jvm.MethodName) jdk_29_method_69_code (2 : Nat) (Option.some Jvm.ClassFile.FieldType.int)).before args0 about1 = true := code_word (m := ⟨11, 2⟩) (meth := k11m2) (c := k11c2) (by decide +kernel) rfl rfl rfl (by decide +kernel)
set_option maxRecDepth 65536 in
theorem w_c14 : (Jvm.Cond.code ({ cls := "java/util/BitSet", name := "checkInvariants", desc := "()V" } : Jvm.MethodName) jdk_92_method_2_code (1 : Nat) (Option.none : Option Jvm.ClassFile.FieldType)).before args0 about1 = true := code_word (m := ⟨6, 1⟩) (meth := k6m1) (c := k6c1) (by decide +kernel) rfl rfl rfl (by decide +kernel)
set_option maxRecDepth 65536 in
theorem w_c15 : (Jvm.Cond.code ({ cls := "com/example/dyn_authz/dynauthz/service/Decisions", name := "length", desc := "()J" } : Jvm.MethodName) prog_43_method_4_code (3 : Nat) (Option.some Jvm.ClassFile.FieldType.long)).before args0 about1 = true := code_word (m := ⟨3, 2⟩) (meth := k3m2) (c := k3c2) (by decide +kernel) rfl rfl rfl (by decide +kernel)
def codes1 : List Jvm.Cond := [Jvm.Cond.code x code maxLocals ret, Jvm.Cond.code ({ cls := "com/example/dyn_authz/dynauthz/service/Decisions", name := "<init>", desc := "(I)V" } : Jvm.MethodName) prog_43_method_1_code (2 : Nat) (Option.none : Option Jvm.ClassFile.FieldType), Jvm.Cond.code ({ cls := "java/lang/Object", name := "<init>", desc := "()V" } : Jvm.MethodName) object_method_1_code (1 : Nat) (Option.none : Option Jvm.ClassFile.FieldType), Jvm.Cond.code ({ cls := "java/util/BitSet", name := "<init>", desc := "(I)V" } : Jvm.MethodName) jdk_92_method_5_code (2 : Nat) (Option.none : Option Jvm.ClassFile.FieldType), Jvm.Cond.code ({ cls := "java/util/BitSet", name := "initWords", desc := "(I)V" } : Jvm.MethodName) jdk_92_method_6_code (2 : Nat) (Option.none : Option Jvm.ClassFile.FieldType), Jvm.Cond.code ({ cls := "java/util/BitSet", name := "wordIndex", desc := "(I)I" } : Jvm.MethodName) jdk_92_method_1_code (1 : Nat) (Option.some Jvm.ClassFile.FieldType.int), Jvm.Cond.code ({ cls := "com/example/dyn_authz/dynauthz/service/DecisionsLengthPinLaw", name := "addOne", desc := "(Lcom/example/dyn_authz/dynauthz/service/Decisions;ZZ)J" } : Jvm.MethodName) method_2_code (5 : Nat) (Option.some Jvm.ClassFile.FieldType.long), Jvm.Cond.code ({ cls := "com/example/dyn_authz/dynauthz/service/Decisions", name := "add", desc := "(Lcom/example/dyn_authz/dynauthz/policy/Decision;)V" } : Jvm.MethodName) prog_43_method_3_code (2 : Nat) (Option.none : Option Jvm.ClassFile.FieldType), Jvm.Cond.code ({ cls := "java/util/BitSet", name := "set", desc := "(I)V" } : Jvm.MethodName) jdk_92_method_19_code (3 : Nat) (Option.none : Option Jvm.ClassFile.FieldType), Jvm.Cond.code ({ cls := "java/util/BitSet", name := "expandTo", desc := "(I)V" } : Jvm.MethodName) jdk_92_method_15_code (3 : Nat) (Option.none : Option Jvm.ClassFile.FieldType), Jvm.Cond.code ({ cls := "java/util/BitSet", name := "ensureCapacity", desc := "(I)V" } : Jvm.MethodName) jdk_92_method_14_code (3 : Nat) (Option.none : Option Jvm.ClassFile.FieldType), Jvm.Cond.code ({ cls := "java/lang/Math", name := "max", desc := "(II)I" } : Jvm.MethodName) jdk_29_method_65_code (2 : Nat) (Option.some Jvm.ClassFile.FieldType.int), Jvm.Cond.code ({ cls := "java/util/Arrays", name := "copyOf", desc := "([JI)[J" } : Jvm.MethodName) jdk_65_method_124_code (3 : Nat) (Option.some (Jvm.ClassFile.FieldType.array Jvm.ClassFile.FieldType.long)), Jvm.Cond.code ({ cls := "java/lang/Math", name := "min", desc := "(II)I" } : Jvm.MethodName) jdk_29_method_69_code (2 : Nat) (Option.some Jvm.ClassFile.FieldType.int), Jvm.Cond.code ({ cls := "java/util/BitSet", name := "checkInvariants", desc := "()V" } : Jvm.MethodName) jdk_92_method_2_code (1 : Nat) (Option.none : Option Jvm.ClassFile.FieldType), Jvm.Cond.code ({ cls := "com/example/dyn_authz/dynauthz/service/Decisions", name := "length", desc := "()J" } : Jvm.MethodName) prog_43_method_4_code (3 : Nat) (Option.some Jvm.ClassFile.FieldType.long)]
set_option maxRecDepth 65536 in
theorem codes_eq : words1.filter isCode = codes1 := rfl
theorem w_codes : ∀ c ∈ words1.filter isCode, c.before args0 about1 = true := by
  rw [codes_eq]
  intro c hc
  simp only [codes1, List.mem_cons, List.not_mem_nil, or_false] at hc
  rcases hc with rfl | rfl | rfl | rfl | rfl | rfl | rfl | rfl | rfl | rfl | rfl | rfl | rfl | rfl | rfl | rfl
  · exact w_c0
  · exact w_c1
  · exact w_c2
  · exact w_c3
  · exact w_c4
  · exact w_c5
  · exact w_c6
  · exact w_c7
  · exact w_c8
  · exact w_c9
  · exact w_c10
  · exact w_c11
  · exact w_c12
  · exact w_c13
  · exact w_c14
  · exact w_c15
set_option maxRecDepth 65536 in
theorem w_t1 : (words1.take 24).all (fun c => isCode c || c.before args0 about1) = true := by decide +kernel
set_option maxRecDepth 65536 in
theorem w_t2 : ((words1.drop 24).take 24).all (fun c => isCode c || c.before args0 about1) = true := by decide +kernel
set_option maxRecDepth 65536 in
theorem w_t3 : (((words1.drop 24).drop 24).take 24).all (fun c => isCode c || c.before args0 about1) = true := by decide +kernel
set_option maxRecDepth 65536 in
theorem w_t4 : ((((words1.drop 24).drop 24).drop 24).take 24).all (fun c => isCode c || c.before args0 about1) = true := by decide +kernel
set_option maxRecDepth 65536 in
theorem w_t5 : ((((words1.drop 24).drop 24).drop 24).drop 24).all (fun c => isCode c || c.before args0 about1) = true := by decide +kernel
theorem w_tables : (allAtoms (Jvm.Cond.code x code maxLocals ret :: tables_1)).before args0 about1 = true := by
  rw [allAtoms_all]
  show words1.all (fun c => c.before args0 about1) = true
  refine all_split ?_ w_codes
  rw [← List.take_append_drop 24 words1, List.all_append, w_t1, ← List.take_append_drop 24 (words1.drop 24), List.all_append, w_t2, ← List.take_append_drop 24 ((words1.drop 24).drop 24), List.all_append, w_t3, ← List.take_append_drop 24 (((words1.drop 24).drop 24).drop 24), List.all_append, w_t4, w_t5]
  rfl
set_option maxRecDepth 65536 in
theorem w_rest : rest_1_c.before args0 about1 = true := by decide +kernel
set_option maxRecDepth 65536 in
theorem w_case : (Jvm.Cond.and given_1 narrow_1).before args0 about1 = true := by decide +kernel
theorem w_applies : (headSpec (Jvm.Cond.code x code maxLocals ret :: tables_1) room_1).applies x e0.platform about1 = true :=
  (Spec.applies_iff w_frames).mpr ⟨w_running, w_runnable, w_alone, w_named, w_hears, w_ripe, w_room, w_tables⟩
theorem atStart : AtStart classFile x code maxLocals ret World_1 tables_1 room_1 Calls_1 rest_1 Pre_1 launch0 p0 e0 about1 theMethod args0 below0 :=
  ⟨lists_1, trivial, launch0.admits_env _ _ _, launch0.least_env, fairChoices_fair.cas, fairChoices_fair.clock, w_frames, w_args, w_heap, w_applies, trivial, w_rest, w_case⟩
end start1
theorem witness_1 : WitnessClaimed_1 := ⟨start1.p0, start1.e0, start1.about1, start1.theMethod, start1.args0, start1.below0, start1.atStart⟩
end Jvm.Pilot.@@N@@
