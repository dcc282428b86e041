import JvmDerived
import JvmDerived.Pilot.@@N@@Statement
import JvmDerived.Pilot.@@N@@Code
set_option linter.unusedVariables false
set_option linter.unusedSimpArgs false
namespace Jvm.OwnKit
open Sem ClassFile Op Lib Jvm.Stand Jvm.Free Jvm.LawKit Jvm.RoadKit
abbrev Kx := (List Loc → Prop) × (Outcome → State → List Loc → Prop) × Program × Env × State × MethodId × Array Value × List Frame × Method × Code
def KS (K : Kx) : State := K.2.2.2.2.1
/-- what is fixed while one body is walked; fl: places may be written; kz: what the heap's length must reach at the end -/
def Ctx (l : Launch) (R : Room) (Z : State) (own nm : String) (code : ByteArray) (maxL : Nat) (ret : Option FieldType) (fl : Bool) (n0 kz : Nat) : Kx → Prop
  | (Pl, En, p, e, s, m, args, below, meth, c) => p.tables.exec = Jvm.exec ∧ Z.Warmed39 s.vm ∧ s.vm.findClass own = some m.cls ∧ c.code = code ∧ c.maxLocals = maxL ∧ meth.sig.returnType = ret ∧ meth.name = nm ∧ meth.locks = false ∧ (fl = true → ∀ A B, Pl A → Fr n0 B → Pl (A ++ B)) ∧ (∀ A, Pl A → Fr n0 A) ∧
    ∀ v (t : State) A, kz ≤ t.heap.size → s.WarmedH t.vm → s.sameButNew ({ t with vm := s.vm } : State) A R.cells R.slots → En (.returned v) t A
/-- from every stand with the heap h at this frame the body ends as Q says, all that it wrote lying at n0 or above -/
def Run (l : Launch) (R : Room) (n0 : Nat) (Q : Option Value → Heap → Vm → Prop) : Kx → Heap → Nat → Nat → Nat → Array Slot → List Value → Prop
  | (Pl, En, p, e, s, m, args, below, meth, c), h, cells, slots, pc, Ls, st => ∀ (T : State) (locs : List Loc), Stand p l e R s m args below meth c T locs cells slots → T.heap = h → Pl locs →
    ∃ s₂ o, Steps p.tables e below (T.setTop (mkF m pc Ls st)) s₂ ∧ s₂.status = .running ∧ Ended s₂ below o ∧ ∃ v L, o = .returned v ∧ (Q v s₂.heap s₂.vm ∧ Fr n0 L) ∧ En o s₂ L
/-- a body's contract: it interns nothing -/
def Con (l : Launch) (ws : List Jvm.Cond) (y : MethodName) (bytes : ByteArray) (maxL : Nat) (ret : Option FieldType) (rm : Room) (Z : State) (as : Array Value) (h0 : Heap) (n0 : Nat) (Q : Option Value → Heap → Prop) : Prop :=
  MetFree l y (head1 (Jvm.Cond.code y bytes maxL ret :: ws) rm) (fun a U => a = as ∧ Z.Warmed39 U.vm ∧ U.heap = h0) (fun _ _ _ _ _ => True) (fun _ U o U' => ∃ v L, o = .returned v ∧ (Q v U'.heap ∧ Fr n0 L) ∧ FrameEnd U o U' L rm.cells rm.slots)
/-- a body's contract: it may intern; V: what its start knows of the tables -/
def ConW (l : Launch) (ws : List Jvm.Cond) (y : MethodName) (bytes : ByteArray) (maxL : Nat) (ret : Option FieldType) (rm : Room) (Z : State) (as : Array Value) (h0 : Heap) (n0 : Nat) (V : Vm → Prop) (Q : Option Value → Heap → Vm → Prop) : Prop :=
  MetFree l y (head1 (Jvm.Cond.code y bytes maxL ret :: ws) rm) (fun a U => a = as ∧ Z.Warmed39 U.vm ∧ U.heap = h0 ∧ V U.vm) (fun _ _ _ _ _ => True) (fun _ U o U' => ∃ v L, o = .returned v ∧ (Q v U'.heap U'.vm ∧ Fr n0 L) ∧ ReturnedEndW U o U' L rm.cells rm.slots)
section
variable {l : Launch} {R : Room} {Z : State} {own nm : String} {code : ByteArray} {maxL : Nat} {ret : Option FieldType} {K : Kx} {fl : Bool} {n0 kz : Nat} {Q : Option Value → Heap → Vm → Prop} {h : Heap} {cells slots pc pc' : Nat} {Ls Ls' : Array Slot} {st rest : List Value} {a0 : Array Value}
theorem enter {ws : List Jvm.Cond} {y : MethodName} {as : Array Value} {h0 : Heap} {Q : Option Value → Heap → Prop} (pn : plainFor y = true) (ef : ∀ m, entryFrame m as maxL = mkF m 0 Ls []) (H : ∀ K, Ctx l R Z y.cls y.name code maxL ret true n0 0 K → Run l R n0 (fun v h _ => Q v h) K h0 0 0 0 Ls []) : Con l ws y code maxL ret R Z as h0 n0 Q := by
  refine MetFree.of_bodySF pn hisR ?_
  intro p e s m args below meth c s₁ Bd hml0 hP hK
  obtain ⟨rfl, hZ, hh⟩ := hP
  have X0 : Stand p l e R s m args below meth c s₁ [] 0 0 := Stand.of_body Bd
  obtain ⟨s2, o, k1, k2, k3, k4⟩ := H (Fr n0, fun o t L => FrameEnd s o t L R.cells R.slots, p, e, s, m, args, below, meth, c) ⟨Bd.exec, hZ, findClass_of_methodNamed Bd.named, Bd.bytes, hml0, Bd.returns, (name_of_methodNamed Bd.named Bd.method).1, Bd.notSynchronized, fun _ A B a b => Fr.app a b, fun A a => a, fun v t A _ h1 h2 => ⟨⟨v, rfl⟩, h1, h2⟩⟩ s₁ [] X0 (by rw [← hh, Bd.state]; rfl) (Fr.nil n0)
  exact ⟨s2, o, castTop (ef m) k1, k2, k3, k4⟩
/-- the base of a wide walk: whatever the tables have gained since the body's start, it ends well -/
def Wb (l : Launch) (R : Room) (Z : State) (own nm : String) (code : ByteArray) (maxL : Nat) (ret : Option FieldType) (n0 : Nat) (h0 : Heap) : Kx → Prop
  | (Pl, En, p, e, s, m, args, below, meth, c) => p.tables.exec = Jvm.exec ∧ Z.Warmed39 s.vm ∧ s.vm.findClass own = some m.cls ∧ c.code = code ∧ c.maxLocals = maxL ∧ meth.sig.returnType = ret ∧ meth.name = nm ∧ meth.locks = false ∧ s.heap = h0 ∧
    ∀ vm k v (t : State) A, s.Since vm k → k ≤ t.heap.size → (s.setVm vm).WarmedH t.vm → (s.setVm vm).sameButNew ({ t with vm := vm } : State) A R.cells R.slots → En (.returned v) t A
def Kw : Kx → (List Loc → Prop) → Vm → Kx
  | (_, En, p, e, s, m, args, below, meth, c), Pl, w => (Pl, En, p, e, s.setVm w, m, args, below, meth, c)
/-- the tables have become vm since the start -/
def Sn (K : Kx) (vm : Vm) (k : Nat) : Prop := (KS K).Since vm k
theorem Wb.ctx {h0 : Heap} {vm : Vm} {k : Nat} (W : Wb l R Z own nm code maxL ret n0 h0 K) (D : Sn K vm k) : Ctx l R Z own nm code maxL ret true n0 k (Kw K (Fr n0) vm) := by
  obtain ⟨Pl, En, p, e, s, m, args, below, meth, c⟩ := K
  obtain ⟨w1, w2, w3, w4, w5, w6, w7, w8, w9, w10⟩ := W
  have D' : s.Since vm k := D
  exact ⟨w1, State.Warmed39.trans w2 D'.1, by rw [show (s.setVm vm).vm = vm from rfl, D'.1.alike.findClass]; exact w3, w4, w5, w6, w7, w8, fun _ A B a b => Fr.app a b, fun A a => a, fun v t A h1 h2 h3 => w10 vm k v t A D' h1 h2 h3⟩
theorem Wb.ctx0 {h0 : Heap} {vm : Vm} {k : Nat} (W : Wb l R Z own nm code maxL ret n0 h0 K) (D : Sn K vm k) : Ctx l R Z own nm code maxL ret false n0 k (Kw K (· = []) vm) := by
  obtain ⟨Pl, En, p, e, s, m, args, below, meth, c⟩ := K
  obtain ⟨w1, w2, w3, w4, w5, w6, w7, w8, w9, w10⟩ := W
  have D' : s.Since vm k := D
  exact ⟨w1, State.Warmed39.trans w2 D'.1, by rw [show (s.setVm vm).vm = vm from rfl, D'.1.alike.findClass]; exact w3, w4, w5, w6, w7, w8, (fun q => Bool.noConfusion q), (fun A (a : A = []) => a ▸ Fr.nil n0), fun v t A h1 h2 h3 => w10 vm k v t A D' h1 h2 h3⟩
/-- nothing written so far: from now on anything may be -/
theorem Run.touch {vm : Vm} (r : Run l R n0 Q (Kw K (Fr n0) vm) h cells slots pc Ls st) : Run l R n0 Q (Kw K (· = []) vm) h cells slots pc Ls st := by
  obtain ⟨Pl, En, p, e, s, m, args, below, meth, c⟩ := K
  intro T locs X eT N
  exact r T locs X eT (by rw [N]; exact Fr.nil n0)
theorem since_refl (s : State) : s.Since s.vm s.heap.size := ⟨State.Warmed39.refl s, fun j p h1 h2 => absurd (Array.getElem?_eq_some_iff.mp h2).1 (Nat.not_lt.mpr h1)⟩
theorem enterW {ws : List Jvm.Cond} {y : MethodName} {as : Array Value} {h0 : Heap} {V : Vm → Prop} (pn : plainFor y = true) (ef : ∀ m, entryFrame m as maxL = mkF m 0 Ls []) (H : ∀ K vm k, Wb l R Z y.cls y.name code maxL ret n0 h0 K → Sn K vm k → k ≤ h0.size → V vm → Run l R n0 Q (Kw K (· = []) vm) h0 0 0 0 Ls []) : ConW l ws y code maxL ret R Z as h0 n0 V Q := by
  refine MetFree.of_bodySF pn hisR ?_
  intro p e s m args below meth c s₁ Bd hml0 hP hK
  obtain ⟨rfl, hZ, hh, hV⟩ := hP
  have X0 : Stand p l e R s m args below meth c s₁ [] 0 0 := Stand.of_body Bd
  obtain ⟨s2, o, k1, k2, k3, k4⟩ := H (Fr n0, fun o t L => ReturnedEndW s o t L R.cells R.slots, p, e, s, m, args, below, meth, c) s.vm s.heap.size ⟨Bd.exec, hZ, findClass_of_methodNamed Bd.named, Bd.bytes, hml0, Bd.returns, (name_of_methodNamed Bd.named Bd.method).1, Bd.notSynchronized, hh, fun vm k v t A hS hk h1 h2 => ⟨⟨v, rfl⟩, hS.ended h1 hk h2⟩⟩ (since_refl s) (by rw [hh]; exact Nat.le_refl _) hV s₁ [] X0 (by rw [← hh, Bd.state]; rfl) rfl
  exact ⟨s2, o, castTop (ef m) k1, k2, k3, k4⟩
theorem Run.le {cells' slots' : Nat} (hc : cells ≤ cells') (hs : slots ≤ slots') (r : Run l R n0 Q K h cells' slots' pc Ls st) : Run l R n0 Q K h cells slots pc Ls st := by
  obtain ⟨Pl, En, p, e, s, m, args, below, meth, c⟩ := K
  intro T locs X eT N
  exact r T locs (X.more hc hs) eT N
theorem Con.weaken {ws : List Jvm.Cond} {y : MethodName} {as : Array Value} {Q Q' : Option Value → Heap → Prop} (r : Con l ws y code maxL ret R Z as h n0 Q') (hq : ∀ v h, Q' v h → Q v h) : Con l ws y code maxL ret R Z as h n0 Q := by
  intro p e a1 a2 a3 s m args below a4 a5 a6 a7
  obtain ⟨s2, o, k1, k2, k3, v, L, k4, ⟨k5, k6⟩, k7⟩ := r p e a1 a2 a3 s m args below a4 a5 a6 a7
  exact ⟨s2, o, k1, k2, k3, v, L, k4, ⟨hq _ _ k5, k6⟩, k7⟩
/-- one step that moves the frame alone -/
theorem Run.pure (C : Ctx l R Z own nm code maxL ret fl n0 kz K) (hp : pc + 0 = pc ∨ True)
    (k : ∀ (p : Program) (e : Env) (s : State) (m : MethodId) (args : Array Value) (below : List Frame) (meth : Method) (c : Code), p.tables.exec = Jvm.exec → c.code = code → s.vm.findClass own = some m.cls → Z.Warmed39 s.vm → ∀ (T : State) (locs : List Loc), Stand p l e R s m args below meth c T locs cells slots → T.heap = h → ∀ target, Steps p.tables e below (T.setTop (mkF m pc' Ls' rest)) target → Steps p.tables e below (T.setTop (mkF m pc Ls st)) target)
    (r : Run l R n0 Q K h cells slots pc' Ls' rest) : Run l R n0 Q K h cells slots pc Ls st := by
  obtain ⟨Pl, En, p, e, s, m, args, below, meth, c⟩ := K
  intro T locs X eT N
  obtain ⟨hx, hZ, hown, hby, -⟩ := C
  obtain ⟨s2, o, k1, k2⟩ := r T locs X eT N
  exact ⟨s2, o, k p e s m args below meth c hx hby hown hZ T locs X eT _ k1, k2⟩

theorem r_aloadN (C : Ctx l R Z own nm code maxL ret fl n0 kz K) {k : Fin 4} {v : Value} (hd : decode code pc = .ok (.aload_n k, 1)) (hp : pc + 1 = pc') (hl : Ls[k.val]? = some (.val v)) (hv : v.isRef = true) (r : Run l R n0 Q K h cells slots pc' Ls (v :: st)) : Run l R n0 Q K h cells slots pc Ls (st) :=
  Run.pure C (Or.inr trivial) (fun p e s m args below meth c hx hby hown hZ T locs X eT target k => by subst hp; exact XS.aloadN X.here hx rfl (hb hby hd) hl hv k) r
theorem r_aload (C : Ctx l R Z own nm code maxL ret fl n0 kz K) {k : Nat} {v : Value} (hd : decode code pc = .ok (.aload k, 2)) (hp : pc + 2 = pc') (hl : Ls[k]? = some (.val v)) (hv : v.isRef = true) (r : Run l R n0 Q K h cells slots pc' Ls (v :: st)) : Run l R n0 Q K h cells slots pc Ls (st) :=
  Run.pure C (Or.inr trivial) (fun p e s m args below meth c hx hby hown hZ T locs X eT target k => by subst hp; exact XS.aload X.here hx rfl (hb hby hd) hl hv k) r
theorem r_iloadN (C : Ctx l R Z own nm code maxL ret fl n0 kz K) {k : Fin 4} {v : Int32} (hd : decode code pc = .ok (.iload_n k, 1)) (hp : pc + 1 = pc') (hl : Ls[k.val]? = some (.val (.int v))) (r : Run l R n0 Q K h cells slots pc' Ls (.int v :: st)) : Run l R n0 Q K h cells slots pc Ls (st) :=
  Run.pure C (Or.inr trivial) (fun p e s m args below meth c hx hby hown hZ T locs X eT target k => by subst hp; exact XS.iloadN X.here hx rfl (hb hby hd) hl k) r
theorem r_iload (C : Ctx l R Z own nm code maxL ret fl n0 kz K) {k : Nat} {v : Int32} (hd : decode code pc = .ok (.iload k, 2)) (hp : pc + 2 = pc') (hl : Ls[k]? = some (.val (.int v))) (r : Run l R n0 Q K h cells slots pc' Ls (.int v :: st)) : Run l R n0 Q K h cells slots pc Ls (st) :=
  Run.pure C (Or.inr trivial) (fun p e s m args below meth c hx hby hown hZ T locs X eT target k => by subst hp; exact XS.iload X.here hx rfl (hb hby hd) hl k) r
theorem r_lloadN (C : Ctx l R Z own nm code maxL ret fl n0 kz K) {k : Fin 4} {v : Int64} (hd : decode code pc = .ok (.lload_n k, 1)) (hp : pc + 1 = pc') (hl : Ls[k.val]? = some (.val (.long v))) (r : Run l R n0 Q K h cells slots pc' Ls (.long v :: st)) : Run l R n0 Q K h cells slots pc Ls (st) :=
  Run.pure C (Or.inr trivial) (fun p e s m args below meth c hx hby hown hZ T locs X eT target k => by subst hp; exact XT.lloadN X.here hx rfl (hb hby hd) hl k) r
theorem r_lload (C : Ctx l R Z own nm code maxL ret fl n0 kz K) {k : Nat} {v : Int64} (hd : decode code pc = .ok (.lload k, 2)) (hp : pc + 2 = pc') (hl : Ls[k]? = some (.val (.long v))) (r : Run l R n0 Q K h cells slots pc' Ls (.long v :: st)) : Run l R n0 Q K h cells slots pc Ls (st) :=
  Run.pure C (Or.inr trivial) (fun p e s m args below meth c hx hby hown hZ T locs X eT target k => by subst hp; exact XT.lload X.here hx rfl (hb hby hd) hl k) r
theorem r_astoreN (C : Ctx l R Z own nm code maxL ret fl n0 kz K) {k : Fin 4} {v : Value} (hd : decode code pc = .ok (.astore_n k, 1)) (hp : pc + 1 = pc') (hl : storeLocals Ls k.val v = some Ls') (hv : v.isRef = true) (r : Run l R n0 Q K h cells slots pc' Ls' (st)) : Run l R n0 Q K h cells slots pc Ls (v :: st) :=
  Run.pure C (Or.inr trivial) (fun p e s m args below meth c hx hby hown hZ T locs X eT target k => by subst hp; exact XS.astoreN X.here hx rfl (hb hby hd) rfl hv hl k) r
theorem r_astore (C : Ctx l R Z own nm code maxL ret fl n0 kz K) {k : Nat} {v : Value} (hd : decode code pc = .ok (.astore k, 2)) (hp : pc + 2 = pc') (hl : storeLocals Ls k v = some Ls') (hv : v.isRef = true) (r : Run l R n0 Q K h cells slots pc' Ls' (st)) : Run l R n0 Q K h cells slots pc Ls (v :: st) :=
  Run.pure C (Or.inr trivial) (fun p e s m args below meth c hx hby hown hZ T locs X eT target k => by subst hp; exact XS.astore X.here hx rfl (hb hby hd) rfl hv hl k) r
theorem r_istoreN (C : Ctx l R Z own nm code maxL ret fl n0 kz K) {k : Fin 4} {v : Int32} (hd : decode code pc = .ok (.istore_n k, 1)) (hp : pc + 1 = pc') (hl : storeLocals Ls k.val (.int v) = some Ls') (r : Run l R n0 Q K h cells slots pc' Ls' (st)) : Run l R n0 Q K h cells slots pc Ls (.int v :: st) :=
  Run.pure C (Or.inr trivial) (fun p e s m args below meth c hx hby hown hZ T locs X eT target k => by subst hp; exact XS.istoreN X.here hx rfl (hb hby hd) rfl hl k) r
theorem r_istore (C : Ctx l R Z own nm code maxL ret fl n0 kz K) {k : Nat} {v : Int32} (hd : decode code pc = .ok (.istore k, 2)) (hp : pc + 2 = pc') (hl : storeLocals Ls k (.int v) = some Ls') (r : Run l R n0 Q K h cells slots pc' Ls' (st)) : Run l R n0 Q K h cells slots pc Ls (.int v :: st) :=
  Run.pure C (Or.inr trivial) (fun p e s m args below meth c hx hby hown hZ T locs X eT target k => by subst hp; exact XS.istore X.here hx rfl (hb hby hd) rfl hl k) r
theorem r_lstoreN (C : Ctx l R Z own nm code maxL ret fl n0 kz K) {k : Fin 4} {v : Int64} (hd : decode code pc = .ok (.lstore_n k, 1)) (hp : pc + 1 = pc') (hl : storeLocals Ls k.val (.long v) = some Ls') (r : Run l R n0 Q K h cells slots pc' Ls' (st)) : Run l R n0 Q K h cells slots pc Ls (.long v :: st) :=
  Run.pure C (Or.inr trivial) (fun p e s m args below meth c hx hby hown hZ T locs X eT target k => by subst hp; exact XT.lstoreN X.here hx rfl (hb hby hd) rfl hl k) r
theorem r_lstore (C : Ctx l R Z own nm code maxL ret fl n0 kz K) {k : Nat} {v : Int64} (hd : decode code pc = .ok (.lstore k, 2)) (hp : pc + 2 = pc') (hl : storeLocals Ls k (.long v) = some Ls') (r : Run l R n0 Q K h cells slots pc' Ls' (st)) : Run l R n0 Q K h cells slots pc Ls (.long v :: st) :=
  Run.pure C (Or.inr trivial) (fun p e s m args below meth c hx hby hown hZ T locs X eT target k => by subst hp; exact XT.lstore X.here hx rfl (hb hby hd) rfl hl k) r
theorem r_iconst (C : Ctx l R Z own nm code maxL ret fl n0 kz K) {i : Int} {v : Int32} (hd : decode code pc = .ok (.iconst i, 1)) (hp : pc + 1 = pc') (hv : Int32.ofInt i = v) (r : Run l R n0 Q K h cells slots pc' Ls (.int v :: st)) : Run l R n0 Q K h cells slots pc Ls (st) :=
  Run.pure C (Or.inr trivial) (fun p e s m args below meth c hx hby hown hZ T locs X eT target k => by subst hp; exact XT.iconstV X.here hx rfl v (hb hby hd) hv k) r
theorem r_bipush (C : Ctx l R Z own nm code maxL ret fl n0 kz K) {i : Int} {v : Int32} (hd : decode code pc = .ok (.bipush i, 2)) (hp : pc + 2 = pc') (hv : (Int8.ofInt i).toInt32 = v) (r : Run l R n0 Q K h cells slots pc' Ls (.int v :: st)) : Run l R n0 Q K h cells slots pc Ls (st) :=
  Run.pure C (Or.inr trivial) (fun p e s m args below meth c hx hby hown hZ T locs X eT target k => by subst hp; exact XT.bipushV X.here hx rfl v (hb hby hd) hv k) r
theorem r_sipush (C : Ctx l R Z own nm code maxL ret fl n0 kz K) {i : Int} {v : Int32} (hd : decode code pc = .ok (.sipush i, 3)) (hp : pc + 3 = pc') (hv : (Int16.ofInt i).toInt32 = v) (r : Run l R n0 Q K h cells slots pc' Ls (.int v :: st)) : Run l R n0 Q K h cells slots pc Ls (st) :=
  Run.pure C (Or.inr trivial) (fun p e s m args below meth c hx hby hown hZ T locs X eT target k => by subst hp; exact XT.sipushV X.here hx rfl v (hb hby hd) hv k) r
theorem r_lconst (C : Ctx l R Z own nm code maxL ret fl n0 kz K) {i : Fin 2} {v : Int64} (hd : decode code pc = .ok (.lconst i, 1)) (hp : pc + 1 = pc') (hv : Int64.ofNat i = v) (r : Run l R n0 Q K h cells slots pc' Ls (.long v :: st)) : Run l R n0 Q K h cells slots pc Ls (st) :=
  Run.pure C (Or.inr trivial) (fun p e s m args below meth c hx hby hown hZ T locs X eT target k => by subst hp; exact XT.lconstV X.here hx rfl v (hb hby hd) hv k) r
theorem r_aconst_null (C : Ctx l R Z own nm code maxL ret fl n0 kz K) (hd : decode code pc = .ok (.aconst_null, 1)) (hp : pc + 1 = pc') (r : Run l R n0 Q K h cells slots pc' Ls (.null :: st)) : Run l R n0 Q K h cells slots pc Ls (st) :=
  Run.pure C (Or.inr trivial) (fun p e s m args below meth c hx hby hown hZ T locs X eT target k => by subst hp; exact XS.aconstNull X.here hx rfl (hb hby hd) k) r
theorem r_iadd (C : Ctx l R Z own nm code maxL ret fl n0 kz K) {x y : Int32} (hd : decode code pc = .ok (.iadd, 1)) (hp : pc + 1 = pc') (r : Run l R n0 Q K h cells slots pc' Ls (.int (x + y) :: st)) : Run l R n0 Q K h cells slots pc Ls (.int y :: .int x :: st) :=
  Run.pure C (Or.inr trivial) (fun p e s m args below meth c hx hby hown hZ T locs X eT target k => by subst hp; exact XS.iadd X.here hx rfl (hb hby hd) rfl k) r
theorem r_isub (C : Ctx l R Z own nm code maxL ret fl n0 kz K) {x y : Int32} (hd : decode code pc = .ok (.isub, 1)) (hp : pc + 1 = pc') (r : Run l R n0 Q K h cells slots pc' Ls (.int (x - y) :: st)) : Run l R n0 Q K h cells slots pc Ls (.int y :: .int x :: st) :=
  Run.pure C (Or.inr trivial) (fun p e s m args below meth c hx hby hown hZ T locs X eT target k => by subst hp; exact XS.isub X.here hx rfl (hb hby hd) rfl k) r
theorem r_imul (C : Ctx l R Z own nm code maxL ret fl n0 kz K) {x y : Int32} (hd : decode code pc = .ok (.imul, 1)) (hp : pc + 1 = pc') (r : Run l R n0 Q K h cells slots pc' Ls (.int (x * y) :: st)) : Run l R n0 Q K h cells slots pc Ls (.int y :: .int x :: st) :=
  Run.pure C (Or.inr trivial) (fun p e s m args below meth c hx hby hown hZ T locs X eT target k => by subst hp; exact XS.imul X.here hx rfl (hb hby hd) rfl k) r
theorem r_iand (C : Ctx l R Z own nm code maxL ret fl n0 kz K) {x y : Int32} (hd : decode code pc = .ok (.iand, 1)) (hp : pc + 1 = pc') (r : Run l R n0 Q K h cells slots pc' Ls (.int (x &&& y) :: st)) : Run l R n0 Q K h cells slots pc Ls (.int y :: .int x :: st) :=
  Run.pure C (Or.inr trivial) (fun p e s m args below meth c hx hby hown hZ T locs X eT target k => by subst hp; exact XS.iand X.here hx rfl (hb hby hd) rfl k) r
theorem r_ior (C : Ctx l R Z own nm code maxL ret fl n0 kz K) {x y : Int32} (hd : decode code pc = .ok (.ior, 1)) (hp : pc + 1 = pc') (r : Run l R n0 Q K h cells slots pc' Ls (.int (x ||| y) :: st)) : Run l R n0 Q K h cells slots pc Ls (.int y :: .int x :: st) :=
  Run.pure C (Or.inr trivial) (fun p e s m args below meth c hx hby hown hZ T locs X eT target k => by subst hp; exact XT.ior X.here hx rfl (hb hby hd) rfl k) r
theorem r_ixor (C : Ctx l R Z own nm code maxL ret fl n0 kz K) {x y : Int32} (hd : decode code pc = .ok (.ixor, 1)) (hp : pc + 1 = pc') (r : Run l R n0 Q K h cells slots pc' Ls (.int (x ^^^ y) :: st)) : Run l R n0 Q K h cells slots pc Ls (.int y :: .int x :: st) :=
  Run.pure C (Or.inr trivial) (fun p e s m args below meth c hx hby hown hZ T locs X eT target k => by subst hp; exact XT.ixor X.here hx rfl (hb hby hd) rfl k) r
theorem r_ishl (C : Ctx l R Z own nm code maxL ret fl n0 kz K) {x y : Int32} (hd : decode code pc = .ok (.ishl, 1)) (hp : pc + 1 = pc') (r : Run l R n0 Q K h cells slots pc' Ls (.int (x <<< (y &&& 31)) :: st)) : Run l R n0 Q K h cells slots pc Ls (.int y :: .int x :: st) :=
  Run.pure C (Or.inr trivial) (fun p e s m args below meth c hx hby hown hZ T locs X eT target k => by subst hp; exact XT.ishl X.here hx rfl (hb hby hd) rfl k) r
theorem r_ishr (C : Ctx l R Z own nm code maxL ret fl n0 kz K) {x y : Int32} (hd : decode code pc = .ok (.ishr, 1)) (hp : pc + 1 = pc') (r : Run l R n0 Q K h cells slots pc' Ls (.int (x >>> (y &&& 31)) :: st)) : Run l R n0 Q K h cells slots pc Ls (.int y :: .int x :: st) :=
  Run.pure C (Or.inr trivial) (fun p e s m args below meth c hx hby hown hZ T locs X eT target k => by subst hp; exact XT.ishr X.here hx rfl (hb hby hd) rfl k) r
theorem r_iushr (C : Ctx l R Z own nm code maxL ret fl n0 kz K) {x y : Int32} (hd : decode code pc = .ok (.iushr, 1)) (hp : pc + 1 = pc') (r : Run l R n0 Q K h cells slots pc' Ls (.int (XT.ushr x y) :: st)) : Run l R n0 Q K h cells slots pc Ls (.int y :: .int x :: st) :=
  Run.pure C (Or.inr trivial) (fun p e s m args below meth c hx hby hown hZ T locs X eT target k => by subst hp; exact XT.iushr X.here hx rfl (hb hby hd) rfl k) r
theorem r_ladd (C : Ctx l R Z own nm code maxL ret fl n0 kz K) {x y : Int64} (hd : decode code pc = .ok (.ladd, 1)) (hp : pc + 1 = pc') (r : Run l R n0 Q K h cells slots pc' Ls (.long (x + y) :: st)) : Run l R n0 Q K h cells slots pc Ls (.long y :: .long x :: st) :=
  Run.pure C (Or.inr trivial) (fun p e s m args below meth c hx hby hown hZ T locs X eT target k => by subst hp; exact XT.ladd X.here hx rfl (hb hby hd) rfl k) r
theorem r_lsub (C : Ctx l R Z own nm code maxL ret fl n0 kz K) {x y : Int64} (hd : decode code pc = .ok (.lsub, 1)) (hp : pc + 1 = pc') (r : Run l R n0 Q K h cells slots pc' Ls (.long (x - y) :: st)) : Run l R n0 Q K h cells slots pc Ls (.long y :: .long x :: st) :=
  Run.pure C (Or.inr trivial) (fun p e s m args below meth c hx hby hown hZ T locs X eT target k => by subst hp; exact XT.lsub X.here hx rfl (hb hby hd) rfl k) r
theorem r_lmul (C : Ctx l R Z own nm code maxL ret fl n0 kz K) {x y : Int64} (hd : decode code pc = .ok (.lmul, 1)) (hp : pc + 1 = pc') (r : Run l R n0 Q K h cells slots pc' Ls (.long (x * y) :: st)) : Run l R n0 Q K h cells slots pc Ls (.long y :: .long x :: st) :=
  Run.pure C (Or.inr trivial) (fun p e s m args below meth c hx hby hown hZ T locs X eT target k => by subst hp; exact XT.lmul X.here hx rfl (hb hby hd) rfl k) r
theorem r_land (C : Ctx l R Z own nm code maxL ret fl n0 kz K) {x y : Int64} (hd : decode code pc = .ok (.land, 1)) (hp : pc + 1 = pc') (r : Run l R n0 Q K h cells slots pc' Ls (.long (x &&& y) :: st)) : Run l R n0 Q K h cells slots pc Ls (.long y :: .long x :: st) :=
  Run.pure C (Or.inr trivial) (fun p e s m args below meth c hx hby hown hZ T locs X eT target k => by subst hp; exact XT.land X.here hx rfl (hb hby hd) rfl k) r
theorem r_lor (C : Ctx l R Z own nm code maxL ret fl n0 kz K) {x y : Int64} (hd : decode code pc = .ok (.lor, 1)) (hp : pc + 1 = pc') (r : Run l R n0 Q K h cells slots pc' Ls (.long (x ||| y) :: st)) : Run l R n0 Q K h cells slots pc Ls (.long y :: .long x :: st) :=
  Run.pure C (Or.inr trivial) (fun p e s m args below meth c hx hby hown hZ T locs X eT target k => by subst hp; exact XT.lor X.here hx rfl (hb hby hd) rfl k) r
theorem r_lxor (C : Ctx l R Z own nm code maxL ret fl n0 kz K) {x y : Int64} (hd : decode code pc = .ok (.lxor, 1)) (hp : pc + 1 = pc') (r : Run l R n0 Q K h cells slots pc' Ls (.long (x ^^^ y) :: st)) : Run l R n0 Q K h cells slots pc Ls (.long y :: .long x :: st) :=
  Run.pure C (Or.inr trivial) (fun p e s m args below meth c hx hby hown hZ T locs X eT target k => by subst hp; exact XT.lxor X.here hx rfl (hb hby hd) rfl k) r
theorem r_lshl (C : Ctx l R Z own nm code maxL ret fl n0 kz K) {x : Int64} {y : Int32} (hd : decode code pc = .ok (.lshl, 1)) (hp : pc + 1 = pc') (r : Run l R n0 Q K h cells slots pc' Ls (.long (x <<< (y.toInt64 &&& 63)) :: st)) : Run l R n0 Q K h cells slots pc Ls (.int y :: .long x :: st) :=
  Run.pure C (Or.inr trivial) (fun p e s m args below meth c hx hby hown hZ T locs X eT target k => by subst hp; exact XT.lshl X.here hx rfl (hb hby hd) rfl k) r
theorem r_lshr (C : Ctx l R Z own nm code maxL ret fl n0 kz K) {x : Int64} {y : Int32} (hd : decode code pc = .ok (.lshr, 1)) (hp : pc + 1 = pc') (r : Run l R n0 Q K h cells slots pc' Ls (.long (x >>> (y.toInt64 &&& 63)) :: st)) : Run l R n0 Q K h cells slots pc Ls (.int y :: .long x :: st) :=
  Run.pure C (Or.inr trivial) (fun p e s m args below meth c hx hby hown hZ T locs X eT target k => by subst hp; exact XT.lshr X.here hx rfl (hb hby hd) rfl k) r
theorem r_lushr (C : Ctx l R Z own nm code maxL ret fl n0 kz K) {x : Int64} {y : Int32} (hd : decode code pc = .ok (.lushr, 1)) (hp : pc + 1 = pc') (r : Run l R n0 Q K h cells slots pc' Ls (.long (XT.ushrL x y) :: st)) : Run l R n0 Q K h cells slots pc Ls (.int y :: .long x :: st) :=
  Run.pure C (Or.inr trivial) (fun p e s m args below meth c hx hby hown hZ T locs X eT target k => by subst hp; exact XT.lushr X.here hx rfl (hb hby hd) rfl k) r
theorem r_idiv (C : Ctx l R Z own nm code maxL ret fl n0 kz K) {x y : Int32} (hd : decode code pc = .ok (.idiv, 1)) (hp : pc + 1 = pc') (hy : y ≠ 0) (r : Run l R n0 Q K h cells slots pc' Ls (.int (x / y) :: st)) : Run l R n0 Q K h cells slots pc Ls (.int y :: .int x :: st) :=
  Run.pure C (Or.inr trivial) (fun p e s m args below meth c hx hby hown hZ T locs X eT target k => by subst hp; exact XS.idiv X.here hx rfl (hb hby hd) rfl hy k) r
theorem r_irem (C : Ctx l R Z own nm code maxL ret fl n0 kz K) {x y : Int32} (hd : decode code pc = .ok (.irem, 1)) (hp : pc + 1 = pc') (hy : y ≠ 0) (r : Run l R n0 Q K h cells slots pc' Ls (.int (x % y) :: st)) : Run l R n0 Q K h cells slots pc Ls (.int y :: .int x :: st) :=
  Run.pure C (Or.inr trivial) (fun p e s m args below meth c hx hby hown hZ T locs X eT target k => by subst hp; exact iremM X hx rfl (hb hby hd) rfl hy k) r
theorem r_ldiv (C : Ctx l R Z own nm code maxL ret fl n0 kz K) {x y : Int64} (hd : decode code pc = .ok (.ldiv, 1)) (hp : pc + 1 = pc') (hy : y ≠ 0) (r : Run l R n0 Q K h cells slots pc' Ls (.long (x / y) :: st)) : Run l R n0 Q K h cells slots pc Ls (.long y :: .long x :: st) :=
  Run.pure C (Or.inr trivial) (fun p e s m args below meth c hx hby hown hZ T locs X eT target k => by subst hp; exact XT.ldiv X.here hx rfl (hb hby hd) rfl hy k) r
theorem r_lrem (C : Ctx l R Z own nm code maxL ret fl n0 kz K) {x y : Int64} (hd : decode code pc = .ok (.lrem, 1)) (hp : pc + 1 = pc') (hy : y ≠ 0) (r : Run l R n0 Q K h cells slots pc' Ls (.long (x - (x / y) * y) :: st)) : Run l R n0 Q K h cells slots pc Ls (.long y :: .long x :: st) :=
  Run.pure C (Or.inr trivial) (fun p e s m args below meth c hx hby hown hZ T locs X eT target k => by subst hp; exact XT.lrem X.here hx rfl (hb hby hd) rfl hy k) r
theorem r_ineg (C : Ctx l R Z own nm code maxL ret fl n0 kz K) {x : Int32} (hd : decode code pc = .ok (.ineg, 1)) (hp : pc + 1 = pc') (r : Run l R n0 Q K h cells slots pc' Ls (.int (-x) :: st)) : Run l R n0 Q K h cells slots pc Ls (.int x :: st) :=
  Run.pure C (Or.inr trivial) (fun p e s m args below meth c hx hby hown hZ T locs X eT target k => by subst hp; exact XS.ineg X.here hx rfl (hb hby hd) rfl k) r
theorem r_lneg (C : Ctx l R Z own nm code maxL ret fl n0 kz K) {x : Int64} (hd : decode code pc = .ok (.lneg, 1)) (hp : pc + 1 = pc') (r : Run l R n0 Q K h cells slots pc' Ls (.long (-x) :: st)) : Run l R n0 Q K h cells slots pc Ls (.long x :: st) :=
  Run.pure C (Or.inr trivial) (fun p e s m args below meth c hx hby hown hZ T locs X eT target k => by subst hp; exact XT.lneg X.here hx rfl (hb hby hd) rfl k) r
theorem r_i2l (C : Ctx l R Z own nm code maxL ret fl n0 kz K) {x : Int32} (hd : decode code pc = .ok (.i2l, 1)) (hp : pc + 1 = pc') (r : Run l R n0 Q K h cells slots pc' Ls (.long (x.toInt64) :: st)) : Run l R n0 Q K h cells slots pc Ls (.int x :: st) :=
  Run.pure C (Or.inr trivial) (fun p e s m args below meth c hx hby hown hZ T locs X eT target k => by subst hp; exact XT.i2l X.here hx rfl (hb hby hd) rfl k) r
theorem r_l2i (C : Ctx l R Z own nm code maxL ret fl n0 kz K) {x : Int64} (hd : decode code pc = .ok (.l2i, 1)) (hp : pc + 1 = pc') (r : Run l R n0 Q K h cells slots pc' Ls (.int (x.toInt32) :: st)) : Run l R n0 Q K h cells slots pc Ls (.long x :: st) :=
  Run.pure C (Or.inr trivial) (fun p e s m args below meth c hx hby hown hZ T locs X eT target k => by subst hp; exact XT.l2i X.here hx rfl (hb hby hd) rfl k) r
theorem r_i2b (C : Ctx l R Z own nm code maxL ret fl n0 kz K) {x : Int32} (hd : decode code pc = .ok (.i2b, 1)) (hp : pc + 1 = pc') (r : Run l R n0 Q K h cells slots pc' Ls (.int (x.toInt8.toInt32) :: st)) : Run l R n0 Q K h cells slots pc Ls (.int x :: st) :=
  Run.pure C (Or.inr trivial) (fun p e s m args below meth c hx hby hown hZ T locs X eT target k => by subst hp; exact XT.i2b X.here hx rfl (hb hby hd) rfl k) r
theorem r_i2c (C : Ctx l R Z own nm code maxL ret fl n0 kz K) {x : Int32} (hd : decode code pc = .ok (.i2c, 1)) (hp : pc + 1 = pc') (r : Run l R n0 Q K h cells slots pc' Ls (.int (x.toUInt32.toUInt16.toUInt32.toInt32) :: st)) : Run l R n0 Q K h cells slots pc Ls (.int x :: st) :=
  Run.pure C (Or.inr trivial) (fun p e s m args below meth c hx hby hown hZ T locs X eT target k => by subst hp; exact XT.i2c X.here hx rfl (hb hby hd) rfl k) r
theorem r_i2s (C : Ctx l R Z own nm code maxL ret fl n0 kz K) {x : Int32} (hd : decode code pc = .ok (.i2s, 1)) (hp : pc + 1 = pc') (r : Run l R n0 Q K h cells slots pc' Ls (.int (x.toInt16.toInt32) :: st)) : Run l R n0 Q K h cells slots pc Ls (.int x :: st) :=
  Run.pure C (Or.inr trivial) (fun p e s m args below meth c hx hby hown hZ T locs X eT target k => by subst hp; exact XT.i2s X.here hx rfl (hb hby hd) rfl k) r
theorem r_dup (C : Ctx l R Z own nm code maxL ret fl n0 kz K) {x : Value} (hd : decode code pc = .ok (.dup, 1)) (hp : pc + 1 = pc') (hc : x.category = 1) (r : Run l R n0 Q K h cells slots pc' Ls (x :: x :: st)) : Run l R n0 Q K h cells slots pc Ls (x :: st) :=
  Run.pure C (Or.inr trivial) (fun p e s m args below meth c hx hby hown hZ T locs X eT target k => by subst hp; exact XS.dup X.here hx rfl (hb hby hd) rfl hc k) r
theorem r_pop (C : Ctx l R Z own nm code maxL ret fl n0 kz K) {x : Value} (hd : decode code pc = .ok (.pop, 1)) (hp : pc + 1 = pc') (hc : x.category = 1) (r : Run l R n0 Q K h cells slots pc' Ls (st)) : Run l R n0 Q K h cells slots pc Ls (x :: st) :=
  Run.pure C (Or.inr trivial) (fun p e s m args below meth c hx hby hown hZ T locs X eT target k => by subst hp; exact XT.pop X.here hx rfl (hb hby hd) rfl hc k) r
theorem r_dup_x1 (C : Ctx l R Z own nm code maxL ret fl n0 kz K) {x y : Value} (hd : decode code pc = .ok (.dup_x1, 1)) (hp : pc + 1 = pc') (hc : x.category = 1) (hc' : y.category = 1) (r : Run l R n0 Q K h cells slots pc' Ls (x :: y :: x :: st)) : Run l R n0 Q K h cells slots pc Ls (x :: y :: st) :=
  Run.pure C (Or.inr trivial) (fun p e s m args below meth c hx hby hown hZ T locs X eT target k => by subst hp; exact XT.dupX1 X.here hx rfl (hb hby hd) rfl hc hc' k) r
theorem r_dup2 (C : Ctx l R Z own nm code maxL ret fl n0 kz K) {x y : Value} (hd : decode code pc = .ok (.dup2, 1)) (hp : pc + 1 = pc') (hc : x.category = 1) (hc' : y.category = 1) (r : Run l R n0 Q K h cells slots pc' Ls (x :: y :: x :: y :: st)) : Run l R n0 Q K h cells slots pc Ls (x :: y :: st) :=
  Run.pure C (Or.inr trivial) (fun p e s m args below meth c hx hby hown hZ T locs X eT target k => by subst hp; exact XT.dup2 X.here hx rfl (hb hby hd) rfl hc hc' k) r
theorem r_dup2L (C : Ctx l R Z own nm code maxL ret fl n0 kz K) {x : Int64} (hd : decode code pc = .ok (.dup2, 1)) (hp : pc + 1 = pc') (r : Run l R n0 Q K h cells slots pc' Ls (.long x :: .long x :: st)) : Run l R n0 Q K h cells slots pc Ls (.long x :: st) :=
  Run.pure C (Or.inr trivial) (fun p e s m args below meth c hx hby hown hZ T locs X eT target k => by subst hp; exact XT.dup2L X.here hx rfl (hb hby hd) rfl k) r
theorem r_iinc (C : Ctx l R Z own nm code maxL ret fl n0 kz K) {k : Nat} {cst : Int} {x v : Int32} (hd : decode code pc = .ok (.iinc k cst, 3)) (hp : pc + 3 = pc') (hv : Int32.ofInt cst = v) (hl : Ls[k]? = some (.val (.int x))) (hl' : storeLocals Ls k (.int (x + v)) = some Ls') (r : Run l R n0 Q K h cells slots pc' Ls' (st)) : Run l R n0 Q K h cells slots pc Ls (st) :=
  Run.pure C (Or.inr trivial) (fun p e s m args below meth c hx hby hown hZ T locs X eT target k => by subst hp; exact XT.iincV X.here hx rfl v (hb hby hd) hv hl hl' k) r
theorem r_goto (C : Ctx l R Z own nm code maxL ret fl n0 kz K) {o : Int} (hd : decode code pc = .ok (.goto o, 3)) (ho : 0 ≤ (pc : Int) + o) (hp : ((pc : Int) + o).toNat = pc') (r : Run l R n0 Q K h cells slots pc' Ls (st)) : Run l R n0 Q K h cells slots pc Ls (st) :=
  Run.pure C (Or.inr trivial) (fun p e s m args below meth c hx hby hown hZ T locs X eT target k => by exact XS.goto X.here hx rfl (pc0 := pc) rfl (hb hby hd) ho hp k) r
theorem r_icmp_eq_t (C : Ctx l R Z own nm code maxL ret fl n0 kz K) {o : Int} {x y : Int32} (hd : decode code pc = .ok (.if_icmp .eq o, 3)) (ho : 0 ≤ (pc : Int) + o) (hp : ((pc : Int) + o).toNat = pc') (q : x = y) (r : Run l R n0 Q K h cells slots pc' Ls (st)) : Run l R n0 Q K h cells slots pc Ls (.int y :: .int x :: st) :=
  Run.pure C (Or.inr trivial) (fun p e s m args below meth c hx hby hown hZ T locs X eT target k => by exact XS.icmpYes X.here hx rfl (pc0 := pc) rfl (hb hby hd) rfl (XT.ii_eq_t q) ho hp k) r
theorem r_icmp_eq_f (C : Ctx l R Z own nm code maxL ret fl n0 kz K) {o : Int} {x y : Int32} (hd : decode code pc = .ok (.if_icmp .eq o, 3)) (hp : pc + 3 = pc') (q : ¬ x = y) (r : Run l R n0 Q K h cells slots pc' Ls (st)) : Run l R n0 Q K h cells slots pc Ls (.int y :: .int x :: st) :=
  Run.pure C (Or.inr trivial) (fun p e s m args below meth c hx hby hown hZ T locs X eT target k => by subst hp; exact XS.icmpNo X.here hx rfl (hb hby hd) rfl (XT.ii_eq_f q) k) r
theorem r_icmp_eq (C : Ctx l R Z own nm code maxL ret fl n0 kz K) {o : Int} {pt : Nat} {x y : Int32} (hd : decode code pc = .ok (.if_icmp .eq o, 3)) (ho : 0 ≤ (pc : Int) + o) (hp : ((pc : Int) + o).toNat = pt) (hp' : pc + 3 = pc') (rt : x = y → Run l R n0 Q K h cells slots pt Ls st) (rf : ¬ x = y → Run l R n0 Q K h cells slots pc' Ls st) : Run l R n0 Q K h cells slots pc Ls (.int y :: .int x :: st) := by
  by_cases q : x = y
  · exact r_icmp_eq_t C hd ho hp q (rt q)
  · exact r_icmp_eq_f C hd hp' q (rf q)
theorem r_if_eq_t (C : Ctx l R Z own nm code maxL ret fl n0 kz K) {o : Int} {x : Int32} (hd : decode code pc = .ok (.ifCond .eq o, 3)) (ho : 0 ≤ (pc : Int) + o) (hp : ((pc : Int) + o).toNat = pc') (q : x = 0) (r : Run l R n0 Q K h cells slots pc' Ls (st)) : Run l R n0 Q K h cells slots pc Ls (.int x :: st) :=
  Run.pure C (Or.inr trivial) (fun p e s m args below meth c hx hby hown hZ T locs X eT target k => by exact XS.ifYes X.here hx rfl (pc0 := pc) rfl (hb hby hd) rfl (XT.i0_eq_t q) ho hp k) r
theorem r_if_eq_f (C : Ctx l R Z own nm code maxL ret fl n0 kz K) {o : Int} {x : Int32} (hd : decode code pc = .ok (.ifCond .eq o, 3)) (hp : pc + 3 = pc') (q : ¬ x = 0) (r : Run l R n0 Q K h cells slots pc' Ls (st)) : Run l R n0 Q K h cells slots pc Ls (.int x :: st) :=
  Run.pure C (Or.inr trivial) (fun p e s m args below meth c hx hby hown hZ T locs X eT target k => by subst hp; exact XS.ifNo X.here hx rfl (hb hby hd) rfl (XT.i0_eq_f q) k) r
theorem r_if_eq (C : Ctx l R Z own nm code maxL ret fl n0 kz K) {o : Int} {pt : Nat} {x : Int32} (hd : decode code pc = .ok (.ifCond .eq o, 3)) (ho : 0 ≤ (pc : Int) + o) (hp : ((pc : Int) + o).toNat = pt) (hp' : pc + 3 = pc') (rt : x = 0 → Run l R n0 Q K h cells slots pt Ls st) (rf : ¬ x = 0 → Run l R n0 Q K h cells slots pc' Ls st) : Run l R n0 Q K h cells slots pc Ls (.int x :: st) := by
  by_cases q : x = 0
  · exact r_if_eq_t C hd ho hp q (rt q)
  · exact r_if_eq_f C hd hp' q (rf q)
theorem r_lcmp_eq (C : Ctx l R Z own nm code maxL ret fl n0 kz K) {o : Int} {pt : Nat} {x y : Int64} (hd : decode code pc = .ok (.lcmp, 1)) (hd2 : decode code (pc + 1) = .ok (.ifCond .eq o, 3)) (ho : 0 ≤ ((pc + 1 : Nat) : Int) + o) (hp : (((pc + 1 : Nat) : Int) + o).toNat = pt) (hp' : pc + 4 = pc') (rt : x = y → Run l R n0 Q K h cells slots pt Ls st) (rf : ¬ x = y → Run l R n0 Q K h cells slots pc' Ls st) : Run l R n0 Q K h cells slots pc Ls (.long y :: .long x :: st) := by
  by_cases q : x = y
  · exact Run.pure C (Or.inr trivial) (fun p e s m args below meth c hx hby hown hZ T locs X eT target k => XT.lcmp X.here hx rfl (hb hby hd) rfl (XS.ifYes X.here hx rfl (pc0 := pc + 1) rfl (hb hby hd2) rfl (XT.ll_eq_t q) ho hp k)) (rt q)
  · subst hp'; exact Run.pure C (Or.inr trivial) (fun p e s m args below meth c hx hby hown hZ T locs X eT target k => XT.lcmp X.here hx rfl (hb hby hd) rfl (XS.ifNo X.here hx rfl (hb hby hd2) rfl (XT.ll_eq_f q) k)) (rf q)
theorem r_icmp_ne_t (C : Ctx l R Z own nm code maxL ret fl n0 kz K) {o : Int} {x y : Int32} (hd : decode code pc = .ok (.if_icmp .ne o, 3)) (ho : 0 ≤ (pc : Int) + o) (hp : ((pc : Int) + o).toNat = pc') (q : ¬ x = y) (r : Run l R n0 Q K h cells slots pc' Ls (st)) : Run l R n0 Q K h cells slots pc Ls (.int y :: .int x :: st) :=
  Run.pure C (Or.inr trivial) (fun p e s m args below meth c hx hby hown hZ T locs X eT target k => by exact XS.icmpYes X.here hx rfl (pc0 := pc) rfl (hb hby hd) rfl (XT.ii_ne_t q) ho hp k) r
theorem r_icmp_ne_f (C : Ctx l R Z own nm code maxL ret fl n0 kz K) {o : Int} {x y : Int32} (hd : decode code pc = .ok (.if_icmp .ne o, 3)) (hp : pc + 3 = pc') (q : x = y) (r : Run l R n0 Q K h cells slots pc' Ls (st)) : Run l R n0 Q K h cells slots pc Ls (.int y :: .int x :: st) :=
  Run.pure C (Or.inr trivial) (fun p e s m args below meth c hx hby hown hZ T locs X eT target k => by subst hp; exact XS.icmpNo X.here hx rfl (hb hby hd) rfl (XT.ii_ne_f q) k) r
theorem r_icmp_ne (C : Ctx l R Z own nm code maxL ret fl n0 kz K) {o : Int} {pt : Nat} {x y : Int32} (hd : decode code pc = .ok (.if_icmp .ne o, 3)) (ho : 0 ≤ (pc : Int) + o) (hp : ((pc : Int) + o).toNat = pt) (hp' : pc + 3 = pc') (rt : ¬ x = y → Run l R n0 Q K h cells slots pt Ls st) (rf : x = y → Run l R n0 Q K h cells slots pc' Ls st) : Run l R n0 Q K h cells slots pc Ls (.int y :: .int x :: st) := by
  by_cases q : x = y
  · exact r_icmp_ne_f C hd hp' q (rf q)
  · exact r_icmp_ne_t C hd ho hp q (rt q)
theorem r_if_ne_t (C : Ctx l R Z own nm code maxL ret fl n0 kz K) {o : Int} {x : Int32} (hd : decode code pc = .ok (.ifCond .ne o, 3)) (ho : 0 ≤ (pc : Int) + o) (hp : ((pc : Int) + o).toNat = pc') (q : ¬ x = 0) (r : Run l R n0 Q K h cells slots pc' Ls (st)) : Run l R n0 Q K h cells slots pc Ls (.int x :: st) :=
  Run.pure C (Or.inr trivial) (fun p e s m args below meth c hx hby hown hZ T locs X eT target k => by exact XS.ifYes X.here hx rfl (pc0 := pc) rfl (hb hby hd) rfl (XT.i0_ne_t q) ho hp k) r
theorem r_if_ne_f (C : Ctx l R Z own nm code maxL ret fl n0 kz K) {o : Int} {x : Int32} (hd : decode code pc = .ok (.ifCond .ne o, 3)) (hp : pc + 3 = pc') (q : x = 0) (r : Run l R n0 Q K h cells slots pc' Ls (st)) : Run l R n0 Q K h cells slots pc Ls (.int x :: st) :=
  Run.pure C (Or.inr trivial) (fun p e s m args below meth c hx hby hown hZ T locs X eT target k => by subst hp; exact XS.ifNo X.here hx rfl (hb hby hd) rfl (XT.i0_ne_f q) k) r
theorem r_if_ne (C : Ctx l R Z own nm code maxL ret fl n0 kz K) {o : Int} {pt : Nat} {x : Int32} (hd : decode code pc = .ok (.ifCond .ne o, 3)) (ho : 0 ≤ (pc : Int) + o) (hp : ((pc : Int) + o).toNat = pt) (hp' : pc + 3 = pc') (rt : ¬ x = 0 → Run l R n0 Q K h cells slots pt Ls st) (rf : x = 0 → Run l R n0 Q K h cells slots pc' Ls st) : Run l R n0 Q K h cells slots pc Ls (.int x :: st) := by
  by_cases q : x = 0
  · exact r_if_ne_f C hd hp' q (rf q)
  · exact r_if_ne_t C hd ho hp q (rt q)
theorem r_lcmp_ne (C : Ctx l R Z own nm code maxL ret fl n0 kz K) {o : Int} {pt : Nat} {x y : Int64} (hd : decode code pc = .ok (.lcmp, 1)) (hd2 : decode code (pc + 1) = .ok (.ifCond .ne o, 3)) (ho : 0 ≤ ((pc + 1 : Nat) : Int) + o) (hp : (((pc + 1 : Nat) : Int) + o).toNat = pt) (hp' : pc + 4 = pc') (rt : ¬ x = y → Run l R n0 Q K h cells slots pt Ls st) (rf : x = y → Run l R n0 Q K h cells slots pc' Ls st) : Run l R n0 Q K h cells slots pc Ls (.long y :: .long x :: st) := by
  by_cases q : x = y
  · subst hp'; exact Run.pure C (Or.inr trivial) (fun p e s m args below meth c hx hby hown hZ T locs X eT target k => XT.lcmp X.here hx rfl (hb hby hd) rfl (XS.ifNo X.here hx rfl (hb hby hd2) rfl (XT.ll_ne_f q) k)) (rf q)
  · exact Run.pure C (Or.inr trivial) (fun p e s m args below meth c hx hby hown hZ T locs X eT target k => XT.lcmp X.here hx rfl (hb hby hd) rfl (XS.ifYes X.here hx rfl (pc0 := pc + 1) rfl (hb hby hd2) rfl (XT.ll_ne_t q) ho hp k)) (rt q)
theorem r_icmp_lt_t (C : Ctx l R Z own nm code maxL ret fl n0 kz K) {o : Int} {x y : Int32} (hd : decode code pc = .ok (.if_icmp .lt o, 3)) (ho : 0 ≤ (pc : Int) + o) (hp : ((pc : Int) + o).toNat = pc') (q : x < y) (r : Run l R n0 Q K h cells slots pc' Ls (st)) : Run l R n0 Q K h cells slots pc Ls (.int y :: .int x :: st) :=
  Run.pure C (Or.inr trivial) (fun p e s m args below meth c hx hby hown hZ T locs X eT target k => by exact XS.icmpYes X.here hx rfl (pc0 := pc) rfl (hb hby hd) rfl (XT.ii_lt_t q) ho hp k) r
theorem r_icmp_lt_f (C : Ctx l R Z own nm code maxL ret fl n0 kz K) {o : Int} {x y : Int32} (hd : decode code pc = .ok (.if_icmp .lt o, 3)) (hp : pc + 3 = pc') (q : ¬ x < y) (r : Run l R n0 Q K h cells slots pc' Ls (st)) : Run l R n0 Q K h cells slots pc Ls (.int y :: .int x :: st) :=
  Run.pure C (Or.inr trivial) (fun p e s m args below meth c hx hby hown hZ T locs X eT target k => by subst hp; exact XS.icmpNo X.here hx rfl (hb hby hd) rfl (XT.ii_lt_f q) k) r
theorem r_icmp_lt (C : Ctx l R Z own nm code maxL ret fl n0 kz K) {o : Int} {pt : Nat} {x y : Int32} (hd : decode code pc = .ok (.if_icmp .lt o, 3)) (ho : 0 ≤ (pc : Int) + o) (hp : ((pc : Int) + o).toNat = pt) (hp' : pc + 3 = pc') (rt : x < y → Run l R n0 Q K h cells slots pt Ls st) (rf : ¬ x < y → Run l R n0 Q K h cells slots pc' Ls st) : Run l R n0 Q K h cells slots pc Ls (.int y :: .int x :: st) := by
  by_cases q : x < y
  · exact r_icmp_lt_t C hd ho hp q (rt q)
  · exact r_icmp_lt_f C hd hp' q (rf q)
theorem r_if_lt_t (C : Ctx l R Z own nm code maxL ret fl n0 kz K) {o : Int} {x : Int32} (hd : decode code pc = .ok (.ifCond .lt o, 3)) (ho : 0 ≤ (pc : Int) + o) (hp : ((pc : Int) + o).toNat = pc') (q : x < 0) (r : Run l R n0 Q K h cells slots pc' Ls (st)) : Run l R n0 Q K h cells slots pc Ls (.int x :: st) :=
  Run.pure C (Or.inr trivial) (fun p e s m args below meth c hx hby hown hZ T locs X eT target k => by exact XS.ifYes X.here hx rfl (pc0 := pc) rfl (hb hby hd) rfl (XT.i0_lt_t q) ho hp k) r
theorem r_if_lt_f (C : Ctx l R Z own nm code maxL ret fl n0 kz K) {o : Int} {x : Int32} (hd : decode code pc = .ok (.ifCond .lt o, 3)) (hp : pc + 3 = pc') (q : ¬ x < 0) (r : Run l R n0 Q K h cells slots pc' Ls (st)) : Run l R n0 Q K h cells slots pc Ls (.int x :: st) :=
  Run.pure C (Or.inr trivial) (fun p e s m args below meth c hx hby hown hZ T locs X eT target k => by subst hp; exact XS.ifNo X.here hx rfl (hb hby hd) rfl (XT.i0_lt_f q) k) r
theorem r_if_lt (C : Ctx l R Z own nm code maxL ret fl n0 kz K) {o : Int} {pt : Nat} {x : Int32} (hd : decode code pc = .ok (.ifCond .lt o, 3)) (ho : 0 ≤ (pc : Int) + o) (hp : ((pc : Int) + o).toNat = pt) (hp' : pc + 3 = pc') (rt : x < 0 → Run l R n0 Q K h cells slots pt Ls st) (rf : ¬ x < 0 → Run l R n0 Q K h cells slots pc' Ls st) : Run l R n0 Q K h cells slots pc Ls (.int x :: st) := by
  by_cases q : x < 0
  · exact r_if_lt_t C hd ho hp q (rt q)
  · exact r_if_lt_f C hd hp' q (rf q)
theorem r_lcmp_lt (C : Ctx l R Z own nm code maxL ret fl n0 kz K) {o : Int} {pt : Nat} {x y : Int64} (hd : decode code pc = .ok (.lcmp, 1)) (hd2 : decode code (pc + 1) = .ok (.ifCond .lt o, 3)) (ho : 0 ≤ ((pc + 1 : Nat) : Int) + o) (hp : (((pc + 1 : Nat) : Int) + o).toNat = pt) (hp' : pc + 4 = pc') (rt : x < y → Run l R n0 Q K h cells slots pt Ls st) (rf : ¬ x < y → Run l R n0 Q K h cells slots pc' Ls st) : Run l R n0 Q K h cells slots pc Ls (.long y :: .long x :: st) := by
  by_cases q : x < y
  · exact Run.pure C (Or.inr trivial) (fun p e s m args below meth c hx hby hown hZ T locs X eT target k => XT.lcmp X.here hx rfl (hb hby hd) rfl (XS.ifYes X.here hx rfl (pc0 := pc + 1) rfl (hb hby hd2) rfl (XT.ll_lt_t q) ho hp k)) (rt q)
  · subst hp'; exact Run.pure C (Or.inr trivial) (fun p e s m args below meth c hx hby hown hZ T locs X eT target k => XT.lcmp X.here hx rfl (hb hby hd) rfl (XS.ifNo X.here hx rfl (hb hby hd2) rfl (XT.ll_lt_f q) k)) (rf q)
theorem r_icmp_ge_t (C : Ctx l R Z own nm code maxL ret fl n0 kz K) {o : Int} {x y : Int32} (hd : decode code pc = .ok (.if_icmp .ge o, 3)) (ho : 0 ≤ (pc : Int) + o) (hp : ((pc : Int) + o).toNat = pc') (q : ¬ x < y) (r : Run l R n0 Q K h cells slots pc' Ls (st)) : Run l R n0 Q K h cells slots pc Ls (.int y :: .int x :: st) :=
  Run.pure C (Or.inr trivial) (fun p e s m args below meth c hx hby hown hZ T locs X eT target k => by exact XS.icmpYes X.here hx rfl (pc0 := pc) rfl (hb hby hd) rfl (XT.ii_ge_t q) ho hp k) r
theorem r_icmp_ge_f (C : Ctx l R Z own nm code maxL ret fl n0 kz K) {o : Int} {x y : Int32} (hd : decode code pc = .ok (.if_icmp .ge o, 3)) (hp : pc + 3 = pc') (q : x < y) (r : Run l R n0 Q K h cells slots pc' Ls (st)) : Run l R n0 Q K h cells slots pc Ls (.int y :: .int x :: st) :=
  Run.pure C (Or.inr trivial) (fun p e s m args below meth c hx hby hown hZ T locs X eT target k => by subst hp; exact XS.icmpNo X.here hx rfl (hb hby hd) rfl (XT.ii_ge_f q) k) r
theorem r_icmp_ge (C : Ctx l R Z own nm code maxL ret fl n0 kz K) {o : Int} {pt : Nat} {x y : Int32} (hd : decode code pc = .ok (.if_icmp .ge o, 3)) (ho : 0 ≤ (pc : Int) + o) (hp : ((pc : Int) + o).toNat = pt) (hp' : pc + 3 = pc') (rt : ¬ x < y → Run l R n0 Q K h cells slots pt Ls st) (rf : x < y → Run l R n0 Q K h cells slots pc' Ls st) : Run l R n0 Q K h cells slots pc Ls (.int y :: .int x :: st) := by
  by_cases q : x < y
  · exact r_icmp_ge_f C hd hp' q (rf q)
  · exact r_icmp_ge_t C hd ho hp q (rt q)
theorem r_if_ge_t (C : Ctx l R Z own nm code maxL ret fl n0 kz K) {o : Int} {x : Int32} (hd : decode code pc = .ok (.ifCond .ge o, 3)) (ho : 0 ≤ (pc : Int) + o) (hp : ((pc : Int) + o).toNat = pc') (q : ¬ x < 0) (r : Run l R n0 Q K h cells slots pc' Ls (st)) : Run l R n0 Q K h cells slots pc Ls (.int x :: st) :=
  Run.pure C (Or.inr trivial) (fun p e s m args below meth c hx hby hown hZ T locs X eT target k => by exact XS.ifYes X.here hx rfl (pc0 := pc) rfl (hb hby hd) rfl (XT.i0_ge_t q) ho hp k) r
theorem r_if_ge_f (C : Ctx l R Z own nm code maxL ret fl n0 kz K) {o : Int} {x : Int32} (hd : decode code pc = .ok (.ifCond .ge o, 3)) (hp : pc + 3 = pc') (q : x < 0) (r : Run l R n0 Q K h cells slots pc' Ls (st)) : Run l R n0 Q K h cells slots pc Ls (.int x :: st) :=
  Run.pure C (Or.inr trivial) (fun p e s m args below meth c hx hby hown hZ T locs X eT target k => by subst hp; exact XS.ifNo X.here hx rfl (hb hby hd) rfl (XT.i0_ge_f q) k) r
theorem r_if_ge (C : Ctx l R Z own nm code maxL ret fl n0 kz K) {o : Int} {pt : Nat} {x : Int32} (hd : decode code pc = .ok (.ifCond .ge o, 3)) (ho : 0 ≤ (pc : Int) + o) (hp : ((pc : Int) + o).toNat = pt) (hp' : pc + 3 = pc') (rt : ¬ x < 0 → Run l R n0 Q K h cells slots pt Ls st) (rf : x < 0 → Run l R n0 Q K h cells slots pc' Ls st) : Run l R n0 Q K h cells slots pc Ls (.int x :: st) := by
  by_cases q : x < 0
  · exact r_if_ge_f C hd hp' q (rf q)
  · exact r_if_ge_t C hd ho hp q (rt q)
theorem r_lcmp_ge (C : Ctx l R Z own nm code maxL ret fl n0 kz K) {o : Int} {pt : Nat} {x y : Int64} (hd : decode code pc = .ok (.lcmp, 1)) (hd2 : decode code (pc + 1) = .ok (.ifCond .ge o, 3)) (ho : 0 ≤ ((pc + 1 : Nat) : Int) + o) (hp : (((pc + 1 : Nat) : Int) + o).toNat = pt) (hp' : pc + 4 = pc') (rt : ¬ x < y → Run l R n0 Q K h cells slots pt Ls st) (rf : x < y → Run l R n0 Q K h cells slots pc' Ls st) : Run l R n0 Q K h cells slots pc Ls (.long y :: .long x :: st) := by
  by_cases q : x < y
  · subst hp'; exact Run.pure C (Or.inr trivial) (fun p e s m args below meth c hx hby hown hZ T locs X eT target k => XT.lcmp X.here hx rfl (hb hby hd) rfl (XS.ifNo X.here hx rfl (hb hby hd2) rfl (XT.ll_ge_f q) k)) (rf q)
  · exact Run.pure C (Or.inr trivial) (fun p e s m args below meth c hx hby hown hZ T locs X eT target k => XT.lcmp X.here hx rfl (hb hby hd) rfl (XS.ifYes X.here hx rfl (pc0 := pc + 1) rfl (hb hby hd2) rfl (XT.ll_ge_t q) ho hp k)) (rt q)
theorem r_icmp_gt_t (C : Ctx l R Z own nm code maxL ret fl n0 kz K) {o : Int} {x y : Int32} (hd : decode code pc = .ok (.if_icmp .gt o, 3)) (ho : 0 ≤ (pc : Int) + o) (hp : ((pc : Int) + o).toNat = pc') (q : y < x) (r : Run l R n0 Q K h cells slots pc' Ls (st)) : Run l R n0 Q K h cells slots pc Ls (.int y :: .int x :: st) :=
  Run.pure C (Or.inr trivial) (fun p e s m args below meth c hx hby hown hZ T locs X eT target k => by exact XS.icmpYes X.here hx rfl (pc0 := pc) rfl (hb hby hd) rfl (XT.ii_gt_t q) ho hp k) r
theorem r_icmp_gt_f (C : Ctx l R Z own nm code maxL ret fl n0 kz K) {o : Int} {x y : Int32} (hd : decode code pc = .ok (.if_icmp .gt o, 3)) (hp : pc + 3 = pc') (q : ¬ y < x) (r : Run l R n0 Q K h cells slots pc' Ls (st)) : Run l R n0 Q K h cells slots pc Ls (.int y :: .int x :: st) :=
  Run.pure C (Or.inr trivial) (fun p e s m args below meth c hx hby hown hZ T locs X eT target k => by subst hp; exact XS.icmpNo X.here hx rfl (hb hby hd) rfl (XT.ii_gt_f q) k) r
theorem r_icmp_gt (C : Ctx l R Z own nm code maxL ret fl n0 kz K) {o : Int} {pt : Nat} {x y : Int32} (hd : decode code pc = .ok (.if_icmp .gt o, 3)) (ho : 0 ≤ (pc : Int) + o) (hp : ((pc : Int) + o).toNat = pt) (hp' : pc + 3 = pc') (rt : y < x → Run l R n0 Q K h cells slots pt Ls st) (rf : ¬ y < x → Run l R n0 Q K h cells slots pc' Ls st) : Run l R n0 Q K h cells slots pc Ls (.int y :: .int x :: st) := by
  by_cases q : y < x
  · exact r_icmp_gt_t C hd ho hp q (rt q)
  · exact r_icmp_gt_f C hd hp' q (rf q)
theorem r_if_gt_t (C : Ctx l R Z own nm code maxL ret fl n0 kz K) {o : Int} {x : Int32} (hd : decode code pc = .ok (.ifCond .gt o, 3)) (ho : 0 ≤ (pc : Int) + o) (hp : ((pc : Int) + o).toNat = pc') (q : 0 < x) (r : Run l R n0 Q K h cells slots pc' Ls (st)) : Run l R n0 Q K h cells slots pc Ls (.int x :: st) :=
  Run.pure C (Or.inr trivial) (fun p e s m args below meth c hx hby hown hZ T locs X eT target k => by exact XS.ifYes X.here hx rfl (pc0 := pc) rfl (hb hby hd) rfl (XT.i0_gt_t q) ho hp k) r
theorem r_if_gt_f (C : Ctx l R Z own nm code maxL ret fl n0 kz K) {o : Int} {x : Int32} (hd : decode code pc = .ok (.ifCond .gt o, 3)) (hp : pc + 3 = pc') (q : ¬ 0 < x) (r : Run l R n0 Q K h cells slots pc' Ls (st)) : Run l R n0 Q K h cells slots pc Ls (.int x :: st) :=
  Run.pure C (Or.inr trivial) (fun p e s m args below meth c hx hby hown hZ T locs X eT target k => by subst hp; exact XS.ifNo X.here hx rfl (hb hby hd) rfl (XT.i0_gt_f q) k) r
theorem r_if_gt (C : Ctx l R Z own nm code maxL ret fl n0 kz K) {o : Int} {pt : Nat} {x : Int32} (hd : decode code pc = .ok (.ifCond .gt o, 3)) (ho : 0 ≤ (pc : Int) + o) (hp : ((pc : Int) + o).toNat = pt) (hp' : pc + 3 = pc') (rt : 0 < x → Run l R n0 Q K h cells slots pt Ls st) (rf : ¬ 0 < x → Run l R n0 Q K h cells slots pc' Ls st) : Run l R n0 Q K h cells slots pc Ls (.int x :: st) := by
  by_cases q : 0 < x
  · exact r_if_gt_t C hd ho hp q (rt q)
  · exact r_if_gt_f C hd hp' q (rf q)
theorem r_lcmp_gt (C : Ctx l R Z own nm code maxL ret fl n0 kz K) {o : Int} {pt : Nat} {x y : Int64} (hd : decode code pc = .ok (.lcmp, 1)) (hd2 : decode code (pc + 1) = .ok (.ifCond .gt o, 3)) (ho : 0 ≤ ((pc + 1 : Nat) : Int) + o) (hp : (((pc + 1 : Nat) : Int) + o).toNat = pt) (hp' : pc + 4 = pc') (rt : y < x → Run l R n0 Q K h cells slots pt Ls st) (rf : ¬ y < x → Run l R n0 Q K h cells slots pc' Ls st) : Run l R n0 Q K h cells slots pc Ls (.long y :: .long x :: st) := by
  by_cases q : y < x
  · exact Run.pure C (Or.inr trivial) (fun p e s m args below meth c hx hby hown hZ T locs X eT target k => XT.lcmp X.here hx rfl (hb hby hd) rfl (XS.ifYes X.here hx rfl (pc0 := pc + 1) rfl (hb hby hd2) rfl (XT.ll_gt_t q) ho hp k)) (rt q)
  · subst hp'; exact Run.pure C (Or.inr trivial) (fun p e s m args below meth c hx hby hown hZ T locs X eT target k => XT.lcmp X.here hx rfl (hb hby hd) rfl (XS.ifNo X.here hx rfl (hb hby hd2) rfl (XT.ll_gt_f q) k)) (rf q)
theorem r_icmp_le_t (C : Ctx l R Z own nm code maxL ret fl n0 kz K) {o : Int} {x y : Int32} (hd : decode code pc = .ok (.if_icmp .le o, 3)) (ho : 0 ≤ (pc : Int) + o) (hp : ((pc : Int) + o).toNat = pc') (q : ¬ y < x) (r : Run l R n0 Q K h cells slots pc' Ls (st)) : Run l R n0 Q K h cells slots pc Ls (.int y :: .int x :: st) :=
  Run.pure C (Or.inr trivial) (fun p e s m args below meth c hx hby hown hZ T locs X eT target k => by exact XS.icmpYes X.here hx rfl (pc0 := pc) rfl (hb hby hd) rfl (XT.ii_le_t q) ho hp k) r
theorem r_icmp_le_f (C : Ctx l R Z own nm code maxL ret fl n0 kz K) {o : Int} {x y : Int32} (hd : decode code pc = .ok (.if_icmp .le o, 3)) (hp : pc + 3 = pc') (q : y < x) (r : Run l R n0 Q K h cells slots pc' Ls (st)) : Run l R n0 Q K h cells slots pc Ls (.int y :: .int x :: st) :=
  Run.pure C (Or.inr trivial) (fun p e s m args below meth c hx hby hown hZ T locs X eT target k => by subst hp; exact XS.icmpNo X.here hx rfl (hb hby hd) rfl (XT.ii_le_f q) k) r
theorem r_icmp_le (C : Ctx l R Z own nm code maxL ret fl n0 kz K) {o : Int} {pt : Nat} {x y : Int32} (hd : decode code pc = .ok (.if_icmp .le o, 3)) (ho : 0 ≤ (pc : Int) + o) (hp : ((pc : Int) + o).toNat = pt) (hp' : pc + 3 = pc') (rt : ¬ y < x → Run l R n0 Q K h cells slots pt Ls st) (rf : y < x → Run l R n0 Q K h cells slots pc' Ls st) : Run l R n0 Q K h cells slots pc Ls (.int y :: .int x :: st) := by
  by_cases q : y < x
  · exact r_icmp_le_f C hd hp' q (rf q)
  · exact r_icmp_le_t C hd ho hp q (rt q)
theorem r_if_le_t (C : Ctx l R Z own nm code maxL ret fl n0 kz K) {o : Int} {x : Int32} (hd : decode code pc = .ok (.ifCond .le o, 3)) (ho : 0 ≤ (pc : Int) + o) (hp : ((pc : Int) + o).toNat = pc') (q : ¬ 0 < x) (r : Run l R n0 Q K h cells slots pc' Ls (st)) : Run l R n0 Q K h cells slots pc Ls (.int x :: st) :=
  Run.pure C (Or.inr trivial) (fun p e s m args below meth c hx hby hown hZ T locs X eT target k => by exact XS.ifYes X.here hx rfl (pc0 := pc) rfl (hb hby hd) rfl (XT.i0_le_t q) ho hp k) r
theorem r_if_le_f (C : Ctx l R Z own nm code maxL ret fl n0 kz K) {o : Int} {x : Int32} (hd : decode code pc = .ok (.ifCond .le o, 3)) (hp : pc + 3 = pc') (q : 0 < x) (r : Run l R n0 Q K h cells slots pc' Ls (st)) : Run l R n0 Q K h cells slots pc Ls (.int x :: st) :=
  Run.pure C (Or.inr trivial) (fun p e s m args below meth c hx hby hown hZ T locs X eT target k => by subst hp; exact XS.ifNo X.here hx rfl (hb hby hd) rfl (XT.i0_le_f q) k) r
theorem r_if_le (C : Ctx l R Z own nm code maxL ret fl n0 kz K) {o : Int} {pt : Nat} {x : Int32} (hd : decode code pc = .ok (.ifCond .le o, 3)) (ho : 0 ≤ (pc : Int) + o) (hp : ((pc : Int) + o).toNat = pt) (hp' : pc + 3 = pc') (rt : ¬ 0 < x → Run l R n0 Q K h cells slots pt Ls st) (rf : 0 < x → Run l R n0 Q K h cells slots pc' Ls st) : Run l R n0 Q K h cells slots pc Ls (.int x :: st) := by
  by_cases q : 0 < x
  · exact r_if_le_f C hd hp' q (rf q)
  · exact r_if_le_t C hd ho hp q (rt q)
theorem r_lcmp_le (C : Ctx l R Z own nm code maxL ret fl n0 kz K) {o : Int} {pt : Nat} {x y : Int64} (hd : decode code pc = .ok (.lcmp, 1)) (hd2 : decode code (pc + 1) = .ok (.ifCond .le o, 3)) (ho : 0 ≤ ((pc + 1 : Nat) : Int) + o) (hp : (((pc + 1 : Nat) : Int) + o).toNat = pt) (hp' : pc + 4 = pc') (rt : ¬ y < x → Run l R n0 Q K h cells slots pt Ls st) (rf : y < x → Run l R n0 Q K h cells slots pc' Ls st) : Run l R n0 Q K h cells slots pc Ls (.long y :: .long x :: st) := by
  by_cases q : y < x
  · subst hp'; exact Run.pure C (Or.inr trivial) (fun p e s m args below meth c hx hby hown hZ T locs X eT target k => XT.lcmp X.here hx rfl (hb hby hd) rfl (XS.ifNo X.here hx rfl (hb hby hd2) rfl (XT.ll_le_f q) k)) (rf q)
  · exact Run.pure C (Or.inr trivial) (fun p e s m args below meth c hx hby hown hZ T locs X eT target k => XT.lcmp X.here hx rfl (hb hby hd) rfl (XS.ifYes X.here hx rfl (pc0 := pc + 1) rfl (hb hby hd2) rfl (XT.ll_le_t q) ho hp k)) (rt q)
theorem r_ifnull_t (C : Ctx l R Z own nm code maxL ret fl n0 kz K) {o : Int} {v : Value} (hd : decode code pc = .ok (.ifnull o, 3)) (ho : 0 ≤ (pc : Int) + o) (hp : ((pc : Int) + o).toNat = pc') (hv : v.isRef = true) (q : v = .null) (r : Run l R n0 Q K h cells slots pc' Ls (st)) : Run l R n0 Q K h cells slots pc Ls (v :: st) :=
  Run.pure C (Or.inr trivial) (fun p e s m args below meth c hx hby hown hZ T locs X eT target k => by exact XT.nullYes X.here hx rfl (pc0 := pc) rfl (hb hby hd) rfl q ho hp k) r
theorem r_ifnull_f (C : Ctx l R Z own nm code maxL ret fl n0 kz K) {o : Int} {v : Value} (hd : decode code pc = .ok (.ifnull o, 3)) (hp : pc + 3 = pc') (hv : v.isRef = true) (q : ¬ v = .null) (r : Run l R n0 Q K h cells slots pc' Ls (st)) : Run l R n0 Q K h cells slots pc Ls (v :: st) :=
  Run.pure C (Or.inr trivial) (fun p e s m args below meth c hx hby hown hZ T locs X eT target k => by subst hp; exact XT.nullNo X.here hx rfl (hb hby hd) rfl hv q k) r
theorem r_ifnonnull_t (C : Ctx l R Z own nm code maxL ret fl n0 kz K) {o : Int} {v : Value} (hd : decode code pc = .ok (.ifnonnull o, 3)) (ho : 0 ≤ (pc : Int) + o) (hp : ((pc : Int) + o).toNat = pc') (hv : v.isRef = true) (q : ¬ v = .null) (r : Run l R n0 Q K h cells slots pc' Ls (st)) : Run l R n0 Q K h cells slots pc Ls (v :: st) :=
  Run.pure C (Or.inr trivial) (fun p e s m args below meth c hx hby hown hZ T locs X eT target k => by exact XT.nonnullYes X.here hx rfl (pc0 := pc) rfl (hb hby hd) rfl hv q ho hp k) r
theorem r_ifnonnull_f (C : Ctx l R Z own nm code maxL ret fl n0 kz K) {o : Int} {v : Value} (hd : decode code pc = .ok (.ifnonnull o, 3)) (hp : pc + 3 = pc') (hv : v.isRef = true) (q : v = .null) (r : Run l R n0 Q K h cells slots pc' Ls (st)) : Run l R n0 Q K h cells slots pc Ls (v :: st) :=
  Run.pure C (Or.inr trivial) (fun p e s m args below meth c hx hby hown hZ T locs X eT target k => by subst hp; exact XT.nonnullNo X.here hx rfl (hb hby hd) rfl q k) r
theorem r_acmp_eq_t (C : Ctx l R Z own nm code maxL ret fl n0 kz K) {o : Int} {x y : Value} (hd : decode code pc = .ok (.if_acmp .eq o, 3)) (ho : 0 ≤ (pc : Int) + o) (hp : ((pc : Int) + o).toNat = pc') (hvx : x.isRef = true) (hvy : y.isRef = true) (q : x = y) (r : Run l R n0 Q K h cells slots pc' Ls (st)) : Run l R n0 Q K h cells slots pc Ls (y :: x :: st) :=
  Run.pure C (Or.inr trivial) (fun p e s m args below meth c hx hby hown hZ T locs X eT target k => by exact XT.acmpYes X.here hx rfl (pc0 := pc) rfl (hb hby hd) rfl hvx hvy (XT.aa_eq_t q) ho hp k) r
theorem r_acmp_eq_f (C : Ctx l R Z own nm code maxL ret fl n0 kz K) {o : Int} {x y : Value} (hd : decode code pc = .ok (.if_acmp .eq o, 3)) (hp : pc + 3 = pc') (hvx : x.isRef = true) (hvy : y.isRef = true) (q : ¬ x = y) (r : Run l R n0 Q K h cells slots pc' Ls (st)) : Run l R n0 Q K h cells slots pc Ls (y :: x :: st) :=
  Run.pure C (Or.inr trivial) (fun p e s m args below meth c hx hby hown hZ T locs X eT target k => by subst hp; exact XT.acmpNo X.here hx rfl (hb hby hd) rfl hvx hvy (XT.aa_eq_f q) k) r
theorem r_acmp_ne_t (C : Ctx l R Z own nm code maxL ret fl n0 kz K) {o : Int} {x y : Value} (hd : decode code pc = .ok (.if_acmp .ne o, 3)) (ho : 0 ≤ (pc : Int) + o) (hp : ((pc : Int) + o).toNat = pc') (hvx : x.isRef = true) (hvy : y.isRef = true) (q : ¬ x = y) (r : Run l R n0 Q K h cells slots pc' Ls (st)) : Run l R n0 Q K h cells slots pc Ls (y :: x :: st) :=
  Run.pure C (Or.inr trivial) (fun p e s m args below meth c hx hby hown hZ T locs X eT target k => by exact XT.acmpYes X.here hx rfl (pc0 := pc) rfl (hb hby hd) rfl hvx hvy (XT.aa_ne_t q) ho hp k) r
theorem r_acmp_ne_f (C : Ctx l R Z own nm code maxL ret fl n0 kz K) {o : Int} {x y : Value} (hd : decode code pc = .ok (.if_acmp .ne o, 3)) (hp : pc + 3 = pc') (hvx : x.isRef = true) (hvy : y.isRef = true) (q : x = y) (r : Run l R n0 Q K h cells slots pc' Ls (st)) : Run l R n0 Q K h cells slots pc Ls (y :: x :: st) :=
  Run.pure C (Or.inr trivial) (fun p e s m args below meth c hx hby hown hZ T locs X eT target k => by subst hp; exact XT.acmpNo X.here hx rfl (hb hby hd) rfl hvx hvy (XT.aa_ne_f q) k) r
theorem r_ldcI (C : Ctx l R Z own nm code maxL ret fl n0 kz K) {idx : Nat} {v : Int32} (hd : decode code pc = .ok (.ldc idx, 2)) (hp : pc + 2 = pc') (w : (Jvm.Cond.constant own idx v).before a0 Z = true) (r : Run l R n0 Q K h cells slots pc' Ls (.int v :: st)) : Run l R n0 Q K h cells slots pc Ls (st) :=
  Run.pure C (Or.inr trivial) (fun p e s m args below meth c hx hby hown hZ T locs X eT target k => by subst hp; exact X.ldcI hx hown (mvT hZ w) rfl (hb hby hd) k) r
theorem r_ldcWI (C : Ctx l R Z own nm code maxL ret fl n0 kz K) {idx : Nat} {v : Int32} (hd : decode code pc = .ok (.ldc_w idx, 3)) (hp : pc + 3 = pc') (w : (Jvm.Cond.constant own idx v).before a0 Z = true) (r : Run l R n0 Q K h cells slots pc' Ls (.int v :: st)) : Run l R n0 Q K h cells slots pc Ls (st) :=
  Run.pure C (Or.inr trivial) (fun p e s m args below meth c hx hby hown hZ T locs X eT target k => by subst hp; exact X.ldcWI hx hown (mvT hZ w) rfl (hb hby hd) k) r
theorem r_ldc2J (C : Ctx l R Z own nm code maxL ret fl n0 kz K) {idx : Nat} {v : Int64} (hd : decode code pc = .ok (.ldc2_w idx, 3)) (hp : pc + 3 = pc') (w : (Jvm.Cond.constantLong own idx v).before a0 Z = true) (r : Run l R n0 Q K h cells slots pc' Ls (.long v :: st)) : Run l R n0 Q K h cells slots pc Ls (st) :=
  Run.pure C (Or.inr trivial) (fun p e s m args below meth c hx hby hown hZ T locs X eT target k => by subst hp; exact X.ldc2J hx hown (mvT hZ w) rfl (hb hby hd) k) r
/-- a place inside an array -/
def Inb (j z : Int32) : Prop := ¬ j < 0 ∧ j < z
theorem r_arraylength (C : Ctx l R Z own nm code maxL ret fl n0 kz K) {a : Addr} {k : ClassId} {ty : FieldType} {z : Int32} {vs : List Value} {dv : Value} (hd : decode code pc = .ok (.arraylength, 1)) (hp : pc + 1 = pc') (A : Arv Z h a k ty z vs dv) (r : Run l R n0 Q K h cells slots pc' Ls (.int z :: st)) : Run l R n0 Q K h cells slots pc Ls (.ref a :: st) :=
  Run.pure C (Or.inr trivial) (fun p e s m args below meth c hx hby hown hZ T locs X eT target kk => by
    subst hp
    obtain ⟨cl, Ar, q1, S, N, H, G⟩ := A
    refine X.arraylength hx (by rw [eT]; exact Ar.1) (State.isArrayOf_alike hZ.alike Ar.2.1) (g := mkF m pc Ls (.ref a :: st)) rfl rfl (hb hby hd) _ ?_
    rw [len_of S N]; exact kk) r
theorem r_iaload (C : Ctx l R Z own nm code maxL ret fl n0 kz K) {a : Addr} {k : ClassId} {z j : Int32} {vs : List Value} {dv v : Value} (hd : decode code pc = .ok (.iaload, 1)) (hp : pc + 1 = pc') (A : Arv Z h a k .int z vs dv) (hj : Inb j z) (hv : vs.getD j.toNatClampNeg dv = v) (r : Run l R n0 Q K h cells slots pc' Ls (v :: st)) : Run l R n0 Q K h cells slots pc Ls (.int j :: .ref a :: st) :=
  Run.pure C (Or.inr trivial) (fun p e s m args below meth c hx hby hown hZ T locs X eT target kk => by
    subst hp
    obtain ⟨cl, Ar, q1, S, N, H, G⟩ := A
    have hin := inb_of S hj
    exact X.iaload hx (by rw [eT]; exact Ar.1) (State.isArrayOf_alike hZ.alike Ar.2.1) Ar.2.2 hin (H.at hin hv) (g := mkF m pc Ls (.int j :: .ref a :: st)) rfl rfl (hb hby hd) _ kk) r
theorem r_laload (C : Ctx l R Z own nm code maxL ret fl n0 kz K) {a : Addr} {k : ClassId} {z j : Int32} {vs : List Value} {dv v : Value} (hd : decode code pc = .ok (.laload, 1)) (hp : pc + 1 = pc') (A : Arv Z h a k .long z vs dv) (hj : Inb j z) (hv : vs.getD j.toNatClampNeg dv = v) (r : Run l R n0 Q K h cells slots pc' Ls (v :: st)) : Run l R n0 Q K h cells slots pc Ls (.int j :: .ref a :: st) :=
  Run.pure C (Or.inr trivial) (fun p e s m args below meth c hx hby hown hZ T locs X eT target kk => by
    subst hp
    obtain ⟨cl, Ar, q1, S, N, H, G⟩ := A
    have hin := inb_of S hj
    exact X.laload hx (by rw [eT]; exact Ar.1) (State.isArrayOf_alike hZ.alike Ar.2.1) Ar.2.2 hin (H.at hin hv) (g := mkF m pc Ls (.int j :: .ref a :: st)) rfl rfl (hb hby hd) _ kk) r
theorem r_caload (C : Ctx l R Z own nm code maxL ret fl n0 kz K) {a : Addr} {k : ClassId} {z j : Int32} {vs : List Value} {dv v : Value} (hd : decode code pc = .ok (.caload, 1)) (hp : pc + 1 = pc') (A : Arv Z h a k .char z vs dv) (hj : Inb j z) (hv : vs.getD j.toNatClampNeg dv = v) (r : Run l R n0 Q K h cells slots pc' Ls (v :: st)) : Run l R n0 Q K h cells slots pc Ls (.int j :: .ref a :: st) :=
  Run.pure C (Or.inr trivial) (fun p e s m args below meth c hx hby hown hZ T locs X eT target kk => by
    subst hp
    obtain ⟨cl, Ar, q1, S, N, H, G⟩ := A
    have hin := inb_of S hj
    exact X.caload hx (by rw [eT]; exact Ar.1) (State.isArrayOf_alike hZ.alike Ar.2.1) Ar.2.2 hin (H.at hin hv) (g := mkF m pc Ls (.int j :: .ref a :: st)) rfl rfl (hb hby hd) _ kk) r
theorem r_saload (C : Ctx l R Z own nm code maxL ret fl n0 kz K) {a : Addr} {k : ClassId} {z j : Int32} {vs : List Value} {dv v : Value} (hd : decode code pc = .ok (.saload, 1)) (hp : pc + 1 = pc') (A : Arv Z h a k .short z vs dv) (hj : Inb j z) (hv : vs.getD j.toNatClampNeg dv = v) (r : Run l R n0 Q K h cells slots pc' Ls (v :: st)) : Run l R n0 Q K h cells slots pc Ls (.int j :: .ref a :: st) :=
  Run.pure C (Or.inr trivial) (fun p e s m args below meth c hx hby hown hZ T locs X eT target kk => by
    subst hp
    obtain ⟨cl, Ar, q1, S, N, H, G⟩ := A
    have hin := inb_of S hj
    exact X.saload hx (by rw [eT]; exact Ar.1) (State.isArrayOf_alike hZ.alike Ar.2.1) Ar.2.2 hin (H.at hin hv) (g := mkF m pc Ls (.int j :: .ref a :: st)) rfl rfl (hb hby hd) _ kk) r
theorem r_baload (C : Ctx l R Z own nm code maxL ret fl n0 kz K) {a : Addr} {k : ClassId} {z j : Int32} {vs : List Value} {dv v : Value} (hd : decode code pc = .ok (.baload, 1)) (hp : pc + 1 = pc') (A : Arv Z h a k .byte z vs dv) (hj : Inb j z) (hv : vs.getD j.toNatClampNeg dv = v) (r : Run l R n0 Q K h cells slots pc' Ls (v :: st)) : Run l R n0 Q K h cells slots pc Ls (.int j :: .ref a :: st) :=
  Run.pure C (Or.inr trivial) (fun p e s m args below meth c hx hby hown hZ T locs X eT target kk => by
    subst hp
    obtain ⟨cl, Ar, q1, S, N, H, G⟩ := A
    have hin := inb_of S hj
    exact X.baloadBytes hx (by rw [eT]; exact Ar.1) (State.isArrayOf_alike hZ.alike Ar.2.1) Ar.2.2 hin (H.at hin hv) (g := mkF m pc Ls (.int j :: .ref a :: st)) rfl rfl (hb hby hd) _ kk) r
theorem r_baloadZ (C : Ctx l R Z own nm code maxL ret fl n0 kz K) {a : Addr} {k : ClassId} {z j : Int32} {vs : List Value} {dv v : Value} (hd : decode code pc = .ok (.baload, 1)) (hp : pc + 1 = pc') (A : Arv Z h a k .boolean z vs dv) (hj : Inb j z) (hv : vs.getD j.toNatClampNeg dv = v) (r : Run l R n0 Q K h cells slots pc' Ls (v :: st)) : Run l R n0 Q K h cells slots pc Ls (.int j :: .ref a :: st) :=
  Run.pure C (Or.inr trivial) (fun p e s m args below meth c hx hby hown hZ T locs X eT target kk => by
    subst hp
    obtain ⟨cl, Ar, q1, S, N, H, G⟩ := A
    have hin := inb_of S hj
    exact X.baloadBooleans hx (by rw [eT]; exact Ar.1) (State.isArrayOf_alike hZ.alike Ar.2.1) Ar.2.2 hin (H.at hin hv) (g := mkF m pc Ls (.int j :: .ref a :: st)) rfl rfl (hb hby hd) _ kk) r
theorem r_aaload (C : Ctx l R Z own nm code maxL ret fl n0 kz K) {a : Addr} {k : ClassId} {ty : FieldType} {z j : Int32} {vs : List Value} {dv v : Value} (hd : decode code pc = .ok (.aaload, 1)) (hp : pc + 1 = pc') (A : Arv Z h a k ty z vs dv) (hty : ty.isReference = true) (hj : Inb j z) (hv : vs.getD j.toNatClampNeg dv = v) (r : Run l R n0 Q K h cells slots pc' Ls (v :: st)) : Run l R n0 Q K h cells slots pc Ls (.int j :: .ref a :: st) :=
  Run.pure C (Or.inr trivial) (fun p e s m args below meth c hx hby hown hZ T locs X eT target kk => by
    subst hp
    obtain ⟨cl, Ar, q1, S, N, H, G⟩ := A
    have hin := inb_of S hj
    exact X.aaload hx (by rw [eT]; exact Ar.1) (State.isArrayOf_alike hZ.alike Ar.2.1) hty Ar.2.2 hin (H.at hin hv) (g := mkF m pc Ls (.int j :: .ref a :: st)) rfl rfl (hb hby hd) _ kk) r
theorem Run.move {cells' slots' : Nat} (C : Ctx l R Z own nm code maxL ret fl n0 kz K)
    (k : ∀ (p : Program) (e : Env) (s : State) (m : MethodId) (args : Array Value) (below : List Frame) (meth : Method) (c : Code), p.tables.exec = Jvm.exec → c.code = code → c.maxLocals = maxL → meth.name = nm → s.vm.findClass own = some m.cls → Z.Warmed39 s.vm → ∀ (T : State) (locs : List Loc), Stand p l e R s m args below meth c T locs cells slots → T.heap = h →
      ∃ (T' : State) (h' : Heap), Stand p l e R s m args below meth c T' locs cells' slots' ∧ T'.heap = h' ∧ Run l R n0 Q K h' cells' slots' pc' Ls' rest ∧ ∀ target, Steps p.tables e below (T'.setTop (mkF m pc' Ls' rest)) target → Steps p.tables e below (T.setTop (mkF m pc Ls st)) target) :
    Run l R n0 Q K h cells slots pc Ls st := by
  obtain ⟨Pl, En, p, e, s, m, args, below, meth, c⟩ := K
  intro T locs X eT N
  obtain ⟨hx, hZ, hown, hby, hml, -, hnm, -⟩ := C
  obtain ⟨T', h', X', eT', r, kk⟩ := k p e s m args below meth c hx hby hml hnm hown hZ T locs X eT
  obtain ⟨s2, o, k1, k2⟩ := r T' locs X' eT' N
  exact ⟨s2, o, kk _ k1, k2⟩
theorem Run.write (C : Ctx l R Z own nm code maxL ret true n0 kz K) {a : Addr} {sl : Nat} (ge : n0 ≤ a)
    (k : ∀ (p : Program) (e : Env) (s : State) (m : MethodId) (args : Array Value) (below : List Frame) (meth : Method) (c : Code), p.tables.exec = Jvm.exec → c.code = code → c.maxLocals = maxL → meth.name = nm → s.vm.findClass own = some m.cls → Z.Warmed39 s.vm → ∀ (T : State) (locs : List Loc), Stand p l e R s m args below meth c T locs cells slots → T.heap = h →
      ∃ (T' : State) (h' : Heap), Stand p l e R s m args below meth c T' (locs ++ [⟨a, sl⟩]) cells slots ∧ T'.heap = h' ∧ Run l R n0 Q K h' cells slots pc' Ls' rest ∧ ∀ target, Steps p.tables e below (T'.setTop (mkF m pc' Ls' rest)) target → Steps p.tables e below (T.setTop (mkF m pc Ls st)) target) :
    Run l R n0 Q K h cells slots pc Ls st := by
  obtain ⟨Pl, En, p, e, s, m, args, below, meth, c⟩ := K
  intro T locs X eT N
  obtain ⟨hx, hZ, hown, hby, hml, -, hnm, -, hcl, -⟩ := C
  obtain ⟨T', h', X', eT', r, kk⟩ := k p e s m args below meth c hx hby hml hnm hown hZ T locs X eT
  obtain ⟨s2, o, k1, k2⟩ := r T' _ X' eT' (hcl rfl _ _ N (fun y hy => by cases List.mem_singleton.mp hy; exact ge))
  exact ⟨s2, o, kk _ k1, k2⟩
theorem r_getF (C : Ctx l R Z own nm code maxL ret fl n0 kz K) {idx : Nat} {R0 O n d : String} {a : Addr} {v : Value} (hd : decode code pc = .ok (.getfield idx, 3)) (hp : pc + 3 = pc') (w : (Jvm.Cond.fieldLink own idx R0 n d).before a0 Z = true) (via : Via Z R0 O n d) (F : Fld Z h a O n d v) (r : Run l R n0 Q K h cells slots pc' Ls (v :: st)) : Run l R n0 Q K h cells slots pc Ls (.ref a :: st) := by
  subst hp
  exact Run.move (cells' := cells) (slots' := slots) (pc' := pc + 3) (Ls' := Ls) (rest := v :: st) C (fun p e s m args below meth c hx hby hml hnm hown hZ T locs X eT => by
    obtain ⟨T', X', e', s'⟩ := getF X hx hZ hown (host := "") (Or.inl w) via eT F (g := mkF m pc Ls (.ref a :: st)) rfl rfl (hb hby hd)
    exact ⟨T', h, X', e', r, s'⟩)
theorem r_getFN (C : Ctx l R Z own nm code maxL ret fl n0 kz K) {idx : Nat} {R0 O n d host : String} {a : Addr} {v : Value} (hd : decode code pc = .ok (.getfield idx, 3)) (hp : pc + 3 = pc') (w : (Jvm.Cond.fieldLinkNest own idx R0 n d host).before a0 Z = true) (via : Via Z R0 O n d) (F : Fld Z h a O n d v) (r : Run l R n0 Q K h cells slots pc' Ls (v :: st)) : Run l R n0 Q K h cells slots pc Ls (.ref a :: st) := by
  subst hp
  exact Run.move (cells' := cells) (slots' := slots) (pc' := pc + 3) (Ls' := Ls) (rest := v :: st) C (fun p e s m args below meth c hx hby hml hnm hown hZ T locs X eT => by
    obtain ⟨T', X', e', s'⟩ := getF X hx hZ hown (Or.inr w) via eT F (g := mkF m pc Ls (.ref a :: st)) rfl rfl (hb hby hd)
    exact ⟨T', h, X', e', r, s'⟩)
theorem r_getS (C : Ctx l R Z own nm code maxL ret fl n0 kz K) {idx : Nat} {R0 O n d : String} {v : Value} (hd : decode code pc = .ok (.getstatic idx, 3)) (hp : pc + 3 = pc') (w : (Jvm.Cond.fieldLink own idx R0 n d).before a0 Z = true) (via : Via Z R0 O n d) (F : Sta Z h O n d v) (r : Run l R n0 Q K h cells slots pc' Ls (v :: st)) : Run l R n0 Q K h cells slots pc Ls st := by
  subst hp
  exact Run.move (cells' := cells) (slots' := slots) (pc' := pc + 3) (Ls' := Ls) (rest := v :: st) C (fun p e s m args below meth c hx hby hml hnm hown hZ T locs X eT => by
    obtain ⟨T', X', e', s'⟩ := getS2 X hx hZ hown (host := "") (Or.inl w) via eT F (g := mkF m pc Ls st) rfl (hb hby hd)
    exact ⟨T', h, X', e', r, s'⟩)
theorem r_putF (C : Ctx l R Z own nm code maxL ret true n0 kz K) {idx kk : Nat} {R0 O n d Cn : String} {a : Addr} {v old : Value} {ty : FieldType} (hd : decode code pc = .ok (.putfield idx, 3)) (hp : pc + 3 = pc') (w : (Jvm.Cond.fieldLink own idx R0 n d).before a0 Z = true) (via : Via Z R0 O n d) (F : Fld Z h a O n d old) (E : Exa Z h a Cn)
    (L : (Jvm.Cond.lays Cn O n d).before a0 Z = true ∨ ((Jvm.Cond.laysFinal Cn O n d).before a0 Z = true ∧ own = O ∧ nm = "<init>")) (wi : (Jvm.Cond.instantiable Cn kk).before a0 Z = true) (hty : parseFieldDescriptor d = some ty) (hn : narrow ty v = v) (hf : fits ty v = true) (ge : n0 ≤ a)
    (r : ∀ h', Wr h h' a (Jvm.RoadKit.slotOf Z O n d) v → Run l R n0 Q K h' cells slots pc' Ls st) : Run l R n0 Q K h cells slots pc Ls (v :: .ref a :: st) := by
  subst hp
  exact Run.write (pc' := pc + 3) (Ls' := Ls) (rest := st) C ge (fun p e s m args below meth c hx hby hml hnm hown hZ T locs X eT => by
    obtain ⟨T', h', X', e', W, s'⟩ := putF X hx hZ hown (host := "") (Or.inl w) via eT F E (L.imp id fun q => ⟨q.1, q.2.1, by rw [hnm]; exact q.2.2⟩) wi hty hn hf (g := mkF m pc Ls (v :: .ref a :: st)) rfl rfl (hb hby hd)
    exact ⟨T', h', X', e', r h' W, s'⟩)
theorem r_putFN (C : Ctx l R Z own nm code maxL ret true n0 kz K) {idx kk : Nat} {R0 O n d Cn : String} {a : Addr} {v v' old : Value} {ty : FieldType} (hd : decode code pc = .ok (.putfield idx, 3)) (hp : pc + 3 = pc') (w : (Jvm.Cond.fieldLink own idx R0 n d).before a0 Z = true) (via : Via Z R0 O n d) (F : Fld Z h a O n d old) (E : Exa Z h a Cn)
    (L : (Jvm.Cond.lays Cn O n d).before a0 Z = true ∨ ((Jvm.Cond.laysFinal Cn O n d).before a0 Z = true ∧ own = O ∧ nm = "<init>")) (wi : (Jvm.Cond.instantiable Cn kk).before a0 Z = true) (hty : parseFieldDescriptor d = some ty) (hn : narrow ty v = v') (hf : fits ty v' = true) (ge : n0 ≤ a)
    (r : ∀ h', Wr h h' a (Jvm.RoadKit.slotOf Z O n d) v' → Run l R n0 Q K h' cells slots pc' Ls st) : Run l R n0 Q K h cells slots pc Ls (v :: .ref a :: st) := by
  subst hp
  exact Run.write (pc' := pc + 3) (Ls' := Ls) (rest := st) C ge (fun p e s m args below meth c hx hby hml hnm hown hZ T locs X eT => by
    obtain ⟨T', h', X', e', W, s'⟩ := putFN X hx hZ hown w via eT F E (L.imp id fun q => ⟨q.1, q.2.1, by rw [hnm]; exact q.2.2⟩) wi hty hn hf (g := mkF m pc Ls (v :: .ref a :: st)) rfl rfl (hb hby hd)
    exact ⟨T', h', X', e', r h' W, s'⟩)
theorem r_new (C : Ctx l R Z own nm code maxL ret fl n0 kz K) {idx n : Nat} {Cn : String} (hd : decode code pc = .ok (.new idx, 3)) (hp : pc + 3 = pc') (w : (Jvm.Cond.classLink own idx Cn).before a0 Z = true) (wi : (Jvm.Cond.instantiable Cn n).before a0 Z = true) (wz : (Jvm.Cond.initialized Cn).before a0 Z = true) (hc : cells + 1 ≤ R.cells) (hl : slots + n ≤ R.slots)
    (r : ∀ h' a, a = h.size → Ext h h' → Exa Z h' a Cn → (∀ {O nm d : String} {ty : FieldType}, Laid Z a0 Cn O nm d → parseFieldDescriptor d = some ty → Fld Z h' a O nm d (defaultValue ty)) → Run l R n0 Q K h' (cells + 1) (slots + n) pc' Ls (.ref a :: st)) : Run l R n0 Q K h cells slots pc Ls st := by
  subst hp
  exact Run.move (cells' := cells + 1) (slots' := slots + n) (pc' := pc + 3) (Ls' := Ls) (rest := .ref h.size :: st) C (fun p e s m args below meth c hx hby hml hnm hown hZ T locs X eT => by
    obtain ⟨T', h', X', e', E, A, D, -, s'⟩ := newO X hx hZ hown w wi wz eT (g := mkF m pc Ls st) rfl (hb hby hd) hc hl
    exact ⟨T', h', X', e', r h' _ rfl E A D, s'⟩)
theorem r_newarray (C : Ctx l R Z own nm code maxL ret fl n0 kz K) {aty : ArrayType} {ty : FieldType} {n : Int32} {cap : Nat} (hd : decode code pc = .ok (.newarray aty, 2)) (hp : pc + 2 = pc') (hty : newarray.typeOf aty = ty) (w : (Jvm.Cond.arrayClass ty).before a0 Z = true) (hn : ¬ n < 0) (hcap : n.toNatClampNeg ≤ cap) (hb' : cap * 8 ≤ 536870912) (hc : cells + 1 ≤ R.cells) (hl : slots + cap ≤ R.slots)
    (r : ∀ h' a k, a = h.size → Ext h h' → Arv Z h' a k ty n [] (defaultValue ty) → Run l R n0 Q K h' (cells + 1) (slots + cap) pc' Ls (.ref a :: st)) : Run l R n0 Q K h cells slots pc Ls (.int n :: st) := by
  subst hp hty
  exact Run.move (cells' := cells + 1) (slots' := slots + cap) (pc' := pc + 2) (Ls' := Ls) (rest := .ref h.size :: st) C (fun p e s m args below meth c hx hby hml hnm hown hZ T locs X eT => by
    obtain ⟨T', h', k, X', e', E, A, s'⟩ := newP X hx hZ w eT (g := mkF m pc Ls (.int n :: st)) rfl (hb hby hd) rfl hn (cap := cap) hcap hb' hc hl
    exact ⟨T', h', X', e', r h' _ k rfl E (Arv.new A hn), s'⟩)
theorem r_anewarray (C : Ctx l R Z own nm code maxL ret fl n0 kz K) {idx : Nat} {Cn : String} {n : Int32} {cap : Nat} (hd : decode code pc = .ok (.anewarray idx, 3)) (hp : pc + 3 = pc') (w : (Jvm.Cond.classLink own idx Cn).before a0 Z = true) (w2 : (Jvm.Cond.arrayOver (.object Cn)).before a0 Z = true) (hn : ¬ n < 0) (hcap : n.toNatClampNeg ≤ cap) (hb' : cap * 8 ≤ 536870912) (hc : cells + 1 ≤ R.cells) (hl : slots + cap ≤ R.slots)
    (r : ∀ h' a k, a = h.size → Ext h h' → Arv Z h' a k (.object Cn) n [] .null → Ovr Z k Cn → Run l R n0 Q K h' (cells + 1) (slots + cap) pc' Ls (.ref a :: st)) : Run l R n0 Q K h cells slots pc Ls (.int n :: st) := by
  subst hp
  exact Run.move (cells' := cells + 1) (slots' := slots + cap) (pc' := pc + 3) (Ls' := Ls) (rest := .ref h.size :: st) C (fun p e s m args below meth c hx hby hml hnm hown hZ T locs X eT => by
    obtain ⟨T', h', k, X', e', E, A, O, s'⟩ := newR X hx hZ hown w w2 eT (g := mkF m pc Ls (.int n :: st)) rfl (hb hby hd) rfl hn (cap := cap) hcap hb' hc hl
    exact ⟨T', h', X', e', r h' _ k rfl E (Arv.new A hn) O, s'⟩)
theorem r_checkcast (C : Ctx l R Z own nm code maxL ret fl n0 kz K) {idx : Nat} {Kn : String} {a : Addr} (hd : decode code pc = .ok (.checkcast idx, 3)) (hp : pc + 3 = pc') (w : (Jvm.Cond.classLink own idx Kn).before a0 Z = true) (F : Ins Z h a Kn true) (r : Run l R n0 Q K h cells slots pc' Ls (.ref a :: st)) : Run l R n0 Q K h cells slots pc Ls (.ref a :: st) := by
  subst hp
  exact Run.move (cells' := cells) (slots' := slots) (pc' := pc + 3) (Ls' := Ls) (rest := .ref a :: st) C (fun p e s m args below meth c hx hby hml hnm hown hZ T locs X eT => by
    obtain ⟨T', X', e', s'⟩ := castY X hx hZ hown w eT F (g := mkF m pc Ls (.ref a :: st)) rfl rfl (hb hby hd)
    exact ⟨T', h, X', e', r, s'⟩)
theorem r_checkcastNull (C : Ctx l R Z own nm code maxL ret fl n0 kz K) {idx : Nat} (hd : decode code pc = .ok (.checkcast idx, 3)) (hp : pc + 3 = pc') (r : Run l R n0 Q K h cells slots pc' Ls (.null :: st)) : Run l R n0 Q K h cells slots pc Ls (.null :: st) :=
  Run.pure C (Or.inr trivial) (fun p e s m args below meth c hx hby hown hZ T locs X eT target kk => by
    subst hp
    exact X.checkcastNull hx (g := mkF m pc Ls (.null :: st)) rfl rfl (hb hby hd) _ kk) r
theorem r_instanceof (C : Ctx l R Z own nm code maxL ret fl n0 kz K) {idx : Nat} {Kn : String} {a : Addr} (hd : decode code pc = .ok (.instanceof idx, 3)) (hp : pc + 3 = pc') (w : (Jvm.Cond.classLink own idx Kn).before a0 Z = true) (F : Ins Z h a Kn true) (r : Run l R n0 Q K h cells slots pc' Ls (.int 1 :: st)) : Run l R n0 Q K h cells slots pc Ls (.ref a :: st) := by
  subst hp
  exact Run.move (cells' := cells) (slots' := slots) (pc' := pc + 3) (Ls' := Ls) (rest := .int 1 :: st) C (fun p e s m args below meth c hx hby hml hnm hown hZ T locs X eT => by
    obtain ⟨T', X', e', s'⟩ := instY X hx hZ hown w eT F (g := mkF m pc Ls (.ref a :: st)) rfl rfl (hb hby hd)
    exact ⟨T', h, X', e', r, s'⟩)
theorem r_iastore (C : Ctx l R Z own nm code maxL ret true n0 kz K) {a : Addr} {k : ClassId} {z j : Int32} {x : Int32} {vs : List Value} {dv : Value} (hd : decode code pc = .ok (.iastore, 1)) (hp : pc + 1 = pc') (A : Arv Z h a k .int z vs dv) (hj : Inb j z) (hi : j.toNatClampNeg < vs.length) (ge : n0 ≤ a)
    (r : ∀ h', Wr h h' a j.toNatClampNeg (.int x) → Arv Z h' a k .int z (vs.set j.toNatClampNeg (.int x)) dv → Run l R n0 Q K h' cells slots pc' Ls st) : Run l R n0 Q K h cells slots pc Ls (.int x :: .int j :: .ref a :: st) := by
  subst hp
  exact Run.write (pc' := pc + 1) (Ls' := Ls) (rest := st) C ge (fun p e s m args below meth c hx hby hml hnm hown hZ T locs X eT => by
    obtain ⟨cl, Ar, q1, S, N1, H, G⟩ := A
    obtain ⟨T', h', X', e', W, s'⟩ := stI X hx hZ eT Ar (j := j) (x := x) (inb_of S hj) (g := mkF m pc Ls (.int x :: .int j :: .ref a :: st)) rfl rfl (hb hby hd)
    exact ⟨T', h', X', e', r h' W (Arv.set Ar q1 S N1 H G rfl W _ rfl hi), s'⟩)
theorem r_lastore (C : Ctx l R Z own nm code maxL ret true n0 kz K) {a : Addr} {k : ClassId} {z j : Int32} {x : Int64} {vs : List Value} {dv : Value} (hd : decode code pc = .ok (.lastore, 1)) (hp : pc + 1 = pc') (A : Arv Z h a k .long z vs dv) (hj : Inb j z) (hi : j.toNatClampNeg < vs.length) (ge : n0 ≤ a)
    (r : ∀ h', Wr h h' a j.toNatClampNeg (.long x) → Arv Z h' a k .long z (vs.set j.toNatClampNeg (.long x)) dv → Run l R n0 Q K h' cells slots pc' Ls st) : Run l R n0 Q K h cells slots pc Ls (.long x :: .int j :: .ref a :: st) := by
  subst hp
  exact Run.write (pc' := pc + 1) (Ls' := Ls) (rest := st) C ge (fun p e s m args below meth c hx hby hml hnm hown hZ T locs X eT => by
    obtain ⟨cl, Ar, q1, S, N1, H, G⟩ := A
    obtain ⟨T', h', X', e', W, s'⟩ := stJ X hx hZ eT Ar (j := j) (x := x) (inb_of S hj) (g := mkF m pc Ls (.long x :: .int j :: .ref a :: st)) rfl rfl (hb hby hd)
    exact ⟨T', h', X', e', r h' W (Arv.set Ar q1 S N1 H G rfl W _ rfl hi), s'⟩)
theorem r_castore (C : Ctx l R Z own nm code maxL ret true n0 kz K) {a : Addr} {k : ClassId} {z j x : Int32} {vs : List Value} {dv : Value} (hd : decode code pc = .ok (.castore, 1)) (hp : pc + 1 = pc') (A : Arv Z h a k .char z vs dv) (hj : Inb j z) (hi : j.toNatClampNeg < vs.length) (hf : fits .char (.int (nar .char x)) = true) (ge : n0 ≤ a)
    (r : ∀ h', Wr h h' a j.toNatClampNeg (.int (nar .char x)) → Arv Z h' a k .char z (vs.set j.toNatClampNeg (.int (nar .char x))) dv → Run l R n0 Q K h' cells slots pc' Ls st) : Run l R n0 Q K h cells slots pc Ls (.int x :: .int j :: .ref a :: st) := by
  subst hp
  exact Run.write (pc' := pc + 1) (Ls' := Ls) (rest := st) C ge (fun p e s m args below meth c hx hby hml hnm hown hZ T locs X eT => by
    obtain ⟨cl, Ar, q1, S, N1, H, G⟩ := A
    obtain ⟨T', h', X', e', W, s'⟩ := stC X hx hZ eT Ar (j := j) (x := x) (inb_of S hj) (g := mkF m pc Ls (.int x :: .int j :: .ref a :: st)) rfl rfl (hb hby hd)
    exact ⟨T', h', X', e', r h' W (Arv.set Ar q1 S N1 H G hf W _ rfl hi), s'⟩)
theorem r_bastore (C : Ctx l R Z own nm code maxL ret true n0 kz K) {a : Addr} {k : ClassId} {z j x : Int32} {vs : List Value} {dv : Value} (hd : decode code pc = .ok (.bastore, 1)) (hp : pc + 1 = pc') (A : Arv Z h a k .byte z vs dv) (hj : Inb j z) (hi : j.toNatClampNeg < vs.length) (hf : fits .byte (.int (nar .byte x)) = true) (ge : n0 ≤ a)
    (r : ∀ h', Wr h h' a j.toNatClampNeg (.int (nar .byte x)) → Arv Z h' a k .byte z (vs.set j.toNatClampNeg (.int (nar .byte x))) dv → Run l R n0 Q K h' cells slots pc' Ls st) : Run l R n0 Q K h cells slots pc Ls (.int x :: .int j :: .ref a :: st) := by
  subst hp
  exact Run.write (pc' := pc + 1) (Ls' := Ls) (rest := st) C ge (fun p e s m args below meth c hx hby hml hnm hown hZ T locs X eT => by
    obtain ⟨cl, Ar, q1, S, N1, H, G⟩ := A
    obtain ⟨T', h', X', e', W, s'⟩ := stB X hx hZ eT Ar (j := j) (x := x) (inb_of S hj) (g := mkF m pc Ls (.int x :: .int j :: .ref a :: st)) rfl rfl (hb hby hd)
    exact ⟨T', h', X', e', r h' W (Arv.set Ar q1 S N1 H G hf W _ rfl hi), s'⟩)
theorem r_bastoreZ (C : Ctx l R Z own nm code maxL ret true n0 kz K) {a : Addr} {k : ClassId} {z j x : Int32} {vs : List Value} {dv : Value} (hd : decode code pc = .ok (.bastore, 1)) (hp : pc + 1 = pc') (A : Arv Z h a k .boolean z vs dv) (hj : Inb j z) (hi : j.toNatClampNeg < vs.length) (hf : fits .boolean (.int (nar .boolean x)) = true) (ge : n0 ≤ a)
    (r : ∀ h', Wr h h' a j.toNatClampNeg (.int (nar .boolean x)) → Arv Z h' a k .boolean z (vs.set j.toNatClampNeg (.int (nar .boolean x))) dv → Run l R n0 Q K h' cells slots pc' Ls st) : Run l R n0 Q K h cells slots pc Ls (.int x :: .int j :: .ref a :: st) := by
  subst hp
  exact Run.write (pc' := pc + 1) (Ls' := Ls) (rest := st) C ge (fun p e s m args below meth c hx hby hml hnm hown hZ T locs X eT => by
    obtain ⟨cl, Ar, q1, S, N1, H, G⟩ := A
    obtain ⟨T', h', X', e', W, s'⟩ := stZ X hx hZ eT Ar (j := j) (x := x) (inb_of S hj) (g := mkF m pc Ls (.int x :: .int j :: .ref a :: st)) rfl rfl (hb hby hd)
    exact ⟨T', h', X', e', r h' W (Arv.set Ar q1 S N1 H G hf W _ rfl hi), s'⟩)
/-- what may lie in a reference array -/
def Stv (Z : State) (h : Heap) (k : ClassId) (v : Value) : Prop := v = .null ∨ ∃ y C, v = .ref y ∧ Ovr Z k C ∧ Ins Z h y C true
theorem r_aastore (C : Ctx l R Z own nm code maxL ret true n0 kz K) {a : Addr} {k : ClassId} {ty : FieldType} {z j : Int32} {v : Value} {vs : List Value} {dv : Value} (hd : decode code pc = .ok (.aastore, 1)) (hp : pc + 1 = pc') (A : Arv Z h a k ty z vs dv) (hty : ty.isReference = true) (hj : Inb j z) (hi : j.toNatClampNeg < vs.length) (F : Stv Z h k v) (ge : n0 ≤ a)
    (r : ∀ h', Wr h h' a j.toNatClampNeg v → Arv Z h' a k ty z (vs.set j.toNatClampNeg v) dv → Run l R n0 Q K h' cells slots pc' Ls st) : Run l R n0 Q K h cells slots pc Ls (v :: .int j :: .ref a :: st) := by
  subst hp
  exact Run.write (pc' := pc + 1) (Ls' := Ls) (rest := st) C ge (fun p e s m args below meth c hx hby hml hnm hown hZ T locs X eT => by
    obtain ⟨cl, Ar, q1, S, N1, H, G⟩ := A
    have F' : Sto Z h a v := by
      rcases F with rfl | ⟨y, Cn, rfl, O, I⟩
      · exact Or.inl rfl
      · exact Sto.ofV Ar q1 O I
    have hf : fits ty v = true := by
      rcases F with rfl | ⟨y, Cn, rfl, O, I⟩ <;> cases ty <;> first | rfl | (cases hty; done)
    obtain ⟨T', h', X', e', W, s'⟩ := stR X hx hZ eT Ar (j := j) (inb_of S hj) hty F' (g := mkF m pc Ls (v :: .int j :: .ref a :: st)) rfl rfl (hb hby hd)
    exact ⟨T', h', X', e', r h' W (Arv.set Ar q1 S N1 H G hf W _ rfl hi), s'⟩)
theorem r_initO (C : Ctx l R Z own nm code maxL ret fl n0 kz K) {idx W : Nat} {a : Addr} (hd : decode code pc = .ok (.invokespecial idx, 3)) (hp : pc + 3 = pc') (w1 : (Jvm.Cond.methodLink own idx Lib.objectInit).before a0 Z = true) (w2 : (Jvm.Cond.instanceMethod Lib.objectInit).before a0 Z = true) (w3 : (Jvm.Cond.code Lib.objectInit ⟨#[0xb1]⟩ 1 none).before a0 Z = true)
    (hsz : Ls.size = maxL) (hf : 1 ≤ R.frames) (hW : (st.map fun v => v.category).sum ≤ W) (hl : W + 12 ≤ R.locals) (r : Run l R n0 Q K h cells slots pc' Ls st) : Run l R n0 Q K h cells slots pc Ls (.ref a :: st) := by
  subst hp
  exact Run.move (cells' := cells) (slots' := slots) (pc' := pc + 3) (Ls' := Ls) (rest := st) C (fun p e s m args below meth c hx hby hml hnm hown hZ T locs X eT => by
    obtain ⟨T', X', e', s'⟩ := initO X hx hZ hown w1 w2 w3 eT (g := mkF m pc Ls (.ref a :: st)) rfl (by rw [hml]; exact hsz) rfl (hb hby hd) hf (W := W) (by show 2 * 0 + _ ≤ _; omega) hl
    exact ⟨T', h, X', e', r, s'⟩)
theorem Con.back {y : MethodName} {bytes : ByteArray} {mL : Nat} {rt : Option FieldType} {rm : Room} {as : Array Value} {Q' : Option Value → Heap → Prop} {len W : Nat} {p : Program} {e : Env} {below : List Frame} {s : State} {args : Array Value} (M : Con l [] y bytes mL rt rm Z as h n0 Q') (hZ : Z.Warmed39 s.vm) (wc : (Jvm.Cond.code y bytes mL rt).before a0 Z = true) (wz : (Jvm.Cond.initialized y.cls).before a0 Z = true) (hf : rm.frames + 1 ≤ R.frames) (hl : W + (mL + 11) + rm.locals ≤ R.locals) :
    Back l R p e below s args y len W (fun A a => a = as ∧ A.U.heap = h ∧ A.cells + rm.cells ≤ R.cells ∧ A.slots + rm.slots ≤ R.slots) (fun A _ v B => ∃ L, (Q' v B.U.heap ∧ Fr n0 L) ∧ B.locs = A.locs ++ L ∧ B.cells = A.cells + rm.cells ∧ B.slots = A.slots + rm.slots) :=
  backOf (Q := fun v h L => Q' v h ∧ Fr n0 L) M hZ wc wz hf hl
/-- a static method by its contract -/
theorem r_callS (C : Ctx l R Z own nm code maxL ret true n0 kz K) {idx : Nat} {y : MethodName} {bytes : ByteArray} {mL : Nat} {rt : Option FieldType} {rm : Room} {argsL : List Value} {Q' : Option Value → Heap → Prop} {ps : List FieldType} {rr : Option FieldType} {W cells' slots' : Nat} {stk : List Value}
    (M : Con l [] y bytes mL rt rm Z argsL.toArray h n0 Q') (hd : decode code pc = .ok (.invokestatic idx, 3)) (hp : pc + 3 = pc') (w1 : (Jvm.Cond.methodLink own idx y).before a0 Z = true) (w2 : (Jvm.Cond.static y).before a0 Z = true) (w3 : (Jvm.Cond.initialized y.cls).before a0 Z = true) (w4 : (Jvm.Cond.code y bytes mL rt).before a0 Z = true)
    (hy : y.cls ≠ "java/lang/invoke/MethodHandle" ∧ y.cls ≠ "java/lang/invoke/VarHandle") (pd : parseMethodDescriptor y.desc = some ⟨ps, rr⟩) (hlen : argsL.length = ps.length) (hst : stk = argsL.reverse ++ st) (hsz : Ls.size = maxL) (hW : (st.map fun v => v.category).sum ≤ W)
    (hf : rm.frames + 1 ≤ R.frames) (hlo : W + (mL + 11) + rm.locals ≤ R.locals) (hc : cells + rm.cells ≤ R.cells) (hs : slots + rm.slots ≤ R.slots) (ec : cells + rm.cells = cells') (es : slots + rm.slots = slots')
    (r : ∀ v h', Q' v h' → Run l R n0 Q K h' cells' slots' pc' Ls (v.toList ++ st)) : Run l R n0 Q K h cells slots pc Ls stk := by
  obtain ⟨Pl, En, p, e, s, m, args, below, meth, c⟩ := K
  intro T locs X eT N
  obtain ⟨hx, hZ, hown, hby, hml, -, hnm, -, hcl, -⟩ := C
  subst hp hst ec es
  obtain ⟨v, _, ⟨T', L', k', n'⟩, -, X', ⟨Lc, ⟨hQ, N'⟩, l', y', z'⟩, s'⟩ := Jvm.LawKit.callS X hx (y := y) hown (mvT hZ w1) (mvT hZ w2) (mvT hZ w3) (mvT hZ w4) hy (Con.back (W := W) M hZ w4 w3 hf hlo) (g := mkF m pc Ls (argsL.reverse ++ st)) rfl (by rw [hml]; exact hsz) (argsL := argsL) (rest := st) (lenOf pd hlen) rfl (by show 2 * 0 + _ ≤ _; omega) (hb hby hd) (fun _ _ => ⟨rfl, eT, hc, hs⟩)
  dsimp only [Pt.U, Pt.locs, Pt.cells, Pt.slots] at X' l' y' z' s' hQ N'
  subst l' y' z'
  obtain ⟨s2, o, k1, k2⟩ := r v T'.heap hQ T' _ X' rfl (hcl rfl _ _ N N')
  exact ⟨s2, o, s' _ k1, k2⟩
/-- a constructor by its contract -/
theorem r_callI (C : Ctx l R Z own nm code maxL ret true n0 kz K) {idx : Nat} {y : MethodName} {bytes : ByteArray} {mL : Nat} {rm : Room} {a : Addr} {argsL : List Value} {Q' : Option Value → Heap → Prop} {ps : List FieldType} {rr : Option FieldType} {W cells' slots' : Nat} {stk : List Value}
    (M : Con l [] y bytes mL none rm Z (.ref a :: argsL).toArray h n0 Q') (hd : decode code pc = .ok (.invokespecial idx, 3)) (hp : pc + 3 = pc') (w1 : (Jvm.Cond.methodLink own idx y).before a0 Z = true) (w2 : (Jvm.Cond.instanceMethod y).before a0 Z = true) (w3 : (Jvm.Cond.initialized y.cls).before a0 Z = true) (w4 : (Jvm.Cond.code y bytes mL none).before a0 Z = true)
    (hin : y.name = "<init>") (hy : y.cls ≠ "java/lang/invoke/MethodHandle" ∧ y.cls ≠ "java/lang/invoke/VarHandle") (pd : parseMethodDescriptor y.desc = some ⟨ps, rr⟩) (hlen : argsL.length = ps.length) (hst : stk = argsL.reverse ++ .ref a :: st) (hsz : Ls.size = maxL) (hW : (st.map fun v => v.category).sum ≤ W)
    (hf : rm.frames + 1 ≤ R.frames) (hlo : W + (mL + 11) + rm.locals ≤ R.locals) (hc : cells + rm.cells ≤ R.cells) (hs : slots + rm.slots ≤ R.slots) (ec : cells + rm.cells = cells') (es : slots + rm.slots = slots')
    (r : ∀ v h', Q' v h' → Run l R n0 Q K h' cells' slots' pc' Ls (v.toList ++ st)) : Run l R n0 Q K h cells slots pc Ls stk := by
  obtain ⟨Pl, En, p, e, s, m, args, below, meth, c⟩ := K
  intro T locs X eT N
  obtain ⟨hx, hZ, hown, hby, hml, -, hnm, -, hcl, -⟩ := C
  subst hp hst ec es
  obtain ⟨v, _, ⟨T', L', k', n'⟩, -, X', ⟨Lc, ⟨hQ, N'⟩, l', y', z'⟩, s'⟩ := X.specialBack hx (y := y) hin hown (mvT hZ w1) (mvT hZ w2) (mvT hZ w4) hy (Con.back (W := W) M hZ w4 w3 hf hlo) (g := mkF m pc Ls (argsL.reverse ++ .ref a :: st)) rfl (by rw [hml]; exact hsz) (Steps.refl _) (a := a) (argsL := argsL) (rest := st) (lenOf pd hlen) rfl (by show 2 * 0 + _ ≤ _; omega) (hb hby hd) (fun _ _ => ⟨rfl, eT, hc, hs⟩)
  dsimp only [Pt.U, Pt.locs, Pt.cells, Pt.slots] at X' l' y' z' s' hQ N'
  subst l' y' z'
  obtain ⟨s2, o, k1, k2⟩ := r v T'.heap hQ T' _ X' rfl (hcl rfl _ _ N N')
  exact ⟨s2, o, s'.trans k1, k2⟩
/-- an instance method by the contract of the body that the receiver's class selects -/
theorem r_callV (C : Ctx l R Z own nm code maxL ret true n0 kz K) {idx : Nat} {y z : MethodName} {Cn : String} {bytes : ByteArray} {mL : Nat} {rt : Option FieldType} {rm : Room} {a : Addr} {argsL : List Value} {Q' : Option Value → Heap → Prop} {ps : List FieldType} {rr : Option FieldType} {W cells' slots' : Nat} {stk : List Value}
    (M : Con l [] z bytes mL rt rm Z (.ref a :: argsL).toArray h n0 Q') (E : Exa Z h a Cn) (hd : decode code pc = .ok (.invokevirtual idx, 3)) (hp : pc + 3 = pc') (w1 : (Jvm.Cond.methodLink own idx y).before a0 Z = true) (wd : (Jvm.Cond.declares y).before a0 Z = true) (nf : ∀ (s : State) (args : Array Value), Z.Warmed39 s.vm → NotFace s y) (ws : (Jvm.Cond.selects Cn y z).before a0 Z = true) (w2 : (Jvm.Cond.instanceMethod z).before a0 Z = true) (w3 : (Jvm.Cond.initialized z.cls).before a0 Z = true) (w4 : (Jvm.Cond.code z bytes mL rt).before a0 Z = true)
    (hy : y.cls ≠ "java/lang/invoke/MethodHandle" ∧ y.cls ≠ "java/lang/invoke/VarHandle") (pd : parseMethodDescriptor y.desc = some ⟨ps, rr⟩) (hlen : argsL.length = ps.length) (hst : stk = argsL.reverse ++ .ref a :: st) (hsz : Ls.size = maxL) (hW : (st.map fun v => v.category).sum ≤ W)
    (hf : rm.frames + 1 ≤ R.frames) (hlo : W + (mL + 11) + rm.locals ≤ R.locals) (hc : cells + rm.cells ≤ R.cells) (hs : slots + rm.slots ≤ R.slots) (ec : cells + rm.cells = cells') (es : slots + rm.slots = slots')
    (r : ∀ v h', Q' v h' → Run l R n0 Q K h' cells' slots' pc' Ls (v.toList ++ st)) : Run l R n0 Q K h cells slots pc Ls stk := by
  obtain ⟨Pl, En, p, e, s, m, args, below, meth, c⟩ := K
  intro T locs X eT N
  obtain ⟨hx, hZ, hown, hby, hml, -, hnm, -, hcl, -⟩ := C
  subst hp hst ec es
  obtain ⟨cq, kq, qa, qb, qc⟩ := isOf hZ eT E
  obtain ⟨v, _, ⟨T', L', k', n'⟩, -, X', ⟨Lc, ⟨hQ, N'⟩, l', y', z'⟩, s'⟩ := X.virtualBack hx (y := y) (z := z) hown (mvT hZ w1) (mvT hZ wd) (nf s args hZ) (mvT hZ ws) (mvT hZ w2) hy (Con.back (W := W) M hZ w4 w3 hf hlo) qa qc (g := mkF m pc Ls (argsL.reverse ++ .ref a :: st)) rfl (by rw [hml]; exact hsz) (Steps.refl _) (argsL := argsL) (rest := st) (lenOf pd hlen) rfl (by show 2 * 0 + _ ≤ _; omega) (hb hby hd) (fun _ _ => ⟨rfl, eT, hc, hs⟩)
  dsimp only [Pt.U, Pt.locs, Pt.cells, Pt.slots] at X' l' y' z' s' hQ N'
  subst l' y' z'
  obtain ⟨s2, o, k1, k2⟩ := r v T'.heap hQ T' _ X' rfl (hcl rfl _ _ N N')
  exact ⟨s2, o, s'.trans k1, k2⟩
theorem nfSel {y z : MethodName} {Cn : String} (w : (Jvm.Cond.selects Cn y y).before a0 Z = true) : ∀ (s : State) (args : Array Value), Z.Warmed39 s.vm → NotFace s y := fun s args hZ => notFace_of_selects (args := args) (mvT hZ w)
/-- a private instance method by its contract (invokevirtual) -/
theorem r_callP (C : Ctx l R Z own nm code maxL ret true n0 kz K) {idx : Nat} {y : MethodName} {bytes : ByteArray} {mL : Nat} {rt : Option FieldType} {rm : Room} {a : Addr} {Cn : String} {argsL : List Value} {Q' : Option Value → Heap → Prop} {ps : List FieldType} {rr : Option FieldType} {W cells' slots' : Nat} {stk : List Value}
    (M : Con l [] y bytes mL rt rm Z (.ref a :: argsL).toArray h n0 Q') (E : Exa Z h a Cn) (hd : decode code pc = .ok (.invokevirtual idx, 3)) (hp : pc + 3 = pc') (w1 : (Jvm.Cond.methodLink own idx y).before a0 Z = true) (w2 : (Jvm.Cond.instanceMethod y).before a0 Z = true) {kk : Nat} (wi : (Jvm.Cond.instantiable y.cls kk).before a0 Z = true) (wp : (Jvm.Cond.privateMethod y).before a0 Z = true) (w3 : (Jvm.Cond.initialized y.cls).before a0 Z = true) (w4 : (Jvm.Cond.code y bytes mL rt).before a0 Z = true)
    (hy : y.cls ≠ "java/lang/invoke/MethodHandle" ∧ y.cls ≠ "java/lang/invoke/VarHandle") (pd : parseMethodDescriptor y.desc = some ⟨ps, rr⟩) (hlen : argsL.length = ps.length) (hst : stk = argsL.reverse ++ .ref a :: st) (hsz : Ls.size = maxL) (hW : (st.map fun v => v.category).sum ≤ W)
    (hf : rm.frames + 1 ≤ R.frames) (hlo : W + (mL + 11) + rm.locals ≤ R.locals) (hc : cells + rm.cells ≤ R.cells) (hs : slots + rm.slots ≤ R.slots) (ec : cells + rm.cells = cells') (es : slots + rm.slots = slots')
    (r : ∀ v h', Q' v h' → Run l R n0 Q K h' cells' slots' pc' Ls (v.toList ++ st)) : Run l R n0 Q K h cells slots pc Ls stk := by
  obtain ⟨Pl, En, p, e, s, m, args, below, meth, c⟩ := K
  intro T locs X eT N
  obtain ⟨hx, hZ, hown, hby, hml, -, hnm, -, hcl, -⟩ := C
  subst hp hst ec es
  obtain ⟨cq, q1, q2⟩ := E.cell
  have hpr : s.PrivateAt y := Cond.privateMethod_at (mvP hZ wp (args := #[]))
  have hw2 : (Jvm.Cond.instanceMethod y).before args s = true := mvT hZ w2
  obtain ⟨c2, k2, hc2, hk2, -, hni, -, -⟩ := Cond.instantiable_spec (mvT (args := args) hZ wi)
  have hsel := Stand.selects_self_of_private hc2 hk2 (Bool.or_eq_false_iff.mp hni).1 hpr hw2 hy
  obtain ⟨v, _, ⟨T', L', k', n'⟩, -, X', ⟨Lc, ⟨hQ, N'⟩, l', y', z'⟩, s'⟩ := X.privateBack hx (y := y) hown (mvT hZ w1) hw2 hsel hpr (mvT hZ w4) hy (Con.back (W := W) M hZ w4 w3 hf hlo) (g := mkF m pc Ls (argsL.reverse ++ .ref a :: st)) rfl (by rw [hml]; exact hsz) (Steps.refl _) (a := a) (by rw [eT]; exact q1) q2 (argsL := argsL) (rest := st) (lenOf pd hlen) rfl (by show 2 * 0 + _ ≤ _; omega) (hb hby hd) (fun _ _ => ⟨rfl, eT, hc, hs⟩)
  dsimp only [Pt.U, Pt.locs, Pt.cells, Pt.slots] at X' l' y' z' s' hQ N'
  subst l' y' z'
  obtain ⟨s2, o, k1, k2⟩ := r v T'.heap hQ T' _ X' rfl (hcl rfl _ _ N N')
  exact ⟨s2, o, s'.trans k1, k2⟩
/-- through an interface -/
theorem r_callF (C : Ctx l R Z own nm code maxL ret true n0 kz K) {idx count : Nat} {y z : MethodName} {Cn : String} {bytes : ByteArray} {mL : Nat} {rt : Option FieldType} {rm : Room} {a : Addr} {argsL : List Value} {Q' : Option Value → Heap → Prop} {ps : List FieldType} {rr : Option FieldType} {W cells' slots' : Nat} {stk : List Value}
    (M : Con l [] z bytes mL rt rm Z (.ref a :: argsL).toArray h n0 Q') (E : Exa Z h a Cn) (hd : decode code pc = .ok (.invokeinterface idx count, 5)) (hp : pc + 5 = pc') (w1 : (Jvm.Cond.methodLink own idx y).before a0 Z = true) (wd : (Jvm.Cond.declares y).before a0 Z = true) (wf : (Jvm.Cond.interfaceMethod y.cls y.cls y.name y.desc).before a0 Z = true) (ws : (Jvm.Cond.selects Cn y z).before a0 Z = true) (w2 : (Jvm.Cond.instanceMethod z).before a0 Z = true) (wp : (Jvm.Cond.publicMethod z).before a0 Z = true) (wu : (Jvm.Cond.unhidden Cn y.name y.desc).before a0 Z = true) (wc : (Jvm.Cond.castable Cn y.cls).before a0 Z = true) (w3 : (Jvm.Cond.initialized z.cls).before a0 Z = true) (w4 : (Jvm.Cond.code z bytes mL rt).before a0 Z = true)
    (hfa : ((Jvm.Cond.interfaceMethod y.cls y.cls y.name y.desc).onTables && (Jvm.Cond.interfaceMethod y.cls y.cls y.name y.desc).keepsFace) = true) (hy : y.cls ≠ "java/lang/invoke/MethodHandle" ∧ y.cls ≠ "java/lang/invoke/VarHandle") (pd : parseMethodDescriptor y.desc = some ⟨ps, rr⟩) (hlen : argsL.length = ps.length) (hst : stk = argsL.reverse ++ .ref a :: st) (hsz : Ls.size = maxL) (hW : (st.map fun v => v.category).sum ≤ W)
    (hf : rm.frames + 1 ≤ R.frames) (hlo : W + (mL + 11) + rm.locals ≤ R.locals) (hc : cells + rm.cells ≤ R.cells) (hs : slots + rm.slots ≤ R.slots) (ec : cells + rm.cells = cells') (es : slots + rm.slots = slots')
    (r : ∀ v h', Q' v h' → Run l R n0 Q K h' cells' slots' pc' Ls (v.toList ++ st)) : Run l R n0 Q K h cells slots pc Ls stk := by
  obtain ⟨Pl, En, p, e, s, m, args, below, meth, c⟩ := K
  intro T locs X eT N
  obtain ⟨hx, hZ, hown, hby, hml, -, hnm, -, hcl, -⟩ := C
  subst hp hst ec es
  obtain ⟨cq, kq, qa, qb, qc⟩ := isOf hZ eT E
  obtain ⟨v, _, ⟨T', L', k', n'⟩, -, X', ⟨Lc, ⟨hQ, N'⟩, l', y', z'⟩, s'⟩ := X.interfaceBack hx (xi := y) (y := z) hown (mvT hZ w1) (mvT hZ wd) (mvT hZ wf hfa) (mvT hZ ws) (mvT hZ w2) (mvT hZ wp) (mvT hZ wu) (mvT hZ wc) hy (Con.back (W := W) M hZ w4 w3 hf hlo) qa qb qc (g := mkF m pc Ls (argsL.reverse ++ .ref a :: st)) rfl (by rw [hml]; exact hsz) (Steps.refl _) (argsL := argsL) (rest := st) (lenOf pd hlen) rfl (by show 2 * 0 + _ ≤ _; omega) (hb hby hd) (fun _ _ => ⟨rfl, eT, hc, hs⟩)
  dsimp only [Pt.U, Pt.locs, Pt.cells, Pt.slots] at X' l' y' z' s' hQ N'
  subst l' y' z'
  obtain ⟨s2, o, k1, k2⟩ := r v T'.heap hQ T' _ X' rfl (hcl rfl _ _ N N')
  exact ⟨s2, o, s'.trans k1, k2⟩

/-! numbers -/
def i32 (n : Nat) : Int32 := Int32.ofNat n
theorem i32_toInt {n : Nat} (h : n < 2147483648) : (i32 n).toInt = (n : Int) := Int32.toInt_ofNat_small h
theorem i32_clamp {n : Nat} (h : n < 2147483648) : (i32 n).toNatClampNeg = n := by
  show ((i32 n).toInt).toNat = n
  rw [i32_toInt h]; rfl
theorem i32_nn {n : Nat} (h : n < 2147483648) : ¬ i32 n < 0 := by
  rw [Int32.lt_iff_toInt_lt, i32_toInt h]; show ¬ (n : Int) < 0; omega
theorem i32_lt {a b : Nat} (ha : a < 2147483648) (hb : b < 2147483648) : i32 a < i32 b ↔ a < b := by
  rw [Int32.lt_iff_toInt_lt, i32_toInt ha, i32_toInt hb]; omega
theorem i32_eq {a b : Nat} (ha : a < 2147483648) (hb : b < 2147483648) : i32 a = i32 b ↔ a = b := by
  rw [← Int32.toInt_inj, i32_toInt ha, i32_toInt hb]; omega
theorem i32_add (a b : Nat) : i32 a + i32 b = i32 (a + b) := (Int32.ofNat_add a b).symm
theorem i32_mul (a b : Nat) : i32 a * i32 b = i32 (a * b) := (Int32.ofNat_mul a b).symm
theorem i32_sub {a b : Nat} (h : b ≤ a) : i32 a - i32 b = i32 (a - b) := by
  have e : i32 a = i32 (a - b) + i32 b := by rw [i32_add, Nat.sub_add_cancel h]
  rw [e, Int32.add_sub_cancel]
theorem i32_of {x : Int32} (h : ¬ x < 0) : x = i32 x.toNatClampNeg := (back32 h).1.symm
theorem bm32 {n : Int} (h1 : -2147483648 ≤ n) (h2 : n < 2147483648) : n.bmod (2 ^ 32) = n := Int.bmod_eq_of_le (by omega) (by omega)
theorem i32_div {a b : Nat} (ha : a < 2147483648) (hb : b < 2147483648) : i32 a / i32 b = i32 (a / b) := by
  apply Int32.toInt_inj.mp
  have hq : a / b < 2147483648 := Nat.lt_of_le_of_lt (Nat.div_le_self a b) ha
  rw [Int32.toInt_div, i32_toInt ha, i32_toInt hb, i32_toInt hq, Int.tdiv_eq_ediv_of_nonneg (by omega)]
  have e : (a : Int) / (b : Int) = ((a / b : Nat) : Int) := rfl
  rw [e]; exact bm32 (Int.le_trans (by decide) (Int.natCast_nonneg _)) (Int.ofNat_lt.mpr hq)
theorem i32_rem {a b : Nat} (ha : a < 2147483648) (hb : b < 2147483648) : i32 a % i32 b = i32 (a % b) := by
  apply Int32.toInt_inj.mp
  have hq : a % b < 2147483648 := Nat.lt_of_le_of_lt (Nat.mod_le a b) ha
  rw [Int32.toInt_mod, i32_toInt ha, i32_toInt hb, i32_toInt hq, Int.tmod_eq_emod_of_nonneg (by omega)]
  rfl
theorem i32_ushr1 {a : Nat} (ha : a < 2147483648) : XT.ushr (i32 a) 1 = i32 (a / 2) := by
  have h1 : (i32 a).toUInt32 = UInt32.ofNat a := rfl
  show ((i32 a).toUInt32 >>> ((1 : Int32) &&& 31).toUInt32).toInt32 = _
  rw [h1, show ((1 : Int32) &&& 31).toUInt32 = 1 from rfl]
  apply Int32.toBitVec_inj.mp
  show (UInt32.ofNat a >>> 1).toBitVec = BitVec.ofNat 32 (a / 2)
  apply BitVec.eq_of_toNat_eq
  show (UInt32.ofNat a >>> 1).toNat = (a / 2) % 2 ^ 32
  rw [UInt32.toNat_shiftRight]
  have e2 : (UInt32.ofNat a).toNat = a := by show a % 2 ^ 32 = a; omega
  rw [e2, show (1 : UInt32).toNat % 32 = 1 from rfl, Nat.shiftRight_eq_div_pow]; omega
theorem inb_i {i n : Nat} (h : i < n) (hn : n < 2147483648) : Inb (i32 i) (i32 n) := ⟨i32_nn (Nat.lt_trans h hn), (i32_lt (Nat.lt_trans h hn) hn).mpr h⟩
/-! an array, whole -/
def AV (Z : State) (h : Heap) (a : Addr) (k : ClassId) (ty : FieldType) (vs : List Value) (dv : Value) : Prop := Arv Z h a k ty (i32 vs.length) vs dv ∧ vs.length < 2147483648
theorem AV.lt {a : Addr} {k : ClassId} {ty : FieldType} {vs : List Value} {dv : Value} (F : AV Z h a k ty vs dv) : @LT.lt Nat _ a h.size := F.1.lt
theorem exaLt {a : Addr} {Cn : String} (F : Exa Z h a Cn) : @LT.lt Nat _ a h.size := F.lt
theorem fldLt {a : Addr} {Cn n d : String} {v : Value} (F : Fld Z h a Cn n d v) : @LT.lt Nat _ a h.size := F.lt
theorem AV.ext {a : Addr} {k : ClassId} {ty : FieldType} {vs : List Value} {dv : Value} {h' : Heap} (F : AV Z h a k ty vs dv) (E : Ext h h') : AV Z h' a k ty vs dv := ⟨F.1.ext E, F.2⟩
theorem nn {a b : Nat} (h : @Ne Nat a b) : @Ne Addr a b := h
theorem AV.other {a b : Addr} {k : ClassId} {ty : FieldType} {vs : List Value} {dv v : Value} {sl : Nat} {h' : Heap} (F : AV Z h b k ty vs dv) (W : Wr h h' a sl v) (q : b ≠ a) : AV Z h' b k ty vs dv := ⟨F.1.other W q, F.2⟩
theorem AV.keep {a : Addr} {k : ClassId} {ty : FieldType} {vs : List Value} {dv : Value} {h' : Heap} {ws : List Addr} (F : AV Z h a k ty vs dv) (Kp : Keep h h' ws) (q : a ∉ ws) : AV Z h' a k ty vs dv := ⟨F.1.keep Kp q, F.2⟩
theorem AV.cast {a : Addr} {k : ClassId} {ty : FieldType} {vs vs' : List Value} {dv : Value} (F : AV Z h a k ty vs dv) (e : vs = vs') : AV Z h a k ty vs' dv := e ▸ F
theorem getD_of {vs : List Value} {i : Nat} {v dv : Value} (h : vs[i]? = some v) : vs.getD i dv = v := by simp [List.getD_eq_getElem?_getD, h]
theorem lt_of_get {α : Type} {vs : List α} {i : Nat} {v : α} (h : vs[i]? = some v) : i < vs.length := (List.getElem?_eq_some_iff.mp h).1
theorem r_lengthV (C : Ctx l R Z own nm code maxL ret fl n0 kz K) {a : Addr} {k : ClassId} {ty : FieldType} {vs : List Value} {dv : Value} (hd : decode code pc = .ok (.arraylength, 1)) (hp : pc + 1 = pc') {n : Nat} (A : AV Z h a k ty vs dv) (hn : vs.length = n) (r : Run l R n0 Q K h cells slots pc' Ls (.int (i32 n) :: st)) : Run l R n0 Q K h cells slots pc Ls (.ref a :: st) := by
  subst hn
  exact r_arraylength C hd hp A.1 r
theorem r_aaloadA (C : Ctx l R Z own nm code maxL ret fl n0 kz K) {a : Addr} {cl : Cell} {ty : FieldType} {j : Int32} {v : Value} (hd : decode code pc = .ok (.aaload, 1)) (hp : pc + 1 = pc') (A : Arr Z h a cl ty) (hty : ty.isReference = true) (hin : ¬ (j < 0 ∨ cl.slots.size ≤ j.toNatClampNeg)) (hv : cl.slots[j.toNatClampNeg]? = some v) (r : Run l R n0 Q K h cells slots pc' Ls (v :: st)) : Run l R n0 Q K h cells slots pc Ls (.int j :: .ref a :: st) :=
  Run.pure C (Or.inr trivial) (fun p e s m args below meth c hx hby hown hZ T locs X eT target kk => by
    subst hp
    exact X.aaload hx (by rw [eT]; exact A.1) (State.isArrayOf_alike hZ.alike A.2.1) hty A.2.2 hin hv (g := mkF m pc Ls (.int j :: .ref a :: st)) rfl rfl (hb hby hd) _ kk) r
theorem r_ialoadV (C : Ctx l R Z own nm code maxL ret fl n0 kz K) {a : Addr} {k : ClassId} {j : Int32} {i : Nat} {vs : List Value} {dv v : Value} (hd : decode code pc = .ok (.iaload, 1)) (hp : pc + 1 = pc') (A : AV Z h a k .int vs dv) (hj : j = i32 i) (hv : vs[i]? = some v) (r : Run l R n0 Q K h cells slots pc' Ls (v :: st)) : Run l R n0 Q K h cells slots pc Ls (.int j :: .ref a :: st) := by
  subst hj
  have hi := lt_of_get hv
  exact r_iaload C hd hp A.1 (inb_i hi A.2) (by rw [i32_clamp (Nat.lt_trans hi A.2)]; exact getD_of hv) r
theorem r_laloadV (C : Ctx l R Z own nm code maxL ret fl n0 kz K) {a : Addr} {k : ClassId} {j : Int32} {i : Nat} {vs : List Value} {dv v : Value} (hd : decode code pc = .ok (.laload, 1)) (hp : pc + 1 = pc') (A : AV Z h a k .long vs dv) (hj : j = i32 i) (hv : vs[i]? = some v) (r : Run l R n0 Q K h cells slots pc' Ls (v :: st)) : Run l R n0 Q K h cells slots pc Ls (.int j :: .ref a :: st) := by
  subst hj
  have hi := lt_of_get hv
  exact r_laload C hd hp A.1 (inb_i hi A.2) (by rw [i32_clamp (Nat.lt_trans hi A.2)]; exact getD_of hv) r
theorem r_caloadV (C : Ctx l R Z own nm code maxL ret fl n0 kz K) {a : Addr} {k : ClassId} {j : Int32} {i : Nat} {vs : List Value} {dv v : Value} (hd : decode code pc = .ok (.caload, 1)) (hp : pc + 1 = pc') (A : AV Z h a k .char vs dv) (hj : j = i32 i) (hv : vs[i]? = some v) (r : Run l R n0 Q K h cells slots pc' Ls (v :: st)) : Run l R n0 Q K h cells slots pc Ls (.int j :: .ref a :: st) := by
  subst hj
  have hi := lt_of_get hv
  exact r_caload C hd hp A.1 (inb_i hi A.2) (by rw [i32_clamp (Nat.lt_trans hi A.2)]; exact getD_of hv) r
theorem r_baloadV (C : Ctx l R Z own nm code maxL ret fl n0 kz K) {a : Addr} {k : ClassId} {j : Int32} {i : Nat} {vs : List Value} {dv v : Value} (hd : decode code pc = .ok (.baload, 1)) (hp : pc + 1 = pc') (A : AV Z h a k .byte vs dv) (hj : j = i32 i) (hv : vs[i]? = some v) (r : Run l R n0 Q K h cells slots pc' Ls (v :: st)) : Run l R n0 Q K h cells slots pc Ls (.int j :: .ref a :: st) := by
  subst hj
  have hi := lt_of_get hv
  exact r_baload C hd hp A.1 (inb_i hi A.2) (by rw [i32_clamp (Nat.lt_trans hi A.2)]; exact getD_of hv) r
theorem r_baloadZV (C : Ctx l R Z own nm code maxL ret fl n0 kz K) {a : Addr} {k : ClassId} {j : Int32} {i : Nat} {vs : List Value} {dv v : Value} (hd : decode code pc = .ok (.baload, 1)) (hp : pc + 1 = pc') (A : AV Z h a k .boolean vs dv) (hj : j = i32 i) (hv : vs[i]? = some v) (r : Run l R n0 Q K h cells slots pc' Ls (v :: st)) : Run l R n0 Q K h cells slots pc Ls (.int j :: .ref a :: st) := by
  subst hj
  have hi := lt_of_get hv
  exact r_baloadZ C hd hp A.1 (inb_i hi A.2) (by rw [i32_clamp (Nat.lt_trans hi A.2)]; exact getD_of hv) r
theorem r_aaloadV (C : Ctx l R Z own nm code maxL ret fl n0 kz K) {a : Addr} {k : ClassId} {ty : FieldType} {j : Int32} {i : Nat} {vs : List Value} {dv v : Value} (hd : decode code pc = .ok (.aaload, 1)) (hp : pc + 1 = pc') (A : AV Z h a k ty vs dv) (hty : ty.isReference = true) (hj : j = i32 i) (hv : vs[i]? = some v) (r : Run l R n0 Q K h cells slots pc' Ls (v :: st)) : Run l R n0 Q K h cells slots pc Ls (.int j :: .ref a :: st) := by
  subst hj
  have hi := lt_of_get hv
  exact r_aaload C hd hp A.1 hty (inb_i hi A.2) (by rw [i32_clamp (Nat.lt_trans hi A.2)]; exact getD_of hv) r
theorem r_iastoreV (C : Ctx l R Z own nm code maxL ret true n0 kz K) {a : Addr} {k : ClassId} {j : Int32} {i : Nat} {x : Int32} {vs : List Value} {dv : Value} (hd : decode code pc = .ok (.iastore, 1)) (hp : pc + 1 = pc') (A : AV Z h a k .int vs dv) (hj : j = i32 i) (hi : i < vs.length) (ge : n0 ≤ a) (r : ∀ h', Wr h h' a i (.int x) → AV Z h' a k .int (vs.set i (.int x)) dv → Run l R n0 Q K h' cells slots pc' Ls st) : Run l R n0 Q K h cells slots pc Ls (.int x :: .int j :: .ref a :: st) := by
  subst hj
  have e := i32_clamp (Nat.lt_trans hi A.2)
  refine r_iastore C hd hp A.1 (inb_i hi A.2) (by rw [e]; exact hi) ge fun h' W A' => ?_
  rw [e] at W A'
  exact r h' W ⟨by rw [List.length_set]; exact A', by rw [List.length_set]; exact A.2⟩
theorem r_lastoreV (C : Ctx l R Z own nm code maxL ret true n0 kz K) {a : Addr} {k : ClassId} {j : Int32} {i : Nat} {x : Int64} {vs : List Value} {dv : Value} (hd : decode code pc = .ok (.lastore, 1)) (hp : pc + 1 = pc') (A : AV Z h a k .long vs dv) (hj : j = i32 i) (hi : i < vs.length) (ge : n0 ≤ a) (r : ∀ h', Wr h h' a i (.long x) → AV Z h' a k .long (vs.set i (.long x)) dv → Run l R n0 Q K h' cells slots pc' Ls st) : Run l R n0 Q K h cells slots pc Ls (.long x :: .int j :: .ref a :: st) := by
  subst hj
  have e := i32_clamp (Nat.lt_trans hi A.2)
  refine r_lastore C hd hp A.1 (inb_i hi A.2) (by rw [e]; exact hi) ge fun h' W A' => ?_
  rw [e] at W A'
  exact r h' W ⟨by rw [List.length_set]; exact A', by rw [List.length_set]; exact A.2⟩
theorem r_castoreV (C : Ctx l R Z own nm code maxL ret true n0 kz K) {a : Addr} {k : ClassId} {j x : Int32} {i : Nat} {vs : List Value} {dv : Value} (hd : decode code pc = .ok (.castore, 1)) (hp : pc + 1 = pc') (A : AV Z h a k .char vs dv) (hj : j = i32 i) (hi : i < vs.length) (hf : fits .char (.int (nar .char x)) = true) (ge : n0 ≤ a) (r : ∀ h', Wr h h' a i (.int (nar .char x)) → AV Z h' a k .char (vs.set i (.int (nar .char x))) dv → Run l R n0 Q K h' cells slots pc' Ls st) : Run l R n0 Q K h cells slots pc Ls (.int x :: .int j :: .ref a :: st) := by
  subst hj
  have e := i32_clamp (Nat.lt_trans hi A.2)
  refine r_castore C hd hp A.1 (inb_i hi A.2) (by rw [e]; exact hi) hf ge fun h' W A' => ?_
  rw [e] at W A'
  exact r h' W ⟨by rw [List.length_set]; exact A', by rw [List.length_set]; exact A.2⟩
theorem r_bastoreV (C : Ctx l R Z own nm code maxL ret true n0 kz K) {a : Addr} {k : ClassId} {j x : Int32} {i : Nat} {vs : List Value} {dv : Value} (hd : decode code pc = .ok (.bastore, 1)) (hp : pc + 1 = pc') (A : AV Z h a k .byte vs dv) (hj : j = i32 i) (hi : i < vs.length) (hf : fits .byte (.int (nar .byte x)) = true) (ge : n0 ≤ a) (r : ∀ h', Wr h h' a i (.int (nar .byte x)) → AV Z h' a k .byte (vs.set i (.int (nar .byte x))) dv → Run l R n0 Q K h' cells slots pc' Ls st) : Run l R n0 Q K h cells slots pc Ls (.int x :: .int j :: .ref a :: st) := by
  subst hj
  have e := i32_clamp (Nat.lt_trans hi A.2)
  refine r_bastore C hd hp A.1 (inb_i hi A.2) (by rw [e]; exact hi) hf ge fun h' W A' => ?_
  rw [e] at W A'
  exact r h' W ⟨by rw [List.length_set]; exact A', by rw [List.length_set]; exact A.2⟩
theorem r_bastoreZV (C : Ctx l R Z own nm code maxL ret true n0 kz K) {a : Addr} {k : ClassId} {j x : Int32} {i : Nat} {vs : List Value} {dv : Value} (hd : decode code pc = .ok (.bastore, 1)) (hp : pc + 1 = pc') (A : AV Z h a k .boolean vs dv) (hj : j = i32 i) (hi : i < vs.length) (hf : fits .boolean (.int (nar .boolean x)) = true) (ge : n0 ≤ a) (r : ∀ h', Wr h h' a i (.int (nar .boolean x)) → AV Z h' a k .boolean (vs.set i (.int (nar .boolean x))) dv → Run l R n0 Q K h' cells slots pc' Ls st) : Run l R n0 Q K h cells slots pc Ls (.int x :: .int j :: .ref a :: st) := by
  subst hj
  have e := i32_clamp (Nat.lt_trans hi A.2)
  refine r_bastoreZ C hd hp A.1 (inb_i hi A.2) (by rw [e]; exact hi) hf ge fun h' W A' => ?_
  rw [e] at W A'
  exact r h' W ⟨by rw [List.length_set]; exact A', by rw [List.length_set]; exact A.2⟩
theorem r_aastoreV (C : Ctx l R Z own nm code maxL ret true n0 kz K) {a : Addr} {k : ClassId} {ty : FieldType} {j : Int32} {i : Nat} {v : Value} {vs : List Value} {dv : Value} (hd : decode code pc = .ok (.aastore, 1)) (hp : pc + 1 = pc') (A : AV Z h a k ty vs dv) (hty : ty.isReference = true) (hj : j = i32 i) (hi : i < vs.length) (F : Stv Z h k v) (ge : n0 ≤ a) (r : ∀ h', Wr h h' a i v → AV Z h' a k ty (vs.set i v) dv → Run l R n0 Q K h' cells slots pc' Ls st) : Run l R n0 Q K h cells slots pc Ls (v :: .int j :: .ref a :: st) := by
  subst hj
  have e := i32_clamp (Nat.lt_trans hi A.2)
  refine r_aastore C hd hp A.1 hty (inb_i hi A.2) (by rw [e]; exact hi) F ge fun h' W A' => ?_
  rw [e] at W A'
  exact r h' W ⟨by rw [List.length_set]; exact A', by rw [List.length_set]; exact A.2⟩
theorem av_new {a : Addr} {k : ClassId} {ty : FieldType} {m : Nat} {dv : Value} (hm : m < 2147483648) (A : Arv Z h a k ty (i32 m) [] dv) : AV Z h a k ty (List.replicate m dv) dv := by
  refine ⟨?_, by simpa using hm⟩
  rw [List.length_replicate]
  have := pad_rep [] dv m
  simp only [List.nil_append] at this
  exact A.pad this
theorem r_newarrayV (C : Ctx l R Z own nm code maxL ret fl n0 kz K) {aty : ArrayType} {ty : FieldType} {j : Int32} {m cap : Nat} (hd : decode code pc = .ok (.newarray aty, 2)) (hp : pc + 2 = pc') (hty : newarray.typeOf aty = ty) (w : (Jvm.Cond.arrayClass ty).before a0 Z = true) (hj : j = i32 m) (hcap : m ≤ cap) (hb' : cap * 8 ≤ 536870912) (hc : cells + 1 ≤ R.cells) (hl : slots + cap ≤ R.slots)
    (r : ∀ h' a k, a = h.size → Ext h h' → AV Z h' a k ty (List.replicate m (defaultValue ty)) (defaultValue ty) → Run l R n0 Q K h' (cells + 1) (slots + cap) pc' Ls (.ref a :: st)) : Run l R n0 Q K h cells slots pc Ls (.int j :: st) := by
  subst hj
  have hm : m < 2147483648 := by omega
  exact r_newarray C hd hp hty w (i32_nn hm) (by rw [i32_clamp hm]; exact hcap) hb' hc hl fun h' a k e E A => r h' a k e E (av_new hm A)
theorem r_anewarrayV (C : Ctx l R Z own nm code maxL ret fl n0 kz K) {idx : Nat} {Cn : String} {j : Int32} {m cap : Nat} (hd : decode code pc = .ok (.anewarray idx, 3)) (hp : pc + 3 = pc') (w : (Jvm.Cond.classLink own idx Cn).before a0 Z = true) (w2 : (Jvm.Cond.arrayOver (.object Cn)).before a0 Z = true) (hj : j = i32 m) (hcap : m ≤ cap) (hb' : cap * 8 ≤ 536870912) (hc : cells + 1 ≤ R.cells) (hl : slots + cap ≤ R.slots)
    (r : ∀ h' a k, a = h.size → Ext h h' → AV Z h' a k (.object Cn) (List.replicate m .null) .null → Ovr Z k Cn → Run l R n0 Q K h' (cells + 1) (slots + cap) pc' Ls (.ref a :: st)) : Run l R n0 Q K h cells slots pc Ls (.int j :: st) := by
  subst hj
  have hm : m < 2147483648 := by omega
  exact r_anewarray C hd hp w w2 (i32_nn hm) (by rw [i32_clamp hm]; exact hcap) hb' hc hl fun h' a k e E A O => r h' a k e E (av_new hm A) O
theorem Keep.mono {h0 h' : Heap} {ws ws' : List Addr} (Kp : Keep h0 h' ws) (q : ∀ x ∈ ws, x ∈ ws') : Keep h0 h' ws' := ⟨Kp.1, fun x c hx r => Kp.2.1 x c hx fun z => r (q x z), Kp.2.2⟩
theorem Sta.keep {h' : Heap} {ws : List Addr} {Cn n d : String} {v : Value} (X : Old Z n0 h) (F : Sta Z Z.heap Cn n d v) : Sta Z h Cn n d v := F.ext X.2
/-! String constants -/
abbrev STR : String := "java/lang/String"
/-- a Latin-1 String: its object, its byte[] -/
def Str (Z : State) (h : Heap) (a b : Nat) (k : ClassId) (bs : List Int32) : Prop := Exa Z h a "java/lang/String" ∧ Fld Z h a "java/lang/String" "coder" "B" (.int 0) ∧ Fld Z h a "java/lang/String" "value" "[B" (.ref b) ∧ AV Z h b k .byte (bs.map Value.int) (.int 0)
theorem Str.ext {a b : Nat} {k : ClassId} {bs : List Int32} {h' : Heap} (F : Str Z h a b k bs) (E : Ext h h') : Str Z h' a b k bs := ⟨F.1.ext E, F.2.1.ext E, F.2.2.1.ext E, F.2.2.2.ext E⟩
theorem Str.keep {a b : Nat} {k : ClassId} {bs : List Int32} {h' : Heap} {ws : List Addr} (F : Str Z h a b k bs) (Kp : Keep h h' ws) (q1 : a ∉ ws) (q2 : b ∉ ws) : Str Z h' a b k bs := ⟨F.1.keep Kp, F.2.1.keep Kp q1, F.2.2.1.keep Kp q1, F.2.2.2.keep Kp q2⟩
theorem Str.other {a b x : Nat} {k : ClassId} {bs : List Int32} {h' : Heap} {sl : Nat} {v : Value} (F : Str Z h a b k bs) (W : Wr h h' x sl v) (q1 : a ≠ x) (q2 : b ≠ x) : Str Z h' a b k bs := ⟨F.1.wr W, F.2.1.other W (Or.inl q1), F.2.2.1.other W (Or.inl q1), F.2.2.2.other W q2⟩
theorem Str.lt {a b : Nat} {k : ClassId} {bs : List Int32} (F : Str Z h a b k bs) : a < h.size ∧ b < h.size := ⟨F.1.lt, F.2.2.2.lt⟩
theorem Lit.warm {vm vm' : Vm} {cn : String} {i : Nat} {a : Addr} (L : Lit (Z.setVm vm) cn i a) {s : State} (hW : (s.setVm vm).WarmedH vm') : Lit (Z.setVm vm') cn i a := (State.resolvedAt?_warmed39 (s := s.setVm vm) hW.wide L : (s.setVm vm').resolvedAt? cn i = _)
theorem IB.warm {vm vm' : Vm} {Ts : List String} (I : IB Z vm Ts) {s : State} (hW : (s.setVm vm).WarmedH vm') : IB Z vm' Ts := by
  obtain ⟨more, e, hm⟩ := I
  exact ⟨more, (hW.interned_eq).trans e, hm⟩
theorem KS_Kw {Pl : List Loc → Prop} {vm : Vm} : KS (Kw K Pl vm) = (KS K).setVm vm := by
  obtain ⟨_, En, p, e, s, m, args, below, meth, c⟩ := K; rfl
/-- the first load of a String constant, nothing yet written to what stood at the body's start -/
theorem r_ldcS {h0 : Heap} {vm : Vm} {k : Nat} {idx n : Nat} {text : String} {Ts : List String} {bs : List Int32} (W : Wb l R Z own nm code maxL ret n0 h0 K) (D : Sn K vm k) (hk : k ≤ h.size) (hd : decode code pc = .ok (.ldc idx, 2)) (hp : pc + 2 = pc') (w : (Jvm.Cond.stringLink own idx text).before a0 Z = true) (wS : ∀ a ∈ Bundle.stringAtoms, a.before a0 Z = true) (hkeep : ∀ (b : Addr) (cl : Cell), Z.heap[b]? = some cl → h0[b]? = some cl)
    (I : IB Z vm Ts) (hnot : text ∉ Ts) (hh : Jvm.Lit.constHeld Z own idx) (hcw : Jvm.Lit.compactW.before a0 Z = true) (ht : (∀ c ∈ text.toList, c.toNat < 256) ∧ text.toList.map (fun c => Value.int (Jvm.Lit.byteI c.toNat.toUInt16)) = bs.map Value.int) (hbl : bs.length < 2147483648) (hn : 4 * text.toList.length ≤ n) (hbig : n ≤ 536870912) (hc : cells + 2 ≤ R.cells) (hl : slots + (n + 4) ≤ R.slots)
    (r : ∀ vm' k' h' a b kb, Sn K vm' k' → k' ≤ h'.size → Ext h h' → Str Z h' a b kb bs → IB Z vm' (text :: Ts) → Lit (Z.setVm vm') own idx a → (KS K).Since vm' k' → Run l R n0 Q (Kw K (· = []) vm') h' (cells + 2) (slots + (n + 4)) pc' Ls (.ref a :: st)) : Run l R n0 Q (Kw K (· = []) vm) h cells slots pc Ls st := by
  obtain ⟨Pl, En, p, e, s, m, args, below, meth, c⟩ := K
  intro T locs X eT N
  subst hp
  obtain ⟨w1, w2, w3, w4, w5, w6, w7, w8, w9, w10⟩ := W
  have N' : locs = [] := N
  have D' : s.Since vm k := D
  have hZ : Z.Warmed39 vm := State.Warmed39.trans w2 D'.1
  have hown : vm.findClass own = some m.cls := by rw [D'.1.alike.findClass]; exact w3
  have z31 : (i32 bs.length).toNatClampNeg = (bs.map Value.int).length := by rw [i32_clamp hbl, List.length_map]
  obtain ⟨a, T', h', k1, b, kb, r1, r2, r3, r4, r5, r6, r7, r8, r9, r10, r11, r12, r13, r14, r15, r16⟩ := ldcSVL (Z := Z) (s := s) X w1 hZ hown w wS eT D' hk (by rw [N']; exact Fr.nil _) (fun b cl q => by rw [w9]; exact hkeep b cl q) I hnot hh hcw ht (i32_nn hbl) z31 (g := mkF m pc Ls st) rfl (hb w4 hd) hn hbig hc hl
  obtain ⟨s2, o, q1, q2⟩ := r T'.vm k1 h' a b kb r4 r5 r3 ⟨r8, r9, r10, ⟨by rw [List.length_map]; exact r11, by rw [List.length_map]; exact hbl⟩⟩ r14 r15 r4 T' locs r1 r2 N
  exact ⟨s2, o, r16 _ q1, q2⟩
theorem r_ldcA {Pl : List Loc → Prop} {h0 : Heap} {vm : Vm} {k : Nat} {idx : Nat} {text : String} {a : Addr} (W : Wb l R Z own nm code maxL ret n0 h0 K) (D : Sn K vm k) (hd : decode code pc = .ok (.ldc idx, 2)) (hp : pc + 2 = pc') (w : (Jvm.Cond.stringLink own idx text).before a0 Z = true) (L : Lit (Z.setVm vm) own idx a)
    (r : Run l R n0 Q (Kw K Pl vm) h cells slots pc' Ls (.ref a :: st)) : Run l R n0 Q (Kw K Pl vm) h cells slots pc Ls st := by
  obtain ⟨_, En, p, e, s, m, args, below, meth, c⟩ := K
  intro T locs X eT N
  subst hp
  obtain ⟨w1, w2, w3, w4, w5, w6, w7, w8, w9, w10⟩ := W
  have D' : s.Since vm k := D
  have hZ : Z.Warmed39 vm := State.Warmed39.trans w2 D'.1
  have hown : vm.findClass own = some m.cls := by rw [D'.1.alike.findClass]; exact w3
  obtain ⟨s2, o, q1, q2⟩ := r T locs X eT N
  exact ⟨s2, o, ldcAgain (Z := Z) (s := s) X w1 hZ hown w L (g := mkF m pc Ls st) rfl (hb w4 hd) _ q1, q2⟩
theorem ConW.back {y : MethodName} {bytes : ByteArray} {mL : Nat} {rt : Option FieldType} {rm : Room} {as : Array Value} {V : Vm → Prop} {Q' : Option Value → Heap → Vm → Prop} {len W : Nat} {p : Program} {e : Env} {below : List Frame} {s : State} {args : Array Value} (M : ConW l [] y bytes mL rt rm Z as h n0 V Q') (hZ : Z.Warmed39 s.vm) (wc : (Jvm.Cond.code y bytes mL rt).before a0 Z = true) (wz : (Jvm.Cond.initialized y.cls).before a0 Z = true) (hf : rm.frames + 1 ≤ R.frames) (hl : W + (mL + 11) + rm.locals ≤ R.locals) :
    BackS l R p e below s args y len W (fun A a => a = as ∧ A.U.heap = h ∧ A.cells + rm.cells ≤ R.cells ∧ A.slots + rm.slots ≤ R.slots ∧ V A.U.vm) (fun A _ v B => ∃ L, (Q' v B.U.heap B.U.vm ∧ Fr n0 L) ∧ B.locs = A.locs ++ L ∧ B.cells = A.cells + rm.cells ∧ B.slots = A.slots + rm.slots) :=
  BackS.of_freeW (bytes := bytes) (maxL := mL) (ret := rt) (E := fun _ _ o t L k n => k = rm.cells ∧ n = rm.slots ∧ ∃ v, o = .returned v ∧ (Q' v t.heap t.vm ∧ Fr n0 L)) M hf hl
    (fun m meth c A a Y hp => have hU : Z.Warmed39 A.U.vm := wtrans hZ Y.warmed
      ⟨by show (Jvm.Cond.and _ .tt).before a A.U = true; rw [Cond.before_and, mv hU wc]; rfl, mv hU wc, mv hU wz, hp.2.2.1, hp.2.2.2.1⟩)
    (fun m meth c A a g mk Y hp => ⟨hp.1, wtrans hZ Y.warmed, hp.2.1, hp.2.2.2.2⟩) (fun _ _ _ _ _ _ _ _ _ => trivial)
    (fun _ _ _ _ ⟨v, L, h1, h2, h3⟩ => ⟨L, _, _, h3, rfl, rfl, v, h1, h2⟩)
    (fun m meth c A a g mk v t L k n Y hp _ _ ⟨e1, e2, v', e3, e4⟩ => by cases e3; subst e1 e2; exact ⟨L, e4, rfl, rfl, rfl⟩)
/-- a static method that may intern -/
theorem r_callSW {h0 : Heap} {vm : Vm} {k0 : Nat} {idx : Nat} {y : MethodName} {bytes : ByteArray} {mL : Nat} {rt : Option FieldType} {rm : Room} {argsL : List Value} {V : Vm → Prop} {Q' : Option Value → Heap → Vm → Prop} {ps : List FieldType} {rr : Option FieldType} {W cells' slots' : Nat} {stk : List Value}
    (B : Wb l R Z own nm code maxL ret n0 h0 K) (D : Sn K vm k0) (hk0 : k0 ≤ h.size) (M : ConW l [] y bytes mL rt rm Z argsL.toArray h n0 V Q') (hV : ∀ vm', ((KS K).setVm vm).WarmedH vm' → V vm') (hd : decode code pc = .ok (.invokestatic idx, 3)) (hp : pc + 3 = pc') (v1 : (Jvm.Cond.methodLink own idx y).before a0 Z = true) (v2 : (Jvm.Cond.static y).before a0 Z = true) (v3 : (Jvm.Cond.initialized y.cls).before a0 Z = true) (v4 : (Jvm.Cond.code y bytes mL rt).before a0 Z = true)
    (hy : y.cls ≠ "java/lang/invoke/MethodHandle" ∧ y.cls ≠ "java/lang/invoke/VarHandle") (pd : parseMethodDescriptor y.desc = some ⟨ps, rr⟩) (hlen : argsL.length = ps.length) (hst : stk = argsL.reverse ++ st) (hsz : Ls.size = maxL) (hW : (st.map fun v => v.category).sum ≤ W)
    (hf : rm.frames + 1 ≤ R.frames) (hlo : W + (mL + 11) + rm.locals ≤ R.locals) (hc : cells + rm.cells ≤ R.cells) (hs : slots + rm.slots ≤ R.slots) (ec : cells + rm.cells = cells') (es : slots + rm.slots = slots')
    (r : ∀ v h' vm', Q' v h' vm' → h.size ≤ h'.size → Sn K vm' h'.size → Run l R n0 Q (Kw K (Fr n0) vm') h' cells' slots' pc' Ls (v.toList ++ st)) : Run l R n0 Q (Kw K (Fr n0) vm) h cells slots pc Ls stk := by
  obtain ⟨Pl, En, p, e, s, m, args, below, meth, c⟩ := K
  intro T locs X eT N
  obtain ⟨w1, w2, w3, w4, w5, w6, w7, w8, w9, w10⟩ := B
  have D' : s.Since vm k0 := D
  have hZ : Z.Warmed39 (s.setVm vm).vm := State.Warmed39.trans w2 D'.1
  have hown : (s.setVm vm).vm.findClass own = some m.cls := by rw [show (s.setVm vm).vm = vm from rfl, D'.1.alike.findClass]; exact w3
  have hx := w1
  subst hp hst ec es
  obtain ⟨v, _, ⟨T', L', k', n'⟩, -, X', hS, hgr, ⟨Lc, ⟨hQ, N'⟩, l', y', z'⟩, s'⟩ := callSS X hx (y := y) hown (mvT hZ v1) (mvT hZ v2) (mvT hZ v3) (mvT hZ v4) hy (ConW.back (W := W) M hZ v4 v3 hf hlo) (g := mkF m pc Ls (argsL.reverse ++ st)) rfl (by show Ls.size = _; rw [w5]; exact hsz) (argsL := argsL) (rest := st) (lenOf pd hlen) rfl (by show 2 * 0 + _ ≤ _; omega) (hb w4 hd) (fun vm₁ q => ⟨rfl, eT, hc, hs, hV vm₁ q⟩)
  dsimp only [Pt.U, Pt.locs, Pt.cells, Pt.slots] at X' hS hgr l' y' z' s' hQ N'
  subst l' y' z'
  have hk1 : k0 ≤ T.heap.size := by rw [eT]; exact hk0
  obtain ⟨s2, o, k1, k2⟩ := r v T'.heap T'.vm hQ (by rw [← eT]; exact hgr) (D'.trans hS (Nat.le_trans hk1 hgr)) T' _ X' rfl (Fr.app N N')
  exact ⟨s2, o, s'.trans k1, k2⟩
/-- a constructor that may intern -/
theorem r_callIW {h0 : Heap} {vm : Vm} {k0 : Nat} {idx : Nat} {y : MethodName} {a : Addr} {bytes : ByteArray} {mL : Nat} {rt : Option FieldType} {rm : Room} {argsL : List Value} {V : Vm → Prop} {Q' : Option Value → Heap → Vm → Prop} {ps : List FieldType} {rr : Option FieldType} {W cells' slots' : Nat} {stk : List Value}
    (B : Wb l R Z own nm code maxL ret n0 h0 K) (D : Sn K vm k0) (hk0 : k0 ≤ h.size) (M : ConW l [] y bytes mL none rm Z (.ref a :: argsL).toArray h n0 V Q') (hV : ∀ vm', ((KS K).setVm vm).WarmedH vm' → V vm') (hd : decode code pc = .ok (.invokespecial idx, 3)) (hp : pc + 3 = pc') (v1 : (Jvm.Cond.methodLink own idx y).before a0 Z = true) (v2 : (Jvm.Cond.instanceMethod y).before a0 Z = true) (v3 : (Jvm.Cond.initialized y.cls).before a0 Z = true) (v4 : (Jvm.Cond.code y bytes mL none).before a0 Z = true) (hin : y.name = "<init>")
    (hy : y.cls ≠ "java/lang/invoke/MethodHandle" ∧ y.cls ≠ "java/lang/invoke/VarHandle") (pd : parseMethodDescriptor y.desc = some ⟨ps, rr⟩) (hlen : argsL.length = ps.length) (hst : stk = argsL.reverse ++ .ref a :: st) (hsz : Ls.size = maxL) (hW : (st.map fun v => v.category).sum ≤ W)
    (hf : rm.frames + 1 ≤ R.frames) (hlo : W + (mL + 11) + rm.locals ≤ R.locals) (hc : cells + rm.cells ≤ R.cells) (hs : slots + rm.slots ≤ R.slots) (ec : cells + rm.cells = cells') (es : slots + rm.slots = slots')
    (r : ∀ v h' vm', Q' v h' vm' → h.size ≤ h'.size → Sn K vm' h'.size → Run l R n0 Q (Kw K (Fr n0) vm') h' cells' slots' pc' Ls (v.toList ++ st)) : Run l R n0 Q (Kw K (Fr n0) vm) h cells slots pc Ls stk := by
  obtain ⟨Pl, En, p, e, s, m, args, below, meth, c⟩ := K
  intro T locs X eT N
  obtain ⟨w1, w2, w3, w4, w5, w6, w7, w8, w9, w10⟩ := B
  have D' : s.Since vm k0 := D
  have hZ : Z.Warmed39 (s.setVm vm).vm := State.Warmed39.trans w2 D'.1
  have hown : (s.setVm vm).vm.findClass own = some m.cls := by rw [show (s.setVm vm).vm = vm from rfl, D'.1.alike.findClass]; exact w3
  have hx := w1
  subst hp hst ec es
  obtain ⟨v, _, ⟨T', L', k', n'⟩, -, X', hS, hgr, ⟨Lc, ⟨hQ, N'⟩, l', y', z'⟩, s'⟩ := X.specialBackS hx (y := y) hin hown (mvT hZ v1) (mvT hZ v2) (mvT hZ v4) hy (ConW.back (W := W) M hZ v4 v3 hf hlo) (g := mkF m pc Ls (argsL.reverse ++ .ref a :: st)) rfl (by show Ls.size = _; rw [w5]; exact hsz) (Steps.refl _) (a := a) (argsL := argsL) (rest := st) (lenOf pd hlen) rfl (by show 2 * 0 + _ ≤ _; omega) (hb w4 hd) (fun vm₁ q => ⟨rfl, eT, hc, hs, hV vm₁ q⟩)
  dsimp only [Pt.U, Pt.locs, Pt.cells, Pt.slots] at X' hS hgr l' y' z' s' hQ N'
  subst l' y' z'
  have hk1 : k0 ≤ T.heap.size := by rw [eT]; exact hk0
  obtain ⟨s2, o, k1, k2⟩ := r v T'.heap T'.vm hQ (by rw [← eT]; exact hgr) (D'.trans hS (Nat.le_trans hk1 hgr)) T' _ X' rfl (Fr.app N N')
  exact ⟨s2, o, s'.trans k1, k2⟩
/-- an instance method that may intern -/
theorem r_callVW {h0 : Heap} {vm : Vm} {k0 : Nat} {idx : Nat} {y z : MethodName} {Cn : String} {a : Addr} {bytes : ByteArray} {mL : Nat} {rt : Option FieldType} {rm : Room} {argsL : List Value} {V : Vm → Prop} {Q' : Option Value → Heap → Vm → Prop} {ps : List FieldType} {rr : Option FieldType} {W cells' slots' : Nat} {stk : List Value}
    (B : Wb l R Z own nm code maxL ret n0 h0 K) (D : Sn K vm k0) (hk0 : k0 ≤ h.size) (M : ConW l [] z bytes mL rt rm Z (.ref a :: argsL).toArray h n0 V Q') (E : Exa Z h a Cn) (hV : ∀ vm', ((KS K).setVm vm).WarmedH vm' → V vm') (hd : decode code pc = .ok (.invokevirtual idx, 3)) (hp : pc + 3 = pc') (v1 : (Jvm.Cond.methodLink own idx y).before a0 Z = true) (vd : (Jvm.Cond.declares y).before a0 Z = true) (nf : ∀ (s : State) (args : Array Value), Z.Warmed39 s.vm → NotFace s y) (vs : (Jvm.Cond.selects Cn y z).before a0 Z = true) (v2 : (Jvm.Cond.instanceMethod z).before a0 Z = true) (v3 : (Jvm.Cond.initialized z.cls).before a0 Z = true) (v4 : (Jvm.Cond.code z bytes mL rt).before a0 Z = true)
    (hy : y.cls ≠ "java/lang/invoke/MethodHandle" ∧ y.cls ≠ "java/lang/invoke/VarHandle") (pd : parseMethodDescriptor y.desc = some ⟨ps, rr⟩) (hlen : argsL.length = ps.length) (hst : stk = argsL.reverse ++ .ref a :: st) (hsz : Ls.size = maxL) (hW : (st.map fun v => v.category).sum ≤ W)
    (hf : rm.frames + 1 ≤ R.frames) (hlo : W + (mL + 11) + rm.locals ≤ R.locals) (hc : cells + rm.cells ≤ R.cells) (hs : slots + rm.slots ≤ R.slots) (ec : cells + rm.cells = cells') (es : slots + rm.slots = slots')
    (r : ∀ v h' vm', Q' v h' vm' → h.size ≤ h'.size → Sn K vm' h'.size → Run l R n0 Q (Kw K (Fr n0) vm') h' cells' slots' pc' Ls (v.toList ++ st)) : Run l R n0 Q (Kw K (Fr n0) vm) h cells slots pc Ls stk := by
  obtain ⟨Pl, En, p, e, s, m, args, below, meth, c⟩ := K
  intro T locs X eT N
  obtain ⟨w1, w2, w3, w4, w5, w6, w7, w8, w9, w10⟩ := B
  have D' : s.Since vm k0 := D
  have hZ : Z.Warmed39 (s.setVm vm).vm := State.Warmed39.trans w2 D'.1
  have hown : (s.setVm vm).vm.findClass own = some m.cls := by rw [show (s.setVm vm).vm = vm from rfl, D'.1.alike.findClass]; exact w3
  have hx := w1
  subst hp hst ec es
  obtain ⟨cq, kq, qa, qb, qc⟩ := isOf (T := T) hZ eT E
  obtain ⟨v, _, ⟨T', L', k', n'⟩, -, X', hS, hgr, ⟨Lc, ⟨hQ, N'⟩, l', y', z'⟩, s'⟩ := X.virtualBackS hx (y := y) (z := z) hown (mvT hZ v1) (mvT hZ vd) (nf (s.setVm vm) args hZ) (mvT hZ vs) (mvT hZ v2) hy (ConW.back (W := W) M hZ v4 v3 hf hlo) qa qc (g := mkF m pc Ls (argsL.reverse ++ .ref a :: st)) rfl (by show Ls.size = _; rw [w5]; exact hsz) (Steps.refl _) (argsL := argsL) (rest := st) (lenOf pd hlen) rfl (by show 2 * 0 + _ ≤ _; omega) (hb w4 hd) (fun vm₁ q => ⟨rfl, eT, hc, hs, hV vm₁ q⟩)
  dsimp only [Pt.U, Pt.locs, Pt.cells, Pt.slots] at X' hS hgr l' y' z' s' hQ N'
  subst l' y' z'
  have hk1 : k0 ≤ T.heap.size := by rw [eT]; exact hk0
  obtain ⟨s2, o, k1, k2⟩ := r v T'.heap T'.vm hQ (by rw [← eT]; exact hgr) (D'.trans hS (Nat.le_trans hk1 hgr)) T' _ X' rfl (Fr.app N N')
  exact ⟨s2, o, s'.trans k1, k2⟩
theorem r_return (C : Ctx l R Z own nm code maxL none fl n0 kz K) (hd : decode code pc = .ok (.return_, 1)) (hc : cells ≤ R.cells) (hs : slots ≤ R.slots) (hk : kz ≤ h.size) (q : ∀ vm, (KS K).WarmedH vm → Q none h vm) : Run l R n0 Q K h cells slots pc Ls [] := by
  obtain ⟨Pl, En, p, e, s, m, args, below, meth, c⟩ := K
  intro T locs X eT N
  obtain ⟨hx, hZ, hown, hby, hml, hret, hnm, hlk, hcl, hfr, hen⟩ := C
  obtain ⟨fs, hr, hrun, hended, hW, hsame⟩ := X.leave (v := none) (fun _ => rfl)
  exact ⟨_, _, X.returnOut hx hret (hb hby hd) hr, hrun, hended, none, locs, rfl, ⟨by show Q none T.heap _; rw [eT]; exact q _ hW, hfr _ N⟩, hen _ _ _ (by show kz ≤ T.heap.size; rw [eT]; exact hk) hW (hsame.mono hc hs)⟩
theorem r_ret {t : FieldType} (C : Ctx l R Z own nm code maxL (some t) fl n0 kz K) {i : Instr} {v : Value} (hd : decode code pc = .ok (i, 1)) (hn : narrow t v = v)
    (hi : (i = .ireturn ∧ (t = .int ∨ t = .boolean ∨ t = .byte ∨ t = .char ∨ t = .short) ∧ ∃ z, v = .int z) ∨ (i = .lreturn ∧ t = .long ∧ ∃ z, v = .long z) ∨ (i = .dreturn ∧ t = .double ∧ ∃ z, v = .double z) ∨ (i = .freturn ∧ t = .float ∧ ∃ z, v = .float z) ∨ (i = .areturn ∧ t.isReference = true ∧ v.isRef = true))
    (hc : cells ≤ R.cells) (hs : slots ≤ R.slots) (hk : kz ≤ h.size) (q : ∀ vm, (KS K).WarmedH vm → Q (some v) h vm) : Run l R n0 Q K h cells slots pc Ls (v :: st) := by
  obtain ⟨Pl, En, p, e, s, m, args, below, meth, c⟩ := K
  intro T locs X eT N
  obtain ⟨hx, hZ, hown, hby, hml, hret, hnm, hlk, hcl, hfr, hen⟩ := C
  obtain ⟨fs, hr, hrun, hended, hW, hsame⟩ := X.leave (v := some v) (fun hh => by rw [hret] at hh; cases hh)
  exact ⟨_, _, retOut X hx hret hn hi (hb hby hd) hr, hrun, hended, some v, locs, rfl, ⟨by show Q (some v) T.heap _; rw [eT]; exact q _ hW, hfr _ N⟩, hen _ _ _ (by show kz ≤ T.heap.size; rw [eT]; exact hk) hW (hsame.mono hc hs)⟩
theorem r_ireturn (C : Ctx l R Z own nm code maxL (some .int) fl n0 kz K) {x : Int32} (hd : decode code pc = .ok (.ireturn, 1)) (hc : cells ≤ R.cells) (hs : slots ≤ R.slots) (hk : kz ≤ h.size) (q : ∀ vm, (KS K).WarmedH vm → Q (some (.int x)) h vm) : Run l R n0 Q K h cells slots pc Ls (.int x :: st) :=
  r_ret C hd rfl (Or.inl ⟨rfl, Or.inl rfl, _, rfl⟩) hc hs hk q
theorem r_zreturn (C : Ctx l R Z own nm code maxL (some .boolean) fl n0 kz K) {x : Int32} (hd : decode code pc = .ok (.ireturn, 1)) (hn : narrow .boolean (.int x) = .int x) (hc : cells ≤ R.cells) (hs : slots ≤ R.slots) (hk : kz ≤ h.size) (q : ∀ vm, (KS K).WarmedH vm → Q (some (.int x)) h vm) : Run l R n0 Q K h cells slots pc Ls (.int x :: st) :=
  r_ret C hd hn (Or.inl ⟨rfl, Or.inr (Or.inl rfl), _, rfl⟩) hc hs hk q
theorem r_creturn (C : Ctx l R Z own nm code maxL (some .char) fl n0 kz K) {x : Int32} (hd : decode code pc = .ok (.ireturn, 1)) (hn : narrow .char (.int x) = .int x) (hc : cells ≤ R.cells) (hs : slots ≤ R.slots) (hk : kz ≤ h.size) (q : ∀ vm, (KS K).WarmedH vm → Q (some (.int x)) h vm) : Run l R n0 Q K h cells slots pc Ls (.int x :: st) :=
  r_ret C hd hn (Or.inl ⟨rfl, Or.inr (Or.inr (Or.inr (Or.inl rfl))), _, rfl⟩) hc hs hk q
theorem r_breturn (C : Ctx l R Z own nm code maxL (some .byte) fl n0 kz K) {x : Int32} (hd : decode code pc = .ok (.ireturn, 1)) (hn : narrow .byte (.int x) = .int x) (hc : cells ≤ R.cells) (hs : slots ≤ R.slots) (hk : kz ≤ h.size) (q : ∀ vm, (KS K).WarmedH vm → Q (some (.int x)) h vm) : Run l R n0 Q K h cells slots pc Ls (.int x :: st) :=
  r_ret C hd hn (Or.inl ⟨rfl, Or.inr (Or.inr (Or.inl rfl)), _, rfl⟩) hc hs hk q
theorem r_lreturn (C : Ctx l R Z own nm code maxL (some .long) fl n0 kz K) {x : Int64} (hd : decode code pc = .ok (.lreturn, 1)) (hc : cells ≤ R.cells) (hs : slots ≤ R.slots) (hk : kz ≤ h.size) (q : ∀ vm, (KS K).WarmedH vm → Q (some (.long x)) h vm) : Run l R n0 Q K h cells slots pc Ls (.long x :: st) :=
  r_ret C hd rfl (Or.inr (Or.inl ⟨rfl, rfl, _, rfl⟩)) hc hs hk q
theorem r_areturn {t : FieldType} (C : Ctx l R Z own nm code maxL (some t) fl n0 kz K) {v : Value} (hd : decode code pc = .ok (.areturn, 1)) (ht : t.isReference = true) (hv : v.isRef = true) (hc : cells ≤ R.cells) (hs : slots ≤ R.slots) (hk : kz ≤ h.size) (q : ∀ vm, (KS K).WarmedH vm → Q (some v) h vm) : Run l R n0 Q K h cells slots pc Ls (v :: st) :=
  r_ret C hd (by rcases ref_cases hv with rfl | ⟨z, rfl⟩ <;> cases t <;> first | rfl | (cases ht; done)) (Or.inr (Or.inr (Or.inr (Or.inr ⟨rfl, ht, hv⟩)))) hc hs hk q
end
abbrev i64 (n : Nat) : Int64 := Int64.ofNat n
theorem i64_toInt {n : Nat} (h : n < 9223372036854775808) : (i64 n).toInt = (n : Int) := Int64.toInt_ofNat_of_lt h
theorem i64_lt {a b : Nat} (ha : a < 9223372036854775808) (hb : b < 9223372036854775808) : i64 a < i64 b ↔ a < b := by
  rw [Int64.lt_iff_toInt_lt, i64_toInt ha, i64_toInt hb]; omega
theorem i64_eq {a b : Nat} (ha : a < 9223372036854775808) (hb : b < 9223372036854775808) : i64 a = i64 b ↔ a = b := by
  rw [← Int64.toInt_inj, i64_toInt ha, i64_toInt hb]; omega
theorem i64_add (a b : Nat) : i64 a + i64 b = i64 (a + b) := (Int64.ofNat_add a b).symm
theorem i64_mul (a b : Nat) : i64 a * i64 b = i64 (a * b) := (Int64.ofNat_mul a b).symm
theorem i64_sub {a b : Nat} (h : b ≤ a) : i64 a - i64 b = i64 (a - b) := by
  have e : i64 a = i64 (a - b) + i64 b := by rw [i64_add]; congr 1; omega
  rw [e, Int64.add_sub_cancel]
theorem i64_div {a b : Nat} (ha : a < 9223372036854775808) (hb : b < 9223372036854775808) : i64 a / i64 b = i64 (a / b) := by
  apply Int64.toInt_inj.mp
  have hq : a / b < 9223372036854775808 := Nat.lt_of_le_of_lt (Nat.div_le_self a b) ha
  rw [Int64.toInt_div, i64_toInt ha, i64_toInt hb, i64_toInt hq, Int.tdiv_eq_ediv_of_nonneg (by omega)]
  have e : (a : Int) / (b : Int) = ((a / b : Nat) : Int) := rfl
  rw [e]; exact Int.bmod_eq_of_le (by have := Int.natCast_nonneg (a / b); omega) (by omega)
theorem i64_rem {a b : Nat} (ha : a < 9223372036854775808) (hb : b < 9223372036854775808) : i64 a - (i64 a / i64 b) * i64 b = i64 (a % b) := by
  rw [i64_div ha hb, i64_mul, i64_sub (Nat.div_mul_le_self a b)]
  congr 1
  have := Nat.div_add_mod a b
  rw [Nat.mul_comm] at this; omega
theorem i64_of32 {n : Nat} (h : n < 2147483648) : (i32 n).toInt64 = i64 n := by
  rw [← Int64.toInt_inj, Int32.toInt_toInt64, i32_toInt h, i64_toInt (by omega)]
theorem i32_of64 {n : Nat} : (i64 n).toInt32 = i32 n := Int64.toInt32_ofNat
theorem i64_and (x : Int64) : ∃ n, n < 9223372036854775808 ∧ x &&& 9223372036854775807 = i64 n := by
  have h : (x &&& 9223372036854775807).toBitVec.toNat ≤ 9223372036854775807 := by
    rw [Int64.toBitVec_and, BitVec.toNat_and]; exact Nat.and_le_right
  refine ⟨(x &&& 9223372036854775807).toBitVec.toNat, by omega, ?_⟩
  apply Int64.toBitVec_inj.mp
  apply BitVec.eq_of_toNat_eq
  show _ = _ % 2 ^ 64
  omega
theorem i32_and (x : Int32) : ∃ n, n < 2147483648 ∧ x &&& 2147483647 = i32 n := by
  have h : (x &&& 2147483647).toBitVec.toNat ≤ 2147483647 := by
    rw [Int32.toBitVec_and, BitVec.toNat_and]; exact Nat.and_le_right
  refine ⟨(x &&& 2147483647).toBitVec.toNat, by omega, ?_⟩
  apply Int32.toBitVec_inj.mp
  apply BitVec.eq_of_toNat_eq
  show _ = _ % 2 ^ 32
  omega
def by8 (c : Nat) : Int32 := (i32 c).toInt8.toInt32
abbrev ch16 (x : Int32) : Int32 := x.toUInt32.toUInt16.toUInt32.toInt32
theorem own_byF : ∀ c : Fin 256, (by8 c &&& 255).toUInt32.toUInt16.toUInt32.toInt32 = i32 c := by decide +kernel
theorem own_byte {c : Nat} (h : c < 256) : (by8 c &&& 255).toUInt32.toUInt16.toUInt32.toInt32 = i32 c := own_byF ⟨c, h⟩
theorem own_ch {c : Nat} (h : c < 65536) : (i32 c).toUInt32.toUInt16.toUInt32.toInt32 = i32 c := by
  apply Int32.toBitVec_inj.mp
  apply BitVec.eq_of_toNat_eq
  show ((UInt32.ofNat c).toUInt16.toUInt32).toNat = c % 2 ^ 32
  rw [UInt16.toNat_toUInt32, UInt32.toNat_toUInt16]
  show c % 2 ^ 32 % 2 ^ 16 = c % 2 ^ 32
  omega
theorem own_chn {c : Nat} (h : c < 65536) : nar .char (i32 c) = i32 c := own_ch h
theorem own_shr0 (x : Int32) : x >>> ((0 : Int32) &&& 31) = x := by
  show x >>> (0 : Int32) = x
  simp
theorem own_narF : ∀ c : Fin 65536, narrow .char (.int (i32 c)) = .int (i32 c) := fun c => by
  show Value.int ((i32 c).toUInt32.toUInt16.toUInt32.toInt32) = _
  rw [own_ch c.2]
theorem own_bynar (c : Nat) : nar .byte (by8 c) = by8 c := by
  show (by8 c).toInt8.toInt32 = _
  simp [by8]
theorem own_coder0 (n : Nat) : (XT.ushr (i32 n - i32 n) 31).toInt8.toInt32 = 0 := by
  rw [Int32.sub_self]; decide
/-- the statics that Strings read -/
def own_SS (Z : State) (cc : Int32) (fv : Value) : Prop := Sta Z Z.heap "java/lang/String" "COMPACT_STRINGS" "Z" (.int cc) ∧ cc ≠ 0 ∧ Sta Z Z.heap "jdk/internal/util/Preconditions" "SIOOBE_FORMATTER" "Ljava/util/function/BiFunction;" fv ∧ fv.isRef = true
/-- a Latin-1 String of these signs -/
abbrev St (Z : State) (h : Heap) (a b : Nat) (k : ClassId) (cs : List Nat) : Prop := Str Z h a b k (cs.map by8)
def vch (c : Nat) : Value := .int (i32 c)
theorem own_bget {cs : List Nat} {i c : Nat} (h : cs[i]? = some c) : ((cs.map by8).map Value.int)[i]? = some (.int (by8 c)) := by simp [h]
theorem own_cget {cs : List Nat} {i c : Nat} (h : cs[i]? = some c) : (cs.map vch)[i]? = some (.int (i32 c)) := by simp [h, vch]
theorem own_blen (cs : List Nat) : ((cs.map by8).map Value.int).length = cs.length := by simp
theorem own_clen (cs : List Nat) : (cs.map vch).length = cs.length := by simp
theorem own_tset {α : Type} (ws : List α) (i : Nat) (x : α) (h : i < ws.length) : (ws.set i x).take (i + 1) = ws.take i ++ [x] := by
  apply List.ext_getElem?
  intro j
  by_cases hj : j < i
  · rw [List.getElem?_take_of_lt (by omega), List.getElem?_set_ne (by omega), List.getElem?_append_left (by rw [List.length_take]; omega), List.getElem?_take_of_lt hj]
  · by_cases e : j = i
    · subst e
      rw [List.getElem?_take_of_lt (by omega), List.getElem?_set_self h, List.getElem?_append_right (by rw [List.length_take]; omega)]
      simp [List.length_take, Nat.min_eq_left (Nat.le_of_lt h)]
    · rw [List.getElem?_eq_none (by rw [List.length_take, List.length_set]; omega), List.getElem?_eq_none (by simp [List.length_take]; omega)]
theorem own_take1 {α : Type} {ws : List α} {i : Nat} {x : α} (h : ws[i]? = some x) : ws.take (i + 1) = ws.take i ++ [x] := by
  rw [List.take_add_one, h]; rfl
theorem own_drop1 {α : Type} {ws : List α} {i : Nat} {x : α} (h : ws[i]? = some x) : ws.drop i = x :: ws.drop (i + 1) := by
  obtain ⟨q, rfl⟩ := List.getElem?_eq_some_iff.mp h
  exact List.drop_eq_getElem_cons q
theorem Fld.inj {Z : State} {h : Heap} {a : Addr} {C n d : String} {v v' : Value} (F : Fld Z h a C n d v) (G : Fld Z h a C n d v') : v = v' := by
  obtain ⟨c1, cf1, k1, i1, f1, p1, p2, -, -, -, -, p3⟩ := F
  obtain ⟨c2, cf2, k2, i2, f2, q1, q2, -, -, -, -, q3⟩ := G
  rw [p1] at q1; cases q1
  rw [p2] at q2; cases q2
  rw [p3] at q3; exact Option.some.inj q3
theorem IB.at {Z : State} {K : Kx} {Pl : List Loc → Prop} {vm vm' : Vm} {Ts : List String} (I : IB Z vm Ts) (hW : (KS (Kw K Pl vm)).WarmedH vm') : IB Z vm' Ts := IB.warm I (s := KS K) (by rw [← KS_Kw (Pl := Pl)]; exact hW)
theorem IB.mono {Z : State} {vm : Vm} {Ts Ts' : List String} (I : IB Z vm Ts) (q : ∀ t ∈ Ts, t ∈ Ts') : IB Z vm Ts' := by
  obtain ⟨more, e, hm⟩ := I
  exact ⟨more, e, fun x hx => by obtain ⟨t, h1, h2⟩ := hm x hx; exact ⟨t, q t h1, h2⟩⟩
theorem Lit.at {Z : State} {K : Kx} {Pl : List Loc → Prop} {vm vm' : Vm} {cn : String} {i : Nat} {a : Addr} (L : Lit (Z.setVm vm) cn i a) (hW : (KS (Kw K Pl vm)).WarmedH vm') : Lit (Z.setVm vm') cn i a := Lit.warm L (s := KS K) (by rw [← KS_Kw (Pl := Pl)]; exact hW)
theorem i32_and255 (x : Int32) : ∃ n, n < 256 ∧ x &&& 255 = i32 n := by
  have h : (x &&& 255).toBitVec.toNat ≤ 255 := by
    rw [Int32.toBitVec_and, BitVec.toNat_and]; exact Nat.and_le_right
  refine ⟨(x &&& 255).toBitVec.toNat, by omega, ?_⟩
  apply Int32.toBitVec_inj.mp
  apply BitVec.eq_of_toNat_eq
  show _ = _ % 2 ^ 32
  omega
theorem by8_inj {c d : Nat} (hc : c < 256) (hd : d < 256) : by8 c = by8 d ↔ c = d := by
  constructor
  · intro e
    have h1 := own_byte hc
    rw [e, own_byte hd] at h1
    exact ((i32_eq (by omega) (by omega)).mp h1).symm
  · intro e; rw [e]
end Jvm.OwnKit
namespace Jvm.Pilot.@@N@@
open Jvm Jvm.ClassFile Sem Op Lib Jvm.Free Jvm.Stand Jvm.LawKit Jvm.RoadKit Jvm.OwnKit Bundle Jvm.Pilot.@@N@@.Jvm.D
theorem w0 {Z : State} {a0 : Array Value} (hw : ∀ d ∈ tables_1, d.before a0 Z = true) : ((Jvm.Cond.constant "com/example/ranker/ranker/PageUrlDepthPinLaw" (7 : Nat) (2147483647 : Int32)) : Jvm.Cond).before a0 Z = true := hw _ (List.mem_of_getElem? (i := 0) rfl)
theorem w1 {Z : State} {a0 : Array Value} (hw : ∀ d ∈ tables_1, d.before a0 Z = true) : ((Jvm.Cond.arrayClass Jvm.ClassFile.FieldType.char) : Jvm.Cond).before a0 Z = true := hw _ (List.mem_of_getElem? (i := 1) rfl)
theorem w2 {Z : State} {a0 : Array Value} (hw : ∀ d ∈ tables_1, d.before a0 Z = true) : ((Jvm.Cond.methodLink "com/example/ranker/ranker/PageUrlDepthPinLaw" (8 : Nat) ({ cls := "com/example/ranker/ranker/PageUrlDepthPinLaw", name := "draw", desc := "(I)C" } : Jvm.MethodName)) : Jvm.Cond).before a0 Z = true := hw _ (List.mem_of_getElem? (i := 2) rfl)
theorem w3 {Z : State} {a0 : Array Value} (hw : ∀ d ∈ tables_1, d.before a0 Z = true) : ((Jvm.Cond.static ({ cls := "com/example/ranker/ranker/PageUrlDepthPinLaw", name := "draw", desc := "(I)C" } : Jvm.MethodName)) : Jvm.Cond).before a0 Z = true := hw _ (List.mem_of_getElem? (i := 3) rfl)
theorem w4 {Z : State} {a0 : Array Value} (hw : ∀ d ∈ tables_1, d.before a0 Z = true) : ((Jvm.Cond.initialized "com/example/ranker/ranker/PageUrlDepthPinLaw") : Jvm.Cond).before a0 Z = true := hw _ (List.mem_of_getElem? (i := 4) rfl)
theorem w5 {Z : State} {a0 : Array Value} (hw : ∀ d ∈ tables_1, d.before a0 Z = true) : ((Jvm.Cond.code ({ cls := "com/example/ranker/ranker/PageUrlDepthPinLaw", name := "draw", desc := "(I)C" } : Jvm.MethodName) method_2_code (3 : Nat) (Option.some Jvm.ClassFile.FieldType.char)) : Jvm.Cond).before a0 Z = true := hw _ (List.mem_of_getElem? (i := 5) rfl)
theorem w6 {Z : State} {a0 : Array Value} (hw : ∀ d ∈ tables_1, d.before a0 Z = true) : ((Jvm.Cond.methodLink "com/example/ranker/ranker/PageUrlDepthPinLaw" (14 : Nat) ({ cls := "com/example/ranker/ranker/PageUrlDepthPinLaw", name := "put", desc := "([CIC)V" } : Jvm.MethodName)) : Jvm.Cond).before a0 Z = true := hw _ (List.mem_of_getElem? (i := 6) rfl)
theorem w7 {Z : State} {a0 : Array Value} (hw : ∀ d ∈ tables_1, d.before a0 Z = true) : ((Jvm.Cond.static ({ cls := "com/example/ranker/ranker/PageUrlDepthPinLaw", name := "put", desc := "([CIC)V" } : Jvm.MethodName)) : Jvm.Cond).before a0 Z = true := hw _ (List.mem_of_getElem? (i := 7) rfl)
theorem w8 {Z : State} {a0 : Array Value} (hw : ∀ d ∈ tables_1, d.before a0 Z = true) : ((Jvm.Cond.code ({ cls := "com/example/ranker/ranker/PageUrlDepthPinLaw", name := "put", desc := "([CIC)V" } : Jvm.MethodName) method_3_code (3 : Nat) (Option.none : Option Jvm.ClassFile.FieldType)) : Jvm.Cond).before a0 Z = true := hw _ (List.mem_of_getElem? (i := 8) rfl)
theorem w9 {Z : State} {a0 : Array Value} (hw : ∀ d ∈ tables_1, d.before a0 Z = true) : ((Jvm.Cond.classLink "com/example/ranker/ranker/PageUrlDepthPinLaw" (18 : Nat) "java/lang/String") : Jvm.Cond).before a0 Z = true := hw _ (List.mem_of_getElem? (i := 9) rfl)
theorem w10 {Z : State} {a0 : Array Value} (hw : ∀ d ∈ tables_1, d.before a0 Z = true) : ((Jvm.Cond.instantiable "java/lang/String" (4 : Nat)) : Jvm.Cond).before a0 Z = true := hw _ (List.mem_of_getElem? (i := 10) rfl)
theorem w11 {Z : State} {a0 : Array Value} (hw : ∀ d ∈ tables_1, d.before a0 Z = true) : ((Jvm.Cond.initialized "java/lang/String") : Jvm.Cond).before a0 Z = true := hw _ (List.mem_of_getElem? (i := 11) rfl)
theorem w12 {Z : State} {a0 : Array Value} (hw : ∀ d ∈ tables_1, d.before a0 Z = true) : ((Jvm.Cond.methodLink "com/example/ranker/ranker/PageUrlDepthPinLaw" (20 : Nat) ({ cls := "java/lang/String", name := "<init>", desc := "([C)V" } : Jvm.MethodName)) : Jvm.Cond).before a0 Z = true := hw _ (List.mem_of_getElem? (i := 12) rfl)
theorem w13 {Z : State} {a0 : Array Value} (hw : ∀ d ∈ tables_1, d.before a0 Z = true) : ((Jvm.Cond.instanceMethod ({ cls := "java/lang/String", name := "<init>", desc := "([C)V" } : Jvm.MethodName)) : Jvm.Cond).before a0 Z = true := hw _ (List.mem_of_getElem? (i := 13) rfl)
theorem w14 {Z : State} {a0 : Array Value} (hw : ∀ d ∈ tables_1, d.before a0 Z = true) : ((Jvm.Cond.code ({ cls := "java/lang/String", name := "<init>", desc := "([C)V" } : Jvm.MethodName) jdk_42_method_3_code (2 : Nat) (Option.none : Option Jvm.ClassFile.FieldType)) : Jvm.Cond).before a0 Z = true := hw _ (List.mem_of_getElem? (i := 14) rfl)
theorem w15 {Z : State} {a0 : Array Value} (hw : ∀ d ∈ tables_1, d.before a0 Z = true) : ((Jvm.Cond.methodLink "java/lang/String" (27 : Nat) ({ cls := "java/lang/String", name := "<init>", desc := "([CIILjava/lang/Void;)V" } : Jvm.MethodName)) : Jvm.Cond).before a0 Z = true := hw _ (List.mem_of_getElem? (i := 15) rfl)
theorem w16 {Z : State} {a0 : Array Value} (hw : ∀ d ∈ tables_1, d.before a0 Z = true) : ((Jvm.Cond.instanceMethod ({ cls := "java/lang/String", name := "<init>", desc := "([CIILjava/lang/Void;)V" } : Jvm.MethodName)) : Jvm.Cond).before a0 Z = true := hw _ (List.mem_of_getElem? (i := 16) rfl)
theorem w18 {Z : State} {a0 : Array Value} (hw : ∀ d ∈ tables_1, d.before a0 Z = true) : ((Jvm.Cond.code ({ cls := "java/lang/String", name := "<init>", desc := "([CIILjava/lang/Void;)V" } : Jvm.MethodName) jdk_42_method_149_code (6 : Nat) (Option.none : Option Jvm.ClassFile.FieldType)) : Jvm.Cond).before a0 Z = true := hw _ (List.mem_of_getElem? (i := 18) rfl)
theorem w19 {Z : State} {a0 : Array Value} (hw : ∀ d ∈ tables_1, d.before a0 Z = true) : ((Jvm.Cond.methodLink "java/lang/String" (1 : Nat) ({ cls := "java/lang/Object", name := "<init>", desc := "()V" } : Jvm.MethodName)) : Jvm.Cond).before a0 Z = true := hw _ (List.mem_of_getElem? (i := 19) rfl)
theorem w20 {Z : State} {a0 : Array Value} (hw : ∀ d ∈ tables_1, d.before a0 Z = true) : ((Jvm.Cond.instanceMethod ({ cls := "java/lang/Object", name := "<init>", desc := "()V" } : Jvm.MethodName)) : Jvm.Cond).before a0 Z = true := hw _ (List.mem_of_getElem? (i := 20) rfl)
theorem w21 {Z : State} {a0 : Array Value} (hw : ∀ d ∈ tables_1, d.before a0 Z = true) : ((Jvm.Cond.code ({ cls := "java/lang/Object", name := "<init>", desc := "()V" } : Jvm.MethodName) object_method_1_code (1 : Nat) (Option.none : Option Jvm.ClassFile.FieldType)) : Jvm.Cond).before a0 Z = true := hw _ (List.mem_of_getElem? (i := 21) rfl)
theorem w22 {Z : State} {a0 : Array Value} (hw : ∀ d ∈ tables_1, d.before a0 Z = true) : ((Jvm.Cond.fieldLink "java/lang/String" (38 : Nat) "java/lang/String" "COMPACT_STRINGS" "Z") : Jvm.Cond).before a0 Z = true := hw _ (List.mem_of_getElem? (i := 22) rfl)
theorem w23 {Z : State} {a0 : Array Value} (hw : ∀ d ∈ tables_1, d.before a0 Z = true) : ((Jvm.Cond.methodLink "java/lang/String" (177 : Nat) ({ cls := "java/lang/StringUTF16", name := "compress", desc := "([CII)[B" } : Jvm.MethodName)) : Jvm.Cond).before a0 Z = true := hw _ (List.mem_of_getElem? (i := 23) rfl)
theorem w24 {Z : State} {a0 : Array Value} (hw : ∀ d ∈ tables_1, d.before a0 Z = true) : ((Jvm.Cond.static ({ cls := "java/lang/StringUTF16", name := "compress", desc := "([CII)[B" } : Jvm.MethodName)) : Jvm.Cond).before a0 Z = true := hw _ (List.mem_of_getElem? (i := 24) rfl)
theorem w25 {Z : State} {a0 : Array Value} (hw : ∀ d ∈ tables_1, d.before a0 Z = true) : ((Jvm.Cond.initialized "java/lang/StringUTF16") : Jvm.Cond).before a0 Z = true := hw _ (List.mem_of_getElem? (i := 25) rfl)
theorem w26 {Z : State} {a0 : Array Value} (hw : ∀ d ∈ tables_1, d.before a0 Z = true) : ((Jvm.Cond.code ({ cls := "java/lang/StringUTF16", name := "compress", desc := "([CII)[B" } : Jvm.MethodName) jdk_52_method_16_code (6 : Nat) (Option.some (Jvm.ClassFile.FieldType.array Jvm.ClassFile.FieldType.byte))) : Jvm.Cond).before a0 Z = true := hw _ (List.mem_of_getElem? (i := 26) rfl)
theorem w27 {Z : State} {a0 : Array Value} (hw : ∀ d ∈ tables_1, d.before a0 Z = true) : ((Jvm.Cond.arrayClass Jvm.ClassFile.FieldType.byte) : Jvm.Cond).before a0 Z = true := hw _ (List.mem_of_getElem? (i := 27) rfl)
theorem w28 {Z : State} {a0 : Array Value} (hw : ∀ d ∈ tables_1, d.before a0 Z = true) : ((Jvm.Cond.methodLink "java/lang/StringUTF16" (115 : Nat) ({ cls := "java/lang/StringUTF16", name := "compress", desc := "([CI[BII)I" } : Jvm.MethodName)) : Jvm.Cond).before a0 Z = true := hw _ (List.mem_of_getElem? (i := 28) rfl)
theorem w29 {Z : State} {a0 : Array Value} (hw : ∀ d ∈ tables_1, d.before a0 Z = true) : ((Jvm.Cond.static ({ cls := "java/lang/StringUTF16", name := "compress", desc := "([CI[BII)I" } : Jvm.MethodName)) : Jvm.Cond).before a0 Z = true := hw _ (List.mem_of_getElem? (i := 29) rfl)
theorem w30 {Z : State} {a0 : Array Value} (hw : ∀ d ∈ tables_1, d.before a0 Z = true) : ((Jvm.Cond.code ({ cls := "java/lang/StringUTF16", name := "compress", desc := "([CI[BII)I" } : Jvm.MethodName) jdk_52_method_21_code (7 : Nat) (Option.some Jvm.ClassFile.FieldType.int)) : Jvm.Cond).before a0 Z = true := hw _ (List.mem_of_getElem? (i := 30) rfl)
theorem w31 {Z : State} {a0 : Array Value} (hw : ∀ d ∈ tables_1, d.before a0 Z = true) : ((Jvm.Cond.methodLink "java/lang/String" (47 : Nat) ({ cls := "java/lang/StringUTF16", name := "coderFromArrayLen", desc := "([BI)B" } : Jvm.MethodName)) : Jvm.Cond).before a0 Z = true := hw _ (List.mem_of_getElem? (i := 31) rfl)
theorem w32 {Z : State} {a0 : Array Value} (hw : ∀ d ∈ tables_1, d.before a0 Z = true) : ((Jvm.Cond.static ({ cls := "java/lang/StringUTF16", name := "coderFromArrayLen", desc := "([BI)B" } : Jvm.MethodName)) : Jvm.Cond).before a0 Z = true := hw _ (List.mem_of_getElem? (i := 32) rfl)
theorem w33 {Z : State} {a0 : Array Value} (hw : ∀ d ∈ tables_1, d.before a0 Z = true) : ((Jvm.Cond.code ({ cls := "java/lang/StringUTF16", name := "coderFromArrayLen", desc := "([BI)B" } : Jvm.MethodName) jdk_52_method_15_code (2 : Nat) (Option.some Jvm.ClassFile.FieldType.byte)) : Jvm.Cond).before a0 Z = true := hw _ (List.mem_of_getElem? (i := 33) rfl)
theorem w34 {Z : State} {a0 : Array Value} (hw : ∀ d ∈ tables_1, d.before a0 Z = true) : ((Jvm.Cond.fieldLink "java/lang/String" (15 : Nat) "java/lang/String" "coder" "B") : Jvm.Cond).before a0 Z = true := hw _ (List.mem_of_getElem? (i := 34) rfl)
theorem w35 {Z : State} {a0 : Array Value} (hw : ∀ d ∈ tables_1, d.before a0 Z = true) : ((Jvm.Cond.laysFinal "java/lang/String" "java/lang/String" "coder" "B") : Jvm.Cond).before a0 Z = true := hw _ (List.mem_of_getElem? (i := 35) rfl)
theorem w36 {Z : State} {a0 : Array Value} (hw : ∀ d ∈ tables_1, d.before a0 Z = true) : ((Jvm.Cond.fieldLink "java/lang/String" (9 : Nat) "java/lang/String" "value" "[B") : Jvm.Cond).before a0 Z = true := hw _ (List.mem_of_getElem? (i := 36) rfl)
theorem w37 {Z : State} {a0 : Array Value} (hw : ∀ d ∈ tables_1, d.before a0 Z = true) : ((Jvm.Cond.laysFinal "java/lang/String" "java/lang/String" "value" "[B") : Jvm.Cond).before a0 Z = true := hw _ (List.mem_of_getElem? (i := 37) rfl)
theorem w38 {Z : State} {a0 : Array Value} (hw : ∀ d ∈ tables_1, d.before a0 Z = true) : ((Jvm.Cond.methodLink "com/example/ranker/ranker/PageUrlDepthPinLaw" (23 : Nat) ({ cls := "com/example/ranker/ranker/PageUrlDepthPinLaw", name := "sepAt", desc := "([CII)Z" } : Jvm.MethodName)) : Jvm.Cond).before a0 Z = true := hw _ (List.mem_of_getElem? (i := 38) rfl)
theorem w39 {Z : State} {a0 : Array Value} (hw : ∀ d ∈ tables_1, d.before a0 Z = true) : ((Jvm.Cond.static ({ cls := "com/example/ranker/ranker/PageUrlDepthPinLaw", name := "sepAt", desc := "([CII)Z" } : Jvm.MethodName)) : Jvm.Cond).before a0 Z = true := hw _ (List.mem_of_getElem? (i := 39) rfl)
theorem w40 {Z : State} {a0 : Array Value} (hw : ∀ d ∈ tables_1, d.before a0 Z = true) : ((Jvm.Cond.code ({ cls := "com/example/ranker/ranker/PageUrlDepthPinLaw", name := "sepAt", desc := "([CII)Z" } : Jvm.MethodName) method_4_code (3 : Nat) (Option.some Jvm.ClassFile.FieldType.boolean)) : Jvm.Cond).before a0 Z = true := hw _ (List.mem_of_getElem? (i := 40) rfl)
theorem w41 {Z : State} {a0 : Array Value} (hw : ∀ d ∈ tables_1, d.before a0 Z = true) : ((Jvm.Cond.methodLink "com/example/ranker/ranker/PageUrlDepthPinLaw" (27 : Nat) ({ cls := "com/example/ranker/ranker/PageUrlDepthPinLaw", name := "slashAt", desc := "([CIII)I" } : Jvm.MethodName)) : Jvm.Cond).before a0 Z = true := hw _ (List.mem_of_getElem? (i := 41) rfl)
theorem w42 {Z : State} {a0 : Array Value} (hw : ∀ d ∈ tables_1, d.before a0 Z = true) : ((Jvm.Cond.static ({ cls := "com/example/ranker/ranker/PageUrlDepthPinLaw", name := "slashAt", desc := "([CIII)I" } : Jvm.MethodName)) : Jvm.Cond).before a0 Z = true := hw _ (List.mem_of_getElem? (i := 42) rfl)
theorem w43 {Z : State} {a0 : Array Value} (hw : ∀ d ∈ tables_1, d.before a0 Z = true) : ((Jvm.Cond.code ({ cls := "com/example/ranker/ranker/PageUrlDepthPinLaw", name := "slashAt", desc := "([CIII)I" } : Jvm.MethodName) method_5_code (4 : Nat) (Option.some Jvm.ClassFile.FieldType.int)) : Jvm.Cond).before a0 Z = true := hw _ (List.mem_of_getElem? (i := 43) rfl)
theorem w44 {Z : State} {a0 : Array Value} (hw : ∀ d ∈ tables_1, d.before a0 Z = true) : ((Jvm.Cond.methodLink "com/example/ranker/ranker/PageUrlDepthPinLaw" (31 : Nat) ({ cls := "com/example/ranker/ranker/PageUrl", name := "depth", desc := "(Ljava/lang/String;)I" } : Jvm.MethodName)) : Jvm.Cond).before a0 Z = true := hw _ (List.mem_of_getElem? (i := 44) rfl)
theorem w45 {Z : State} {a0 : Array Value} (hw : ∀ d ∈ tables_1, d.before a0 Z = true) : ((Jvm.Cond.static ({ cls := "com/example/ranker/ranker/PageUrl", name := "depth", desc := "(Ljava/lang/String;)I" } : Jvm.MethodName)) : Jvm.Cond).before a0 Z = true := hw _ (List.mem_of_getElem? (i := 45) rfl)
theorem w46 {Z : State} {a0 : Array Value} (hw : ∀ d ∈ tables_1, d.before a0 Z = true) : ((Jvm.Cond.initialized "com/example/ranker/ranker/PageUrl") : Jvm.Cond).before a0 Z = true := hw _ (List.mem_of_getElem? (i := 46) rfl)
theorem w47 {Z : State} {a0 : Array Value} (hw : ∀ d ∈ tables_1, d.before a0 Z = true) : ((Jvm.Cond.code ({ cls := "com/example/ranker/ranker/PageUrl", name := "depth", desc := "(Ljava/lang/String;)I" } : Jvm.MethodName) prog_20_method_3_code (4 : Nat) (Option.some Jvm.ClassFile.FieldType.int)) : Jvm.Cond).before a0 Z = true := hw _ (List.mem_of_getElem? (i := 47) rfl)
theorem w48 {Z : State} {a0 : Array Value} (hw : ∀ d ∈ tables_1, d.before a0 Z = true) : ((Jvm.Cond.stringLink "com/example/ranker/ranker/PageUrl" (19 : Nat) "://") : Jvm.Cond).before a0 Z = true := hw _ (List.mem_of_getElem? (i := 48) rfl)
theorem w49 {Z : State} {a0 : Array Value} (hw : ∀ d ∈ tables_1, d.before a0 Z = true) : ((Jvm.Cond.soleField "java/lang/String" "value") : Jvm.Cond).before a0 Z = true := hw _ (List.mem_of_getElem? (i := 49) rfl)
theorem w50 {Z : State} {a0 : Array Value} (hw : ∀ d ∈ tables_1, d.before a0 Z = true) : ((Jvm.Cond.soleField "java/lang/String" "coder") : Jvm.Cond).before a0 Z = true := hw _ (List.mem_of_getElem? (i := 50) rfl)
theorem w51 {Z : State} {a0 : Array Value} (hw : ∀ d ∈ tables_1, d.before a0 Z = true) : ((Jvm.Cond.methodLink "com/example/ranker/ranker/PageUrl" (21 : Nat) ({ cls := "java/lang/String", name := "indexOf", desc := "(Ljava/lang/String;)I" } : Jvm.MethodName)) : Jvm.Cond).before a0 Z = true := hw _ (List.mem_of_getElem? (i := 51) rfl)
theorem w52 {Z : State} {a0 : Array Value} (hw : ∀ d ∈ tables_1, d.before a0 Z = true) : ((Jvm.Cond.declares ({ cls := "java/lang/String", name := "indexOf", desc := "(Ljava/lang/String;)I" } : Jvm.MethodName)) : Jvm.Cond).before a0 Z = true := hw _ (List.mem_of_getElem? (i := 52) rfl)
theorem w53 {Z : State} {a0 : Array Value} (hw : ∀ d ∈ tables_1, d.before a0 Z = true) : ((Jvm.Cond.instanceMethod ({ cls := "java/lang/String", name := "indexOf", desc := "(Ljava/lang/String;)I" } : Jvm.MethodName)) : Jvm.Cond).before a0 Z = true := hw _ (List.mem_of_getElem? (i := 53) rfl)
theorem w54 {Z : State} {a0 : Array Value} (hw : ∀ d ∈ tables_1, d.before a0 Z = true) : ((Jvm.Cond.selects "java/lang/String" ({ cls := "java/lang/String", name := "indexOf", desc := "(Ljava/lang/String;)I" } : Jvm.MethodName) ({ cls := "java/lang/String", name := "indexOf", desc := "(Ljava/lang/String;)I" } : Jvm.MethodName)) : Jvm.Cond).before a0 Z = true := hw _ (List.mem_of_getElem? (i := 54) rfl)
theorem w55 {Z : State} {a0 : Array Value} (hw : ∀ d ∈ tables_1, d.before a0 Z = true) : ((Jvm.Cond.code ({ cls := "java/lang/String", name := "indexOf", desc := "(Ljava/lang/String;)I" } : Jvm.MethodName) jdk_42_method_84_code (3 : Nat) (Option.some Jvm.ClassFile.FieldType.int)) : Jvm.Cond).before a0 Z = true := hw _ (List.mem_of_getElem? (i := 55) rfl)
theorem w56 {Z : State} {a0 : Array Value} (hw : ∀ d ∈ tables_1, d.before a0 Z = true) : ((Jvm.Cond.methodLink "java/lang/String" (335 : Nat) ({ cls := "java/lang/String", name := "coder", desc := "()B" } : Jvm.MethodName)) : Jvm.Cond).before a0 Z = true := hw _ (List.mem_of_getElem? (i := 56) rfl)
theorem w57 {Z : State} {a0 : Array Value} (hw : ∀ d ∈ tables_1, d.before a0 Z = true) : ((Jvm.Cond.declares ({ cls := "java/lang/String", name := "coder", desc := "()B" } : Jvm.MethodName)) : Jvm.Cond).before a0 Z = true := hw _ (List.mem_of_getElem? (i := 57) rfl)
theorem w58 {Z : State} {a0 : Array Value} (hw : ∀ d ∈ tables_1, d.before a0 Z = true) : ((Jvm.Cond.instanceMethod ({ cls := "java/lang/String", name := "coder", desc := "()B" } : Jvm.MethodName)) : Jvm.Cond).before a0 Z = true := hw _ (List.mem_of_getElem? (i := 58) rfl)
theorem w59 {Z : State} {a0 : Array Value} (hw : ∀ d ∈ tables_1, d.before a0 Z = true) : ((Jvm.Cond.selects "java/lang/String" ({ cls := "java/lang/String", name := "coder", desc := "()B" } : Jvm.MethodName) ({ cls := "java/lang/String", name := "coder", desc := "()B" } : Jvm.MethodName)) : Jvm.Cond).before a0 Z = true := hw _ (List.mem_of_getElem? (i := 59) rfl)
theorem w60 {Z : State} {a0 : Array Value} (hw : ∀ d ∈ tables_1, d.before a0 Z = true) : ((Jvm.Cond.code ({ cls := "java/lang/String", name := "coder", desc := "()B" } : Jvm.MethodName) jdk_42_method_152_code (1 : Nat) (Option.some Jvm.ClassFile.FieldType.byte)) : Jvm.Cond).before a0 Z = true := hw _ (List.mem_of_getElem? (i := 60) rfl)
theorem w61 {Z : State} {a0 : Array Value} (hw : ∀ d ∈ tables_1, d.before a0 Z = true) : ((Jvm.Cond.methodLink "java/lang/String" (492 : Nat) ({ cls := "java/lang/String", name := "isLatin1", desc := "()Z" } : Jvm.MethodName)) : Jvm.Cond).before a0 Z = true := hw _ (List.mem_of_getElem? (i := 61) rfl)
theorem w62 {Z : State} {a0 : Array Value} (hw : ∀ d ∈ tables_1, d.before a0 Z = true) : ((Jvm.Cond.declares ({ cls := "java/lang/String", name := "isLatin1", desc := "()Z" } : Jvm.MethodName)) : Jvm.Cond).before a0 Z = true := hw _ (List.mem_of_getElem? (i := 62) rfl)
theorem w63 {Z : State} {a0 : Array Value} (hw : ∀ d ∈ tables_1, d.before a0 Z = true) : ((Jvm.Cond.instanceMethod ({ cls := "java/lang/String", name := "isLatin1", desc := "()Z" } : Jvm.MethodName)) : Jvm.Cond).before a0 Z = true := hw _ (List.mem_of_getElem? (i := 63) rfl)
theorem w64 {Z : State} {a0 : Array Value} (hw : ∀ d ∈ tables_1, d.before a0 Z = true) : ((Jvm.Cond.selects "java/lang/String" ({ cls := "java/lang/String", name := "isLatin1", desc := "()Z" } : Jvm.MethodName) ({ cls := "java/lang/String", name := "isLatin1", desc := "()Z" } : Jvm.MethodName)) : Jvm.Cond).before a0 Z = true := hw _ (List.mem_of_getElem? (i := 64) rfl)
theorem w65 {Z : State} {a0 : Array Value} (hw : ∀ d ∈ tables_1, d.before a0 Z = true) : ((Jvm.Cond.code ({ cls := "java/lang/String", name := "isLatin1", desc := "()Z" } : Jvm.MethodName) jdk_42_method_154_code (1 : Nat) (Option.some Jvm.ClassFile.FieldType.boolean)) : Jvm.Cond).before a0 Z = true := hw _ (List.mem_of_getElem? (i := 65) rfl)
theorem w66 {Z : State} {a0 : Array Value} (hw : ∀ d ∈ tables_1, d.before a0 Z = true) : ((Jvm.Cond.methodLink "java/lang/String" (647 : Nat) ({ cls := "java/lang/StringLatin1", name := "indexOf", desc := "([B[B)I" } : Jvm.MethodName)) : Jvm.Cond).before a0 Z = true := hw _ (List.mem_of_getElem? (i := 66) rfl)
theorem w67 {Z : State} {a0 : Array Value} (hw : ∀ d ∈ tables_1, d.before a0 Z = true) : ((Jvm.Cond.static ({ cls := "java/lang/StringLatin1", name := "indexOf", desc := "([B[B)I" } : Jvm.MethodName)) : Jvm.Cond).before a0 Z = true := hw _ (List.mem_of_getElem? (i := 67) rfl)
theorem w68 {Z : State} {a0 : Array Value} (hw : ∀ d ∈ tables_1, d.before a0 Z = true) : ((Jvm.Cond.initialized "java/lang/StringLatin1") : Jvm.Cond).before a0 Z = true := hw _ (List.mem_of_getElem? (i := 68) rfl)
theorem w69 {Z : State} {a0 : Array Value} (hw : ∀ d ∈ tables_1, d.before a0 Z = true) : ((Jvm.Cond.code ({ cls := "java/lang/StringLatin1", name := "indexOf", desc := "([B[B)I" } : Jvm.MethodName) jdk_43_method_24_code (2 : Nat) (Option.some Jvm.ClassFile.FieldType.int)) : Jvm.Cond).before a0 Z = true := hw _ (List.mem_of_getElem? (i := 69) rfl)
theorem w70 {Z : State} {a0 : Array Value} (hw : ∀ d ∈ tables_1, d.before a0 Z = true) : ((Jvm.Cond.methodLink "java/lang/StringLatin1" (99 : Nat) ({ cls := "java/lang/StringLatin1", name := "indexOf", desc := "([BI[BII)I" } : Jvm.MethodName)) : Jvm.Cond).before a0 Z = true := hw _ (List.mem_of_getElem? (i := 70) rfl)
theorem w71 {Z : State} {a0 : Array Value} (hw : ∀ d ∈ tables_1, d.before a0 Z = true) : ((Jvm.Cond.static ({ cls := "java/lang/StringLatin1", name := "indexOf", desc := "([BI[BII)I" } : Jvm.MethodName)) : Jvm.Cond).before a0 Z = true := hw _ (List.mem_of_getElem? (i := 71) rfl)
theorem w72 {Z : State} {a0 : Array Value} (hw : ∀ d ∈ tables_1, d.before a0 Z = true) : ((Jvm.Cond.code ({ cls := "java/lang/StringLatin1", name := "indexOf", desc := "([BI[BII)I" } : Jvm.MethodName) jdk_43_method_25_code (11 : Nat) (Option.some Jvm.ClassFile.FieldType.int)) : Jvm.Cond).before a0 Z = true := hw _ (List.mem_of_getElem? (i := 72) rfl)
theorem w73 {Z : State} {a0 : Array Value} (hw : ∀ d ∈ tables_1, d.before a0 Z = true) : ((Jvm.Cond.methodLink "com/example/ranker/ranker/PageUrl" (7 : Nat) ({ cls := "java/lang/String", name := "length", desc := "()I" } : Jvm.MethodName)) : Jvm.Cond).before a0 Z = true := hw _ (List.mem_of_getElem? (i := 73) rfl)
theorem w74 {Z : State} {a0 : Array Value} (hw : ∀ d ∈ tables_1, d.before a0 Z = true) : ((Jvm.Cond.declares ({ cls := "java/lang/String", name := "length", desc := "()I" } : Jvm.MethodName)) : Jvm.Cond).before a0 Z = true := hw _ (List.mem_of_getElem? (i := 74) rfl)
theorem w75 {Z : State} {a0 : Array Value} (hw : ∀ d ∈ tables_1, d.before a0 Z = true) : ((Jvm.Cond.instanceMethod ({ cls := "java/lang/String", name := "length", desc := "()I" } : Jvm.MethodName)) : Jvm.Cond).before a0 Z = true := hw _ (List.mem_of_getElem? (i := 75) rfl)
theorem w76 {Z : State} {a0 : Array Value} (hw : ∀ d ∈ tables_1, d.before a0 Z = true) : ((Jvm.Cond.selects "java/lang/String" ({ cls := "java/lang/String", name := "length", desc := "()I" } : Jvm.MethodName) ({ cls := "java/lang/String", name := "length", desc := "()I" } : Jvm.MethodName)) : Jvm.Cond).before a0 Z = true := hw _ (List.mem_of_getElem? (i := 76) rfl)
theorem w77 {Z : State} {a0 : Array Value} (hw : ∀ d ∈ tables_1, d.before a0 Z = true) : ((Jvm.Cond.code ({ cls := "java/lang/String", name := "length", desc := "()I" } : Jvm.MethodName) jdk_42_method_54_code (1 : Nat) (Option.some Jvm.ClassFile.FieldType.int)) : Jvm.Cond).before a0 Z = true := hw _ (List.mem_of_getElem? (i := 77) rfl)
theorem w78 {Z : State} {a0 : Array Value} (hw : ∀ d ∈ tables_1, d.before a0 Z = true) : ((Jvm.Cond.methodLink "com/example/ranker/ranker/PageUrl" (25 : Nat) ({ cls := "java/lang/String", name := "charAt", desc := "(I)C" } : Jvm.MethodName)) : Jvm.Cond).before a0 Z = true := hw _ (List.mem_of_getElem? (i := 78) rfl)
theorem w79 {Z : State} {a0 : Array Value} (hw : ∀ d ∈ tables_1, d.before a0 Z = true) : ((Jvm.Cond.declares ({ cls := "java/lang/String", name := "charAt", desc := "(I)C" } : Jvm.MethodName)) : Jvm.Cond).before a0 Z = true := hw _ (List.mem_of_getElem? (i := 79) rfl)
theorem w80 {Z : State} {a0 : Array Value} (hw : ∀ d ∈ tables_1, d.before a0 Z = true) : ((Jvm.Cond.instanceMethod ({ cls := "java/lang/String", name := "charAt", desc := "(I)C" } : Jvm.MethodName)) : Jvm.Cond).before a0 Z = true := hw _ (List.mem_of_getElem? (i := 80) rfl)
theorem w81 {Z : State} {a0 : Array Value} (hw : ∀ d ∈ tables_1, d.before a0 Z = true) : ((Jvm.Cond.selects "java/lang/String" ({ cls := "java/lang/String", name := "charAt", desc := "(I)C" } : Jvm.MethodName) ({ cls := "java/lang/String", name := "charAt", desc := "(I)C" } : Jvm.MethodName)) : Jvm.Cond).before a0 Z = true := hw _ (List.mem_of_getElem? (i := 81) rfl)
theorem w82 {Z : State} {a0 : Array Value} (hw : ∀ d ∈ tables_1, d.before a0 Z = true) : ((Jvm.Cond.code ({ cls := "java/lang/String", name := "charAt", desc := "(I)C" } : Jvm.MethodName) jdk_42_method_56_code (2 : Nat) (Option.some Jvm.ClassFile.FieldType.char)) : Jvm.Cond).before a0 Z = true := hw _ (List.mem_of_getElem? (i := 82) rfl)
theorem w83 {Z : State} {a0 : Array Value} (hw : ∀ d ∈ tables_1, d.before a0 Z = true) : ((Jvm.Cond.methodLink "java/lang/String" (495 : Nat) ({ cls := "java/lang/StringLatin1", name := "charAt", desc := "([BI)C" } : Jvm.MethodName)) : Jvm.Cond).before a0 Z = true := hw _ (List.mem_of_getElem? (i := 83) rfl)
theorem w84 {Z : State} {a0 : Array Value} (hw : ∀ d ∈ tables_1, d.before a0 Z = true) : ((Jvm.Cond.static ({ cls := "java/lang/StringLatin1", name := "charAt", desc := "([BI)C" } : Jvm.MethodName)) : Jvm.Cond).before a0 Z = true := hw _ (List.mem_of_getElem? (i := 84) rfl)
theorem w85 {Z : State} {a0 : Array Value} (hw : ∀ d ∈ tables_1, d.before a0 Z = true) : ((Jvm.Cond.code ({ cls := "java/lang/StringLatin1", name := "charAt", desc := "([BI)C" } : Jvm.MethodName) jdk_43_method_2_code (2 : Nat) (Option.some Jvm.ClassFile.FieldType.char)) : Jvm.Cond).before a0 Z = true := hw _ (List.mem_of_getElem? (i := 85) rfl)
theorem w86 {Z : State} {a0 : Array Value} (hw : ∀ d ∈ tables_1, d.before a0 Z = true) : ((Jvm.Cond.methodLink "java/lang/StringLatin1" (9 : Nat) ({ cls := "java/lang/String", name := "checkIndex", desc := "(II)V" } : Jvm.MethodName)) : Jvm.Cond).before a0 Z = true := hw _ (List.mem_of_getElem? (i := 86) rfl)
theorem w87 {Z : State} {a0 : Array Value} (hw : ∀ d ∈ tables_1, d.before a0 Z = true) : ((Jvm.Cond.static ({ cls := "java/lang/String", name := "checkIndex", desc := "(II)V" } : Jvm.MethodName)) : Jvm.Cond).before a0 Z = true := hw _ (List.mem_of_getElem? (i := 87) rfl)
theorem w88 {Z : State} {a0 : Array Value} (hw : ∀ d ∈ tables_1, d.before a0 Z = true) : ((Jvm.Cond.code ({ cls := "java/lang/String", name := "checkIndex", desc := "(II)V" } : Jvm.MethodName) jdk_42_method_155_code (2 : Nat) (Option.none : Option Jvm.ClassFile.FieldType)) : Jvm.Cond).before a0 Z = true := hw _ (List.mem_of_getElem? (i := 88) rfl)
theorem w89 {Z : State} {a0 : Array Value} (hw : ∀ d ∈ tables_1, d.before a0 Z = true) : ((Jvm.Cond.fieldLink "java/lang/String" (1053 : Nat) "jdk/internal/util/Preconditions" "SIOOBE_FORMATTER" "Ljava/util/function/BiFunction;") : Jvm.Cond).before a0 Z = true := hw _ (List.mem_of_getElem? (i := 89) rfl)
theorem w90 {Z : State} {a0 : Array Value} (hw : ∀ d ∈ tables_1, d.before a0 Z = true) : ((Jvm.Cond.initialized "jdk/internal/util/Preconditions") : Jvm.Cond).before a0 Z = true := hw _ (List.mem_of_getElem? (i := 90) rfl)
theorem w91 {Z : State} {a0 : Array Value} (hw : ∀ d ∈ tables_1, d.before a0 Z = true) : ((Jvm.Cond.methodLink "java/lang/String" (1059 : Nat) ({ cls := "jdk/internal/util/Preconditions", name := "checkIndex", desc := "(IILjava/util/function/BiFunction;)I" } : Jvm.MethodName)) : Jvm.Cond).before a0 Z = true := hw _ (List.mem_of_getElem? (i := 91) rfl)
theorem w92 {Z : State} {a0 : Array Value} (hw : ∀ d ∈ tables_1, d.before a0 Z = true) : ((Jvm.Cond.static ({ cls := "jdk/internal/util/Preconditions", name := "checkIndex", desc := "(IILjava/util/function/BiFunction;)I" } : Jvm.MethodName)) : Jvm.Cond).before a0 Z = true := hw _ (List.mem_of_getElem? (i := 92) rfl)
theorem w93 {Z : State} {a0 : Array Value} (hw : ∀ d ∈ tables_1, d.before a0 Z = true) : ((Jvm.Cond.code ({ cls := "jdk/internal/util/Preconditions", name := "checkIndex", desc := "(IILjava/util/function/BiFunction;)I" } : Jvm.MethodName) jdk_41_method_11_code (3 : Nat) (Option.some Jvm.ClassFile.FieldType.int)) : Jvm.Cond).before a0 Z = true := hw _ (List.mem_of_getElem? (i := 93) rfl)
theorem w94 {Z : State} {a0 : Array Value} (hw : ∀ d ∈ tables_1, d.before a0 Z = true) : ((Jvm.Cond.stringLink "java/lang/String" (7 : Nat) "") : Jvm.Cond).before a0 Z = true := hw _ (List.mem_of_getElem? (i := 94) rfl)
theorem d1_0 : decode method_2_code 0 = .ok (.iload_n 0, 1) := by decide +kernel
theorem d1_1 : decode method_2_code 1 = .ok (.iconst 3, 1) := by decide +kernel
theorem d1_2 : decode method_2_code 2 = .ok (.iand, 1) := by decide +kernel
theorem d1_3 : decode method_2_code 3 = .ok (.istore_n 1, 1) := by decide +kernel
theorem d1_4 : decode method_2_code 4 = .ok (.iload_n 0, 1) := by decide +kernel
theorem d1_5 : decode method_2_code 5 = .ok (.iconst 2, 1) := by decide +kernel
theorem d1_6 : decode method_2_code 6 = .ok (.iushr, 1) := by decide +kernel
theorem d1_7 : decode method_2_code 7 = .ok (.sipush 255, 3) := by decide +kernel
theorem d1_10 : decode method_2_code 10 = .ok (.iand, 1) := by decide +kernel
theorem d1_11 : decode method_2_code 11 = .ok (.istore_n 2, 1) := by decide +kernel
theorem d1_12 : decode method_2_code 12 = .ok (.iload_n 1, 1) := by decide +kernel
theorem d1_13 : decode method_2_code 13 = .ok (.ifCond .ne 6, 3) := by decide +kernel
theorem d1_16 : decode method_2_code 16 = .ok (.bipush 58, 2) := by decide +kernel
theorem d1_18 : decode method_2_code 18 = .ok (.ireturn, 1) := by decide +kernel
theorem d1_19 : decode method_2_code 19 = .ok (.iload_n 1, 1) := by decide +kernel
theorem d1_20 : decode method_2_code 20 = .ok (.iconst 1, 1) := by decide +kernel
theorem d1_21 : decode method_2_code 21 = .ok (.if_icmp .ne 6, 3) := by decide +kernel
theorem d1_24 : decode method_2_code 24 = .ok (.bipush 47, 2) := by decide +kernel
theorem d1_26 : decode method_2_code 26 = .ok (.ireturn, 1) := by decide +kernel
theorem d1_27 : decode method_2_code 27 = .ok (.iload_n 2, 1) := by decide +kernel
theorem d1_28 : decode method_2_code 28 = .ok (.i2c, 1) := by decide +kernel
theorem d1_29 : decode method_2_code 29 = .ok (.ireturn, 1) := by decide +kernel
theorem d2_0 : decode method_3_code 0 = .ok (.iload_n 1, 1) := by decide +kernel
theorem d2_1 : decode method_3_code 1 = .ok (.aload_n 0, 1) := by decide +kernel
theorem d2_2 : decode method_3_code 2 = .ok (.arraylength, 1) := by decide +kernel
theorem d2_3 : decode method_3_code 3 = .ok (.if_icmp .ge 7, 3) := by decide +kernel
theorem d2_6 : decode method_3_code 6 = .ok (.aload_n 0, 1) := by decide +kernel
theorem d2_7 : decode method_3_code 7 = .ok (.iload_n 1, 1) := by decide +kernel
theorem d2_8 : decode method_3_code 8 = .ok (.iload_n 2, 1) := by decide +kernel
theorem d2_9 : decode method_3_code 9 = .ok (.castore, 1) := by decide +kernel
theorem d2_10 : decode method_3_code 10 = .ok (.return_, 1) := by decide +kernel
theorem d3_0 : decode jdk_42_method_3_code 0 = .ok (.aload_n 0, 1) := by decide +kernel
theorem d3_1 : decode jdk_42_method_3_code 1 = .ok (.aload_n 1, 1) := by decide +kernel
theorem d3_2 : decode jdk_42_method_3_code 2 = .ok (.iconst 0, 1) := by decide +kernel
theorem d3_3 : decode jdk_42_method_3_code 3 = .ok (.aload_n 1, 1) := by decide +kernel
theorem d3_4 : decode jdk_42_method_3_code 4 = .ok (.arraylength, 1) := by decide +kernel
theorem d3_5 : decode jdk_42_method_3_code 5 = .ok (.aconst_null, 1) := by decide +kernel
theorem d3_6 : decode jdk_42_method_3_code 6 = .ok (.invokespecial 27, 3) := by decide +kernel
theorem d3_9 : decode jdk_42_method_3_code 9 = .ok (.return_, 1) := by decide +kernel
theorem d4_0 : decode jdk_42_method_149_code 0 = .ok (.aload_n 0, 1) := by decide +kernel
theorem d4_1 : decode jdk_42_method_149_code 1 = .ok (.invokespecial 1, 3) := by decide +kernel
theorem d4_4 : decode jdk_42_method_149_code 4 = .ok (.iload_n 3, 1) := by decide +kernel
theorem d4_5 : decode jdk_42_method_149_code 5 = .ok (.ifCond .ne 22, 3) := by decide +kernel
theorem d4_8 : decode jdk_42_method_149_code 8 = .ok (.aload_n 0, 1) := by decide +kernel
theorem d4_9 : decode jdk_42_method_149_code 9 = .ok (.ldc 7, 2) := by decide +kernel
theorem d4_11 : decode jdk_42_method_149_code 11 = .ok (.getfield 9, 3) := by decide +kernel
theorem d4_14 : decode jdk_42_method_149_code 14 = .ok (.putfield 9, 3) := by decide +kernel
theorem d4_17 : decode jdk_42_method_149_code 17 = .ok (.aload_n 0, 1) := by decide +kernel
theorem d4_18 : decode jdk_42_method_149_code 18 = .ok (.ldc 7, 2) := by decide +kernel
theorem d4_20 : decode jdk_42_method_149_code 20 = .ok (.getfield 15, 3) := by decide +kernel
theorem d4_23 : decode jdk_42_method_149_code 23 = .ok (.putfield 15, 3) := by decide +kernel
theorem d4_26 : decode jdk_42_method_149_code 26 = .ok (.return_, 1) := by decide +kernel
theorem d4_27 : decode jdk_42_method_149_code 27 = .ok (.getstatic 38, 3) := by decide +kernel
theorem d4_30 : decode jdk_42_method_149_code 30 = .ok (.ifCond .eq 28, 3) := by decide +kernel
theorem d4_33 : decode jdk_42_method_149_code 33 = .ok (.aload_n 1, 1) := by decide +kernel
theorem d4_34 : decode jdk_42_method_149_code 34 = .ok (.iload_n 2, 1) := by decide +kernel
theorem d4_35 : decode jdk_42_method_149_code 35 = .ok (.iload_n 3, 1) := by decide +kernel
theorem d4_36 : decode jdk_42_method_149_code 36 = .ok (.invokestatic 177, 3) := by decide +kernel
theorem d4_39 : decode jdk_42_method_149_code 39 = .ok (.astore 5, 2) := by decide +kernel
theorem d4_41 : decode jdk_42_method_149_code 41 = .ok (.aload_n 0, 1) := by decide +kernel
theorem d4_42 : decode jdk_42_method_149_code 42 = .ok (.aload 5, 2) := by decide +kernel
theorem d4_44 : decode jdk_42_method_149_code 44 = .ok (.iload_n 3, 1) := by decide +kernel
theorem d4_45 : decode jdk_42_method_149_code 45 = .ok (.invokestatic 47, 3) := by decide +kernel
theorem d4_48 : decode jdk_42_method_149_code 48 = .ok (.putfield 15, 3) := by decide +kernel
theorem d4_51 : decode jdk_42_method_149_code 51 = .ok (.aload_n 0, 1) := by decide +kernel
theorem d4_52 : decode jdk_42_method_149_code 52 = .ok (.aload 5, 2) := by decide +kernel
theorem d4_54 : decode jdk_42_method_149_code 54 = .ok (.putfield 9, 3) := by decide +kernel
theorem d4_57 : decode jdk_42_method_149_code 57 = .ok (.return_, 1) := by decide +kernel
theorem d6_0 : decode jdk_52_method_16_code 0 = .ok (.iload_n 2, 1) := by decide +kernel
theorem d6_1 : decode jdk_52_method_16_code 1 = .ok (.newarray .byte, 2) := by decide +kernel
theorem d6_3 : decode jdk_52_method_16_code 3 = .ok (.astore_n 3, 1) := by decide +kernel
theorem d6_4 : decode jdk_52_method_16_code 4 = .ok (.aload_n 0, 1) := by decide +kernel
theorem d6_5 : decode jdk_52_method_16_code 5 = .ok (.iload_n 1, 1) := by decide +kernel
theorem d6_6 : decode jdk_52_method_16_code 6 = .ok (.aload_n 3, 1) := by decide +kernel
theorem d6_7 : decode jdk_52_method_16_code 7 = .ok (.iconst 0, 1) := by decide +kernel
theorem d6_8 : decode jdk_52_method_16_code 8 = .ok (.iload_n 2, 1) := by decide +kernel
theorem d6_9 : decode jdk_52_method_16_code 9 = .ok (.invokestatic 115, 3) := by decide +kernel
theorem d6_12 : decode jdk_52_method_16_code 12 = .ok (.istore 4, 2) := by decide +kernel
theorem d6_14 : decode jdk_52_method_16_code 14 = .ok (.iload 4, 2) := by decide +kernel
theorem d6_16 : decode jdk_52_method_16_code 16 = .ok (.iload_n 2, 1) := by decide +kernel
theorem d6_17 : decode jdk_52_method_16_code 17 = .ok (.if_icmp .eq 40, 3) := by decide +kernel
theorem d6_57 : decode jdk_52_method_16_code 57 = .ok (.aload_n 3, 1) := by decide +kernel
theorem d6_58 : decode jdk_52_method_16_code 58 = .ok (.areturn, 1) := by decide +kernel
theorem d7_0 : decode jdk_52_method_21_code 0 = .ok (.iconst 0, 1) := by decide +kernel
theorem d7_1 : decode jdk_52_method_21_code 1 = .ok (.istore 5, 2) := by decide +kernel
theorem d7_3 : decode jdk_52_method_21_code 3 = .ok (.iload 5, 2) := by decide +kernel
theorem d7_5 : decode jdk_52_method_21_code 5 = .ok (.iload 4, 2) := by decide +kernel
theorem d7_7 : decode jdk_52_method_21_code 7 = .ok (.if_icmp .ge 37, 3) := by decide +kernel
theorem d7_10 : decode jdk_52_method_21_code 10 = .ok (.aload_n 0, 1) := by decide +kernel
theorem d7_11 : decode jdk_52_method_21_code 11 = .ok (.iload_n 1, 1) := by decide +kernel
theorem d7_12 : decode jdk_52_method_21_code 12 = .ok (.caload, 1) := by decide +kernel
theorem d7_13 : decode jdk_52_method_21_code 13 = .ok (.istore 6, 2) := by decide +kernel
theorem d7_15 : decode jdk_52_method_21_code 15 = .ok (.iload 6, 2) := by decide +kernel
theorem d7_17 : decode jdk_52_method_21_code 17 = .ok (.sipush 255, 3) := by decide +kernel
theorem d7_20 : decode jdk_52_method_21_code 20 = .ok (.if_icmp .le 6, 3) := by decide +kernel
theorem d7_26 : decode jdk_52_method_21_code 26 = .ok (.aload_n 2, 1) := by decide +kernel
theorem d7_27 : decode jdk_52_method_21_code 27 = .ok (.iload_n 3, 1) := by decide +kernel
theorem d7_28 : decode jdk_52_method_21_code 28 = .ok (.iload 6, 2) := by decide +kernel
theorem d7_30 : decode jdk_52_method_21_code 30 = .ok (.i2b, 1) := by decide +kernel
theorem d7_31 : decode jdk_52_method_21_code 31 = .ok (.bastore, 1) := by decide +kernel
theorem d7_32 : decode jdk_52_method_21_code 32 = .ok (.iinc 1 1, 3) := by decide +kernel
theorem d7_35 : decode jdk_52_method_21_code 35 = .ok (.iinc 3 1, 3) := by decide +kernel
theorem d7_38 : decode jdk_52_method_21_code 38 = .ok (.iinc 5 1, 3) := by decide +kernel
theorem d7_41 : decode jdk_52_method_21_code 41 = .ok (.goto (-38), 3) := by decide +kernel
theorem d7_44 : decode jdk_52_method_21_code 44 = .ok (.iload 4, 2) := by decide +kernel
theorem d7_46 : decode jdk_52_method_21_code 46 = .ok (.ireturn, 1) := by decide +kernel
theorem d8_0 : decode jdk_52_method_15_code 0 = .ok (.iload_n 1, 1) := by decide +kernel
theorem d8_1 : decode jdk_52_method_15_code 1 = .ok (.aload_n 0, 1) := by decide +kernel
theorem d8_2 : decode jdk_52_method_15_code 2 = .ok (.arraylength, 1) := by decide +kernel
theorem d8_3 : decode jdk_52_method_15_code 3 = .ok (.isub, 1) := by decide +kernel
theorem d8_4 : decode jdk_52_method_15_code 4 = .ok (.bipush 31, 2) := by decide +kernel
theorem d8_6 : decode jdk_52_method_15_code 6 = .ok (.iushr, 1) := by decide +kernel
theorem d8_7 : decode jdk_52_method_15_code 7 = .ok (.i2b, 1) := by decide +kernel
theorem d8_8 : decode jdk_52_method_15_code 8 = .ok (.ireturn, 1) := by decide +kernel
theorem d9_0 : decode method_4_code 0 = .ok (.iload_n 2, 1) := by decide +kernel
theorem d9_1 : decode method_4_code 1 = .ok (.iconst 2, 1) := by decide +kernel
theorem d9_2 : decode method_4_code 2 = .ok (.iadd, 1) := by decide +kernel
theorem d9_3 : decode method_4_code 3 = .ok (.iload_n 1, 1) := by decide +kernel
theorem d9_4 : decode method_4_code 4 = .ok (.if_icmp .ge 35, 3) := by decide +kernel
theorem d9_7 : decode method_4_code 7 = .ok (.aload_n 0, 1) := by decide +kernel
theorem d9_8 : decode method_4_code 8 = .ok (.iload_n 2, 1) := by decide +kernel
theorem d9_9 : decode method_4_code 9 = .ok (.caload, 1) := by decide +kernel
theorem d9_10 : decode method_4_code 10 = .ok (.bipush 58, 2) := by decide +kernel
theorem d9_12 : decode method_4_code 12 = .ok (.if_icmp .ne 27, 3) := by decide +kernel
theorem d9_15 : decode method_4_code 15 = .ok (.aload_n 0, 1) := by decide +kernel
theorem d9_16 : decode method_4_code 16 = .ok (.iload_n 2, 1) := by decide +kernel
theorem d9_17 : decode method_4_code 17 = .ok (.iconst 1, 1) := by decide +kernel
theorem d9_18 : decode method_4_code 18 = .ok (.iadd, 1) := by decide +kernel
theorem d9_19 : decode method_4_code 19 = .ok (.caload, 1) := by decide +kernel
theorem d9_20 : decode method_4_code 20 = .ok (.bipush 47, 2) := by decide +kernel
theorem d9_22 : decode method_4_code 22 = .ok (.if_icmp .ne 17, 3) := by decide +kernel
theorem d9_25 : decode method_4_code 25 = .ok (.aload_n 0, 1) := by decide +kernel
theorem d9_26 : decode method_4_code 26 = .ok (.iload_n 2, 1) := by decide +kernel
theorem d9_27 : decode method_4_code 27 = .ok (.iconst 2, 1) := by decide +kernel
theorem d9_28 : decode method_4_code 28 = .ok (.iadd, 1) := by decide +kernel
theorem d9_29 : decode method_4_code 29 = .ok (.caload, 1) := by decide +kernel
theorem d9_30 : decode method_4_code 30 = .ok (.bipush 47, 2) := by decide +kernel
theorem d9_32 : decode method_4_code 32 = .ok (.if_icmp .ne 7, 3) := by decide +kernel
theorem d9_35 : decode method_4_code 35 = .ok (.iconst 1, 1) := by decide +kernel
theorem d9_36 : decode method_4_code 36 = .ok (.goto 4, 3) := by decide +kernel
theorem d9_39 : decode method_4_code 39 = .ok (.iconst 0, 1) := by decide +kernel
theorem d9_40 : decode method_4_code 40 = .ok (.ireturn, 1) := by decide +kernel
theorem d10_0 : decode method_5_code 0 = .ok (.iload_n 3, 1) := by decide +kernel
theorem d10_1 : decode method_5_code 1 = .ok (.iload_n 2, 1) := by decide +kernel
theorem d10_2 : decode method_5_code 2 = .ok (.if_icmp .lt 20, 3) := by decide +kernel
theorem d10_5 : decode method_5_code 5 = .ok (.iload_n 3, 1) := by decide +kernel
theorem d10_6 : decode method_5_code 6 = .ok (.iload_n 1, 1) := by decide +kernel
theorem d10_7 : decode method_5_code 7 = .ok (.if_icmp .ge 15, 3) := by decide +kernel
theorem d10_10 : decode method_5_code 10 = .ok (.aload_n 0, 1) := by decide +kernel
theorem d10_11 : decode method_5_code 11 = .ok (.iload_n 3, 1) := by decide +kernel
theorem d10_12 : decode method_5_code 12 = .ok (.caload, 1) := by decide +kernel
theorem d10_13 : decode method_5_code 13 = .ok (.bipush 47, 2) := by decide +kernel
theorem d10_15 : decode method_5_code 15 = .ok (.if_icmp .ne 7, 3) := by decide +kernel
theorem d10_18 : decode method_5_code 18 = .ok (.iconst 1, 1) := by decide +kernel
theorem d10_19 : decode method_5_code 19 = .ok (.goto 4, 3) := by decide +kernel
theorem d10_22 : decode method_5_code 22 = .ok (.iconst 0, 1) := by decide +kernel
theorem d10_23 : decode method_5_code 23 = .ok (.ireturn, 1) := by decide +kernel
theorem d11_0 : decode prog_20_method_3_code 0 = .ok (.aload_n 0, 1) := by decide +kernel
theorem d11_1 : decode prog_20_method_3_code 1 = .ok (.ldc 19, 2) := by decide +kernel
theorem d11_3 : decode prog_20_method_3_code 3 = .ok (.invokevirtual 21, 3) := by decide +kernel
theorem d11_6 : decode prog_20_method_3_code 6 = .ok (.istore_n 1, 1) := by decide +kernel
theorem d11_7 : decode prog_20_method_3_code 7 = .ok (.iconst 0, 1) := by decide +kernel
theorem d11_8 : decode prog_20_method_3_code 8 = .ok (.istore_n 2, 1) := by decide +kernel
theorem d11_9 : decode prog_20_method_3_code 9 = .ok (.iload_n 1, 1) := by decide +kernel
theorem d11_10 : decode prog_20_method_3_code 10 = .ok (.ifCond .ge 7, 3) := by decide +kernel
theorem d11_13 : decode prog_20_method_3_code 13 = .ok (.iconst 0, 1) := by decide +kernel
theorem d11_14 : decode prog_20_method_3_code 14 = .ok (.goto 10, 3) := by decide +kernel
theorem d11_17 : decode prog_20_method_3_code 17 = .ok (.iload_n 1, 1) := by decide +kernel
theorem d11_18 : decode prog_20_method_3_code 18 = .ok (.ldc 19, 2) := by decide +kernel
theorem d11_20 : decode prog_20_method_3_code 20 = .ok (.invokevirtual 7, 3) := by decide +kernel
theorem d11_23 : decode prog_20_method_3_code 23 = .ok (.iadd, 1) := by decide +kernel
theorem d11_24 : decode prog_20_method_3_code 24 = .ok (.istore_n 3, 1) := by decide +kernel
theorem d11_25 : decode prog_20_method_3_code 25 = .ok (.iload_n 3, 1) := by decide +kernel
theorem d11_26 : decode prog_20_method_3_code 26 = .ok (.aload_n 0, 1) := by decide +kernel
theorem d11_27 : decode prog_20_method_3_code 27 = .ok (.invokevirtual 7, 3) := by decide +kernel
theorem d11_30 : decode prog_20_method_3_code 30 = .ok (.if_icmp .ge 22, 3) := by decide +kernel
theorem d11_33 : decode prog_20_method_3_code 33 = .ok (.aload_n 0, 1) := by decide +kernel
theorem d11_34 : decode prog_20_method_3_code 34 = .ok (.iload_n 3, 1) := by decide +kernel
theorem d11_35 : decode prog_20_method_3_code 35 = .ok (.invokevirtual 25, 3) := by decide +kernel
theorem d11_38 : decode prog_20_method_3_code 38 = .ok (.bipush 47, 2) := by decide +kernel
theorem d11_40 : decode prog_20_method_3_code 40 = .ok (.if_icmp .ne 6, 3) := by decide +kernel
theorem d11_43 : decode prog_20_method_3_code 43 = .ok (.iinc 2 1, 3) := by decide +kernel
theorem d11_46 : decode prog_20_method_3_code 46 = .ok (.iinc 3 1, 3) := by decide +kernel
theorem d11_49 : decode prog_20_method_3_code 49 = .ok (.goto (-24), 3) := by decide +kernel
theorem d11_52 : decode prog_20_method_3_code 52 = .ok (.iload_n 2, 1) := by decide +kernel
theorem d11_53 : decode prog_20_method_3_code 53 = .ok (.ireturn, 1) := by decide +kernel
theorem d12_0 : decode jdk_42_method_84_code 0 = .ok (.aload_n 0, 1) := by decide +kernel
theorem d12_1 : decode jdk_42_method_84_code 1 = .ok (.invokevirtual 335, 3) := by decide +kernel
theorem d12_4 : decode jdk_42_method_84_code 4 = .ok (.istore_n 2, 1) := by decide +kernel
theorem d12_5 : decode jdk_42_method_84_code 5 = .ok (.iload_n 2, 1) := by decide +kernel
theorem d12_6 : decode jdk_42_method_84_code 6 = .ok (.aload_n 1, 1) := by decide +kernel
theorem d12_7 : decode jdk_42_method_84_code 7 = .ok (.invokevirtual 335, 3) := by decide +kernel
theorem d12_10 : decode jdk_42_method_84_code 10 = .ok (.if_icmp .ne 36, 3) := by decide +kernel
theorem d12_13 : decode jdk_42_method_84_code 13 = .ok (.aload_n 0, 1) := by decide +kernel
theorem d12_14 : decode jdk_42_method_84_code 14 = .ok (.invokevirtual 492, 3) := by decide +kernel
theorem d12_17 : decode jdk_42_method_84_code 17 = .ok (.ifCond .eq 17, 3) := by decide +kernel
theorem d12_20 : decode jdk_42_method_84_code 20 = .ok (.aload_n 0, 1) := by decide +kernel
theorem d12_21 : decode jdk_42_method_84_code 21 = .ok (.getfield 9, 3) := by decide +kernel
theorem d12_24 : decode jdk_42_method_84_code 24 = .ok (.aload_n 1, 1) := by decide +kernel
theorem d12_25 : decode jdk_42_method_84_code 25 = .ok (.getfield 9, 3) := by decide +kernel
theorem d12_28 : decode jdk_42_method_84_code 28 = .ok (.invokestatic 647, 3) := by decide +kernel
theorem d12_31 : decode jdk_42_method_84_code 31 = .ok (.goto 14, 3) := by decide +kernel
theorem d12_45 : decode jdk_42_method_84_code 45 = .ok (.ireturn, 1) := by decide +kernel
theorem d13_0 : decode jdk_42_method_152_code 0 = .ok (.getstatic 38, 3) := by decide +kernel
theorem d13_3 : decode jdk_42_method_152_code 3 = .ok (.ifCond .eq 10, 3) := by decide +kernel
theorem d13_6 : decode jdk_42_method_152_code 6 = .ok (.aload_n 0, 1) := by decide +kernel
theorem d13_7 : decode jdk_42_method_152_code 7 = .ok (.getfield 15, 3) := by decide +kernel
theorem d13_10 : decode jdk_42_method_152_code 10 = .ok (.goto 4, 3) := by decide +kernel
theorem d13_14 : decode jdk_42_method_152_code 14 = .ok (.ireturn, 1) := by decide +kernel
theorem d14_0 : decode jdk_42_method_154_code 0 = .ok (.getstatic 38, 3) := by decide +kernel
theorem d14_3 : decode jdk_42_method_154_code 3 = .ok (.ifCond .eq 14, 3) := by decide +kernel
theorem d14_6 : decode jdk_42_method_154_code 6 = .ok (.aload_n 0, 1) := by decide +kernel
theorem d14_7 : decode jdk_42_method_154_code 7 = .ok (.getfield 15, 3) := by decide +kernel
theorem d14_10 : decode jdk_42_method_154_code 10 = .ok (.ifCond .ne 7, 3) := by decide +kernel
theorem d14_13 : decode jdk_42_method_154_code 13 = .ok (.iconst 1, 1) := by decide +kernel
theorem d14_14 : decode jdk_42_method_154_code 14 = .ok (.goto 4, 3) := by decide +kernel
theorem d14_18 : decode jdk_42_method_154_code 18 = .ok (.ireturn, 1) := by decide +kernel
theorem d15_0 : decode jdk_43_method_24_code 0 = .ok (.aload_n 1, 1) := by decide +kernel
theorem d15_1 : decode jdk_43_method_24_code 1 = .ok (.arraylength, 1) := by decide +kernel
theorem d15_2 : decode jdk_43_method_24_code 2 = .ok (.ifCond .ne 5, 3) := by decide +kernel
theorem d15_7 : decode jdk_43_method_24_code 7 = .ok (.aload_n 0, 1) := by decide +kernel
theorem d15_8 : decode jdk_43_method_24_code 8 = .ok (.arraylength, 1) := by decide +kernel
theorem d15_9 : decode jdk_43_method_24_code 9 = .ok (.ifCond .ne 5, 3) := by decide +kernel
theorem d15_12 : decode jdk_43_method_24_code 12 = .ok (.iconst (-1), 1) := by decide +kernel
theorem d15_13 : decode jdk_43_method_24_code 13 = .ok (.ireturn, 1) := by decide +kernel
theorem d15_14 : decode jdk_43_method_24_code 14 = .ok (.aload_n 0, 1) := by decide +kernel
theorem d15_15 : decode jdk_43_method_24_code 15 = .ok (.aload_n 0, 1) := by decide +kernel
theorem d15_16 : decode jdk_43_method_24_code 16 = .ok (.arraylength, 1) := by decide +kernel
theorem d15_17 : decode jdk_43_method_24_code 17 = .ok (.aload_n 1, 1) := by decide +kernel
theorem d15_18 : decode jdk_43_method_24_code 18 = .ok (.aload_n 1, 1) := by decide +kernel
theorem d15_19 : decode jdk_43_method_24_code 19 = .ok (.arraylength, 1) := by decide +kernel
theorem d15_20 : decode jdk_43_method_24_code 20 = .ok (.iconst 0, 1) := by decide +kernel
theorem d15_21 : decode jdk_43_method_24_code 21 = .ok (.invokestatic 99, 3) := by decide +kernel
theorem d15_24 : decode jdk_43_method_24_code 24 = .ok (.ireturn, 1) := by decide +kernel
theorem d16_0 : decode jdk_43_method_25_code 0 = .ok (.aload_n 2, 1) := by decide +kernel
theorem d16_1 : decode jdk_43_method_25_code 1 = .ok (.iconst 0, 1) := by decide +kernel
theorem d16_2 : decode jdk_43_method_25_code 2 = .ok (.baload, 1) := by decide +kernel
theorem d16_3 : decode jdk_43_method_25_code 3 = .ok (.istore 5, 2) := by decide +kernel
theorem d16_5 : decode jdk_43_method_25_code 5 = .ok (.iload_n 1, 1) := by decide +kernel
theorem d16_6 : decode jdk_43_method_25_code 6 = .ok (.iload_n 3, 1) := by decide +kernel
theorem d16_7 : decode jdk_43_method_25_code 7 = .ok (.isub, 1) := by decide +kernel
theorem d16_8 : decode jdk_43_method_25_code 8 = .ok (.istore 6, 2) := by decide +kernel
theorem d16_10 : decode jdk_43_method_25_code 10 = .ok (.iload 4, 2) := by decide +kernel
theorem d16_12 : decode jdk_43_method_25_code 12 = .ok (.istore 7, 2) := by decide +kernel
theorem d16_14 : decode jdk_43_method_25_code 14 = .ok (.iload 7, 2) := by decide +kernel
theorem d16_16 : decode jdk_43_method_25_code 16 = .ok (.iload 6, 2) := by decide +kernel
theorem d16_18 : decode jdk_43_method_25_code 18 = .ok (.if_icmp .gt 101, 3) := by decide +kernel
theorem d16_21 : decode jdk_43_method_25_code 21 = .ok (.aload_n 0, 1) := by decide +kernel
theorem d16_22 : decode jdk_43_method_25_code 22 = .ok (.iload 7, 2) := by decide +kernel
theorem d16_24 : decode jdk_43_method_25_code 24 = .ok (.baload, 1) := by decide +kernel
theorem d16_25 : decode jdk_43_method_25_code 25 = .ok (.iload 5, 2) := by decide +kernel
theorem d16_27 : decode jdk_43_method_25_code 27 = .ok (.if_icmp .eq 25, 3) := by decide +kernel
theorem d16_30 : decode jdk_43_method_25_code 30 = .ok (.iinc 7 1, 3) := by decide +kernel
theorem d16_33 : decode jdk_43_method_25_code 33 = .ok (.iload 7, 2) := by decide +kernel
theorem d16_35 : decode jdk_43_method_25_code 35 = .ok (.iload 6, 2) := by decide +kernel
theorem d16_37 : decode jdk_43_method_25_code 37 = .ok (.if_icmp .gt 15, 3) := by decide +kernel
theorem d16_40 : decode jdk_43_method_25_code 40 = .ok (.aload_n 0, 1) := by decide +kernel
theorem d16_41 : decode jdk_43_method_25_code 41 = .ok (.iload 7, 2) := by decide +kernel
theorem d16_43 : decode jdk_43_method_25_code 43 = .ok (.baload, 1) := by decide +kernel
theorem d16_44 : decode jdk_43_method_25_code 44 = .ok (.iload 5, 2) := by decide +kernel
theorem d16_46 : decode jdk_43_method_25_code 46 = .ok (.if_icmp .eq 6, 3) := by decide +kernel
theorem d16_49 : decode jdk_43_method_25_code 49 = .ok (.goto (-19), 3) := by decide +kernel
theorem d16_52 : decode jdk_43_method_25_code 52 = .ok (.iload 7, 2) := by decide +kernel
theorem d16_54 : decode jdk_43_method_25_code 54 = .ok (.iload 6, 2) := by decide +kernel
theorem d16_56 : decode jdk_43_method_25_code 56 = .ok (.if_icmp .gt 57, 3) := by decide +kernel
theorem d16_59 : decode jdk_43_method_25_code 59 = .ok (.iload 7, 2) := by decide +kernel
theorem d16_61 : decode jdk_43_method_25_code 61 = .ok (.iconst 1, 1) := by decide +kernel
theorem d16_62 : decode jdk_43_method_25_code 62 = .ok (.iadd, 1) := by decide +kernel
theorem d16_63 : decode jdk_43_method_25_code 63 = .ok (.istore 8, 2) := by decide +kernel
theorem d16_65 : decode jdk_43_method_25_code 65 = .ok (.iload 8, 2) := by decide +kernel
theorem d16_67 : decode jdk_43_method_25_code 67 = .ok (.iload_n 3, 1) := by decide +kernel
theorem d16_68 : decode jdk_43_method_25_code 68 = .ok (.iadd, 1) := by decide +kernel
theorem d16_69 : decode jdk_43_method_25_code 69 = .ok (.iconst 1, 1) := by decide +kernel
theorem d16_70 : decode jdk_43_method_25_code 70 = .ok (.isub, 1) := by decide +kernel
theorem d16_71 : decode jdk_43_method_25_code 71 = .ok (.istore 9, 2) := by decide +kernel
theorem d16_73 : decode jdk_43_method_25_code 73 = .ok (.iconst 1, 1) := by decide +kernel
theorem d16_74 : decode jdk_43_method_25_code 74 = .ok (.istore 10, 2) := by decide +kernel
theorem d16_76 : decode jdk_43_method_25_code 76 = .ok (.iload 8, 2) := by decide +kernel
theorem d16_78 : decode jdk_43_method_25_code 78 = .ok (.iload 9, 2) := by decide +kernel
theorem d16_80 : decode jdk_43_method_25_code 80 = .ok (.if_icmp .ge 23, 3) := by decide +kernel
theorem d16_83 : decode jdk_43_method_25_code 83 = .ok (.aload_n 0, 1) := by decide +kernel
theorem d16_84 : decode jdk_43_method_25_code 84 = .ok (.iload 8, 2) := by decide +kernel
theorem d16_86 : decode jdk_43_method_25_code 86 = .ok (.baload, 1) := by decide +kernel
theorem d16_87 : decode jdk_43_method_25_code 87 = .ok (.aload_n 2, 1) := by decide +kernel
theorem d16_88 : decode jdk_43_method_25_code 88 = .ok (.iload 10, 2) := by decide +kernel
theorem d16_90 : decode jdk_43_method_25_code 90 = .ok (.baload, 1) := by decide +kernel
theorem d16_91 : decode jdk_43_method_25_code 91 = .ok (.if_icmp .ne 12, 3) := by decide +kernel
theorem d16_94 : decode jdk_43_method_25_code 94 = .ok (.iinc 8 1, 3) := by decide +kernel
theorem d16_97 : decode jdk_43_method_25_code 97 = .ok (.iinc 10 1, 3) := by decide +kernel
theorem d16_100 : decode jdk_43_method_25_code 100 = .ok (.goto (-24), 3) := by decide +kernel
theorem d16_103 : decode jdk_43_method_25_code 103 = .ok (.iload 8, 2) := by decide +kernel
theorem d16_105 : decode jdk_43_method_25_code 105 = .ok (.iload 9, 2) := by decide +kernel
theorem d16_107 : decode jdk_43_method_25_code 107 = .ok (.if_icmp .ne 6, 3) := by decide +kernel
theorem d16_110 : decode jdk_43_method_25_code 110 = .ok (.iload 7, 2) := by decide +kernel
theorem d16_112 : decode jdk_43_method_25_code 112 = .ok (.ireturn, 1) := by decide +kernel
theorem d16_113 : decode jdk_43_method_25_code 113 = .ok (.iinc 7 1, 3) := by decide +kernel
theorem d16_116 : decode jdk_43_method_25_code 116 = .ok (.goto (-102), 3) := by decide +kernel
theorem d16_119 : decode jdk_43_method_25_code 119 = .ok (.iconst (-1), 1) := by decide +kernel
theorem d16_120 : decode jdk_43_method_25_code 120 = .ok (.ireturn, 1) := by decide +kernel
theorem d17_0 : decode jdk_42_method_54_code 0 = .ok (.aload_n 0, 1) := by decide +kernel
theorem d17_1 : decode jdk_42_method_54_code 1 = .ok (.getfield 9, 3) := by decide +kernel
theorem d17_4 : decode jdk_42_method_54_code 4 = .ok (.arraylength, 1) := by decide +kernel
theorem d17_5 : decode jdk_42_method_54_code 5 = .ok (.aload_n 0, 1) := by decide +kernel
theorem d17_6 : decode jdk_42_method_54_code 6 = .ok (.invokevirtual 335, 3) := by decide +kernel
theorem d17_9 : decode jdk_42_method_54_code 9 = .ok (.ishr, 1) := by decide +kernel
theorem d17_10 : decode jdk_42_method_54_code 10 = .ok (.ireturn, 1) := by decide +kernel
theorem d18_0 : decode jdk_42_method_56_code 0 = .ok (.aload_n 0, 1) := by decide +kernel
theorem d18_1 : decode jdk_42_method_56_code 1 = .ok (.invokevirtual 492, 3) := by decide +kernel
theorem d18_4 : decode jdk_42_method_56_code 4 = .ok (.ifCond .eq 12, 3) := by decide +kernel
theorem d18_7 : decode jdk_42_method_56_code 7 = .ok (.aload_n 0, 1) := by decide +kernel
theorem d18_8 : decode jdk_42_method_56_code 8 = .ok (.getfield 9, 3) := by decide +kernel
theorem d18_11 : decode jdk_42_method_56_code 11 = .ok (.iload_n 1, 1) := by decide +kernel
theorem d18_12 : decode jdk_42_method_56_code 12 = .ok (.invokestatic 495, 3) := by decide +kernel
theorem d18_15 : decode jdk_42_method_56_code 15 = .ok (.ireturn, 1) := by decide +kernel
theorem d19_0 : decode jdk_43_method_2_code 0 = .ok (.iload_n 1, 1) := by decide +kernel
theorem d19_1 : decode jdk_43_method_2_code 1 = .ok (.aload_n 0, 1) := by decide +kernel
theorem d19_2 : decode jdk_43_method_2_code 2 = .ok (.arraylength, 1) := by decide +kernel
theorem d19_3 : decode jdk_43_method_2_code 3 = .ok (.invokestatic 9, 3) := by decide +kernel
theorem d19_6 : decode jdk_43_method_2_code 6 = .ok (.aload_n 0, 1) := by decide +kernel
theorem d19_7 : decode jdk_43_method_2_code 7 = .ok (.iload_n 1, 1) := by decide +kernel
theorem d19_8 : decode jdk_43_method_2_code 8 = .ok (.baload, 1) := by decide +kernel
theorem d19_9 : decode jdk_43_method_2_code 9 = .ok (.sipush 255, 3) := by decide +kernel
theorem d19_12 : decode jdk_43_method_2_code 12 = .ok (.iand, 1) := by decide +kernel
theorem d19_13 : decode jdk_43_method_2_code 13 = .ok (.i2c, 1) := by decide +kernel
theorem d19_14 : decode jdk_43_method_2_code 14 = .ok (.ireturn, 1) := by decide +kernel
theorem d20_0 : decode jdk_42_method_155_code 0 = .ok (.iload_n 0, 1) := by decide +kernel
theorem d20_1 : decode jdk_42_method_155_code 1 = .ok (.iload_n 1, 1) := by decide +kernel
theorem d20_2 : decode jdk_42_method_155_code 2 = .ok (.getstatic 1053, 3) := by decide +kernel
theorem d20_5 : decode jdk_42_method_155_code 5 = .ok (.invokestatic 1059, 3) := by decide +kernel
theorem d20_8 : decode jdk_42_method_155_code 8 = .ok (.pop, 1) := by decide +kernel
theorem d20_9 : decode jdk_42_method_155_code 9 = .ok (.return_, 1) := by decide +kernel
theorem d21_0 : decode jdk_41_method_11_code 0 = .ok (.iload_n 0, 1) := by decide +kernel
theorem d21_1 : decode jdk_41_method_11_code 1 = .ok (.ifCond .lt 8, 3) := by decide +kernel
theorem d21_4 : decode jdk_41_method_11_code 4 = .ok (.iload_n 0, 1) := by decide +kernel
theorem d21_5 : decode jdk_41_method_11_code 5 = .ok (.iload_n 1, 1) := by decide +kernel
theorem d21_6 : decode jdk_41_method_11_code 6 = .ok (.if_icmp .lt 10, 3) := by decide +kernel
theorem d21_16 : decode jdk_41_method_11_code 16 = .ok (.iload_n 0, 1) := by decide +kernel
theorem d21_17 : decode jdk_41_method_11_code 17 = .ok (.ireturn, 1) := by decide +kernel
theorem pn0 : plainFor (⟨"java/lang/String", "coder", "()B"⟩ : MethodName) = true := by first | exact plainFor_of_name (by first | (simp [plainName, overriddenIn]; done) | decide +kernel) | decide +kernel
theorem pn1 : plainFor (⟨"java/lang/String", "length", "()I"⟩ : MethodName) = true := by first | exact plainFor_of_name (by first | (simp [plainName, overriddenIn]; done) | decide +kernel) | decide +kernel
theorem pn2 : plainFor (⟨"java/lang/String", "isLatin1", "()Z"⟩ : MethodName) = true := by first | exact plainFor_of_name (by first | (simp [plainName, overriddenIn]; done) | decide +kernel) | decide +kernel
theorem pn3 : plainFor (⟨"jdk/internal/util/Preconditions", "checkIndex", "(IILjava/util/function/BiFunction;)I"⟩ : MethodName) = true := by first | exact plainFor_of_name (by first | (simp [plainName, overriddenIn]; done) | decide +kernel) | decide +kernel
theorem pn4 : plainFor (⟨"java/lang/String", "checkIndex", "(II)V"⟩ : MethodName) = true := by first | exact plainFor_of_name (by first | (simp [plainName, overriddenIn]; done) | decide +kernel) | decide +kernel
theorem pn5 : plainFor (⟨"java/lang/StringLatin1", "charAt", "([BI)C"⟩ : MethodName) = true := by first | exact plainFor_of_name (by first | (simp [plainName, overriddenIn]; done) | decide +kernel) | decide +kernel
theorem pn6 : plainFor (⟨"java/lang/String", "charAt", "(I)C"⟩ : MethodName) = true := by first | exact plainFor_of_name (by first | (simp [plainName, overriddenIn]; done) | decide +kernel) | decide +kernel
theorem pn7 : plainFor (⟨"java/lang/StringUTF16", "compress", "([CI[BII)I"⟩ : MethodName) = true := by first | exact plainFor_of_name (by first | (simp [plainName, overriddenIn]; done) | decide +kernel) | decide +kernel
theorem pn8 : plainFor (⟨"java/lang/StringUTF16", "compress", "([CII)[B"⟩ : MethodName) = true := by first | exact plainFor_of_name (by first | (simp [plainName, overriddenIn]; done) | decide +kernel) | decide +kernel
theorem pn9 : plainFor (⟨"java/lang/StringUTF16", "coderFromArrayLen", "([BI)B"⟩ : MethodName) = true := by first | exact plainFor_of_name (by first | (simp [plainName, overriddenIn]; done) | decide +kernel) | decide +kernel
theorem pn10 : plainFor (⟨"java/lang/String", "<init>", "([CIILjava/lang/Void;)V"⟩ : MethodName) = true := by first | exact plainFor_of_name (by first | (simp [plainName, overriddenIn]; done) | decide +kernel) | decide +kernel
theorem pn11 : plainFor (⟨"java/lang/String", "<init>", "([C)V"⟩ : MethodName) = true := by first | exact plainFor_of_name (by first | (simp [plainName, overriddenIn]; done) | decide +kernel) | decide +kernel
theorem pn12 : plainFor (⟨"com/example/ranker/ranker/PageUrlDepthPinLaw", "draw", "(I)C"⟩ : MethodName) = true := by first | exact plainFor_of_name (by first | (simp [plainName, overriddenIn]; done) | decide +kernel) | decide +kernel
theorem pn13 : plainFor (⟨"com/example/ranker/ranker/PageUrlDepthPinLaw", "put", "([CIC)V"⟩ : MethodName) = true := by first | exact plainFor_of_name (by first | (simp [plainName, overriddenIn]; done) | decide +kernel) | decide +kernel
theorem pn14 : plainFor (⟨"com/example/ranker/ranker/PageUrlDepthPinLaw", "sepAt", "([CII)Z"⟩ : MethodName) = true := by first | exact plainFor_of_name (by first | (simp [plainName, overriddenIn]; done) | decide +kernel) | decide +kernel
theorem pn15 : plainFor (⟨"com/example/ranker/ranker/PageUrlDepthPinLaw", "slashAt", "([CIII)I"⟩ : MethodName) = true := by first | exact plainFor_of_name (by first | (simp [plainName, overriddenIn]; done) | decide +kernel) | decide +kernel
theorem pn16 : plainFor (⟨"java/lang/StringLatin1", "indexOf", "([BI[BII)I"⟩ : MethodName) = true := by first | exact plainFor_of_name (by first | (simp [plainName, overriddenIn]; done) | decide +kernel) | decide +kernel
theorem pn17 : plainFor (⟨"java/lang/StringLatin1", "indexOf", "([B[B)I"⟩ : MethodName) = true := by first | exact plainFor_of_name (by first | (simp [plainName, overriddenIn]; done) | decide +kernel) | decide +kernel
theorem pn18 : plainFor (⟨"java/lang/String", "indexOf", "(Ljava/lang/String;)I"⟩ : MethodName) = true := by first | exact plainFor_of_name (by first | (simp [plainName, overriddenIn]; done) | decide +kernel) | decide +kernel
theorem pn19 : plainFor (⟨"com/example/ranker/ranker/PageUrl", "depth", "(Ljava/lang/String;)I"⟩ : MethodName) = true := by first | exact plainFor_of_name (by first | (simp [plainName, overriddenIn]; done) | decide +kernel) | decide +kernel
theorem pn20 : plainFor (⟨"com/example/ranker/ranker/PageUrlDepthPinLaw", "law", "(III)Z"⟩ : MethodName) = true := by first | exact plainFor_of_name (by first | (simp [plainName, overriddenIn]; done) | decide +kernel) | decide +kernel
theorem pd0 : parseMethodDescriptor "()B" = some ⟨[], some .byte⟩ := by decide +kernel
theorem pd1 : parseMethodDescriptor "(IILjava/util/function/BiFunction;)I" = some ⟨[.int, .int, (.object "java/util/function/BiFunction")], some .int⟩ := by decide +kernel
theorem pd2 : parseMethodDescriptor "(II)V" = some ⟨[.int, .int], none⟩ := by decide +kernel
theorem pd3 : parseMethodDescriptor "()Z" = some ⟨[], some .boolean⟩ := by decide +kernel
theorem pd4 : parseMethodDescriptor "([BI)C" = some ⟨[(.array .byte), .int], some .char⟩ := by decide +kernel
theorem pd5 : parseMethodDescriptor "([CI[BII)I" = some ⟨[(.array .char), .int, (.array .byte), .int, .int], some .int⟩ := by decide +kernel
theorem pd6 : parseMethodDescriptor "([CII)[B" = some ⟨[(.array .char), .int, .int], some (.array .byte)⟩ := by decide +kernel
theorem pd7 : parseMethodDescriptor "([BI)B" = some ⟨[(.array .byte), .int], some .byte⟩ := by decide +kernel
theorem pd8 : parseMethodDescriptor "([CIILjava/lang/Void;)V" = some ⟨[(.array .char), .int, .int, (.object "java/lang/Void")], none⟩ := by decide +kernel
theorem pd9 : parseMethodDescriptor "([BI[BII)I" = some ⟨[(.array .byte), .int, (.array .byte), .int, .int], some .int⟩ := by decide +kernel
theorem pd10 : parseMethodDescriptor "([B[B)I" = some ⟨[(.array .byte), (.array .byte)], some .int⟩ := by decide +kernel
theorem pd11 : parseMethodDescriptor "(Ljava/lang/String;)I" = some ⟨[(.object "java/lang/String")], some .int⟩ := by decide +kernel
theorem pd12 : parseMethodDescriptor "()I" = some ⟨[], some .int⟩ := by decide +kernel
theorem pd13 : parseMethodDescriptor "(I)C" = some ⟨[.int], some .char⟩ := by decide +kernel
theorem pd14 : parseMethodDescriptor "([CIC)V" = some ⟨[(.array .char), .int, .char], none⟩ := by decide +kernel
theorem pd15 : parseMethodDescriptor "([C)V" = some ⟨[(.array .char)], none⟩ := by decide +kernel
theorem pd16 : parseMethodDescriptor "([CIII)I" = some ⟨[(.array .char), .int, .int, .int], some .int⟩ := by decide +kernel
theorem pd17 : parseMethodDescriptor "([CII)Z" = some ⟨[(.array .char), .int, .int], some .boolean⟩ := by decide +kernel
theorem sn0 {Z : State} {a0 : Array Value} (hw : ∀ d ∈ tables_1, d.before a0 Z = true) : Jvm.RoadKit.slotOf Z "java/lang/String" "value" "[B" ≠ Jvm.RoadKit.slotOf Z "java/lang/String" "coder" "B" := slot_ne (C := "java/lang/String") (Or.inr (w37 hw)) (Or.inr (w35 hw)) (by decide) (t := (.array .byte)) (by decide) (t' := .byte) (by decide)
theorem sn1 {Z : State} {a0 : Array Value} (hw : ∀ d ∈ tables_1, d.before a0 Z = true) : Jvm.RoadKit.slotOf Z "java/lang/String" "coder" "B" ≠ Jvm.RoadKit.slotOf Z "java/lang/String" "value" "[B" := slot_ne (C := "java/lang/String") (Or.inr (w35 hw)) (Or.inr (w37 hw)) (by decide) (t := .byte) (by decide) (t' := (.array .byte)) (by decide)

/-! plain: the first "://", and the slashes behind it -/
def own_at (cs : List Nat) (i : Nat) : Prop := cs[i]? = some 58 ∧ cs[i + 1]? = some 47 ∧ cs[i + 2]? = some 47
instance (cs : List Nat) (i : Nat) : Decidable (own_at cs i) := by unfold own_at; infer_instance
def own_find (cs : List Nat) : Nat → Nat → Option Nat
  | 0, _ => none
  | m + 1, i => if own_at cs i then some i else own_find cs m (i + 1)
def own_ix : Option Nat → Int32
  | none => -1
  | some i => i32 i
theorem own_find_lt (cs : List Nat) : ∀ (m i j : Nat), own_find cs m i = some j → j < i + m
  | 0, _, _, h => by cases h
  | m + 1, i, j, h => by
    rw [own_find] at h
    split at h
    · cases h; omega
    · have := own_find_lt cs m (i + 1) j h; omega
def own_cnt : List Nat → Nat
  | [] => 0
  | c :: cs => (if c = 47 then 1 else 0) + own_cnt cs
def own_st (cs : List Nat) : Nat := match own_find cs (cs.length - 2) 0 with
  | none => 0
  | some i => i + 3
theorem own_max {n i : Nat} (hn : n < 2147483648) (hi : i < 2147483648) : i32 n - i32 3 < i32 i ↔ n < i + 3 := by
  have e : (i32 n - i32 3).toInt = (n : Int) - 3 := by
    rw [Int32.toInt_sub, i32_toInt hn, i32_toInt (by decide)]
    exact bm32 (by omega) (by omega)
  rw [Int32.lt_iff_toInt_lt, e, i32_toInt hi]; omega
theorem own_cnt_drop (cs : List Nat) (i : Nat) (c : Nat) (h : cs[i]? = some c) : own_cnt (cs.drop i) = (if c = 47 then 1 else 0) + own_cnt (cs.drop (i + 1)) := by
  rw [own_drop1 h, own_cnt]
def own_sl (cs : List Nat) (len st j : Nat) : Nat := if st ≤ j ∧ j < len ∧ cs[j]? = some 47 then 1 else 0
theorem own_total (c0 c1 c2 c3 c4 c5 len st : Nat) (hl : len < 7) (hs : st < 7) : own_cnt (([c0, c1, c2, c3, c4, c5].take len).drop st) = own_sl [c0, c1, c2, c3, c4, c5] len st 0 + own_sl [c0, c1, c2, c3, c4, c5] len st 1 + own_sl [c0, c1, c2, c3, c4, c5] len st 2 + own_sl [c0, c1, c2, c3, c4, c5] len st 3 + own_sl [c0, c1, c2, c3, c4, c5] len st 4 + own_sl [c0, c1, c2, c3, c4, c5] len st 5 := by
  rcases (by omega : len = 0 ∨ len = 1 ∨ len = 2 ∨ len = 3 ∨ len = 4 ∨ len = 5 ∨ len = 6) with rfl | rfl | rfl | rfl | rfl | rfl | rfl <;>
  rcases (by omega : st = 0 ∨ st = 1 ∨ st = 2 ∨ st = 3 ∨ st = 4 ∨ st = 5 ∨ st = 6) with rfl | rfl | rfl | rfl | rfl | rfl | rfl <;>
  simp [own_cnt, own_sl] <;> omega
theorem own_at_take (cs : List Nat) (len i : Nat) : own_at (cs.take len) i ↔ (i + 2 < len ∧ own_at cs i) := by
  unfold own_at
  constructor
  · rintro ⟨h1, h2, h3⟩
    have q := lt_of_get h3
    rw [List.length_take] at q
    rw [List.getElem?_take_of_lt (by omega)] at h1 h2 h3
    exact ⟨by omega, h1, h2, h3⟩
  · rintro ⟨hl, h1, h2, h3⟩
    rw [List.getElem?_take_of_lt (by omega), List.getElem?_take_of_lt (by omega), List.getElem?_take_of_lt (by omega)]
    exact ⟨h1, h2, h3⟩
theorem own_find_none (cs : List Nat) : ∀ (m i : Nat), (∀ j, i ≤ j → j < i + m → ¬ own_at cs j) → own_find cs m i = none
  | 0, _, _ => rfl
  | m + 1, i, h => by
    rw [own_find, if_neg (h i (Nat.le_refl _) (by omega))]
    exact own_find_none cs m (i + 1) fun j h1 h2 => h j (by omega) (by omega)
theorem own_find_some (cs : List Nat) (k : Nat) : ∀ (m i : Nat), i ≤ k → k < i + m → (∀ j, i ≤ j → j < k → ¬ own_at cs j) → own_at cs k → own_find cs m i = some k
  | 0, i, h1, h2, _, _ => by omega
  | m + 1, i, h1, h2, h3, h4 => by
    rw [own_find]
    by_cases e : i = k
    · subst e; rw [if_pos h4]
    · rw [if_neg (h3 i (Nat.le_refl _) (by omega))]
      exact own_find_some cs k m (i + 1) (by omega) (by omega) (fun j q1 q2 => h3 j (by omega) q2) h4
theorem own_st_some (cs : List Nat) (len k : Nat) (hl : len ≤ cs.length) (h : ∀ j, j < k → ¬ (j + 2 < len ∧ own_at cs j)) (hk : k + 2 < len ∧ own_at cs k) : own_st (cs.take len) = k + 3 := by
  rw [own_st, List.length_take, Nat.min_eq_left hl, own_find_some _ k _ 0 (Nat.zero_le _) (by omega) (fun j _ q => fun z => h j q ((own_at_take ..).mp z)) ((own_at_take ..).mpr hk)]
theorem own_st_none (cs : List Nat) (len : Nat) (hl : len ≤ cs.length) (h : ∀ j, j + 2 < len → ¬ (j + 2 < len ∧ own_at cs j)) : own_st (cs.take len) = 0 := by
  rw [own_st, List.length_take, Nat.min_eq_left hl, own_find_none _ _ 0 (fun j _ q => fun z => h j (by omega) ((own_at_take ..).mp z))]
theorem own_puts (c0 c1 c2 c3 c4 c5 len : Nat) (hl : len < 7) : ((((((List.replicate len (Value.int 0)).set 0 (vch c0)).set 1 (vch c1)).set 2 (vch c2)).set 3 (vch c3)).set 4 (vch c4)).set 5 (vch c5) = ([c0, c1, c2, c3, c4, c5].take len).map vch := by
  rcases (by omega : len = 0 ∨ len = 1 ∨ len = 2 ∨ len = 3 ∨ len = 4 ∨ len = 5 ∨ len = 6) with rfl | rfl | rfl | rfl | rfl | rfl | rfl <;> rfl
theorem own_b1 {P : Prop} [Decidable P] (h : (if P then (1 : Int32) else 0) = 0) : ¬ P := fun p => by rw [if_pos p] at h; exact absurd h (by decide)
theorem own_b0 {P : Prop} [Decidable P] (h : ¬ (if P then (1 : Int32) else 0) = 0) : P := Decidable.byContradiction fun p => h (if_neg p)

theorem own_ss {s : State} {args : Array Value} (hsets : ∀ w ∈ jdkStatics_1, w.before args s = true) : ∃ (cc : Int32) (fv : Value), own_SS s cc fv := by
  have h1 := Cond.before_iff.mp (hsets _ (List.mem_of_getElem? (i := 1) rfl))
  have h2 := Cond.before_iff.mp (hsets _ (List.mem_of_getElem? (i := 2) rfl))
  have h8 := Cond.before_iff.mp (hsets _ (List.mem_of_getElem? (i := 8) rfl))
  obtain ⟨cc, ec⟩ := is_v h1
  obtain ⟨fv, ef, hr⟩ := isR_v h8
  refine ⟨cc, fv, Sta.start ec (Or.inl (hsets _ (List.mem_of_getElem? (i := 0) rfl))), fun q => ?_, Sta.start ef (Or.inl (hsets _ (List.mem_of_getElem? (i := 7) rfl))), hr⟩
  have x1 := not_v h2
  have x2 := eq_i ec (Term.int_eval 0) (by rw [q])
  rw [x2] at x1
  cases x1

set_option maxRecDepth 65536 in
set_option maxHeartbeats 4000000 in
theorem c_coder (l : Launch) (Z : State) (a0 : Array Value) (hw : ∀ d ∈ tables_1, d.before a0 Z = true) (n0 : Nat) (h0 : Heap) (cc : Int32) (fv : Value) (ss : own_SS Z cc fv) (ol : Old Z n0 h0) (a : Nat) (F : Fld Z h0 a "java/lang/String" "coder" "B" (.int 0)) :
    Con l [] (⟨"java/lang/String", "coder", "()B"⟩ : MethodName) jdk_42_method_152_code 1 (some .byte) ({ frames := 0, cells := 0, slots := 0, locals := 0 } : Room) Z #[(.ref a)] h0 n0 (fun v h => v = some (.int 0) ∧ h0 = h) := by
  refine enter (Ls := #[.val (.ref a)]) pn0 (fun m => by first | (simp [entryFrame, mkF, argsToLocals, Value.category]; done) | rfl) ?_
  intro K C
  refine r_getS C (pc' := 3) d13_0 rfl (w22 hw) Via.refl (ss.1.ext ol.2) ?_
  refine r_if_eq_f C (pc' := 6) d13_3 rfl ss.2.1 ?_
  refine r_aloadN C (pc' := 7) d13_6 rfl rfl rfl ?_
  refine r_getF C (pc' := 10) d13_7 rfl (w34 hw) Via.refl F ?_
  refine r_goto C (pc' := 14) d13_10 (by decide) (by decide) ?_
  exact r_breturn C d13_14 rfl (by decide) (by decide) (Nat.zero_le _) (fun _ _ => ⟨rfl, rfl⟩)
set_option maxRecDepth 65536 in
set_option maxHeartbeats 4000000 in
theorem c_length (l : Launch) (Z : State) (a0 : Array Value) (hw : ∀ d ∈ tables_1, d.before a0 Z = true) (n0 : Nat) (h0 : Heap) (cc : Int32) (fv : Value) (ss : own_SS Z cc fv) (ol : Old Z n0 h0) (a b : Nat) (k : ClassId) (cs : List Nat) (S : St Z h0 a b k cs) :
    Con l [] (⟨"java/lang/String", "length", "()I"⟩ : MethodName) jdk_42_method_54_code 1 (some .int) ({ frames := 1, cells := 0, slots := 0, locals := 13 } : Room) Z #[(.ref a)] h0 n0 (fun v h => v = some (.int (i32 cs.length)) ∧ h0 = h) := by
  refine enter (Ls := #[.val (.ref a)]) pn1 (fun m => by first | (simp [entryFrame, mkF, argsToLocals, Value.category]; done) | rfl) ?_
  intro K C
  refine r_aloadN C (pc' := 1) d17_0 rfl rfl rfl ?_
  refine r_getF C (pc' := 4) d17_1 rfl (w36 hw) Via.refl S.2.2.1 ?_
  refine r_lengthV C (pc' := 5) (n := cs.length) d17_4 rfl S.2.2.2 (own_blen cs) ?_
  refine r_aloadN C (pc' := 6) d17_5 rfl rfl rfl ?_
  refine r_callV C (pc' := 9) (argsL := []) (c_coder l Z a0 hw n0 h0 cc fv ss ol a S.2.1) S.1 d17_6 rfl (w56 hw) (w57 hw) (nfSel (z := ({ cls := "java/lang/String", name := "coder", desc := "()B" } : Jvm.MethodName)) (w59 hw)) (w59 hw) (w58 hw) (w11 hw) (w60 hw) (by decide) pd0 (st := [.int (i32 cs.length)]) rfl rfl rfl (W := 1) (Nat.le_of_eq rfl) (by decide) (by decide) (by decide) (by decide) (cells' := 0) (slots' := 0) rfl rfl ?_
  rintro _ _ ⟨rfl, rfl⟩
  show Run _ _ _ _ _ _ _ _ 9 #[.val (.ref a)] [.int (0 : Int32), .int (i32 cs.length)]
  refine r_ishr C (pc' := 10) d17_9 rfl ?_
  rw [own_shr0]
  exact r_ireturn C d17_10 (by decide) (by decide) (Nat.zero_le _) (fun _ _ => ⟨rfl, rfl⟩)
set_option maxRecDepth 65536 in
set_option maxHeartbeats 4000000 in
theorem c_isLatin1 (l : Launch) (Z : State) (a0 : Array Value) (hw : ∀ d ∈ tables_1, d.before a0 Z = true) (n0 : Nat) (h0 : Heap) (cc : Int32) (fv : Value) (ss : own_SS Z cc fv) (ol : Old Z n0 h0) (a : Nat) (F : Fld Z h0 a "java/lang/String" "coder" "B" (.int 0)) :
    Con l [] (⟨"java/lang/String", "isLatin1", "()Z"⟩ : MethodName) jdk_42_method_154_code 1 (some .boolean) ({ frames := 0, cells := 0, slots := 0, locals := 0 } : Room) Z #[(.ref a)] h0 n0 (fun v h => v = some (.int 1) ∧ h0 = h) := by
  refine enter (Ls := #[.val (.ref a)]) pn2 (fun m => by first | (simp [entryFrame, mkF, argsToLocals, Value.category]; done) | rfl) ?_
  intro K C
  refine r_getS C (pc' := 3) d14_0 rfl (w22 hw) Via.refl (ss.1.ext ol.2) ?_
  refine r_if_eq_f C (pc' := 6) d14_3 rfl ss.2.1 ?_
  refine r_aloadN C (pc' := 7) d14_6 rfl rfl rfl ?_
  refine r_getF C (pc' := 10) d14_7 rfl (w34 hw) Via.refl F ?_
  refine r_if_ne_f C (pc' := 13) d14_10 rfl (by decide) ?_
  refine r_iconst C (pc' := 14) (v := 1) d14_13 rfl rfl ?_
  refine r_goto C (pc' := 18) d14_14 (by decide) (by decide) ?_
  exact r_zreturn C d14_18 rfl (by decide) (by decide) (Nat.zero_le _) (fun _ _ => ⟨rfl, rfl⟩)
set_option maxRecDepth 65536 in
set_option maxHeartbeats 4000000 in
theorem c_pcheck (l : Launch) (Z : State) (a0 : Array Value) (hw : ∀ d ∈ tables_1, d.before a0 Z = true) (n0 : Nat) (h0 : Heap) (i n : Nat) (fv : Value) (hf : fv.isRef = true) (hn : n < 2147483648) (hi : i < n) :
    Con l [] (⟨"jdk/internal/util/Preconditions", "checkIndex", "(IILjava/util/function/BiFunction;)I"⟩ : MethodName) jdk_41_method_11_code 3 (some .int) ({ frames := 0, cells := 0, slots := 0, locals := 0 } : Room) Z #[(.int (i32 i)), (.int (i32 n)), fv] h0 n0 (fun v h => v = some (.int (i32 i)) ∧ h0 = h) := by
  refine enter (Ls := #[.val (.int (i32 i)), .val (.int (i32 n)), .val fv]) pn3 (fun m => by rcases ref_cases hf with rfl | ⟨zz, rfl⟩ <;> first | (simp [entryFrame, mkF, argsToLocals, Value.category]; done) | rfl) ?_
  intro K C
  refine r_iloadN C (pc' := 1) d21_0 rfl rfl ?_
  refine r_if_lt_f C (pc' := 4) d21_1 rfl (i32_nn (by omega)) ?_
  refine r_iloadN C (pc' := 5) d21_4 rfl rfl ?_
  refine r_iloadN C (pc' := 6) d21_5 rfl rfl ?_
  refine r_icmp_lt_t C (pc' := 16) d21_6 (by decide) (by decide) ((i32_lt (by omega) hn).mpr hi) ?_
  refine r_iloadN C (pc' := 17) d21_16 rfl rfl ?_
  exact r_ireturn C d21_17 (by decide) (by decide) (Nat.zero_le _) (fun _ _ => ⟨rfl, rfl⟩)
set_option maxRecDepth 65536 in
set_option maxHeartbeats 4000000 in
theorem c_scheck (l : Launch) (Z : State) (a0 : Array Value) (hw : ∀ d ∈ tables_1, d.before a0 Z = true) (n0 : Nat) (h0 : Heap) (cc : Int32) (fv : Value) (ss : own_SS Z cc fv) (ol : Old Z n0 h0) (i n : Nat) (hn : n < 2147483648) (hi : i < n) :
    Con l [] (⟨"java/lang/String", "checkIndex", "(II)V"⟩ : MethodName) jdk_42_method_155_code 2 none ({ frames := 1, cells := 0, slots := 0, locals := 14 } : Room) Z #[(.int (i32 i)), (.int (i32 n))] h0 n0 (fun v h => v = none ∧ h0 = h) := by
  refine enter (Ls := #[.val (.int (i32 i)), .val (.int (i32 n))]) pn4 (fun m => by first | (simp [entryFrame, mkF, argsToLocals, Value.category]; done) | rfl) ?_
  intro K C
  refine r_iloadN C (pc' := 1) d20_0 rfl rfl ?_
  refine r_iloadN C (pc' := 2) d20_1 rfl rfl ?_
  refine r_getS C (pc' := 5) d20_2 rfl (w89 hw) Via.refl (ss.2.2.1.ext ol.2) ?_
  refine r_callS C (pc' := 8) (argsL := [.int (i32 i), .int (i32 n), fv]) (c_pcheck l Z a0 hw n0 h0 i n fv ss.2.2.2 hn hi) d20_5 rfl (w91 hw) (w92 hw) (w90 hw) (w93 hw) (by decide) pd1 (st := []) rfl rfl rfl (W := 0) (Nat.le_of_eq rfl) (by decide) (by decide) (by decide) (by decide) (cells' := 0) (slots' := 0) rfl rfl ?_
  rintro _ _ ⟨rfl, rfl⟩
  show Run _ _ _ _ _ _ _ _ 8 #[.val (.int (i32 i)), .val (.int (i32 n))] [.int (i32 i)]
  refine r_pop C (pc' := 9) d20_8 rfl rfl ?_
  exact r_return C d20_9 (by decide) (by decide) (Nat.zero_le _) (fun _ _ => ⟨rfl, rfl⟩)
set_option maxRecDepth 65536 in
set_option maxHeartbeats 4000000 in
theorem c_l1charAt (l : Launch) (Z : State) (a0 : Array Value) (hw : ∀ d ∈ tables_1, d.before a0 Z = true) (n0 : Nat) (h0 : Heap) (cc : Int32) (fv : Value) (ss : own_SS Z cc fv) (ol : Old Z n0 h0) (b : Nat) (k : ClassId) (cs : List Nat) (A : AV Z h0 b k .byte ((cs.map by8).map Value.int) (.int 0)) (i c : Nat) (hc : cs[i]? = some c) (hb : c < 256) :
    Con l [] (⟨"java/lang/StringLatin1", "charAt", "([BI)C"⟩ : MethodName) jdk_43_method_2_code 2 (some .char) ({ frames := 2, cells := 0, slots := 0, locals := 27 } : Room) Z #[(.ref b), (.int (i32 i))] h0 n0 (fun v h => v = some (.int (i32 c)) ∧ h0 = h) := by
  refine enter (Ls := #[.val (.ref b), .val (.int (i32 i))]) pn5 (fun m => by first | (simp [entryFrame, mkF, argsToLocals, Value.category]; done) | rfl) ?_
  intro K C
  have hn : cs.length < 2147483648 := by have := A.2; rwa [own_blen] at this
  have hi := lt_of_get hc
  refine r_iloadN C (pc' := 1) d19_0 rfl rfl ?_
  refine r_aloadN C (pc' := 2) d19_1 rfl rfl rfl ?_
  refine r_lengthV C (pc' := 3) (n := cs.length) d19_2 rfl A (own_blen cs) ?_
  refine r_callS C (pc' := 6) (argsL := [.int (i32 i), .int (i32 cs.length)]) (c_scheck l Z a0 hw n0 h0 cc fv ss ol i cs.length hn hi) d19_3 rfl (w86 hw) (w87 hw) (w11 hw) (w88 hw) (by decide) pd2 (st := []) rfl rfl rfl (W := 0) (Nat.le_of_eq rfl) (by decide) (by decide) (by decide) (by decide) (cells' := 0) (slots' := 0) rfl rfl ?_
  rintro _ _ ⟨rfl, rfl⟩
  show Run _ _ _ _ _ _ _ _ 6 #[.val (.ref b), .val (.int (i32 i))] []
  refine r_aloadN C (pc' := 7) d19_6 rfl rfl rfl ?_
  refine r_iloadN C (pc' := 8) d19_7 rfl rfl ?_
  refine r_baloadV C (pc' := 9) (i := i) d19_8 rfl A rfl (own_bget hc) ?_
  refine r_sipush C (pc' := 12) (v := (255)) d19_9 rfl rfl ?_
  refine r_iand C (pc' := 13) d19_12 rfl ?_
  refine r_i2c C (pc' := 14) d19_13 rfl ?_
  rw [own_byte hb]
  exact r_creturn C d19_14 (own_narF ⟨c, by omega⟩) (by decide) (by decide) (Nat.zero_le _) (fun _ _ => ⟨rfl, rfl⟩)
set_option maxRecDepth 65536 in
set_option maxHeartbeats 4000000 in
theorem c_charAt (l : Launch) (Z : State) (a0 : Array Value) (hw : ∀ d ∈ tables_1, d.before a0 Z = true) (n0 : Nat) (h0 : Heap) (cc : Int32) (fv : Value) (ss : own_SS Z cc fv) (ol : Old Z n0 h0) (a b : Nat) (k : ClassId) (cs : List Nat) (S : St Z h0 a b k cs) (i c : Nat) (hc : cs[i]? = some c) (hb : c < 256) :
    Con l [] (⟨"java/lang/String", "charAt", "(I)C"⟩ : MethodName) jdk_42_method_56_code 2 (some .char) ({ frames := 3, cells := 0, slots := 0, locals := 40 } : Room) Z #[(.ref a), (.int (i32 i))] h0 n0 (fun v h => v = some (.int (i32 c)) ∧ h0 = h) := by
  refine enter (Ls := #[.val (.ref a), .val (.int (i32 i))]) pn6 (fun m => by first | (simp [entryFrame, mkF, argsToLocals, Value.category]; done) | rfl) ?_
  intro K C
  refine r_aloadN C (pc' := 1) d18_0 rfl rfl rfl ?_
  refine r_callV C (pc' := 4) (argsL := []) (c_isLatin1 l Z a0 hw n0 h0 cc fv ss ol a S.2.1) S.1 d18_1 rfl (w61 hw) (w62 hw) (nfSel (z := ({ cls := "java/lang/String", name := "isLatin1", desc := "()Z" } : Jvm.MethodName)) (w64 hw)) (w64 hw) (w63 hw) (w11 hw) (w65 hw) (by decide) pd3 (st := []) rfl rfl rfl (W := 0) (Nat.le_of_eq rfl) (by decide) (by decide) (by decide) (by decide) (cells' := 0) (slots' := 0) rfl rfl ?_
  rintro _ _ ⟨rfl, rfl⟩
  show Run _ _ _ _ _ _ _ _ 4 #[.val (.ref a), .val (.int (i32 i))] [.int (1 : Int32)]
  refine r_if_eq_f C (pc' := 7) d18_4 rfl (by decide) ?_
  refine r_aloadN C (pc' := 8) d18_7 rfl rfl rfl ?_
  refine r_getF C (pc' := 11) d18_8 rfl (w36 hw) Via.refl S.2.2.1 ?_
  refine r_iloadN C (pc' := 12) d18_11 rfl rfl ?_
  refine r_callS C (pc' := 15) (argsL := [.ref b, .int (i32 i)]) (c_l1charAt l Z a0 hw n0 _ cc fv ss ol b k cs S.2.2.2 i c hc hb) d18_12 rfl (w83 hw) (w84 hw) (w68 hw) (w85 hw) (by decide) pd4 (st := []) rfl rfl rfl (W := 0) (Nat.le_of_eq rfl) (by decide) (by decide) (by decide) (by decide) (cells' := 0) (slots' := 0) rfl rfl ?_
  rintro _ _ ⟨rfl, rfl⟩
  show Run _ _ _ _ _ _ _ _ 15 #[.val (.ref a), .val (.int (i32 i))] [.int (i32 c)]
  exact r_creturn C d18_15 (own_narF ⟨c, by omega⟩) (by decide) (by decide) (Nat.zero_le _) (fun _ _ => ⟨rfl, rfl⟩)
set_option maxRecDepth 65536 in
set_option maxHeartbeats 4000000 in
theorem c_comp0 (l : Launch) (Z : State) (a0 : Array Value) (hw : ∀ d ∈ tables_1, d.before a0 Z = true) (n0 : Nat) (h0 : Heap) (a b : Nat) (ka kb : ClassId) (cs : List Nat) (vs : List Value) (A : AV Z h0 a ka .char (cs.map vch) (.int 0)) (Bv : AV Z h0 b kb .byte vs (.int 0)) (hv : vs.length = cs.length) (hcs : ∀ c ∈ cs, c < 256) (ge : n0 ≤ b) (ne : a ≠ b) :
    Con l [] (⟨"java/lang/StringUTF16", "compress", "([CI[BII)I"⟩ : MethodName) jdk_52_method_21_code 7 (some .int) ({ frames := 0, cells := 0, slots := 0, locals := 0 } : Room) Z #[(.ref a), (.int (0 : Int32)), (.ref b), (.int (0 : Int32)), (.int (i32 cs.length))] h0 n0 (fun v h => v = some (.int (i32 cs.length)) ∧ Keep h0 h [b] ∧ AV Z h b kb .byte ((cs.map by8).map Value.int) (.int 0)) := by
  refine enter (Ls := #[.val (.ref a), .val (.int (0 : Int32)), .val (.ref b), .val (.int (0 : Int32)), .val (.int (i32 cs.length)), .unset, .unset]) pn7 (fun m => by first | (simp [entryFrame, mkF, argsToLocals, Value.category]; done) | rfl) ?_
  intro K C
  have hn : cs.length < 2147483648 := by have := A.2; rwa [own_clen] at this
  have loop : ∀ (m i : Nat) (h : Heap) (ws : List Value) (L6 : Slot), cs.length - i = m → i ≤ cs.length → ws.length = cs.length → ws.take i = ((cs.take i).map by8).map Value.int → Keep h0 h [b] → AV Z h b kb .byte ws (.int 0) → (L6 = .unset ∨ ∃ u, L6 = .val (.int u)) → Run l ({ frames := 0, cells := 0, slots := 0, locals := 0 } : Room) n0 (fun v h _ => v = some (.int (i32 cs.length)) ∧ Keep h0 h [b] ∧ AV Z h b kb .byte ((cs.map by8).map Value.int) (.int 0)) K h 0 0 3 #[.val (.ref a), .val (.int (i32 i)), .val (.ref b), .val (.int (i32 i)), .val (.int (i32 cs.length)), .val (.int (i32 i)), L6] [] := by
    intro m
    induction m with
    | zero =>
      intro i h ws L6 hm hi hl ht Kp B hL
      obtain rfl : i = cs.length := by omega
      refine r_iload C (pc' := 5) d7_3 rfl rfl ?_
      refine r_iload C (pc' := 7) d7_5 rfl rfl ?_
      refine r_icmp_ge_t C (pc' := 44) d7_7 (by decide) (by decide) (fun q => absurd ((i32_lt hn hn).mp q) (Nat.lt_irrefl _)) ?_
      refine r_iload C (pc' := 46) d7_44 rfl rfl ?_
      exact r_ireturn C d7_46 (by decide) (by decide) (Nat.zero_le _) (fun _ _ => ⟨rfl, Kp, by rw [← hl, List.take_length, hl, List.take_length] at ht; rw [← ht]; exact B⟩)
    | succ m ih =>
      intro i h ws L6 hm hi hl ht Kp B hL
      have hlt : i < cs.length := by omega
      obtain ⟨c, hc⟩ : ∃ c, cs[i]? = some c := ⟨_, List.getElem?_eq_getElem hlt⟩
      have hb := hcs c (List.mem_of_getElem? hc)
      refine r_iload C (pc' := 5) d7_3 rfl rfl ?_
      refine r_iload C (pc' := 7) d7_5 rfl rfl ?_
      refine r_icmp_ge_f C (pc' := 10) d7_7 rfl ((i32_lt (by omega) hn).mpr hlt) ?_
      refine r_aloadN C (pc' := 11) d7_10 rfl rfl rfl ?_
      refine r_iloadN C (pc' := 12) d7_11 rfl rfl ?_
      refine r_caloadV C (pc' := 13) (i := i) d7_12 rfl (A.keep Kp (ninS (nn ne) nin0)) rfl (own_cget hc) ?_
      refine r_istore C (pc' := 15) (Ls' := #[.val (.ref a), .val (.int (i32 i)), .val (.ref b), .val (.int (i32 i)), .val (.int (i32 cs.length)), .val (.int (i32 i)), .val (.int (i32 c))]) d7_13 rfl (by rcases hL with rfl | ⟨u, rfl⟩ <;> rfl) ?_
      refine r_iload C (pc' := 17) d7_15 rfl rfl ?_
      refine r_sipush C (pc' := 20) (v := (255)) d7_17 rfl rfl ?_
      refine r_icmp_le_t C (pc' := 26) d7_20 (by decide) (by decide) (fun q => absurd ((i32_lt (a := 255) (by decide) (by omega)).mp q) (by omega)) ?_
      refine r_aloadN C (pc' := 27) d7_26 rfl rfl rfl ?_
      refine r_iloadN C (pc' := 28) d7_27 rfl rfl ?_
      refine r_iload C (pc' := 30) d7_28 rfl rfl ?_
      refine r_i2b C (pc' := 31) d7_30 rfl ?_
      refine r_bastoreV C (pc' := 32) (i := i) d7_31 rfl B rfl (by omega) (fits_nar_byte _) ge ?_
      intro h2 W B'
      refine r_iinc C (pc' := 35) (v := (1)) (Ls' := #[.val (.ref a), .val (.int ((i32 i) + (1 : Int32))), .val (.ref b), .val (.int (i32 i)), .val (.int (i32 cs.length)), .val (.int (i32 i)), .val (.int (i32 c))]) d7_32 rfl rfl rfl rfl ?_
      refine r_iinc C (pc' := 38) (v := (1)) (Ls' := #[.val (.ref a), .val (.int ((i32 i) + (1 : Int32))), .val (.ref b), .val (.int ((i32 i) + (1 : Int32))), .val (.int (i32 cs.length)), .val (.int (i32 i)), .val (.int (i32 c))]) d7_35 rfl rfl rfl rfl ?_
      refine r_iinc C (pc' := 41) (v := (1)) (Ls' := #[.val (.ref a), .val (.int ((i32 i) + (1 : Int32))), .val (.ref b), .val (.int ((i32 i) + (1 : Int32))), .val (.int (i32 cs.length)), .val (.int ((i32 i) + (1 : Int32))), .val (.int (i32 c))]) d7_38 rfl rfl rfl rfl ?_
      refine r_goto C (pc' := 3) d7_41 (by decide) (by decide) ?_
      rw [show i32 i + (1 : Int32) = i32 (i + 1) from i32_add i 1]
      refine ih (i + 1) h2 _ _ (by omega) hlt (by rw [List.length_set]; exact hl) ?_ (Kp.wr W (Or.inl (by simp))) B' (Or.inr ⟨_, rfl⟩)
      rw [own_tset _ _ _ (by omega), ht, own_take1 hc, List.map_append, List.map_append]
      have e := own_bynar c; unfold by8 at e; rw [e]; rfl
  refine r_iconst C (pc' := 1) (v := 0) d7_0 rfl rfl ?_
  refine r_istore C (pc' := 3) (Ls' := #[.val (.ref a), .val (.int (0 : Int32)), .val (.ref b), .val (.int (0 : Int32)), .val (.int (i32 cs.length)), .val (.int (0 : Int32)), .unset]) d7_1 rfl rfl ?_
  refine loop _ 0 h0 _ _ rfl (Nat.zero_le _) hv rfl (Keep.refl _ _) Bv (Or.inl rfl)
set_option maxRecDepth 65536 in
set_option maxHeartbeats 4000000 in
theorem c_comp (l : Launch) (Z : State) (a0 : Array Value) (hw : ∀ d ∈ tables_1, d.before a0 Z = true) (n0 : Nat) (h0 : Heap) (hn : n0 ≤ h0.size) (a : Nat) (ka : ClassId) (cs : List Nat) (A : AV Z h0 a ka .char (cs.map vch) (.int 0)) (hcs : ∀ c ∈ cs, c < 256) (hcap : cs.length ≤ 6) :
    Con l [] (⟨"java/lang/StringUTF16", "compress", "([CII)[B"⟩ : MethodName) jdk_52_method_16_code 6 (some (.array .byte)) ({ frames := 1, cells := 1, slots := 6, locals := 18 } : Room) Z #[(.ref a), (.int (0 : Int32)), (.int (i32 cs.length))] h0 n0 (fun v h => ∃ (b : Nat) (kb : ClassId), v = some (.ref b) ∧ b = h0.size ∧ Keep h0 h [] ∧ AV Z h b kb .byte ((cs.map by8).map Value.int) (.int 0)) := by
  refine enter (Ls := #[.val (.ref a), .val (.int (0 : Int32)), .val (.int (i32 cs.length)), .unset, .unset, .unset]) pn8 (fun m => by first | (simp [entryFrame, mkF, argsToLocals, Value.category]; done) | rfl) ?_
  intro K C
  have hA := A.lt
  refine r_iloadN C (pc' := 1) d6_0 rfl rfl ?_
  refine r_newarrayV C (pc' := 3) (ty := .byte) (m := cs.length) (cap := 6) d6_1 rfl rfl (w27 hw) rfl hcap (by decide) (by decide) (by decide) ?_
  intro h1 b kb gb E1 B1
  refine r_astoreN C (pc' := 4) (Ls' := #[.val (.ref a), .val (.int (0 : Int32)), .val (.int (i32 cs.length)), .val (.ref b), .unset, .unset]) d6_3 rfl rfl rfl ?_
  refine r_aloadN C (pc' := 5) d6_4 rfl rfl rfl ?_
  refine r_iloadN C (pc' := 6) d6_5 rfl rfl ?_
  refine r_aloadN C (pc' := 7) d6_6 rfl rfl rfl ?_
  refine r_iconst C (pc' := 8) (v := 0) d6_7 rfl rfl ?_
  refine r_iloadN C (pc' := 9) d6_8 rfl rfl ?_
  refine r_callS C (pc' := 12) (argsL := [.ref a, .int (0 : Int32), .ref b, .int (0 : Int32), .int (i32 cs.length)]) (c_comp0 l Z a0 hw n0 h1 a b ka kb cs _ (A.ext E1) B1 (List.length_replicate ..) hcs (by omega) (by omega)) d6_9 rfl (w28 hw) (w29 hw) (w25 hw) (w30 hw) (by decide) pd5 (st := []) rfl rfl rfl (W := 0) (Nat.le_of_eq rfl) (by decide) (by decide) (by decide) (by decide) (cells' := 1) (slots' := 6) rfl rfl ?_
  rintro _ h2 ⟨rfl, K2, B2⟩
  show Run _ _ _ _ _ h2 _ _ 12 #[.val (.ref a), .val (.int (0 : Int32)), .val (.int (i32 cs.length)), .val (.ref b), .unset, .unset] [.int (i32 cs.length)]
  refine r_istore C (pc' := 14) (Ls' := #[.val (.ref a), .val (.int (0 : Int32)), .val (.int (i32 cs.length)), .val (.ref b), .val (.int (i32 cs.length)), .unset]) d6_12 rfl rfl ?_
  refine r_iload C (pc' := 16) d6_14 rfl rfl ?_
  refine r_iloadN C (pc' := 17) d6_16 rfl rfl ?_
  refine r_icmp_eq_t C (pc' := 57) d6_17 (by decide) (by decide) rfl ?_
  refine r_aloadN C (pc' := 58) d6_57 rfl rfl rfl ?_
  exact r_areturn C d6_58 rfl rfl (by decide) (by decide) (Nat.zero_le _) (fun _ _ => ⟨b, kb, rfl, gb, ((Keep.refl h0 []).ext E1).trans K2 (allS (Or.inr (by omega)) all0), B2⟩)
set_option maxRecDepth 65536 in
set_option maxHeartbeats 4000000 in
theorem c_coderLen (l : Launch) (Z : State) (a0 : Array Value) (hw : ∀ d ∈ tables_1, d.before a0 Z = true) (n0 : Nat) (h0 : Heap) (b : Nat) (k : ClassId) (vs : List Value) (n : Nat) (A : AV Z h0 b k .byte vs (.int 0)) (hv : vs.length = n) :
    Con l [] (⟨"java/lang/StringUTF16", "coderFromArrayLen", "([BI)B"⟩ : MethodName) jdk_52_method_15_code 2 (some .byte) ({ frames := 0, cells := 0, slots := 0, locals := 0 } : Room) Z #[(.ref b), (.int (i32 n))] h0 n0 (fun v h => v = some (.int 0) ∧ h0 = h) := by
  refine enter (Ls := #[.val (.ref b), .val (.int (i32 n))]) pn9 (fun m => by first | (simp [entryFrame, mkF, argsToLocals, Value.category]; done) | rfl) ?_
  intro K C
  refine r_iloadN C (pc' := 1) d8_0 rfl rfl ?_
  refine r_aloadN C (pc' := 2) d8_1 rfl rfl rfl ?_
  refine r_lengthV C (pc' := 3) (n := n) d8_2 rfl A hv ?_
  refine r_isub C (pc' := 4) d8_3 rfl ?_
  refine r_bipush C (pc' := 6) (v := (31)) d8_4 rfl rfl ?_
  refine r_iushr C (pc' := 7) d8_6 rfl ?_
  refine r_i2b C (pc' := 8) d8_7 rfl ?_
  rw [own_coder0]
  exact r_breturn C d8_8 rfl (by decide) (by decide) (Nat.zero_le _) (fun _ _ => ⟨rfl, rfl⟩)
set_option maxRecDepth 65536 in
set_option maxHeartbeats 4000000 in
theorem c_initCVW (l : Launch) (Z : State) (a0 : Array Value) (hw : ∀ d ∈ tables_1, d.before a0 Z = true) (n0 : Nat) (h0 : Heap) (cc : Int32) (fv : Value) (ss : own_SS Z cc fv) (ol : Old Z n0 h0) (hn : n0 ≤ h0.size) (a ac : Nat) (kc : ClassId) (cs : List Nat) (ge : n0 ≤ a) (E : Exa Z h0 a "java/lang/String") (Fv : Fld Z h0 a "java/lang/String" "value" "[B" .null) (co : Value) (Fc : Fld Z h0 a "java/lang/String" "coder" "B" co) (A : AV Z h0 ac kc .char (cs.map vch) (.int 0)) (hcs : ∀ c ∈ cs, c < 256) (hcap : cs.length ≤ 6) (held : Jvm.Lit.constHeld Z "java/lang/String" 7) (hcw : Jvm.Lit.compactW.before a0 Z = true) :
    ConW l [] (⟨"java/lang/String", "<init>", "([CIILjava/lang/Void;)V"⟩ : MethodName) jdk_42_method_149_code 6 none ({ frames := 2, cells := 2, slots := 6, locals := 35 } : Room) Z #[(.ref a), (.ref ac), (.int (0 : Int32)), (.int (i32 cs.length)), .null] h0 n0 (fun vm => IB Z vm []) (fun v h vm => v = none ∧ Keep h0 h [a] ∧ (∃ (b : Nat) (k : ClassId), St Z h a b k cs ∧ b ≠ a) ∧ IB Z vm [""]) := by
  refine enterW (Ls := #[.val (.ref a), .val (.ref ac), .val (.int (0 : Int32)), .val (.int (i32 cs.length)), .val .null, .unset]) pn10 (fun m => by first | (simp [entryFrame, mkF, argsToLocals, Value.category]; done) | rfl) ?_
  intro K vm kz B D hkz hV
  have C := B.ctx0 D
  have wS : ∀ a ∈ Bundle.stringAtoms, a.before a0 Z = true := (by intro a ha; simp only [Bundle.stringAtoms, List.mem_cons, List.not_mem_nil, or_false] at ha; rcases ha with rfl | rfl | rfl | rfl | rfl | rfl | rfl <;> first | exact (w11 hw) | exact (w10 hw) | exact (w27 hw) | exact (w37 hw) | exact (w35 hw) | exact (w49 hw) | exact (w50 hw))
  have hl : cs.length < 2147483648 := by have := A.2; rwa [own_clen] at this
  have ha := exaLt E
  refine r_aloadN C (pc' := 1) d4_0 rfl rfl rfl ?_
  refine r_initO C (pc' := 4) (W := 0) d4_1 rfl (w19 hw) (w20 hw) (w21 hw) rfl (by decide) (Nat.le_of_eq rfl) (by decide) ?_
  refine r_iloadN C (pc' := 5) d4_4 rfl rfl ?_
  refine r_if_ne C (pt := 27) (pc' := 8) d4_5 (by decide) (by decide) rfl ?_ ?_
  · intro q
    refine Run.touch ?_
    replace C := B.ctx D
    refine r_getS C (pc' := 30) d4_27 rfl (w22 hw) Via.refl (ss.1.ext ol.2) ?_
    refine r_if_eq_f C (pc' := 33) d4_30 rfl ss.2.1 ?_
    refine r_aloadN C (pc' := 34) d4_33 rfl rfl rfl ?_
    refine r_iloadN C (pc' := 35) d4_34 rfl rfl ?_
    refine r_iloadN C (pc' := 36) d4_35 rfl rfl ?_
    refine r_callS C (pc' := 39) (argsL := [.ref ac, .int (0 : Int32), .int (i32 cs.length)]) (c_comp l Z a0 hw n0 h0 hn ac kc cs A hcs hcap) d4_36 rfl (w23 hw) (w24 hw) (w25 hw) (w26 hw) (by decide) pd6 (st := []) rfl rfl rfl (W := 0) (Nat.le_of_eq rfl) (by decide) (by decide) (by decide) (by decide) (cells' := 1) (slots' := 6) rfl rfl ?_
    rintro _ h1 ⟨b, k, rfl, gb, K1, B1⟩
    show Run _ _ _ _ _ h1 _ _ 39 #[.val (.ref a), .val (.ref ac), .val (.int (0 : Int32)), .val (.int (i32 cs.length)), .val .null, .unset] [.ref b]
    have x1 := K1.1
    replace E := E.keep K1
    replace Fv := Fv.keep K1 nin0
    replace Fc := Fc.keep K1 nin0
    refine r_astore C (pc' := 41) (Ls' := #[.val (.ref a), .val (.ref ac), .val (.int (0 : Int32)), .val (.int (i32 cs.length)), .val .null, .val (.ref b)]) d4_39 rfl rfl rfl ?_
    refine r_aloadN C (pc' := 42) d4_41 rfl rfl rfl ?_
    refine r_aload C (pc' := 44) d4_42 rfl rfl rfl ?_
    refine r_iloadN C (pc' := 45) d4_44 rfl rfl ?_
    refine r_callS C (pc' := 48) (argsL := [.ref b, .int (i32 cs.length)]) (c_coderLen l Z a0 hw n0 h1 b k _ cs.length B1 (own_blen cs)) d4_45 rfl (w31 hw) (w32 hw) (w25 hw) (w33 hw) (by decide) pd7 (st := [.ref a]) rfl rfl rfl (W := 1) (Nat.le_of_eq rfl) (by decide) (by decide) (by decide) (by decide) (cells' := 1) (slots' := 6) rfl rfl ?_
    rintro _ _ ⟨rfl, rfl⟩
    show Run _ _ _ _ _ _ _ _ 48 #[.val (.ref a), .val (.ref ac), .val (.int (0 : Int32)), .val (.int (i32 cs.length)), .val .null, .val (.ref b)] [.int (0 : Int32), .ref a]
    refine r_putF C (pc' := 51) d4_48 rfl (w34 hw) Via.refl Fc E (Or.inr ⟨(w35 hw), rfl, rfl⟩) (w10 hw) (ty := .byte) (by decide) rfl rfl ge ?_
    intro h2 W2
    replace Fv := Fv.other W2 (Or.inr (sn0 (Z := Z) hw))
    replace Fc := Fc.same W2
    replace E := E.wr W2
    replace B1 := B1.other W2 (nn (by omega))
    refine r_aloadN C (pc' := 52) d4_51 rfl rfl rfl ?_
    refine r_aload C (pc' := 54) d4_52 rfl rfl rfl ?_
    refine r_putF C (pc' := 57) d4_54 rfl (w36 hw) Via.refl Fv E (Or.inr ⟨(w37 hw), rfl, rfl⟩) (w10 hw) (ty := (.array .byte)) (by decide) rfl rfl ge ?_
    intro h3 W3
    replace Fv := Fv.same W3
    replace Fc := Fc.other W3 (Or.inr (sn1 (Z := Z) hw))
    replace E := E.wr W3
    replace B1 := B1.other W3 (nn (by omega))
    have x2 := W2.size
    have x3 := W3.size
    exact r_return C d4_57 (by decide) (by decide) (by omega) (fun vm' hW => ⟨rfl, (((Keep.refl h0 [a]).trans K1 all0).wr W2 (Or.inl (by simp))).wr W3 (Or.inl (by simp)), ⟨b, k, ⟨E, Fc, Fv, B1⟩, by omega⟩, IB.mono (IB.at hV hW) (by simp)⟩)
  · intro q
    have hc0 : cs = [] := List.eq_nil_of_length_eq_zero ((i32_eq (b := 0) hl (by decide)).mp q)
    subst hc0
    refine r_aloadN C (pc' := 9) d4_8 rfl rfl rfl ?_
    refine r_ldcS (n := 0) (bs := []) (pc' := 11) B D (by omega) d4_9 rfl (w94 hw) wS ol.2.2 hV (by simp) held hcw ⟨by decide, by first | decide | rfl⟩ (by decide) (by decide) (by decide) (by decide) (by decide) ?_
    intro vm1 k1 h1 lt lb lk D zk1 E1 T I1 L1 _
    have E1x := E1.1
    replace C := B.ctx0 D
    have x1 := E1.1
    replace E := E.ext E1
    replace Fv := Fv.ext E1
    replace Fc := Fc.ext E1
    have n1 : lt ≠ a := fun e => by subst e; exact absurd (Fld.inj T.2.2.1 Fv) (by simp)
    have n2 : lb ≠ a := fun e => (Exa.neArv E T.2.2.2.1 (w10 hw)) e.symm
    refine Run.touch ?_
    replace C := B.ctx D
    refine r_getF C (pc' := 14) d4_11 rfl (w36 hw) Via.refl T.2.2.1 ?_
    refine r_putF C (pc' := 17) d4_14 rfl (w36 hw) Via.refl Fv E (Or.inr ⟨(w37 hw), rfl, rfl⟩) (w10 hw) (ty := (.array .byte)) (by decide) rfl rfl ge ?_
    intro h2 W2
    replace Fv := Fv.same W2
    replace Fc := Fc.other W2 (Or.inr (sn1 (Z := Z) hw))
    replace E := E.wr W2
    replace T := T.other W2 n1 n2
    refine r_aloadN C (pc' := 18) d4_17 rfl rfl rfl ?_
    refine r_ldcA (pc' := 20) B D d4_18 rfl (w94 hw) L1 ?_
    refine r_getF C (pc' := 23) d4_20 rfl (w34 hw) Via.refl T.2.1 ?_
    refine r_putF C (pc' := 26) d4_23 rfl (w34 hw) Via.refl Fc E (Or.inr ⟨(w35 hw), rfl, rfl⟩) (w10 hw) (ty := .byte) (by decide) rfl rfl ge ?_
    intro h3 W3
    replace Fv := Fv.other W3 (Or.inr (sn0 (Z := Z) hw))
    replace Fc := Fc.same W3
    replace E := E.wr W3
    replace T := T.other W3 n1 n2
    have x2 := W2.size
    have x3 := W3.size
    exact r_return C d4_26 (by decide) (by decide) (by omega) (fun vm' hW => ⟨rfl, (((Keep.refl h0 [a]).ext E1).wr W2 (Or.inl (by simp))).wr W3 (Or.inl (by simp)), ⟨lb, lk, ⟨E, Fc, Fv, T.2.2.2⟩, n2⟩, IB.at I1 hW⟩)
set_option maxRecDepth 65536 in
set_option maxHeartbeats 4000000 in
theorem c_initCW (l : Launch) (Z : State) (a0 : Array Value) (hw : ∀ d ∈ tables_1, d.before a0 Z = true) (n0 : Nat) (h0 : Heap) (cc : Int32) (fv : Value) (ss : own_SS Z cc fv) (ol : Old Z n0 h0) (hn : n0 ≤ h0.size) (a ac : Nat) (kc : ClassId) (cs : List Nat) (ge : n0 ≤ a) (E : Exa Z h0 a "java/lang/String") (Fv : Fld Z h0 a "java/lang/String" "value" "[B" .null) (co : Value) (Fc : Fld Z h0 a "java/lang/String" "coder" "B" co) (A : AV Z h0 ac kc .char (cs.map vch) (.int 0)) (hcs : ∀ c ∈ cs, c < 256) (hcap : cs.length ≤ 6) (held : Jvm.Lit.constHeld Z "java/lang/String" 7) (hcw : Jvm.Lit.compactW.before a0 Z = true) :
    ConW l [] (⟨"java/lang/String", "<init>", "([C)V"⟩ : MethodName) jdk_42_method_3_code 2 none ({ frames := 3, cells := 2, slots := 6, locals := 52 } : Room) Z #[(.ref a), (.ref ac)] h0 n0 (fun vm => IB Z vm []) (fun v h vm => v = none ∧ Keep h0 h [a] ∧ (∃ (b : Nat) (k : ClassId), St Z h a b k cs ∧ b ≠ a) ∧ IB Z vm [""]) := by
  refine enterW (Ls := #[.val (.ref a), .val (.ref ac)]) pn11 (fun m => by first | (simp [entryFrame, mkF, argsToLocals, Value.category]; done) | rfl) ?_
  intro K vm kz B D hkz hV
  have C := B.ctx0 D
  refine r_aloadN C (pc' := 1) d3_0 rfl rfl rfl ?_
  refine r_aloadN C (pc' := 2) d3_1 rfl rfl rfl ?_
  refine r_iconst C (pc' := 3) (v := 0) d3_2 rfl rfl ?_
  refine r_aloadN C (pc' := 4) d3_3 rfl rfl rfl ?_
  refine r_lengthV C (pc' := 5) (n := cs.length) d3_4 rfl A (own_clen cs) ?_
  refine r_aconst_null C (pc' := 6) d3_5 rfl ?_
  refine Run.touch ?_
  replace C := B.ctx D
  refine r_callIW (rt := none) (pc' := 9) (argsL := [.ref ac, .int (0 : Int32), .int (i32 cs.length), .null]) B D (by omega) (c_initCVW l Z a0 hw n0 h0 cc fv ss ol hn a ac kc cs ge E Fv co Fc A hcs hcap held hcw) (fun vm' hW => IB.warm hV hW) d3_6 rfl (w15 hw) (w16 hw) (w11 hw) (w18 hw) rfl (by decide) pd8 (st := []) rfl rfl rfl (W := 0) (Nat.le_of_eq rfl) (by decide) (by decide) (by decide) (by decide) (cells' := 2) (slots' := 6) rfl rfl ?_
  rintro _ h1 vm1 ⟨rfl, K1, r, I1⟩ x1 D'
  replace D := D'
  replace C := B.ctx D
  show Run _ _ _ _ _ h1 _ _ 9 #[.val (.ref a), .val (.ref ac)] []
  exact r_return C d3_9 (by decide) (by decide) (Nat.le_refl _) (fun vm' hW => ⟨rfl, K1, r, IB.at I1 hW⟩)
set_option maxRecDepth 65536 in
set_option maxHeartbeats 4000000 in
theorem c_draw (l : Launch) (Z : State) (a0 : Array Value) (hw : ∀ d ∈ tables_1, d.before a0 Z = true) (n0 : Nat) (h0 : Heap) (x : Int32) :
    Con l [] (⟨"com/example/ranker/ranker/PageUrlDepthPinLaw", "draw", "(I)C"⟩ : MethodName) method_2_code 3 (some .char) ({ frames := 0, cells := 0, slots := 0, locals := 0 } : Room) Z #[(.int x)] h0 n0 (fun v h => ∃ c : Nat, v = some (.int (i32 c)) ∧ c < 256 ∧ h0 = h) := by
  refine enter (Ls := #[.val (.int x), .unset, .unset]) pn12 (fun m => by first | (simp [entryFrame, mkF, argsToLocals, Value.category]; done) | rfl) ?_
  intro K C
  obtain ⟨r, hr, er⟩ := i32_and255 (XT.ushr x (2 : Int32))
  refine r_iloadN C (pc' := 1) d1_0 rfl rfl ?_
  refine r_iconst C (pc' := 2) (v := 3) d1_1 rfl rfl ?_
  refine r_iand C (pc' := 3) d1_2 rfl ?_
  refine r_istoreN C (pc' := 4) (Ls' := #[.val (.int x), .val (.int (x &&& (3 : Int32))), .unset]) d1_3 rfl rfl ?_
  refine r_iloadN C (pc' := 5) d1_4 rfl rfl ?_
  refine r_iconst C (pc' := 6) (v := 2) d1_5 rfl rfl ?_
  refine r_iushr C (pc' := 7) d1_6 rfl ?_
  refine r_sipush C (pc' := 10) (v := (255)) d1_7 rfl rfl ?_
  refine r_iand C (pc' := 11) d1_10 rfl ?_
  refine r_istoreN C (pc' := 12) (Ls' := #[.val (.int x), .val (.int (x &&& (3 : Int32))), .val (.int ((XT.ushr x (2 : Int32)) &&& (255 : Int32)))]) d1_11 rfl rfl ?_
  refine r_iloadN C (pc' := 13) d1_12 rfl rfl ?_
  refine r_if_ne C (pt := 19) (pc' := 16) d1_13 (by decide) (by decide) rfl ?_ ?_
  · intro q
    refine r_iloadN C (pc' := 20) d1_19 rfl rfl ?_
    refine r_iconst C (pc' := 21) (v := 1) d1_20 rfl rfl ?_
    refine r_icmp_ne C (pt := 27) (pc' := 24) d1_21 (by decide) (by decide) rfl ?_ ?_
    · intro q1
      refine r_iloadN C (pc' := 28) d1_27 rfl rfl ?_
      refine r_i2c C (pc' := 29) d1_28 rfl ?_
      rw [er, own_ch (by omega)]
      exact r_creturn C d1_29 (own_narF ⟨r, by omega⟩) (by decide) (by decide) (Nat.zero_le _) (fun _ _ => ⟨r, rfl, hr, rfl⟩)
    · intro q1
      refine r_bipush C (pc' := 26) (v := (47)) d1_24 rfl rfl ?_
      exact r_creturn C d1_26 rfl (by decide) (by decide) (Nat.zero_le _) (fun _ _ => ⟨47, rfl, by decide, rfl⟩)
  · intro q
    refine r_bipush C (pc' := 18) (v := (58)) d1_16 rfl rfl ?_
    exact r_creturn C d1_18 rfl (by decide) (by decide) (Nat.zero_le _) (fun _ _ => ⟨58, rfl, by decide, rfl⟩)
set_option maxRecDepth 65536 in
set_option maxHeartbeats 4000000 in
theorem c_put (l : Launch) (Z : State) (a0 : Array Value) (hw : ∀ d ∈ tables_1, d.before a0 Z = true) (n0 : Nat) (h0 : Heap) (a : Nat) (k : ClassId) (vs : List Value) (n j c : Nat) (hv : vs.length = n) (hj : j < 6) (hc : c < 256) (ge : n0 ≤ a) (A : AV Z h0 a k .char vs (.int 0)) :
    Con l [] (⟨"com/example/ranker/ranker/PageUrlDepthPinLaw", "put", "([CIC)V"⟩ : MethodName) method_3_code 3 none ({ frames := 0, cells := 0, slots := 0, locals := 0 } : Room) Z #[(.ref a), (.int (i32 j)), (.int (i32 c))] h0 n0 (fun v h => v = none ∧ Keep h0 h [a] ∧ AV Z h a k .char (vs.set j (vch c)) (.int 0)) := by
  refine enter (Ls := #[.val (.ref a), .val (.int (i32 j)), .val (.int (i32 c))]) pn13 (fun m => by first | (simp [entryFrame, mkF, argsToLocals, Value.category]; done) | rfl) ?_
  intro K C
  have hn : n < 2147483648 := hv ▸ A.2
  refine r_iloadN C (pc' := 1) d2_0 rfl rfl ?_
  refine r_aloadN C (pc' := 2) d2_1 rfl rfl rfl ?_
  refine r_lengthV C (pc' := 3) (n := n) d2_2 rfl A hv ?_
  refine r_icmp_ge C (pt := 10) (pc' := 6) d2_3 (by decide) (by decide) rfl ?_ ?_
  · intro q
    have q' : n ≤ j := Nat.le_of_not_lt (fun z => q ((i32_lt (by omega) hn).mpr z))
    exact r_return C d2_10 (by decide) (by decide) (Nat.zero_le _) (fun _ _ => ⟨rfl, Keep.refl _ _, by rw [List.set_eq_of_length_le (by omega)]; exact A⟩)
  · intro q
    have q' : j < n := (i32_lt (by omega) hn).mp q
    refine r_aloadN C (pc' := 7) d2_6 rfl rfl rfl ?_
    refine r_iloadN C (pc' := 8) d2_7 rfl rfl ?_
    refine r_iloadN C (pc' := 9) d2_8 rfl rfl ?_
    refine r_castoreV C (pc' := 10) (i := j) d2_9 rfl A rfl (by omega) (fits_nar_char _) ge ?_
    intro h1 W1 A1
    rw [own_chn (by omega)] at A1
    exact r_return C d2_10 (by decide) (by decide) (Nat.zero_le _) (fun _ _ => ⟨rfl, (Keep.refl _ _).wr W1 (Or.inl (by simp)), A1⟩)
set_option maxRecDepth 65536 in
set_option maxHeartbeats 4000000 in
theorem c_sepAt (l : Launch) (Z : State) (a0 : Array Value) (hw : ∀ d ∈ tables_1, d.before a0 Z = true) (n0 : Nat) (h0 : Heap) (a : Nat) (k : ClassId) (cs : List Nat) (A : AV Z h0 a k .char (cs.map vch) (.int 0)) (hl6 : cs.length = 6) (hcs : ∀ c ∈ cs, c < 256) (len : Nat) (hlen : len < 7) (i : Nat) (hi : i < 4) :
    Con l [] (⟨"com/example/ranker/ranker/PageUrlDepthPinLaw", "sepAt", "([CII)Z"⟩ : MethodName) method_4_code 3 (some .boolean) ({ frames := 0, cells := 0, slots := 0, locals := 0 } : Room) Z #[(.ref a), (.int (i32 len)), (.int (i32 i))] h0 n0 (fun v h => v = some (.int (if i + 2 < len ∧ own_at cs i then 1 else 0)) ∧ h0 = h) := by
  refine enter (Ls := #[.val (.ref a), .val (.int (i32 len)), .val (.int (i32 i))]) pn14 (fun m => by first | (simp [entryFrame, mkF, argsToLocals, Value.category]; done) | rfl) ?_
  intro K C
  have g : ∀ j, j < 6 → ∃ c, cs[j]? = some c ∧ c < 256 := fun j hj => ⟨_, List.getElem?_eq_getElem (by omega), hcs _ (List.getElem_mem _)⟩
  refine r_iloadN C (pc' := 1) d9_0 rfl rfl ?_
  refine r_iconst C (pc' := 2) (v := 2) d9_1 rfl rfl ?_
  refine r_iadd C (pc' := 3) d9_2 rfl ?_
  refine r_iloadN C (pc' := 4) d9_3 rfl rfl ?_
  refine r_icmp_ge C (pt := 39) (pc' := 7) d9_4 (by decide) (by decide) rfl ?_ ?_
  · intro q
    have q' : ¬ i + 2 < len := fun z => q (by rw [show i32 i + (2 : Int32) = i32 (i + 2) from i32_add i 2]; exact (i32_lt (by omega) (by omega)).mpr z)
    refine r_iconst C (pc' := 40) (v := 0) d9_39 rfl rfl ?_
    exact r_zreturn C d9_40 rfl (by decide) (by decide) (Nat.zero_le _) (fun _ _ => ⟨by rw [if_neg (fun z => q' z.1)], rfl⟩)
  · intro q
    rw [show i32 i + (2 : Int32) = i32 (i + 2) from i32_add i 2] at q
    have q' : i + 2 < len := (i32_lt (by omega) (by omega)).mp q
    obtain ⟨x0, e0, y0⟩ := g i (by omega)
    obtain ⟨x1, e1, y1⟩ := g (i + 1) (by omega)
    obtain ⟨x2, e2, y2⟩ := g (i + 2) (by omega)
    refine r_aloadN C (pc' := 8) d9_7 rfl rfl rfl ?_
    refine r_iloadN C (pc' := 9) d9_8 rfl rfl ?_
    refine r_caloadV C (pc' := 10) (i := i) d9_9 rfl A rfl (own_cget e0) ?_
    refine r_bipush C (pc' := 12) (v := (58)) d9_10 rfl rfl ?_
    refine r_icmp_ne C (pt := 39) (pc' := 15) d9_12 (by decide) (by decide) rfl ?_ ?_
    · intro r0
      refine r_iconst C (pc' := 40) (v := 0) d9_39 rfl rfl ?_
      exact r_zreturn C d9_40 rfl (by decide) (by decide) (Nat.zero_le _) (fun _ _ => ⟨by rw [if_neg (fun z => r0 (by have h := z.2.1; rw [e0] at h; rw [Option.some.inj h]; rfl))], rfl⟩)
    · intro r0
      have s0 : x0 = 58 := (i32_eq (b := 58) (by omega) (by decide)).mp r0
      refine r_aloadN C (pc' := 16) d9_15 rfl rfl rfl ?_
      refine r_iloadN C (pc' := 17) d9_16 rfl rfl ?_
      refine r_iconst C (pc' := 18) (v := 1) d9_17 rfl rfl ?_
      refine r_iadd C (pc' := 19) d9_18 rfl ?_
      refine r_caloadV C (pc' := 20) (i := (i + 1)) d9_19 rfl A (i32_add i 1) (own_cget e1) ?_
      refine r_bipush C (pc' := 22) (v := (47)) d9_20 rfl rfl ?_
      refine r_icmp_ne C (pt := 39) (pc' := 25) d9_22 (by decide) (by decide) rfl ?_ ?_
      · intro r1
        refine r_iconst C (pc' := 40) (v := 0) d9_39 rfl rfl ?_
        exact r_zreturn C d9_40 rfl (by decide) (by decide) (Nat.zero_le _) (fun _ _ => ⟨by rw [if_neg (fun z => r1 (by have h := z.2.2.1; rw [e1] at h; rw [Option.some.inj h]; rfl))], rfl⟩)
      · intro r1
        have s1 : x1 = 47 := (i32_eq (b := 47) (by omega) (by decide)).mp r1
        refine r_aloadN C (pc' := 26) d9_25 rfl rfl rfl ?_
        refine r_iloadN C (pc' := 27) d9_26 rfl rfl ?_
        refine r_iconst C (pc' := 28) (v := 2) d9_27 rfl rfl ?_
        refine r_iadd C (pc' := 29) d9_28 rfl ?_
        refine r_caloadV C (pc' := 30) (i := (i + 2)) d9_29 rfl A (i32_add i 2) (own_cget e2) ?_
        refine r_bipush C (pc' := 32) (v := (47)) d9_30 rfl rfl ?_
        refine r_icmp_ne C (pt := 39) (pc' := 35) d9_32 (by decide) (by decide) rfl ?_ ?_
        · intro r2
          refine r_iconst C (pc' := 40) (v := 0) d9_39 rfl rfl ?_
          exact r_zreturn C d9_40 rfl (by decide) (by decide) (Nat.zero_le _) (fun _ _ => ⟨by rw [if_neg (fun z => r2 (by have h := z.2.2.2; rw [e2] at h; rw [Option.some.inj h]; rfl))], rfl⟩)
        · intro r2
          have s2 : x2 = 47 := (i32_eq (b := 47) (by omega) (by decide)).mp r2
          refine r_iconst C (pc' := 36) (v := 1) d9_35 rfl rfl ?_
          refine r_goto C (pc' := 40) d9_36 (by decide) (by decide) ?_
          exact r_zreturn C d9_40 rfl (by decide) (by decide) (Nat.zero_le _) (fun _ _ => ⟨by rw [if_pos ⟨q', by rw [e0, s0], by rw [e1, s1], by rw [e2, s2]⟩], rfl⟩)
set_option maxRecDepth 65536 in
set_option maxHeartbeats 4000000 in
theorem c_slashAt (l : Launch) (Z : State) (a0 : Array Value) (hw : ∀ d ∈ tables_1, d.before a0 Z = true) (n0 : Nat) (h0 : Heap) (a : Nat) (k : ClassId) (cs : List Nat) (A : AV Z h0 a k .char (cs.map vch) (.int 0)) (hl6 : cs.length = 6) (hcs : ∀ c ∈ cs, c < 256) (len : Nat) (hlen : len < 7) (st j : Nat) (hst : st < 7) (hj : j < 6) :
    Con l [] (⟨"com/example/ranker/ranker/PageUrlDepthPinLaw", "slashAt", "([CIII)I"⟩ : MethodName) method_5_code 4 (some .int) ({ frames := 0, cells := 0, slots := 0, locals := 0 } : Room) Z #[(.ref a), (.int (i32 len)), (.int (i32 st)), (.int (i32 j))] h0 n0 (fun v h => v = some (.int (i32 (own_sl cs len st j))) ∧ h0 = h) := by
  refine enter (Ls := #[.val (.ref a), .val (.int (i32 len)), .val (.int (i32 st)), .val (.int (i32 j))]) pn15 (fun m => by first | (simp [entryFrame, mkF, argsToLocals, Value.category]; done) | rfl) ?_
  intro K C
  obtain ⟨c, e, y⟩ : ∃ c, cs[j]? = some c ∧ c < 256 := ⟨_, List.getElem?_eq_getElem (by omega), hcs _ (List.getElem_mem _)⟩
  refine r_iloadN C (pc' := 1) d10_0 rfl rfl ?_
  refine r_iloadN C (pc' := 2) d10_1 rfl rfl ?_
  refine r_icmp_lt C (pt := 22) (pc' := 5) d10_2 (by decide) (by decide) rfl ?_ ?_
  · intro q
    have q' : ¬ st ≤ j := by have := (i32_lt (by omega) (by omega)).mp q; omega
    refine r_iconst C (pc' := 23) (v := 0) d10_22 rfl rfl ?_
    exact r_ireturn C d10_23 (by decide) (by decide) (Nat.zero_le _) (fun _ _ => ⟨by rw [own_sl, if_neg (fun z => q' z.1)]; rfl, rfl⟩)
  · intro q
    have q' : st ≤ j := Nat.le_of_not_lt (fun z => q ((i32_lt (a := j) (b := st) (by omega) (by omega)).mpr z))
    refine r_iloadN C (pc' := 6) d10_5 rfl rfl ?_
    refine r_iloadN C (pc' := 7) d10_6 rfl rfl ?_
    refine r_icmp_ge C (pt := 22) (pc' := 10) d10_7 (by decide) (by decide) rfl ?_ ?_
    · intro r
      have r' : ¬ j < len := fun z => r ((i32_lt (by omega) (by omega)).mpr z)
      refine r_iconst C (pc' := 23) (v := 0) d10_22 rfl rfl ?_
      exact r_ireturn C d10_23 (by decide) (by decide) (Nat.zero_le _) (fun _ _ => ⟨by rw [own_sl, if_neg (fun z => r' z.2.1)]; rfl, rfl⟩)
    · intro r
      have r' : j < len := (i32_lt (by omega) (by omega)).mp r
      refine r_aloadN C (pc' := 11) d10_10 rfl rfl rfl ?_
      refine r_iloadN C (pc' := 12) d10_11 rfl rfl ?_
      refine r_caloadV C (pc' := 13) (i := j) d10_12 rfl A rfl (own_cget e) ?_
      refine r_bipush C (pc' := 15) (v := (47)) d10_13 rfl rfl ?_
      refine r_icmp_ne C (pt := 22) (pc' := 18) d10_15 (by decide) (by decide) rfl ?_ ?_
      · intro s
        refine r_iconst C (pc' := 23) (v := 0) d10_22 rfl rfl ?_
        exact r_ireturn C d10_23 (by decide) (by decide) (Nat.zero_le _) (fun _ _ => ⟨by rw [own_sl, if_neg (fun z => s (by have h := z.2.2; rw [e] at h; rw [Option.some.inj h]; rfl))]; rfl, rfl⟩)
      · intro s
        have s' : c = 47 := (i32_eq (b := 47) (by omega) (by decide)).mp s
        refine r_iconst C (pc' := 19) (v := 1) d10_18 rfl rfl ?_
        refine r_goto C (pc' := 23) d10_19 (by decide) (by decide) ?_
        exact r_ireturn C d10_23 (by decide) (by decide) (Nat.zero_le _) (fun _ _ => ⟨by rw [own_sl, if_pos ⟨q', r', by rw [e, s']⟩]; rfl, rfl⟩)
set_option maxRecDepth 65536 in
set_option maxHeartbeats 4000000 in
theorem c_idx5 (l : Launch) (Z : State) (a0 : Array Value) (hw : ∀ d ∈ tables_1, d.before a0 Z = true) (n0 : Nat) (h0 : Heap) (b pb : Nat) (k pk : ClassId) (cs : List Nat) (A : AV Z h0 b k .byte ((cs.map by8).map Value.int) (.int 0)) (P : AV Z h0 pb pk .byte (([58, 47, 47].map by8).map Value.int) (.int 0)) (hcs : ∀ c ∈ cs, c < 256) (hsm : cs.length < 1000000) :
    Con l [] (⟨"java/lang/StringLatin1", "indexOf", "([BI[BII)I"⟩ : MethodName) jdk_43_method_25_code 11 (some .int) ({ frames := 0, cells := 0, slots := 0, locals := 0 } : Room) Z #[(.ref b), (.int (i32 cs.length)), (.ref pb), (.int (i32 3)), (.int (0 : Int32))] h0 n0 (fun v h => v = some (.int (own_ix (own_find cs (cs.length - 2) 0))) ∧ h0 = h) := by
  refine enter (Ls := #[.val (.ref b), .val (.int (i32 cs.length)), .val (.ref pb), .val (.int (i32 3)), .val (.int (0 : Int32)), .unset, .unset, .unset, .unset, .unset, .unset]) pn16 (fun m => by first | (simp [entryFrame, mkF, argsToLocals, Value.category]; done) | rfl) ?_
  intro K C
  have hn : cs.length < 2147483648 := by have := A.2; rwa [own_blen] at this
  have g : ∀ j, j < cs.length → ∃ c, cs[j]? = some c ∧ c < 256 := fun j hj => ⟨_, List.getElem?_eq_getElem hj, hcs _ (List.getElem_mem hj)⟩
  have loop : ∀ (m : Nat), (∀ (i : Nat) (L8 L9 L10 : Slot), cs.length - 2 - i = m → i < cs.length + 2 → own_find cs m i = own_find cs (cs.length - 2) 0 → (L8 = .unset ∨ ∃ u, L8 = .val (.int u)) → (L9 = .unset ∨ ∃ u, L9 = .val (.int u)) → (L10 = .unset ∨ ∃ u, L10 = .val (.int u)) → Run l ({ frames := 0, cells := 0, slots := 0, locals := 0 } : Room) n0 (fun v h _ => v = some (.int (own_ix (own_find cs (cs.length - 2) 0))) ∧ h0 = h) K h0 0 0 14 #[.val (.ref b), .val (.int (i32 cs.length)), .val (.ref pb), .val (.int (i32 3)), .val (.int (0 : Int32)), .val (.int (by8 58)), .val (.int (i32 cs.length - i32 3)), .val (.int (i32 i)), L8, L9, L10] []) ∧ (∀ (i : Nat) (L8 L9 L10 : Slot), cs.length - 2 - i = m → i < cs.length + 2 → 0 < m → cs[i]? = some 58 → own_find cs m i = own_find cs (cs.length - 2) 0 → (L8 = .unset ∨ ∃ u, L8 = .val (.int u)) → (L9 = .unset ∨ ∃ u, L9 = .val (.int u)) → (L10 = .unset ∨ ∃ u, L10 = .val (.int u)) → Run l ({ frames := 0, cells := 0, slots := 0, locals := 0 } : Room) n0 (fun v h _ => v = some (.int (own_ix (own_find cs (cs.length - 2) 0))) ∧ h0 = h) K h0 0 0 52 #[.val (.ref b), .val (.int (i32 cs.length)), .val (.ref pb), .val (.int (i32 3)), .val (.int (0 : Int32)), .val (.int (by8 58)), .val (.int (i32 cs.length - i32 3)), .val (.int (i32 i)), L8, L9, L10] []) ∧ (∀ (i : Nat) (L8 L9 L10 : Slot), cs.length - 2 - i = m → i < cs.length + 2 → 0 < m → ¬ own_at cs i → own_find cs m i = own_find cs (cs.length - 2) 0 → (L8 = .unset ∨ ∃ u, L8 = .val (.int u)) → (L9 = .unset ∨ ∃ u, L9 = .val (.int u)) → (L10 = .unset ∨ ∃ u, L10 = .val (.int u)) → Run l ({ frames := 0, cells := 0, slots := 0, locals := 0 } : Room) n0 (fun v h _ => v = some (.int (own_ix (own_find cs (cs.length - 2) 0))) ∧ h0 = h) K h0 0 0 30 #[.val (.ref b), .val (.int (i32 cs.length)), .val (.ref pb), .val (.int (i32 3)), .val (.int (0 : Int32)), .val (.int (by8 58)), .val (.int (i32 cs.length - i32 3)), .val (.int (i32 i)), L8, L9, L10] []) := by
    intro m
    induction m with
    | zero =>
      refine ⟨?_, fun i L8 L9 L10 _ _ h0 => absurd h0 (by omega), fun i L8 L9 L10 _ _ h0 => absurd h0 (by omega)⟩
      intro i L8 L9 L10 hm hi ef h8 h9 h10
      refine r_iload C (pc' := 16) d16_14 rfl rfl ?_
      refine r_iload C (pc' := 18) d16_16 rfl rfl ?_
      refine r_icmp_gt_t C (pc' := 119) d16_18 (by decide) (by decide) ((own_max hn (by omega)).mpr (by omega)) ?_
      refine r_iconst C (pc' := 120) (v := (-1)) d16_119 rfl rfl ?_
      exact r_ireturn C d16_120 (by decide) (by decide) (Nat.zero_le _) (fun _ _ => ⟨by rw [← ef]; rfl, rfl⟩)
    | succ m ih =>
      obtain ⟨ih14, ih52, ih30⟩ := ih
      have P52 : ∀ (i : Nat) (L8 L9 L10 : Slot), cs.length - 2 - i = m + 1 → i < cs.length + 2 → cs[i]? = some 58 → own_find cs (m + 1) i = own_find cs (cs.length - 2) 0 → (L8 = .unset ∨ ∃ u, L8 = .val (.int u)) → (L9 = .unset ∨ ∃ u, L9 = .val (.int u)) → (L10 = .unset ∨ ∃ u, L10 = .val (.int u)) → Run l ({ frames := 0, cells := 0, slots := 0, locals := 0 } : Room) n0 (fun v h _ => v = some (.int (own_ix (own_find cs (cs.length - 2) 0))) ∧ h0 = h) K h0 0 0 52 #[.val (.ref b), .val (.int (i32 cs.length)), .val (.ref pb), .val (.int (i32 3)), .val (.int (0 : Int32)), .val (.int (by8 58)), .val (.int (i32 cs.length - i32 3)), .val (.int (i32 i)), L8, L9, L10] [] := by
        intro i L8 L9 L10 hm hi e0 ef h8 h9 h10
        rw [own_find] at ef
        obtain ⟨x1, e1, y1⟩ := g (i + 1) (by omega)
        obtain ⟨x2, e2, y2⟩ := g (i + 2) (by omega)
        refine r_iload C (pc' := 54) d16_52 rfl rfl ?_
        refine r_iload C (pc' := 56) d16_54 rfl rfl ?_
        refine r_icmp_gt_f C (pc' := 59) d16_56 rfl (fun q => absurd ((own_max hn (by omega)).mp q) (by omega)) ?_
        refine r_iload C (pc' := 61) d16_59 rfl rfl ?_
        refine r_iconst C (pc' := 62) (v := 1) d16_61 rfl rfl ?_
        refine r_iadd C (pc' := 63) d16_62 rfl ?_
        rw [show i32 i + (1 : Int32) = i32 (i + 1) from i32_add i 1]
        refine r_istore C (pc' := 65) (Ls' := #[.val (.ref b), .val (.int (i32 cs.length)), .val (.ref pb), .val (.int (i32 3)), .val (.int (0 : Int32)), .val (.int (by8 58)), .val (.int (i32 cs.length - i32 3)), .val (.int (i32 i)), .val (.int (i32 (i + 1))), L9, L10]) d16_63 rfl (by rcases h8 with rfl | ⟨u8, rfl⟩ <;> rcases h9 with rfl | ⟨u9, rfl⟩ <;> rcases h10 with rfl | ⟨u10, rfl⟩ <;> rfl) ?_
        refine r_iload C (pc' := 67) d16_65 rfl rfl ?_
        refine r_iloadN C (pc' := 68) d16_67 rfl rfl ?_
        refine r_iadd C (pc' := 69) d16_68 rfl ?_
        refine r_iconst C (pc' := 70) (v := 1) d16_69 rfl rfl ?_
        refine r_isub C (pc' := 71) d16_70 rfl ?_
        rw [i32_add (i + 1) 3, show i32 (i + 1 + 3) - (1 : Int32) = i32 (i + 3) from i32_sub (a := i + 1 + 3) (b := 1) (by omega)]
        refine r_istore C (pc' := 73) (Ls' := #[.val (.ref b), .val (.int (i32 cs.length)), .val (.ref pb), .val (.int (i32 3)), .val (.int (0 : Int32)), .val (.int (by8 58)), .val (.int (i32 cs.length - i32 3)), .val (.int (i32 i)), .val (.int (i32 (i + 1))), .val (.int (i32 (i + 3))), L10]) d16_71 rfl (by rcases h8 with rfl | ⟨u8, rfl⟩ <;> rcases h9 with rfl | ⟨u9, rfl⟩ <;> rcases h10 with rfl | ⟨u10, rfl⟩ <;> rfl) ?_
        refine r_iconst C (pc' := 74) (v := 1) d16_73 rfl rfl ?_
        refine r_istore C (pc' := 76) (Ls' := #[.val (.ref b), .val (.int (i32 cs.length)), .val (.ref pb), .val (.int (i32 3)), .val (.int (0 : Int32)), .val (.int (by8 58)), .val (.int (i32 cs.length - i32 3)), .val (.int (i32 i)), .val (.int (i32 (i + 1))), .val (.int (i32 (i + 3))), .val (.int (1 : Int32))]) d16_74 rfl (by rcases h8 with rfl | ⟨u8, rfl⟩ <;> rcases h9 with rfl | ⟨u9, rfl⟩ <;> rcases h10 with rfl | ⟨u10, rfl⟩ <;> rfl) ?_
        show Run _ _ _ _ _ _ _ _ 76 #[.val (.ref b), .val (.int (i32 cs.length)), .val (.ref pb), .val (.int (i32 3)), .val (.int (0 : Int32)), .val (.int (by8 58)), .val (.int (i32 cs.length - i32 3)), .val (.int (i32 i)), .val (.int (i32 (i + 1))), .val (.int (i32 (i + 3))), .val (.int (i32 1))] []
        refine r_iload C (pc' := 78) d16_76 rfl rfl ?_
        refine r_iload C (pc' := 80) d16_78 rfl rfl ?_
        refine r_icmp_ge_f C (pc' := 83) d16_80 rfl ((i32_lt (by omega) (by omega)).mpr (by omega)) ?_
        refine r_aloadN C (pc' := 84) d16_83 rfl rfl rfl ?_
        refine r_iload C (pc' := 86) d16_84 rfl rfl ?_
        refine r_baloadV C (pc' := 87) (i := (i + 1)) d16_86 rfl A rfl (own_bget e1) ?_
        refine r_aloadN C (pc' := 88) d16_87 rfl rfl rfl ?_
        refine r_iload C (pc' := 90) d16_88 rfl rfl ?_
        refine r_baloadV C (pc' := 91) (i := 1) d16_90 rfl P rfl rfl ?_
        refine r_icmp_ne C (pt := 103) (pc' := 94) d16_91 (by decide) (by decide) rfl ?_ ?_
        · intro r1
          rw [if_neg (fun z => r1 (by have h := z.2.1; rw [e1] at h; rw [Option.some.inj h]))] at ef
          refine r_iload C (pc' := 105) d16_103 rfl rfl ?_
          refine r_iload C (pc' := 107) d16_105 rfl rfl ?_
          refine r_icmp_ne_t C (pc' := 113) d16_107 (by decide) (by decide) (fun q => absurd ((i32_eq (by omega) (by omega)).mp q) (by omega)) ?_
          refine r_iinc C (pc' := 116) (v := (1)) (Ls' := #[.val (.ref b), .val (.int (i32 cs.length)), .val (.ref pb), .val (.int (i32 3)), .val (.int (0 : Int32)), .val (.int (by8 58)), .val (.int (i32 cs.length - i32 3)), .val (.int ((i32 i) + (1 : Int32))), .val (.int (i32 (i + 1))), .val (.int (i32 (i + 3))), .val (.int (i32 1))]) d16_113 rfl rfl rfl rfl ?_
          refine r_goto C (pc' := 14) d16_116 (by decide) (by decide) ?_
          rw [show i32 i + (1 : Int32) = i32 (i + 1) from i32_add i 1]
          exact ih14 (i + 1) _ _ _ (by omega) (by omega) ef (Or.inr ⟨_, rfl⟩) (Or.inr ⟨_, rfl⟩) (Or.inr ⟨_, rfl⟩)
        · intro r1
          have s1 : x1 = 47 := (by8_inj y1 (by decide)).mp r1
          refine r_iinc C (pc' := 97) (v := (1)) (Ls' := #[.val (.ref b), .val (.int (i32 cs.length)), .val (.ref pb), .val (.int (i32 3)), .val (.int (0 : Int32)), .val (.int (by8 58)), .val (.int (i32 cs.length - i32 3)), .val (.int (i32 i)), .val (.int ((i32 (i + 1)) + (1 : Int32))), .val (.int (i32 (i + 3))), .val (.int (i32 1))]) d16_94 rfl rfl rfl rfl ?_
          refine r_iinc C (pc' := 100) (v := (1)) (Ls' := #[.val (.ref b), .val (.int (i32 cs.length)), .val (.ref pb), .val (.int (i32 3)), .val (.int (0 : Int32)), .val (.int (by8 58)), .val (.int (i32 cs.length - i32 3)), .val (.int (i32 i)), .val (.int ((i32 (i + 1)) + (1 : Int32))), .val (.int (i32 (i + 3))), .val (.int ((i32 1) + (1 : Int32)))]) d16_97 rfl rfl rfl rfl ?_
          refine r_goto C (pc' := 76) d16_100 (by decide) (by decide) ?_
          rw [show i32 (i + 1) + (1 : Int32) = i32 (i + 2) from i32_add (i + 1) 1, show i32 1 + (1 : Int32) = i32 2 from i32_add 1 1]
          refine r_iload C (pc' := 78) d16_76 rfl rfl ?_
          refine r_iload C (pc' := 80) d16_78 rfl rfl ?_
          refine r_icmp_ge_f C (pc' := 83) d16_80 rfl ((i32_lt (by omega) (by omega)).mpr (by omega)) ?_
          refine r_aloadN C (pc' := 84) d16_83 rfl rfl rfl ?_
          refine r_iload C (pc' := 86) d16_84 rfl rfl ?_
          refine r_baloadV C (pc' := 87) (i := (i + 2)) d16_86 rfl A rfl (own_bget e2) ?_
          refine r_aloadN C (pc' := 88) d16_87 rfl rfl rfl ?_
          refine r_iload C (pc' := 90) d16_88 rfl rfl ?_
          refine r_baloadV C (pc' := 91) (i := 2) d16_90 rfl P rfl rfl ?_
          refine r_icmp_ne C (pt := 103) (pc' := 94) d16_91 (by decide) (by decide) rfl ?_ ?_
          · intro r2
            rw [if_neg (fun z => r2 (by have h := z.2.2; rw [e2] at h; rw [Option.some.inj h]))] at ef
            refine r_iload C (pc' := 105) d16_103 rfl rfl ?_
            refine r_iload C (pc' := 107) d16_105 rfl rfl ?_
            refine r_icmp_ne_t C (pc' := 113) d16_107 (by decide) (by decide) (fun q => absurd ((i32_eq (by omega) (by omega)).mp q) (by omega)) ?_
            refine r_iinc C (pc' := 116) (v := (1)) (Ls' := #[.val (.ref b), .val (.int (i32 cs.length)), .val (.ref pb), .val (.int (i32 3)), .val (.int (0 : Int32)), .val (.int (by8 58)), .val (.int (i32 cs.length - i32 3)), .val (.int ((i32 i) + (1 : Int32))), .val (.int (i32 (i + 2))), .val (.int (i32 (i + 3))), .val (.int (i32 2))]) d16_113 rfl rfl rfl rfl ?_
            refine r_goto C (pc' := 14) d16_116 (by decide) (by decide) ?_
            rw [show i32 i + (1 : Int32) = i32 (i + 1) from i32_add i 1]
            exact ih14 (i + 1) _ _ _ (by omega) (by omega) ef (Or.inr ⟨_, rfl⟩) (Or.inr ⟨_, rfl⟩) (Or.inr ⟨_, rfl⟩)
          · intro r2
            have s2 : x2 = 47 := (by8_inj y2 (by decide)).mp r2
            rw [if_pos ⟨e0, by rw [e1, s1], by rw [e2, s2]⟩] at ef
            refine r_iinc C (pc' := 97) (v := (1)) (Ls' := #[.val (.ref b), .val (.int (i32 cs.length)), .val (.ref pb), .val (.int (i32 3)), .val (.int (0 : Int32)), .val (.int (by8 58)), .val (.int (i32 cs.length - i32 3)), .val (.int (i32 i)), .val (.int ((i32 (i + 2)) + (1 : Int32))), .val (.int (i32 (i + 3))), .val (.int (i32 2))]) d16_94 rfl rfl rfl rfl ?_
            refine r_iinc C (pc' := 100) (v := (1)) (Ls' := #[.val (.ref b), .val (.int (i32 cs.length)), .val (.ref pb), .val (.int (i32 3)), .val (.int (0 : Int32)), .val (.int (by8 58)), .val (.int (i32 cs.length - i32 3)), .val (.int (i32 i)), .val (.int ((i32 (i + 2)) + (1 : Int32))), .val (.int (i32 (i + 3))), .val (.int ((i32 2) + (1 : Int32)))]) d16_97 rfl rfl rfl rfl ?_
            refine r_goto C (pc' := 76) d16_100 (by decide) (by decide) ?_
            rw [show i32 (i + 2) + (1 : Int32) = i32 (i + 3) from i32_add (i + 2) 1]
            refine r_iload C (pc' := 78) d16_76 rfl rfl ?_
            refine r_iload C (pc' := 80) d16_78 rfl rfl ?_
            refine r_icmp_ge_t C (pc' := 103) d16_80 (by decide) (by decide) (fun q => absurd ((i32_lt (by omega) (by omega)).mp q) (Nat.lt_irrefl _)) ?_
            refine r_iload C (pc' := 105) d16_103 rfl rfl ?_
            refine r_iload C (pc' := 107) d16_105 rfl rfl ?_
            refine r_icmp_ne_f C (pc' := 110) d16_107 rfl rfl ?_
            refine r_iload C (pc' := 112) d16_110 rfl rfl ?_
            exact r_ireturn C d16_112 (by decide) (by decide) (Nat.zero_le _) (fun _ _ => ⟨by rw [← ef]; rfl, rfl⟩)
      have P30 : ∀ (i : Nat) (L8 L9 L10 : Slot), cs.length - 2 - i = m + 1 → i < cs.length + 2 → ¬ own_at cs i → own_find cs (m + 1) i = own_find cs (cs.length - 2) 0 → (L8 = .unset ∨ ∃ u, L8 = .val (.int u)) → (L9 = .unset ∨ ∃ u, L9 = .val (.int u)) → (L10 = .unset ∨ ∃ u, L10 = .val (.int u)) → Run l ({ frames := 0, cells := 0, slots := 0, locals := 0 } : Room) n0 (fun v h _ => v = some (.int (own_ix (own_find cs (cs.length - 2) 0))) ∧ h0 = h) K h0 0 0 30 #[.val (.ref b), .val (.int (i32 cs.length)), .val (.ref pb), .val (.int (i32 3)), .val (.int (0 : Int32)), .val (.int (by8 58)), .val (.int (i32 cs.length - i32 3)), .val (.int (i32 i)), L8, L9, L10] [] := by
        intro i L8 L9 L10 hm hi en ef h8 h9 h10
        rw [own_find, if_neg en] at ef
        refine r_iinc C (pc' := 33) (v := (1)) (Ls' := #[.val (.ref b), .val (.int (i32 cs.length)), .val (.ref pb), .val (.int (i32 3)), .val (.int (0 : Int32)), .val (.int (by8 58)), .val (.int (i32 cs.length - i32 3)), .val (.int ((i32 i) + (1 : Int32))), L8, L9, L10]) d16_30 rfl rfl rfl (by rcases h8 with rfl | ⟨u8, rfl⟩ <;> rcases h9 with rfl | ⟨u9, rfl⟩ <;> rcases h10 with rfl | ⟨u10, rfl⟩ <;> rfl) ?_
        rw [show i32 i + (1 : Int32) = i32 (i + 1) from i32_add i 1]
        refine r_iload C (pc' := 35) d16_33 rfl rfl ?_
        refine r_iload C (pc' := 37) d16_35 rfl rfl ?_
        refine r_icmp_gt C (pt := 52) (pc' := 40) d16_37 (by decide) (by decide) rfl ?_ ?_
        · intro q
          have q' : cs.length < i + 1 + 3 := (own_max hn (by omega)).mp q
          refine r_iload C (pc' := 54) d16_52 rfl rfl ?_
          refine r_iload C (pc' := 56) d16_54 rfl rfl ?_
          refine r_icmp_gt_t C (pc' := 113) d16_56 (by decide) (by decide) q ?_
          refine r_iinc C (pc' := 116) (v := (1)) (Ls' := #[.val (.ref b), .val (.int (i32 cs.length)), .val (.ref pb), .val (.int (i32 3)), .val (.int (0 : Int32)), .val (.int (by8 58)), .val (.int (i32 cs.length - i32 3)), .val (.int ((i32 (i + 1)) + (1 : Int32))), L8, L9, L10]) d16_113 rfl rfl rfl (by rcases h8 with rfl | ⟨u8, rfl⟩ <;> rcases h9 with rfl | ⟨u9, rfl⟩ <;> rcases h10 with rfl | ⟨u10, rfl⟩ <;> rfl) ?_
          refine r_goto C (pc' := 14) d16_116 (by decide) (by decide) ?_
          rw [show i32 (i + 1) + (1 : Int32) = i32 ((i + 1) + 1) from i32_add (i + 1) 1]
          have m0 : m = 0 := by omega
          subst m0
          exact ih14 (i + 1 + 1) _ _ _ (by omega) (by omega) ef h8 h9 h10
        · intro q
          have q' : ¬ cs.length < i + 1 + 3 := fun z => q ((own_max hn (by omega)).mpr z)
          obtain ⟨x0, e0, y0⟩ := g (i + 1) (by omega)
          refine r_aloadN C (pc' := 41) d16_40 rfl rfl rfl ?_
          refine r_iload C (pc' := 43) d16_41 rfl rfl ?_
          refine r_baloadV C (pc' := 44) (i := (i + 1)) d16_43 rfl A rfl (own_bget e0) ?_
          refine r_iload C (pc' := 46) d16_44 rfl rfl ?_
          refine r_icmp_eq C (pt := 52) (pc' := 49) d16_46 (by decide) (by decide) rfl ?_ ?_
          · intro r
            have s : x0 = 58 := (by8_inj y0 (by decide)).mp r
            exact ih52 (i + 1) _ _ _ (by omega) (by omega) (by omega) (by rw [e0, s]) ef h8 h9 h10
          · intro r
            refine r_goto C (pc' := 30) d16_49 (by decide) (by decide) ?_
            exact ih30 (i + 1) _ _ _ (by omega) (by omega) (by omega) (fun z => r (by have h := z.1; rw [e0] at h; rw [Option.some.inj h])) ef h8 h9 h10
      refine ⟨?_, fun i L8 L9 L10 hm hi _ => P52 i L8 L9 L10 hm hi, fun i L8 L9 L10 hm hi _ => P30 i L8 L9 L10 hm hi⟩
      intro i L8 L9 L10 hm hi ef h8 h9 h10
      obtain ⟨x0, e0, y0⟩ := g i (by omega)
      refine r_iload C (pc' := 16) d16_14 rfl rfl ?_
      refine r_iload C (pc' := 18) d16_16 rfl rfl ?_
      refine r_icmp_gt_f C (pc' := 21) d16_18 rfl (fun q => absurd ((own_max hn (by omega)).mp q) (by omega)) ?_
      refine r_aloadN C (pc' := 22) d16_21 rfl rfl rfl ?_
      refine r_iload C (pc' := 24) d16_22 rfl rfl ?_
      refine r_baloadV C (pc' := 25) (i := i) d16_24 rfl A rfl (own_bget e0) ?_
      refine r_iload C (pc' := 27) d16_25 rfl rfl ?_
      refine r_icmp_eq C (pt := 52) (pc' := 30) d16_27 (by decide) (by decide) rfl ?_ ?_
      · intro r
        have s : x0 = 58 := (by8_inj y0 (by decide)).mp r
        exact P52 i _ _ _ hm hi (by rw [e0, s]) ef h8 h9 h10
      · intro r
        exact P30 i _ _ _ hm hi (fun z => r (by have h := z.1; rw [e0] at h; rw [Option.some.inj h])) ef h8 h9 h10
  refine r_aloadN C (pc' := 1) d16_0 rfl rfl rfl ?_
  refine r_iconst C (pc' := 2) (v := 0) d16_1 rfl rfl ?_
  refine r_baloadV C (pc' := 3) (i := 0) d16_2 rfl P rfl rfl ?_
  refine r_istore C (pc' := 5) (Ls' := #[.val (.ref b), .val (.int (i32 cs.length)), .val (.ref pb), .val (.int (i32 3)), .val (.int (0 : Int32)), .val (.int (by8 58)), .unset, .unset, .unset, .unset, .unset]) d16_3 rfl rfl ?_
  refine r_iloadN C (pc' := 6) d16_5 rfl rfl ?_
  refine r_iloadN C (pc' := 7) d16_6 rfl rfl ?_
  refine r_isub C (pc' := 8) d16_7 rfl ?_
  refine r_istore C (pc' := 10) (Ls' := #[.val (.ref b), .val (.int (i32 cs.length)), .val (.ref pb), .val (.int (i32 3)), .val (.int (0 : Int32)), .val (.int (by8 58)), .val (.int ((i32 cs.length) - (i32 3))), .unset, .unset, .unset, .unset]) d16_8 rfl rfl ?_
  refine r_iload C (pc' := 12) d16_10 rfl rfl ?_
  refine r_istore C (pc' := 14) (Ls' := #[.val (.ref b), .val (.int (i32 cs.length)), .val (.ref pb), .val (.int (i32 3)), .val (.int (0 : Int32)), .val (.int (by8 58)), .val (.int ((i32 cs.length) - (i32 3))), .val (.int (0 : Int32)), .unset, .unset, .unset]) d16_12 rfl rfl ?_
  exact (loop _).1 0 _ _ _ rfl (by omega) rfl (Or.inl rfl) (Or.inl rfl) (Or.inl rfl)
set_option maxRecDepth 65536 in
set_option maxHeartbeats 4000000 in
theorem c_idx2 (l : Launch) (Z : State) (a0 : Array Value) (hw : ∀ d ∈ tables_1, d.before a0 Z = true) (n0 : Nat) (h0 : Heap) (b pb : Nat) (k pk : ClassId) (cs : List Nat) (A : AV Z h0 b k .byte ((cs.map by8).map Value.int) (.int 0)) (P : AV Z h0 pb pk .byte (([58, 47, 47].map by8).map Value.int) (.int 0)) (hcs : ∀ c ∈ cs, c < 256) (hsm : cs.length < 1000000) :
    Con l [] (⟨"java/lang/StringLatin1", "indexOf", "([B[B)I"⟩ : MethodName) jdk_43_method_24_code 2 (some .int) ({ frames := 1, cells := 0, slots := 0, locals := 22 } : Room) Z #[(.ref b), (.ref pb)] h0 n0 (fun v h => v = some (.int (own_ix (own_find cs (cs.length - 2) 0))) ∧ h0 = h) := by
  refine enter (Ls := #[.val (.ref b), .val (.ref pb)]) pn17 (fun m => by first | (simp [entryFrame, mkF, argsToLocals, Value.category]; done) | rfl) ?_
  intro K C
  have hn : cs.length < 2147483648 := by have := A.2; rwa [own_blen] at this
  refine r_aloadN C (pc' := 1) d15_0 rfl rfl rfl ?_
  refine r_lengthV C (pc' := 2) (n := 3) d15_1 rfl P rfl ?_
  refine r_if_ne_t C (pc' := 7) d15_2 (by decide) (by decide) (by decide) ?_
  refine r_aloadN C (pc' := 8) d15_7 rfl rfl rfl ?_
  refine r_lengthV C (pc' := 9) (n := cs.length) d15_8 rfl A (own_blen cs) ?_
  refine r_if_ne C (pt := 14) (pc' := 12) d15_9 (by decide) (by decide) rfl ?_ ?_
  · intro q
    refine r_aloadN C (pc' := 15) d15_14 rfl rfl rfl ?_
    refine r_aloadN C (pc' := 16) d15_15 rfl rfl rfl ?_
    refine r_lengthV C (pc' := 17) (n := cs.length) d15_16 rfl A (own_blen cs) ?_
    refine r_aloadN C (pc' := 18) d15_17 rfl rfl rfl ?_
    refine r_aloadN C (pc' := 19) d15_18 rfl rfl rfl ?_
    refine r_lengthV C (pc' := 20) (n := 3) d15_19 rfl P rfl ?_
    refine r_iconst C (pc' := 21) (v := 0) d15_20 rfl rfl ?_
    refine r_callS C (pc' := 24) (argsL := [.ref b, .int (i32 cs.length), .ref pb, .int (i32 3), .int (0 : Int32)]) (c_idx5 l Z a0 hw n0 h0 b pb k pk cs A P hcs hsm) d15_21 rfl (w70 hw) (w71 hw) (w68 hw) (w72 hw) (by decide) pd9 (st := []) rfl rfl rfl (W := 0) (Nat.le_of_eq rfl) (by decide) (by decide) (by decide) (by decide) (cells' := 0) (slots' := 0) rfl rfl ?_
    rintro _ _ ⟨rfl, rfl⟩
    show Run _ _ _ _ _ _ _ _ 24 #[.val (.ref b), .val (.ref pb)] [.int (own_ix (own_find cs (cs.length - 2) 0))]
    exact r_ireturn C d15_24 (by decide) (by decide) (Nat.zero_le _) (fun _ _ => ⟨rfl, rfl⟩)
  · intro q
    have e : cs.length = 0 := (i32_eq (b := 0) hn (by decide)).mp q
    refine r_iconst C (pc' := 13) (v := (-1)) d15_12 rfl rfl ?_
    exact r_ireturn C d15_13 (by decide) (by decide) (Nat.zero_le _) (fun _ _ => ⟨by rw [e]; rfl, rfl⟩)
set_option maxRecDepth 65536 in
set_option maxHeartbeats 4000000 in
theorem c_index (l : Launch) (Z : State) (a0 : Array Value) (hw : ∀ d ∈ tables_1, d.before a0 Z = true) (n0 : Nat) (h0 : Heap) (cc : Int32) (fv : Value) (ss : own_SS Z cc fv) (ol : Old Z n0 h0) (a b : Nat) (k : ClassId) (cs : List Nat) (S : St Z h0 a b k cs) (lt lb : Nat) (lk : ClassId) (T : Str Z h0 lt lb lk ([58, 47, 47].map by8)) (hcs : ∀ c ∈ cs, c < 256) (hsm : cs.length < 1000000) :
    Con l [] (⟨"java/lang/String", "indexOf", "(Ljava/lang/String;)I"⟩ : MethodName) jdk_42_method_84_code 3 (some .int) ({ frames := 2, cells := 0, slots := 0, locals := 35 } : Room) Z #[(.ref a), (.ref lt)] h0 n0 (fun v h => v = some (.int (own_ix (own_find cs (cs.length - 2) 0))) ∧ h0 = h) := by
  refine enter (Ls := #[.val (.ref a), .val (.ref lt), .unset]) pn18 (fun m => by first | (simp [entryFrame, mkF, argsToLocals, Value.category]; done) | rfl) ?_
  intro K C
  refine r_aloadN C (pc' := 1) d12_0 rfl rfl rfl ?_
  refine r_callV C (pc' := 4) (argsL := []) (c_coder l Z a0 hw n0 h0 cc fv ss ol a S.2.1) S.1 d12_1 rfl (w56 hw) (w57 hw) (nfSel (z := ({ cls := "java/lang/String", name := "coder", desc := "()B" } : Jvm.MethodName)) (w59 hw)) (w59 hw) (w58 hw) (w11 hw) (w60 hw) (by decide) pd0 (st := []) rfl rfl rfl (W := 0) (Nat.le_of_eq rfl) (by decide) (by decide) (by decide) (by decide) (cells' := 0) (slots' := 0) rfl rfl ?_
  rintro _ _ ⟨rfl, rfl⟩
  show Run _ _ _ _ _ _ _ _ 4 #[.val (.ref a), .val (.ref lt), .unset] [.int (0 : Int32)]
  refine r_istoreN C (pc' := 5) (Ls' := #[.val (.ref a), .val (.ref lt), .val (.int (0 : Int32))]) d12_4 rfl rfl ?_
  refine r_iloadN C (pc' := 6) d12_5 rfl rfl ?_
  refine r_aloadN C (pc' := 7) d12_6 rfl rfl rfl ?_
  refine r_callV C (pc' := 10) (argsL := []) (c_coder l Z a0 hw n0 _ cc fv ss ol lt T.2.1) T.1 d12_7 rfl (w56 hw) (w57 hw) (nfSel (z := ({ cls := "java/lang/String", name := "coder", desc := "()B" } : Jvm.MethodName)) (w59 hw)) (w59 hw) (w58 hw) (w11 hw) (w60 hw) (by decide) pd0 (st := [.int (0 : Int32)]) rfl rfl rfl (W := 1) (Nat.le_of_eq rfl) (by decide) (by decide) (by decide) (by decide) (cells' := 0) (slots' := 0) rfl rfl ?_
  rintro _ _ ⟨rfl, rfl⟩
  show Run _ _ _ _ _ _ _ _ 10 #[.val (.ref a), .val (.ref lt), .val (.int (0 : Int32))] [.int (0 : Int32), .int (0 : Int32)]
  refine r_icmp_ne_f C (pc' := 13) d12_10 rfl (by decide) ?_
  refine r_aloadN C (pc' := 14) d12_13 rfl rfl rfl ?_
  refine r_callV C (pc' := 17) (argsL := []) (c_isLatin1 l Z a0 hw n0 _ cc fv ss ol a S.2.1) S.1 d12_14 rfl (w61 hw) (w62 hw) (nfSel (z := ({ cls := "java/lang/String", name := "isLatin1", desc := "()Z" } : Jvm.MethodName)) (w64 hw)) (w64 hw) (w63 hw) (w11 hw) (w65 hw) (by decide) pd3 (st := []) rfl rfl rfl (W := 0) (Nat.le_of_eq rfl) (by decide) (by decide) (by decide) (by decide) (cells' := 0) (slots' := 0) rfl rfl ?_
  rintro _ _ ⟨rfl, rfl⟩
  show Run _ _ _ _ _ _ _ _ 17 #[.val (.ref a), .val (.ref lt), .val (.int (0 : Int32))] [.int (1 : Int32)]
  refine r_if_eq_f C (pc' := 20) d12_17 rfl (by decide) ?_
  refine r_aloadN C (pc' := 21) d12_20 rfl rfl rfl ?_
  refine r_getF C (pc' := 24) d12_21 rfl (w36 hw) Via.refl S.2.2.1 ?_
  refine r_aloadN C (pc' := 25) d12_24 rfl rfl rfl ?_
  refine r_getF C (pc' := 28) d12_25 rfl (w36 hw) Via.refl T.2.2.1 ?_
  refine r_callS C (pc' := 31) (argsL := [.ref b, .ref lb]) (c_idx2 l Z a0 hw n0 _ b lb k lk cs S.2.2.2 T.2.2.2 hcs hsm) d12_28 rfl (w66 hw) (w67 hw) (w68 hw) (w69 hw) (by decide) pd10 (st := []) rfl rfl rfl (W := 0) (Nat.le_of_eq rfl) (by decide) (by decide) (by decide) (by decide) (cells' := 0) (slots' := 0) rfl rfl ?_
  rintro _ _ ⟨rfl, rfl⟩
  show Run _ _ _ _ _ _ _ _ 31 #[.val (.ref a), .val (.ref lt), .val (.int (0 : Int32))] [.int (own_ix (own_find cs (cs.length - 2) 0))]
  refine r_goto C (pc' := 45) d12_31 (by decide) (by decide) ?_
  exact r_ireturn C d12_45 (by decide) (by decide) (Nat.zero_le _) (fun _ _ => ⟨rfl, rfl⟩)
set_option maxRecDepth 65536 in
set_option maxHeartbeats 4000000 in
theorem c_depth (l : Launch) (Z : State) (a0 : Array Value) (hw : ∀ d ∈ tables_1, d.before a0 Z = true) (n0 : Nat) (h0 : Heap) (cc : Int32) (fv : Value) (ss : own_SS Z cc fv) (ol : Old Z n0 h0) (a b : Nat) (k : ClassId) (cs : List Nat) (S : St Z h0 a b k cs) (hcs : ∀ c ∈ cs, c < 256) (hsm : cs.length < 1000000) (held : Jvm.Lit.constHeld Z "com/example/ranker/ranker/PageUrl" 19) (hcw : Jvm.Lit.compactW.before a0 Z = true) :
    ConW l [] (⟨"com/example/ranker/ranker/PageUrl", "depth", "(Ljava/lang/String;)I"⟩ : MethodName) prog_20_method_3_code 4 (some .int) ({ frames := 4, cells := 2, slots := 16, locals := 53 } : Room) Z #[(.ref a)] h0 n0 (fun vm => IB Z vm [""]) (fun v _ _ => v = some (.int (i32 (own_cnt (cs.drop (own_st cs)))))) := by
  refine enterW (Ls := #[.val (.ref a), .unset, .unset, .unset]) pn19 (fun m => by first | (simp [entryFrame, mkF, argsToLocals, Value.category]; done) | rfl) ?_
  intro K vm kz B D hkz hV
  have C := B.ctx0 D
  have wS : ∀ a ∈ Bundle.stringAtoms, a.before a0 Z = true := (by intro a ha; simp only [Bundle.stringAtoms, List.mem_cons, List.not_mem_nil, or_false] at ha; rcases ha with rfl | rfl | rfl | rfl | rfl | rfl | rfl <;> first | exact (w11 hw) | exact (w10 hw) | exact (w27 hw) | exact (w37 hw) | exact (w35 hw) | exact (w49 hw) | exact (w50 hw))
  have hn : cs.length < 2147483648 := by have := S.2.2.2.2; rwa [own_blen] at this
  refine r_aloadN C (pc' := 1) d11_0 rfl rfl rfl ?_
  refine r_ldcS (n := 12) (bs := ([58, 47, 47].map by8)) (pc' := 3) B D (by omega) d11_1 rfl (w48 hw) wS ol.2.2 hV (by decide) held hcw ⟨by decide, by first | decide | rfl⟩ (by decide) (by decide) (by decide) (by decide) (by decide) ?_
  intro vm1 k1 h1 lt lb lk D zk1 E1 T I1 L1 _
  have E1x := E1.1
  replace C := B.ctx0 D
  replace ol := ol.ext E1
  replace S := S.ext E1
  refine Run.touch ?_
  replace C := B.ctx D
  refine r_callV C (pc' := 6) (argsL := [.ref lt]) (c_index l Z a0 hw n0 h1 cc fv ss ol a b k cs S lt lb lk T hcs hsm) S.1 d11_3 rfl (w51 hw) (w52 hw) (nfSel (z := ({ cls := "java/lang/String", name := "indexOf", desc := "(Ljava/lang/String;)I" } : Jvm.MethodName)) (w54 hw)) (w54 hw) (w53 hw) (w11 hw) (w55 hw) (by decide) pd11 (st := []) rfl rfl rfl (W := 0) (Nat.le_of_eq rfl) (by decide) (by decide) (by decide) (by decide) (cells' := 2) (slots' := 16) rfl rfl ?_
  rintro _ _ ⟨rfl, rfl⟩
  show Run _ _ _ _ _ _ _ _ 6 #[.val (.ref a), .unset, .unset, .unset] [.int (own_ix (own_find cs (cs.length - 2) 0))]
  have loop : ∀ (m i n : Nat) (ix : Int32), cs.length - i = m → i < 2147483648 → n + own_cnt (cs.drop i) = own_cnt (cs.drop (own_st cs)) → Run l ({ frames := 4, cells := 2, slots := 16, locals := 53 } : Room) n0 (fun v _ _ => v = some (.int (i32 (own_cnt (cs.drop (own_st cs)))))) (Kw K (Fr n0) vm1) h1 2 16 25 #[.val (.ref a), .val (.int ix), .val (.int (i32 n)), .val (.int (i32 i))] [] := by
    intro m
    induction m with
    | zero =>
      intro i n ix hm hi en
      refine r_iloadN C (pc' := 26) d11_25 rfl rfl ?_
      refine r_aloadN C (pc' := 27) d11_26 rfl rfl rfl ?_
      refine r_callV C (pc' := 30) (argsL := []) (c_length l Z a0 hw n0 _ cc fv ss ol a b k cs S) S.1 d11_27 rfl (w73 hw) (w74 hw) (nfSel (z := ({ cls := "java/lang/String", name := "length", desc := "()I" } : Jvm.MethodName)) (w76 hw)) (w76 hw) (w75 hw) (w11 hw) (w77 hw) (by decide) pd12 (st := [.int (i32 i)]) rfl rfl rfl (W := 1) (Nat.le_of_eq rfl) (by decide) (by decide) (by decide) (by decide) (cells' := 2) (slots' := 16) rfl rfl ?_
      rintro _ _ ⟨rfl, rfl⟩
      show Run _ _ _ _ _ _ _ _ 30 #[.val (.ref a), .val (.int ix), .val (.int (i32 n)), .val (.int (i32 i))] [.int (i32 cs.length), .int (i32 i)]
      refine r_icmp_ge_t C (pc' := 52) d11_30 (by decide) (by decide) (fun q => absurd ((i32_lt hi hn).mp q) (by omega)) ?_
      refine r_iloadN C (pc' := 53) d11_52 rfl rfl ?_
      exact r_ireturn C d11_53 (by decide) (by decide) (by omega) (fun _ _ => (by rw [← en, List.drop_eq_nil_of_le (by omega)]; rfl))
    | succ m ih =>
      intro i n ix hm hi en
      have hlt : i < cs.length := by omega
      obtain ⟨c, hc⟩ : ∃ c, cs[i]? = some c := ⟨_, List.getElem?_eq_getElem hlt⟩
      have hb := hcs c (List.mem_of_getElem? hc)
      rw [own_cnt_drop cs i c hc] at en
      refine r_iloadN C (pc' := 26) d11_25 rfl rfl ?_
      refine r_aloadN C (pc' := 27) d11_26 rfl rfl rfl ?_
      refine r_callV C (pc' := 30) (argsL := []) (c_length l Z a0 hw n0 _ cc fv ss ol a b k cs S) S.1 d11_27 rfl (w73 hw) (w74 hw) (nfSel (z := ({ cls := "java/lang/String", name := "length", desc := "()I" } : Jvm.MethodName)) (w76 hw)) (w76 hw) (w75 hw) (w11 hw) (w77 hw) (by decide) pd12 (st := [.int (i32 i)]) rfl rfl rfl (W := 1) (Nat.le_of_eq rfl) (by decide) (by decide) (by decide) (by decide) (cells' := 2) (slots' := 16) rfl rfl ?_
      rintro _ _ ⟨rfl, rfl⟩
      show Run _ _ _ _ _ _ _ _ 30 #[.val (.ref a), .val (.int ix), .val (.int (i32 n)), .val (.int (i32 i))] [.int (i32 cs.length), .int (i32 i)]
      refine r_icmp_ge_f C (pc' := 33) d11_30 rfl ((i32_lt hi hn).mpr hlt) ?_
      refine r_aloadN C (pc' := 34) d11_33 rfl rfl rfl ?_
      refine r_iloadN C (pc' := 35) d11_34 rfl rfl ?_
      refine r_callV C (pc' := 38) (argsL := [.int (i32 i)]) (c_charAt l Z a0 hw n0 _ cc fv ss ol a b k cs S i c hc hb) S.1 d11_35 rfl (w78 hw) (w79 hw) (nfSel (z := ({ cls := "java/lang/String", name := "charAt", desc := "(I)C" } : Jvm.MethodName)) (w81 hw)) (w81 hw) (w80 hw) (w11 hw) (w82 hw) (by decide) pd13 (st := []) rfl rfl rfl (W := 0) (Nat.le_of_eq rfl) (by decide) (by decide) (by decide) (by decide) (cells' := 2) (slots' := 16) rfl rfl ?_
      rintro _ _ ⟨rfl, rfl⟩
      show Run _ _ _ _ _ _ _ _ 38 #[.val (.ref a), .val (.int ix), .val (.int (i32 n)), .val (.int (i32 i))] [.int (i32 c)]
      refine r_bipush C (pc' := 40) (v := (47)) d11_38 rfl rfl ?_
      refine r_icmp_ne C (pt := 46) (pc' := 43) d11_40 (by decide) (by decide) rfl ?_ ?_
      · intro q
        rw [if_neg (fun z => q (by rw [z]; rfl))] at en
        refine r_iinc C (pc' := 49) (v := (1)) (Ls' := #[.val (.ref a), .val (.int ix), .val (.int (i32 n)), .val (.int ((i32 i) + (1 : Int32)))]) d11_46 rfl rfl rfl rfl ?_
        refine r_goto C (pc' := 25) d11_49 (by decide) (by decide) ?_
        rw [show i32 i + (1 : Int32) = i32 (i + 1) from i32_add i 1]
        exact ih (i + 1) n _ (by omega) (by omega) (by omega)
      · intro q
        rw [if_pos ((i32_eq (b := 47) (by omega) (by decide)).mp q)] at en
        refine r_iinc C (pc' := 46) (v := (1)) (Ls' := #[.val (.ref a), .val (.int ix), .val (.int ((i32 n) + (1 : Int32))), .val (.int (i32 i))]) d11_43 rfl rfl rfl rfl ?_
        refine r_iinc C (pc' := 49) (v := (1)) (Ls' := #[.val (.ref a), .val (.int ix), .val (.int ((i32 n) + (1 : Int32))), .val (.int ((i32 i) + (1 : Int32)))]) d11_46 rfl rfl rfl rfl ?_
        refine r_goto C (pc' := 25) d11_49 (by decide) (by decide) ?_
        rw [show i32 i + (1 : Int32) = i32 (i + 1) from i32_add i 1, show i32 n + (1 : Int32) = i32 (n + 1) from i32_add n 1]
        exact ih (i + 1) (n + 1) _ (by omega) (by omega) (by omega)
  refine r_istoreN C (pc' := 7) (Ls' := #[.val (.ref a), .val (.int (own_ix (own_find cs (cs.length - 2) 0))), .unset, .unset]) d11_6 rfl rfl ?_
  refine r_iconst C (pc' := 8) (v := 0) d11_7 rfl rfl ?_
  refine r_istoreN C (pc' := 9) (Ls' := #[.val (.ref a), .val (.int (own_ix (own_find cs (cs.length - 2) 0))), .val (.int (0 : Int32)), .unset]) d11_8 rfl rfl ?_
  refine r_iloadN C (pc' := 10) d11_9 rfl rfl ?_
  cases e : own_find cs (cs.length - 2) 0 with
  | none =>
    have es : own_st cs = 0 := by rw [own_st, e]
    refine r_if_ge_f C (pc' := 13) d11_10 rfl (by decide) ?_
    refine r_iconst C (pc' := 14) (v := 0) d11_13 rfl rfl ?_
    refine r_goto C (pc' := 24) d11_14 (by decide) (by decide) ?_
    refine r_istoreN C (pc' := 25) (Ls' := #[.val (.ref a), .val (.int (-1 : Int32)), .val (.int (0 : Int32)), .val (.int (0 : Int32))]) d11_24 rfl rfl ?_
    exact loop _ 0 0 _ rfl (by decide) (by rw [es]; omega)
  | some j =>
    have es : own_st cs = j + 3 := by rw [own_st, e]
    have hj := own_find_lt cs _ _ _ e
    refine r_if_ge_t C (pc' := 17) d11_10 (by decide) (by decide) (i32_nn (by omega)) ?_
    refine r_iloadN C (pc' := 18) d11_17 rfl rfl ?_
    refine r_ldcA (pc' := 20) B D d11_18 rfl (w48 hw) L1 ?_
    have T' : St Z h1 lt lb lk [58, 47, 47] := T
    refine r_callV C (pc' := 23) (argsL := []) (c_length l Z a0 hw n0 _ cc fv ss ol lt lb lk _ T') T.1 d11_20 rfl (w73 hw) (w74 hw) (nfSel (z := ({ cls := "java/lang/String", name := "length", desc := "()I" } : Jvm.MethodName)) (w76 hw)) (w76 hw) (w75 hw) (w11 hw) (w77 hw) (by decide) pd12 (st := [.int (i32 j)]) rfl rfl rfl (W := 1) (Nat.le_of_eq rfl) (by decide) (by decide) (by decide) (by decide) (cells' := 2) (slots' := 16) rfl rfl ?_
    rintro _ _ ⟨rfl, rfl⟩
    show Run _ _ _ _ _ _ _ _ 23 #[.val (.ref a), .val (.int (i32 j)), .val (.int (0 : Int32)), .unset] [.int (i32 3), .int (i32 j)]
    refine r_iadd C (pc' := 24) d11_23 rfl ?_
    refine r_istoreN C (pc' := 25) (Ls' := #[.val (.ref a), .val (.int (i32 j)), .val (.int (0 : Int32)), .val (.int ((i32 j) + (i32 3)))]) d11_24 rfl rfl ?_
    rw [i32_add j 3]
    exact loop _ (j + 3) 0 _ rfl (by omega) (by rw [es]; omega)
set_option maxRecDepth 65536 in
set_option maxHeartbeats 40000000 in
theorem rm0 (l : Launch) (Z : State) (a0 : Array Value) (hw : ∀ d ∈ tables_1, d.before a0 Z = true) (n0 : Nat) (h0 : Heap) (va vb n : Int32) (cc : Int32) (fv : Value) (ss : own_SS Z cc fv) (ol : Old Z n0 h0) (hn0 : n0 ≤ h0.size) (heldP : Jvm.Lit.constHeld Z "com/example/ranker/ranker/PageUrl" 19) (heldE : Jvm.Lit.constHeld Z "java/lang/String" 7) (hcw : Jvm.Lit.compactW.before a0 Z = true) :
    ConW l tables_1 x code maxLocals ret room_1 Z #[(.int va), (.int vb), (.int n)] h0 n0 (fun vm => IB Z vm []) (fun v _ _ => v = some (.int 1)) := by
  refine enterW (Ls := #[.val (.int va), .val (.int vb), .val (.int n), .unset, .unset, .unset, .unset, .unset, .unset]) pn20 (fun m => by first | (simp [entryFrame, mkF, argsToLocals, Value.category, maxLocals]; done) | rfl) ?_
  intro K vm kz B D hkz hV
  replace B : Wb l room_1 Z "com/example/ranker/ranker/PageUrlDepthPinLaw" "law" code 9 (some .boolean) n0 h0 K := B
  have C := B.ctx0 D
  obtain ⟨nn', hnn, en⟩ := i32_and n
  refine Run.touch ?_
  replace C := B.ctx D
  refine r_iloadN C (pc' := 1) at_0 rfl rfl ?_
  refine r_ldcI C (pc' := 3) at_1 rfl (w0 hw) ?_
  refine r_iand C (pc' := 4) at_3 rfl ?_
  refine r_bipush C (pc' := 6) (v := (7)) at_4 rfl rfl ?_
  refine r_irem C (pc' := 7) at_6 rfl (by decide) ?_
  rw [en, show i32 nn' % (7 : Int32) = i32 (nn' % 7) from i32_rem (b := 7) hnn (by decide)]
  obtain ⟨len, el⟩ : ∃ len, nn' % 7 = len := ⟨_, rfl⟩
  have hlen : len < 7 := by omega
  rw [el]
  refine r_istoreN C (pc' := 8) (Ls' := #[.val (.int va), .val (.int vb), .val (.int n), .val (.int (i32 len)), .unset, .unset, .unset, .unset, .unset]) at_7 rfl rfl ?_
  refine r_bipush C (pc' := 10) (v := (6)) at_8 rfl rfl ?_
  refine r_newarrayV C (pc' := 12) (ty := .char) (m := 6) (cap := 6) at_10 rfl rfl (w1 hw) rfl (by decide) (by decide) (by decide) (by decide) ?_
  intro h1 ca ck ga E1 A
  have x1 := E1.1
  replace ol := ol.ext E1
  refine r_astore C (pc' := 14) (Ls' := #[.val (.int va), .val (.int vb), .val (.int n), .val (.int (i32 len)), .val (.ref ca), .unset, .unset, .unset, .unset]) at_12 rfl rfl rfl ?_
  refine r_aload C (pc' := 16) at_14 rfl rfl rfl ?_
  refine r_iconst C (pc' := 17) (v := 0) at_16 rfl rfl ?_
  refine r_iloadN C (pc' := 18) at_17 rfl rfl ?_
  refine r_sipush C (pc' := 21) (v := (1023)) at_18 rfl rfl ?_
  refine r_iand C (pc' := 22) at_21 rfl ?_
  refine r_callS C (pc' := 25) (argsL := [.int (va &&& (1023 : Int32))]) (c_draw l Z a0 hw n0 h1 _) at_22 rfl (w2 hw) (w3 hw) (w4 hw) (w5 hw) (by decide) pd13 (st := [.int (0 : Int32), .ref ca]) rfl rfl rfl (W := 2) (Nat.le_of_eq rfl) (by decide) (by decide) (by decide) (by decide) (cells' := 1) (slots' := 6) rfl rfl ?_
  rintro _ _ ⟨c0, rfl, b0, rfl⟩
  show Run _ _ _ _ _ _ _ _ 25 #[.val (.int va), .val (.int vb), .val (.int n), .val (.int (i32 len)), .val (.ref ca), .unset, .unset, .unset, .unset] [.int (i32 c0), .int (0 : Int32), .ref ca]
  refine r_castoreV C (pc' := 26) (i := 0) at_25 rfl A rfl (by simp) (fits_nar_char _) (by omega) ?_
  intro h2 W0 A0
  rw [own_chn (by omega)] at A0
  replace A := A0
  replace ol := ol.wr W0 (by omega)
  have y0 := W0.size
  refine r_aload C (pc' := 28) at_26 rfl rfl rfl ?_
  refine r_iconst C (pc' := 29) (v := 1) at_28 rfl rfl ?_
  refine r_iloadN C (pc' := 30) at_29 rfl rfl ?_
  refine r_bipush C (pc' := 32) (v := (10)) at_30 rfl rfl ?_
  refine r_iushr C (pc' := 33) at_32 rfl ?_
  refine r_sipush C (pc' := 36) (v := (1023)) at_33 rfl rfl ?_
  refine r_iand C (pc' := 37) at_36 rfl ?_
  refine r_callS C (pc' := 40) (argsL := [.int ((XT.ushr va (10 : Int32)) &&& (1023 : Int32))]) (c_draw l Z a0 hw n0 h2 _) at_37 rfl (w2 hw) (w3 hw) (w4 hw) (w5 hw) (by decide) pd13 (st := [.int (1 : Int32), .ref ca]) rfl rfl rfl (W := 2) (Nat.le_of_eq rfl) (by decide) (by decide) (by decide) (by decide) (cells' := 1) (slots' := 6) rfl rfl ?_
  rintro _ _ ⟨c1, rfl, b1, rfl⟩
  show Run _ _ _ _ _ _ _ _ 40 #[.val (.int va), .val (.int vb), .val (.int n), .val (.int (i32 len)), .val (.ref ca), .unset, .unset, .unset, .unset] [.int (i32 c1), .int (1 : Int32), .ref ca]
  refine r_castoreV C (pc' := 41) (i := 1) at_40 rfl A rfl (by simp) (fits_nar_char _) (by omega) ?_
  intro h3 W1 A1
  rw [own_chn (by omega)] at A1
  replace A := A1
  replace ol := ol.wr W1 (by omega)
  have y1 := W1.size
  refine r_aload C (pc' := 43) at_41 rfl rfl rfl ?_
  refine r_iconst C (pc' := 44) (v := 2) at_43 rfl rfl ?_
  refine r_iloadN C (pc' := 45) at_44 rfl rfl ?_
  refine r_bipush C (pc' := 47) (v := (20)) at_45 rfl rfl ?_
  refine r_iushr C (pc' := 48) at_47 rfl ?_
  refine r_sipush C (pc' := 51) (v := (1023)) at_48 rfl rfl ?_
  refine r_iand C (pc' := 52) at_51 rfl ?_
  refine r_callS C (pc' := 55) (argsL := [.int ((XT.ushr va (20 : Int32)) &&& (1023 : Int32))]) (c_draw l Z a0 hw n0 h3 _) at_52 rfl (w2 hw) (w3 hw) (w4 hw) (w5 hw) (by decide) pd13 (st := [.int (2 : Int32), .ref ca]) rfl rfl rfl (W := 2) (Nat.le_of_eq rfl) (by decide) (by decide) (by decide) (by decide) (cells' := 1) (slots' := 6) rfl rfl ?_
  rintro _ _ ⟨c2, rfl, b2, rfl⟩
  show Run _ _ _ _ _ _ _ _ 55 #[.val (.int va), .val (.int vb), .val (.int n), .val (.int (i32 len)), .val (.ref ca), .unset, .unset, .unset, .unset] [.int (i32 c2), .int (2 : Int32), .ref ca]
  refine r_castoreV C (pc' := 56) (i := 2) at_55 rfl A rfl (by simp) (fits_nar_char _) (by omega) ?_
  intro h4 W2 A2
  rw [own_chn (by omega)] at A2
  replace A := A2
  replace ol := ol.wr W2 (by omega)
  have y2 := W2.size
  refine r_aload C (pc' := 58) at_56 rfl rfl rfl ?_
  refine r_iconst C (pc' := 59) (v := 3) at_58 rfl rfl ?_
  refine r_iloadN C (pc' := 60) at_59 rfl rfl ?_
  refine r_sipush C (pc' := 63) (v := (1023)) at_60 rfl rfl ?_
  refine r_iand C (pc' := 64) at_63 rfl ?_
  refine r_callS C (pc' := 67) (argsL := [.int (vb &&& (1023 : Int32))]) (c_draw l Z a0 hw n0 h4 _) at_64 rfl (w2 hw) (w3 hw) (w4 hw) (w5 hw) (by decide) pd13 (st := [.int (3 : Int32), .ref ca]) rfl rfl rfl (W := 2) (Nat.le_of_eq rfl) (by decide) (by decide) (by decide) (by decide) (cells' := 1) (slots' := 6) rfl rfl ?_
  rintro _ _ ⟨c3, rfl, b3, rfl⟩
  show Run _ _ _ _ _ _ _ _ 67 #[.val (.int va), .val (.int vb), .val (.int n), .val (.int (i32 len)), .val (.ref ca), .unset, .unset, .unset, .unset] [.int (i32 c3), .int (3 : Int32), .ref ca]
  refine r_castoreV C (pc' := 68) (i := 3) at_67 rfl A rfl (by simp) (fits_nar_char _) (by omega) ?_
  intro h5 W3 A3
  rw [own_chn (by omega)] at A3
  replace A := A3
  replace ol := ol.wr W3 (by omega)
  have y3 := W3.size
  refine r_aload C (pc' := 70) at_68 rfl rfl rfl ?_
  refine r_iconst C (pc' := 71) (v := 4) at_70 rfl rfl ?_
  refine r_iloadN C (pc' := 72) at_71 rfl rfl ?_
  refine r_bipush C (pc' := 74) (v := (10)) at_72 rfl rfl ?_
  refine r_iushr C (pc' := 75) at_74 rfl ?_
  refine r_sipush C (pc' := 78) (v := (1023)) at_75 rfl rfl ?_
  refine r_iand C (pc' := 79) at_78 rfl ?_
  refine r_callS C (pc' := 82) (argsL := [.int ((XT.ushr vb (10 : Int32)) &&& (1023 : Int32))]) (c_draw l Z a0 hw n0 h5 _) at_79 rfl (w2 hw) (w3 hw) (w4 hw) (w5 hw) (by decide) pd13 (st := [.int (4 : Int32), .ref ca]) rfl rfl rfl (W := 2) (Nat.le_of_eq rfl) (by decide) (by decide) (by decide) (by decide) (cells' := 1) (slots' := 6) rfl rfl ?_
  rintro _ _ ⟨c4, rfl, b4, rfl⟩
  show Run _ _ _ _ _ _ _ _ 82 #[.val (.int va), .val (.int vb), .val (.int n), .val (.int (i32 len)), .val (.ref ca), .unset, .unset, .unset, .unset] [.int (i32 c4), .int (4 : Int32), .ref ca]
  refine r_castoreV C (pc' := 83) (i := 4) at_82 rfl A rfl (by simp) (fits_nar_char _) (by omega) ?_
  intro h6 W4 A4
  rw [own_chn (by omega)] at A4
  replace A := A4
  replace ol := ol.wr W4 (by omega)
  have y4 := W4.size
  refine r_aload C (pc' := 85) at_83 rfl rfl rfl ?_
  refine r_iconst C (pc' := 86) (v := 5) at_85 rfl rfl ?_
  refine r_iloadN C (pc' := 87) at_86 rfl rfl ?_
  refine r_bipush C (pc' := 89) (v := (20)) at_87 rfl rfl ?_
  refine r_iushr C (pc' := 90) at_89 rfl ?_
  refine r_sipush C (pc' := 93) (v := (1023)) at_90 rfl rfl ?_
  refine r_iand C (pc' := 94) at_93 rfl ?_
  refine r_callS C (pc' := 97) (argsL := [.int ((XT.ushr vb (20 : Int32)) &&& (1023 : Int32))]) (c_draw l Z a0 hw n0 h6 _) at_94 rfl (w2 hw) (w3 hw) (w4 hw) (w5 hw) (by decide) pd13 (st := [.int (5 : Int32), .ref ca]) rfl rfl rfl (W := 2) (Nat.le_of_eq rfl) (by decide) (by decide) (by decide) (by decide) (cells' := 1) (slots' := 6) rfl rfl ?_
  rintro _ _ ⟨c5, rfl, b5, rfl⟩
  show Run _ _ _ _ _ _ _ _ 97 #[.val (.int va), .val (.int vb), .val (.int n), .val (.int (i32 len)), .val (.ref ca), .unset, .unset, .unset, .unset] [.int (i32 c5), .int (5 : Int32), .ref ca]
  refine r_castoreV C (pc' := 98) (i := 5) at_97 rfl A rfl (by simp) (fits_nar_char _) (by omega) ?_
  intro h7 W5 A5
  rw [own_chn (by omega)] at A5
  replace A := A5
  replace ol := ol.wr W5 (by omega)
  have y5 := W5.size
  have A' : AV Z h7 ca ck .char ([c0, c1, c2, c3, c4, c5].map vch) (.int 0) := A
  have hcs : ∀ c ∈ [c0, c1, c2, c3, c4, c5], c < 256 := by simp [b0, b1, b2, b3, b4, b5]
  refine r_iloadN C (pc' := 99) at_98 rfl rfl ?_
  refine r_newarrayV C (pc' := 101) (ty := .char) (m := len) (cap := 6) at_99 rfl rfl (w1 hw) rfl (by omega) (by decide) (by decide) (by decide) ?_
  intro g1 sa sk gs F1 B0
  have z1 := F1.1
  replace ol := ol.ext F1
  replace A' := A'.ext F1
  have la := A'.lt
  have hne : sa ≠ ca := by have := A.lt; omega
  have v0 : (List.replicate len (defaultValue .char)).length = len := List.length_replicate ..
  refine r_astore C (pc' := 103) (Ls' := #[.val (.int va), .val (.int vb), .val (.int n), .val (.int (i32 len)), .val (.ref ca), .val (.ref sa), .unset, .unset, .unset]) at_101 rfl rfl rfl ?_
  refine r_aload C (pc' := 105) at_103 rfl rfl rfl ?_
  refine r_iconst C (pc' := 106) (v := 0) at_105 rfl rfl ?_
  refine r_aload C (pc' := 108) at_106 rfl rfl rfl ?_
  refine r_iconst C (pc' := 109) (v := 0) at_108 rfl rfl ?_
  refine r_caloadV C (pc' := 110) (i := 0) at_109 rfl A' rfl rfl ?_
  refine r_callS C (pc' := 113) (argsL := [.ref sa, .int (0 : Int32), .int (i32 c0)]) (c_put l Z a0 hw n0 g1 sa sk _ len 0 c0 v0 (by decide) b0 (by omega) B0) at_110 rfl (w6 hw) (w7 hw) (w4 hw) (w8 hw) (by decide) pd14 (st := []) rfl rfl rfl (W := 0) (Nat.le_of_eq rfl) (by decide) (by decide) (by decide) (by decide) (cells' := 2) (slots' := 12) rfl rfl ?_
  rintro _ g2 ⟨rfl, K0, B1⟩
  show Run _ _ _ _ _ g2 _ _ 113 #[.val (.int va), .val (.int vb), .val (.int n), .val (.int (i32 len)), .val (.ref ca), .val (.ref sa), .unset, .unset, .unset] []
  have u0 := K0.1
  replace ol := ol.keep K0 (by simp; omega)
  replace A' := A'.keep K0 (ninS (nn (Ne.symm hne)) nin0)
  have v1 := (List.length_set (i := 0) (a := vch c0) ..).trans v0
  refine r_aload C (pc' := 115) at_113 rfl rfl rfl ?_
  refine r_iconst C (pc' := 116) (v := 1) at_115 rfl rfl ?_
  refine r_aload C (pc' := 118) at_116 rfl rfl rfl ?_
  refine r_iconst C (pc' := 119) (v := 1) at_118 rfl rfl ?_
  refine r_caloadV C (pc' := 120) (i := 1) at_119 rfl A' rfl rfl ?_
  refine r_callS C (pc' := 123) (argsL := [.ref sa, .int (1 : Int32), .int (i32 c1)]) (c_put l Z a0 hw n0 g2 sa sk _ len 1 c1 v1 (by decide) b1 (by omega) B1) at_120 rfl (w6 hw) (w7 hw) (w4 hw) (w8 hw) (by decide) pd14 (st := []) rfl rfl rfl (W := 0) (Nat.le_of_eq rfl) (by decide) (by decide) (by decide) (by decide) (cells' := 2) (slots' := 12) rfl rfl ?_
  rintro _ g3 ⟨rfl, K1, B2⟩
  show Run _ _ _ _ _ g3 _ _ 123 #[.val (.int va), .val (.int vb), .val (.int n), .val (.int (i32 len)), .val (.ref ca), .val (.ref sa), .unset, .unset, .unset] []
  have u1 := K1.1
  replace ol := ol.keep K1 (by simp; omega)
  replace A' := A'.keep K1 (ninS (nn (Ne.symm hne)) nin0)
  have v2 := (List.length_set (i := 1) (a := vch c1) ..).trans v1
  refine r_aload C (pc' := 125) at_123 rfl rfl rfl ?_
  refine r_iconst C (pc' := 126) (v := 2) at_125 rfl rfl ?_
  refine r_aload C (pc' := 128) at_126 rfl rfl rfl ?_
  refine r_iconst C (pc' := 129) (v := 2) at_128 rfl rfl ?_
  refine r_caloadV C (pc' := 130) (i := 2) at_129 rfl A' rfl rfl ?_
  refine r_callS C (pc' := 133) (argsL := [.ref sa, .int (2 : Int32), .int (i32 c2)]) (c_put l Z a0 hw n0 g3 sa sk _ len 2 c2 v2 (by decide) b2 (by omega) B2) at_130 rfl (w6 hw) (w7 hw) (w4 hw) (w8 hw) (by decide) pd14 (st := []) rfl rfl rfl (W := 0) (Nat.le_of_eq rfl) (by decide) (by decide) (by decide) (by decide) (cells' := 2) (slots' := 12) rfl rfl ?_
  rintro _ g4 ⟨rfl, K2, B3⟩
  show Run _ _ _ _ _ g4 _ _ 133 #[.val (.int va), .val (.int vb), .val (.int n), .val (.int (i32 len)), .val (.ref ca), .val (.ref sa), .unset, .unset, .unset] []
  have u2 := K2.1
  replace ol := ol.keep K2 (by simp; omega)
  replace A' := A'.keep K2 (ninS (nn (Ne.symm hne)) nin0)
  have v3 := (List.length_set (i := 2) (a := vch c2) ..).trans v2
  refine r_aload C (pc' := 135) at_133 rfl rfl rfl ?_
  refine r_iconst C (pc' := 136) (v := 3) at_135 rfl rfl ?_
  refine r_aload C (pc' := 138) at_136 rfl rfl rfl ?_
  refine r_iconst C (pc' := 139) (v := 3) at_138 rfl rfl ?_
  refine r_caloadV C (pc' := 140) (i := 3) at_139 rfl A' rfl rfl ?_
  refine r_callS C (pc' := 143) (argsL := [.ref sa, .int (3 : Int32), .int (i32 c3)]) (c_put l Z a0 hw n0 g4 sa sk _ len 3 c3 v3 (by decide) b3 (by omega) B3) at_140 rfl (w6 hw) (w7 hw) (w4 hw) (w8 hw) (by decide) pd14 (st := []) rfl rfl rfl (W := 0) (Nat.le_of_eq rfl) (by decide) (by decide) (by decide) (by decide) (cells' := 2) (slots' := 12) rfl rfl ?_
  rintro _ g5 ⟨rfl, K3, B4⟩
  show Run _ _ _ _ _ g5 _ _ 143 #[.val (.int va), .val (.int vb), .val (.int n), .val (.int (i32 len)), .val (.ref ca), .val (.ref sa), .unset, .unset, .unset] []
  have u3 := K3.1
  replace ol := ol.keep K3 (by simp; omega)
  replace A' := A'.keep K3 (ninS (nn (Ne.symm hne)) nin0)
  have v4 := (List.length_set (i := 3) (a := vch c3) ..).trans v3
  refine r_aload C (pc' := 145) at_143 rfl rfl rfl ?_
  refine r_iconst C (pc' := 146) (v := 4) at_145 rfl rfl ?_
  refine r_aload C (pc' := 148) at_146 rfl rfl rfl ?_
  refine r_iconst C (pc' := 149) (v := 4) at_148 rfl rfl ?_
  refine r_caloadV C (pc' := 150) (i := 4) at_149 rfl A' rfl rfl ?_
  refine r_callS C (pc' := 153) (argsL := [.ref sa, .int (4 : Int32), .int (i32 c4)]) (c_put l Z a0 hw n0 g5 sa sk _ len 4 c4 v4 (by decide) b4 (by omega) B4) at_150 rfl (w6 hw) (w7 hw) (w4 hw) (w8 hw) (by decide) pd14 (st := []) rfl rfl rfl (W := 0) (Nat.le_of_eq rfl) (by decide) (by decide) (by decide) (by decide) (cells' := 2) (slots' := 12) rfl rfl ?_
  rintro _ g6 ⟨rfl, K4, B5⟩
  show Run _ _ _ _ _ g6 _ _ 153 #[.val (.int va), .val (.int vb), .val (.int n), .val (.int (i32 len)), .val (.ref ca), .val (.ref sa), .unset, .unset, .unset] []
  have u4 := K4.1
  replace ol := ol.keep K4 (by simp; omega)
  replace A' := A'.keep K4 (ninS (nn (Ne.symm hne)) nin0)
  have v5 := (List.length_set (i := 4) (a := vch c4) ..).trans v4
  refine r_aload C (pc' := 155) at_153 rfl rfl rfl ?_
  refine r_iconst C (pc' := 156) (v := 5) at_155 rfl rfl ?_
  refine r_aload C (pc' := 158) at_156 rfl rfl rfl ?_
  refine r_iconst C (pc' := 159) (v := 5) at_158 rfl rfl ?_
  refine r_caloadV C (pc' := 160) (i := 5) at_159 rfl A' rfl rfl ?_
  refine r_callS C (pc' := 163) (argsL := [.ref sa, .int (5 : Int32), .int (i32 c5)]) (c_put l Z a0 hw n0 g6 sa sk _ len 5 c5 v5 (by decide) b5 (by omega) B5) at_160 rfl (w6 hw) (w7 hw) (w4 hw) (w8 hw) (by decide) pd14 (st := []) rfl rfl rfl (W := 0) (Nat.le_of_eq rfl) (by decide) (by decide) (by decide) (by decide) (cells' := 2) (slots' := 12) rfl rfl ?_
  rintro _ g7 ⟨rfl, K5, B6⟩
  show Run _ _ _ _ _ g7 _ _ 163 #[.val (.int va), .val (.int vb), .val (.int n), .val (.int (i32 len)), .val (.ref ca), .val (.ref sa), .unset, .unset, .unset] []
  have u5 := K5.1
  replace ol := ol.keep K5 (by simp; omega)
  replace A' := A'.keep K5 (ninS (nn (Ne.symm hne)) nin0)
  have v6 := (List.length_set (i := 5) (a := vch c5) ..).trans v5
  have Bq : AV Z g7 sa sk .char (([c0, c1, c2, c3, c4, c5].take len).map vch) (.int 0) := B6.cast (own_puts c0 c1 c2 c3 c4 c5 len hlen)
  have hts : ∀ c ∈ [c0, c1, c2, c3, c4, c5].take len, c < 256 := fun c hc => hcs c (List.mem_of_mem_take hc)
  have htl : ([c0, c1, c2, c3, c4, c5].take len).length ≤ 6 := by rw [List.length_take]; exact Nat.min_le_right _ _
  refine r_new C (pc' := 166) at_163 rfl (w9 hw) (w10 hw) (w11 hw) (by decide) (by decide) ?_
  intro g8 s gg E8 Es D8
  have Fv : Fld Z g8 s "java/lang/String" "value" "[B" (.null) := D8 (Or.inr (w37 hw)) (ty := (.array .byte)) (by decide)
  have Fc : Fld Z g8 s "java/lang/String" "coder" "B" (.int 0) := D8 (Or.inr (w35 hw)) (ty := .byte) (by decide)
  have x_g8 := E8.1
  replace ol := ol.ext E8
  replace A' := A'.ext E8
  refine r_dup C (pc' := 167) at_166 rfl rfl ?_
  refine r_aload C (pc' := 169) at_167 rfl rfl rfl ?_
  refine r_callIW (rt := none) (pc' := 172) (argsL := [.ref sa]) B D (by omega) (c_initCW l Z a0 hw n0 g8 cc fv ss ol (by omega) s sa sk _ (by omega) Es Fv _ Fc (Bq.ext E8) hts htl heldE hcw) (fun vm' hW => IB.warm hV hW) at_169 rfl (w12 hw) (w13 hw) (w11 hw) (w14 hw) rfl (by decide) pd15 (st := [.ref s]) rfl rfl rfl (W := 1) (Nat.le_of_eq rfl) (by decide) (by decide) (by decide) (by decide) (cells' := 5) (slots' := 22) rfl rfl ?_
  rintro _ g9 vm1 ⟨rfl, K9, ⟨sb, sk2, S, nsb⟩, I1⟩ x9 D'
  replace D := D'
  replace C := B.ctx D
  show Run _ _ _ _ _ g9 _ _ 172 #[.val (.int va), .val (.int vb), .val (.int n), .val (.int (i32 len)), .val (.ref ca), .val (.ref sa), .unset, .unset, .unset] [.ref s]
  replace ol := ol.keep K9 (by simp; omega)
  replace A' := A'.keep K9 (ninS (nn (by omega)) nin0)
  refine r_astore C (pc' := 174) (Ls' := #[.val (.int va), .val (.int vb), .val (.int n), .val (.int (i32 len)), .val (.ref ca), .val (.ref sa), .val (.ref s), .unset, .unset]) at_172 rfl rfl rfl ?_
  refine r_aload C (pc' := 176) at_174 rfl rfl rfl ?_
  refine r_iloadN C (pc' := 177) at_176 rfl rfl ?_
  refine r_iconst C (pc' := 178) (v := 0) at_177 rfl rfl ?_
  have rest : ∀ st : Nat, st < 7 → own_st ([c0, c1, c2, c3, c4, c5].take len) = st → Run l room_1 n0 (fun v _ _ => v = some (.int 1)) (Kw K (Fr n0) vm1) g9 5 22 242 #[.val (.int va), .val (.int vb), .val (.int n), .val (.int (i32 len)), .val (.ref ca), .val (.ref sa), .val (.ref s), .val (.int (i32 st)), .unset] [] := by
    intro st hst es
    refine r_aload C (pc' := 244) at_242 rfl rfl rfl ?_
    refine r_iloadN C (pc' := 245) at_244 rfl rfl ?_
    refine r_iload C (pc' := 247) at_245 rfl rfl ?_
    refine r_iconst C (pc' := 248) (v := 0) at_247 rfl rfl ?_
    refine r_callS C (pc' := 251) (argsL := [.ref ca, .int (i32 len), .int (i32 st), .int (0 : Int32)]) (c_slashAt l Z a0 hw n0 _ ca ck [c0, c1, c2, c3, c4, c5] A' rfl hcs len hlen st 0 hst (by decide)) at_248 rfl (w41 hw) (w42 hw) (w4 hw) (w43 hw) (by decide) pd16 (st := []) rfl rfl rfl (W := 0) (Nat.le_of_eq rfl) (by decide) (by decide) (by decide) (by decide) (cells' := 5) (slots' := 22) rfl rfl ?_
    rintro _ _ ⟨rfl, rfl⟩
    show Run _ _ _ _ _ _ _ _ 251 #[.val (.int va), .val (.int vb), .val (.int n), .val (.int (i32 len)), .val (.ref ca), .val (.ref sa), .val (.ref s), .val (.int (i32 st)), .unset] [.int (i32 (own_sl [c0, c1, c2, c3, c4, c5] len st 0))]
    refine r_aload C (pc' := 253) at_251 rfl rfl rfl ?_
    refine r_iloadN C (pc' := 254) at_253 rfl rfl ?_
    refine r_iload C (pc' := 256) at_254 rfl rfl ?_
    refine r_iconst C (pc' := 257) (v := 1) at_256 rfl rfl ?_
    refine r_callS C (pc' := 260) (argsL := [.ref ca, .int (i32 len), .int (i32 st), .int (1 : Int32)]) (c_slashAt l Z a0 hw n0 _ ca ck [c0, c1, c2, c3, c4, c5] A' rfl hcs len hlen st 1 hst (by decide)) at_257 rfl (w41 hw) (w42 hw) (w4 hw) (w43 hw) (by decide) pd16 (st := [.int (i32 (own_sl [c0, c1, c2, c3, c4, c5] len st 0))]) rfl rfl rfl (W := 1) (Nat.le_of_eq rfl) (by decide) (by decide) (by decide) (by decide) (cells' := 5) (slots' := 22) rfl rfl ?_
    rintro _ _ ⟨rfl, rfl⟩
    show Run _ _ _ _ _ _ _ _ 260 #[.val (.int va), .val (.int vb), .val (.int n), .val (.int (i32 len)), .val (.ref ca), .val (.ref sa), .val (.ref s), .val (.int (i32 st)), .unset] [.int (i32 (own_sl [c0, c1, c2, c3, c4, c5] len st 1)), .int (i32 (own_sl [c0, c1, c2, c3, c4, c5] len st 0))]
    refine r_iadd C (pc' := 261) at_260 rfl ?_
    refine r_aload C (pc' := 263) at_261 rfl rfl rfl ?_
    refine r_iloadN C (pc' := 264) at_263 rfl rfl ?_
    refine r_iload C (pc' := 266) at_264 rfl rfl ?_
    refine r_iconst C (pc' := 267) (v := 2) at_266 rfl rfl ?_
    refine r_callS C (pc' := 270) (argsL := [.ref ca, .int (i32 len), .int (i32 st), .int (2 : Int32)]) (c_slashAt l Z a0 hw n0 _ ca ck [c0, c1, c2, c3, c4, c5] A' rfl hcs len hlen st 2 hst (by decide)) at_267 rfl (w41 hw) (w42 hw) (w4 hw) (w43 hw) (by decide) pd16 (st := [.int ((i32 (own_sl [c0, c1, c2, c3, c4, c5] len st 0)) + (i32 (own_sl [c0, c1, c2, c3, c4, c5] len st 1)))]) rfl rfl rfl (W := 1) (Nat.le_of_eq rfl) (by decide) (by decide) (by decide) (by decide) (cells' := 5) (slots' := 22) rfl rfl ?_
    rintro _ _ ⟨rfl, rfl⟩
    show Run _ _ _ _ _ _ _ _ 270 #[.val (.int va), .val (.int vb), .val (.int n), .val (.int (i32 len)), .val (.ref ca), .val (.ref sa), .val (.ref s), .val (.int (i32 st)), .unset] [.int (i32 (own_sl [c0, c1, c2, c3, c4, c5] len st 2)), .int ((i32 (own_sl [c0, c1, c2, c3, c4, c5] len st 0)) + (i32 (own_sl [c0, c1, c2, c3, c4, c5] len st 1)))]
    refine r_iadd C (pc' := 271) at_270 rfl ?_
    refine r_aload C (pc' := 273) at_271 rfl rfl rfl ?_
    refine r_iloadN C (pc' := 274) at_273 rfl rfl ?_
    refine r_iload C (pc' := 276) at_274 rfl rfl ?_
    refine r_iconst C (pc' := 277) (v := 3) at_276 rfl rfl ?_
    refine r_callS C (pc' := 280) (argsL := [.ref ca, .int (i32 len), .int (i32 st), .int (3 : Int32)]) (c_slashAt l Z a0 hw n0 _ ca ck [c0, c1, c2, c3, c4, c5] A' rfl hcs len hlen st 3 hst (by decide)) at_277 rfl (w41 hw) (w42 hw) (w4 hw) (w43 hw) (by decide) pd16 (st := [.int (((i32 (own_sl [c0, c1, c2, c3, c4, c5] len st 0)) + (i32 (own_sl [c0, c1, c2, c3, c4, c5] len st 1))) + (i32 (own_sl [c0, c1, c2, c3, c4, c5] len st 2)))]) rfl rfl rfl (W := 1) (Nat.le_of_eq rfl) (by decide) (by decide) (by decide) (by decide) (cells' := 5) (slots' := 22) rfl rfl ?_
    rintro _ _ ⟨rfl, rfl⟩
    show Run _ _ _ _ _ _ _ _ 280 #[.val (.int va), .val (.int vb), .val (.int n), .val (.int (i32 len)), .val (.ref ca), .val (.ref sa), .val (.ref s), .val (.int (i32 st)), .unset] [.int (i32 (own_sl [c0, c1, c2, c3, c4, c5] len st 3)), .int (((i32 (own_sl [c0, c1, c2, c3, c4, c5] len st 0)) + (i32 (own_sl [c0, c1, c2, c3, c4, c5] len st 1))) + (i32 (own_sl [c0, c1, c2, c3, c4, c5] len st 2)))]
    refine r_iadd C (pc' := 281) at_280 rfl ?_
    refine r_aload C (pc' := 283) at_281 rfl rfl rfl ?_
    refine r_iloadN C (pc' := 284) at_283 rfl rfl ?_
    refine r_iload C (pc' := 286) at_284 rfl rfl ?_
    refine r_iconst C (pc' := 287) (v := 4) at_286 rfl rfl ?_
    refine r_callS C (pc' := 290) (argsL := [.ref ca, .int (i32 len), .int (i32 st), .int (4 : Int32)]) (c_slashAt l Z a0 hw n0 _ ca ck [c0, c1, c2, c3, c4, c5] A' rfl hcs len hlen st 4 hst (by decide)) at_287 rfl (w41 hw) (w42 hw) (w4 hw) (w43 hw) (by decide) pd16 (st := [.int ((((i32 (own_sl [c0, c1, c2, c3, c4, c5] len st 0)) + (i32 (own_sl [c0, c1, c2, c3, c4, c5] len st 1))) + (i32 (own_sl [c0, c1, c2, c3, c4, c5] len st 2))) + (i32 (own_sl [c0, c1, c2, c3, c4, c5] len st 3)))]) rfl rfl rfl (W := 1) (Nat.le_of_eq rfl) (by decide) (by decide) (by decide) (by decide) (cells' := 5) (slots' := 22) rfl rfl ?_
    rintro _ _ ⟨rfl, rfl⟩
    show Run _ _ _ _ _ _ _ _ 290 #[.val (.int va), .val (.int vb), .val (.int n), .val (.int (i32 len)), .val (.ref ca), .val (.ref sa), .val (.ref s), .val (.int (i32 st)), .unset] [.int (i32 (own_sl [c0, c1, c2, c3, c4, c5] len st 4)), .int ((((i32 (own_sl [c0, c1, c2, c3, c4, c5] len st 0)) + (i32 (own_sl [c0, c1, c2, c3, c4, c5] len st 1))) + (i32 (own_sl [c0, c1, c2, c3, c4, c5] len st 2))) + (i32 (own_sl [c0, c1, c2, c3, c4, c5] len st 3)))]
    refine r_iadd C (pc' := 291) at_290 rfl ?_
    refine r_aload C (pc' := 293) at_291 rfl rfl rfl ?_
    refine r_iloadN C (pc' := 294) at_293 rfl rfl ?_
    refine r_iload C (pc' := 296) at_294 rfl rfl ?_
    refine r_iconst C (pc' := 297) (v := 5) at_296 rfl rfl ?_
    refine r_callS C (pc' := 300) (argsL := [.ref ca, .int (i32 len), .int (i32 st), .int (5 : Int32)]) (c_slashAt l Z a0 hw n0 _ ca ck [c0, c1, c2, c3, c4, c5] A' rfl hcs len hlen st 5 hst (by decide)) at_297 rfl (w41 hw) (w42 hw) (w4 hw) (w43 hw) (by decide) pd16 (st := [.int (((((i32 (own_sl [c0, c1, c2, c3, c4, c5] len st 0)) + (i32 (own_sl [c0, c1, c2, c3, c4, c5] len st 1))) + (i32 (own_sl [c0, c1, c2, c3, c4, c5] len st 2))) + (i32 (own_sl [c0, c1, c2, c3, c4, c5] len st 3))) + (i32 (own_sl [c0, c1, c2, c3, c4, c5] len st 4)))]) rfl rfl rfl (W := 1) (Nat.le_of_eq rfl) (by decide) (by decide) (by decide) (by decide) (cells' := 5) (slots' := 22) rfl rfl ?_
    rintro _ _ ⟨rfl, rfl⟩
    show Run _ _ _ _ _ _ _ _ 300 #[.val (.int va), .val (.int vb), .val (.int n), .val (.int (i32 len)), .val (.ref ca), .val (.ref sa), .val (.ref s), .val (.int (i32 st)), .unset] [.int (i32 (own_sl [c0, c1, c2, c3, c4, c5] len st 5)), .int (((((i32 (own_sl [c0, c1, c2, c3, c4, c5] len st 0)) + (i32 (own_sl [c0, c1, c2, c3, c4, c5] len st 1))) + (i32 (own_sl [c0, c1, c2, c3, c4, c5] len st 2))) + (i32 (own_sl [c0, c1, c2, c3, c4, c5] len st 3))) + (i32 (own_sl [c0, c1, c2, c3, c4, c5] len st 4)))]
    refine r_iadd C (pc' := 301) at_300 rfl ?_
    refine r_istore C (pc' := 303) (Ls' := #[.val (.int va), .val (.int vb), .val (.int n), .val (.int (i32 len)), .val (.ref ca), .val (.ref sa), .val (.ref s), .val (.int (i32 st)), .val (.int ((((((i32 (own_sl [c0, c1, c2, c3, c4, c5] len st 0)) + (i32 (own_sl [c0, c1, c2, c3, c4, c5] len st 1))) + (i32 (own_sl [c0, c1, c2, c3, c4, c5] len st 2))) + (i32 (own_sl [c0, c1, c2, c3, c4, c5] len st 3))) + (i32 (own_sl [c0, c1, c2, c3, c4, c5] len st 4))) + (i32 (own_sl [c0, c1, c2, c3, c4, c5] len st 5))))]) at_301 rfl rfl ?_
    refine r_aload C (pc' := 305) at_303 rfl rfl rfl ?_
    refine r_callSW (pc' := 308) (argsL := [.ref s]) B D (by omega) (c_depth l Z a0 hw n0 _ cc fv ss ol s sb sk2 _ S hts (by omega) heldP hcw) (fun vm' hW => IB.warm I1 hW) at_305 rfl (w44 hw) (w45 hw) (w46 hw) (w47 hw) (by decide) pd11 (st := []) rfl rfl rfl (W := 0) (Nat.le_of_eq rfl) (by decide) (by decide) (by decide) (by decide) (cells' := 7) (slots' := 38) rfl rfl ?_
    rintro _ g10 vm2 rfl x10 D2
    replace D := D2
    replace C := B.ctx D
    show Run _ _ _ _ _ g10 _ _ 308 #[.val (.int va), .val (.int vb), .val (.int n), .val (.int (i32 len)), .val (.ref ca), .val (.ref sa), .val (.ref s), .val (.int (i32 st)), .val (.int ((((((i32 (own_sl [c0, c1, c2, c3, c4, c5] len st 0)) + (i32 (own_sl [c0, c1, c2, c3, c4, c5] len st 1))) + (i32 (own_sl [c0, c1, c2, c3, c4, c5] len st 2))) + (i32 (own_sl [c0, c1, c2, c3, c4, c5] len st 3))) + (i32 (own_sl [c0, c1, c2, c3, c4, c5] len st 4))) + (i32 (own_sl [c0, c1, c2, c3, c4, c5] len st 5))))] [.int (i32 (own_cnt (([c0, c1, c2, c3, c4, c5].take len).drop (own_st ([c0, c1, c2, c3, c4, c5].take len)))))]
    refine r_iload C (pc' := 310) at_308 rfl rfl ?_
    refine r_icmp_ne C (pt := 317) (pc' := 313) at_310 (by decide) (by decide) rfl ?_ ?_
    · intro q
      exact absurd (by rw [es, own_total c0 c1 c2 c3 c4 c5 len st hlen hst]; simp only [i32_add]) q
    · intro q
      refine r_iconst C (pc' := 314) (v := 1) at_313 rfl rfl ?_
      refine r_goto C (pc' := 318) at_314 (by decide) (by decide) ?_
      exact r_zreturn C at_318 rfl (by decide) (by decide) (Nat.le_refl _) (fun _ _ => rfl)
  refine r_callS C (pc' := 181) (argsL := [.ref ca, .int (i32 len), .int (0 : Int32)]) (c_sepAt l Z a0 hw n0 _ ca ck [c0, c1, c2, c3, c4, c5] A' rfl hcs len hlen 0 (by decide)) at_178 rfl (w38 hw) (w39 hw) (w4 hw) (w40 hw) (by decide) pd17 (st := []) rfl rfl rfl (W := 0) (Nat.le_of_eq rfl) (by decide) (by decide) (by decide) (by decide) (cells' := 5) (slots' := 22) rfl rfl ?_
  rintro _ _ ⟨rfl, rfl⟩
  show Run _ _ _ _ _ _ _ _ 181 #[.val (.int va), .val (.int vb), .val (.int n), .val (.int (i32 len)), .val (.ref ca), .val (.ref sa), .val (.ref s), .unset, .unset] [.int (if (0 + 2 < len ∧ own_at [c0, c1, c2, c3, c4, c5] 0) then (1 : Int32) else 0)]
  refine r_if_eq C (pt := 190) (pc' := 184) at_181 (by decide) (by decide) rfl ?_ ?_
  · intro p0
    refine r_aload C (pc' := 192) at_190 rfl rfl rfl ?_
    refine r_iloadN C (pc' := 193) at_192 rfl rfl ?_
    refine r_iconst C (pc' := 194) (v := 1) at_193 rfl rfl ?_
    refine r_callS C (pc' := 197) (argsL := [.ref ca, .int (i32 len), .int (1 : Int32)]) (c_sepAt l Z a0 hw n0 _ ca ck [c0, c1, c2, c3, c4, c5] A' rfl hcs len hlen 1 (by decide)) at_194 rfl (w38 hw) (w39 hw) (w4 hw) (w40 hw) (by decide) pd17 (st := []) rfl rfl rfl (W := 0) (Nat.le_of_eq rfl) (by decide) (by decide) (by decide) (by decide) (cells' := 5) (slots' := 22) rfl rfl ?_
    rintro _ _ ⟨rfl, rfl⟩
    show Run _ _ _ _ _ _ _ _ 197 #[.val (.int va), .val (.int vb), .val (.int n), .val (.int (i32 len)), .val (.ref ca), .val (.ref sa), .val (.ref s), .unset, .unset] [.int (if (1 + 2 < len ∧ own_at [c0, c1, c2, c3, c4, c5] 1) then (1 : Int32) else 0)]
    refine r_if_eq C (pt := 206) (pc' := 200) at_197 (by decide) (by decide) rfl ?_ ?_
    · intro p1
      refine r_aload C (pc' := 208) at_206 rfl rfl rfl ?_
      refine r_iloadN C (pc' := 209) at_208 rfl rfl ?_
      refine r_iconst C (pc' := 210) (v := 2) at_209 rfl rfl ?_
      refine r_callS C (pc' := 213) (argsL := [.ref ca, .int (i32 len), .int (2 : Int32)]) (c_sepAt l Z a0 hw n0 _ ca ck [c0, c1, c2, c3, c4, c5] A' rfl hcs len hlen 2 (by decide)) at_210 rfl (w38 hw) (w39 hw) (w4 hw) (w40 hw) (by decide) pd17 (st := []) rfl rfl rfl (W := 0) (Nat.le_of_eq rfl) (by decide) (by decide) (by decide) (by decide) (cells' := 5) (slots' := 22) rfl rfl ?_
      rintro _ _ ⟨rfl, rfl⟩
      show Run _ _ _ _ _ _ _ _ 213 #[.val (.int va), .val (.int vb), .val (.int n), .val (.int (i32 len)), .val (.ref ca), .val (.ref sa), .val (.ref s), .unset, .unset] [.int (if (2 + 2 < len ∧ own_at [c0, c1, c2, c3, c4, c5] 2) then (1 : Int32) else 0)]
      refine r_if_eq C (pt := 222) (pc' := 216) at_213 (by decide) (by decide) rfl ?_ ?_
      · intro p2
        refine r_aload C (pc' := 224) at_222 rfl rfl rfl ?_
        refine r_iloadN C (pc' := 225) at_224 rfl rfl ?_
        refine r_iconst C (pc' := 226) (v := 3) at_225 rfl rfl ?_
        refine r_callS C (pc' := 229) (argsL := [.ref ca, .int (i32 len), .int (3 : Int32)]) (c_sepAt l Z a0 hw n0 _ ca ck [c0, c1, c2, c3, c4, c5] A' rfl hcs len hlen 3 (by decide)) at_226 rfl (w38 hw) (w39 hw) (w4 hw) (w40 hw) (by decide) pd17 (st := []) rfl rfl rfl (W := 0) (Nat.le_of_eq rfl) (by decide) (by decide) (by decide) (by decide) (cells' := 5) (slots' := 22) rfl rfl ?_
        rintro _ _ ⟨rfl, rfl⟩
        show Run _ _ _ _ _ _ _ _ 229 #[.val (.int va), .val (.int vb), .val (.int n), .val (.int (i32 len)), .val (.ref ca), .val (.ref sa), .val (.ref s), .unset, .unset] [.int (if (3 + 2 < len ∧ own_at [c0, c1, c2, c3, c4, c5] 3) then (1 : Int32) else 0)]
        refine r_if_eq C (pt := 239) (pc' := 232) at_229 (by decide) (by decide) rfl ?_ ?_
        · intro p3
          refine r_iconst C (pc' := 240) (v := 0) at_239 rfl rfl ?_
          refine r_istore C (pc' := 242) (Ls' := #[.val (.int va), .val (.int vb), .val (.int n), .val (.int (i32 len)), .val (.ref ca), .val (.ref sa), .val (.ref s), .val (.int (0 : Int32)), .unset]) at_240 rfl rfl ?_
          exact rest 0 (by decide) (own_st_none _ len (show len ≤ 6 by omega) (by intro j hj; rcases (by omega : j = 0 ∨ j = 1 ∨ j = 2 ∨ j = 3) with rfl | rfl | rfl | rfl <;> first | exact own_b1 p0 | exact own_b1 p1 | exact own_b1 p2 | exact own_b1 p3))
        · intro p3
          refine r_bipush C (pc' := 234) (v := (6)) at_232 rfl rfl ?_
          refine r_istore C (pc' := 236) (Ls' := #[.val (.int va), .val (.int vb), .val (.int n), .val (.int (i32 len)), .val (.ref ca), .val (.ref sa), .val (.ref s), .val (.int (6 : Int32)), .unset]) at_234 rfl rfl ?_
          refine r_goto C (pc' := 242) at_236 (by decide) (by decide) ?_
          exact rest 6 (by decide) (own_st_some _ len 3 (show len ≤ 6 by omega) (by intro j hj; rcases (by omega : j = 0 ∨ j = 1 ∨ j = 2) with rfl | rfl | rfl <;> first | exact own_b1 p0 | exact own_b1 p1 | exact own_b1 p2) (own_b0 p3))
      · intro p2
        refine r_iconst C (pc' := 217) (v := 5) at_216 rfl rfl ?_
        refine r_istore C (pc' := 219) (Ls' := #[.val (.int va), .val (.int vb), .val (.int n), .val (.int (i32 len)), .val (.ref ca), .val (.ref sa), .val (.ref s), .val (.int (5 : Int32)), .unset]) at_217 rfl rfl ?_
        refine r_goto C (pc' := 242) at_219 (by decide) (by decide) ?_
        exact rest 5 (by decide) (own_st_some _ len 2 (show len ≤ 6 by omega) (by intro j hj; rcases (by omega : j = 0 ∨ j = 1) with rfl | rfl <;> first | exact own_b1 p0 | exact own_b1 p1) (own_b0 p2))
    · intro p1
      refine r_iconst C (pc' := 201) (v := 4) at_200 rfl rfl ?_
      refine r_istore C (pc' := 203) (Ls' := #[.val (.int va), .val (.int vb), .val (.int n), .val (.int (i32 len)), .val (.ref ca), .val (.ref sa), .val (.ref s), .val (.int (4 : Int32)), .unset]) at_201 rfl rfl ?_
      refine r_goto C (pc' := 242) at_203 (by decide) (by decide) ?_
      exact rest 4 (by decide) (own_st_some _ len 1 (show len ≤ 6 by omega) (by intro j hj; rcases (by omega : j = 0) with rfl <;> first | exact own_b1 p0) (own_b0 p1))
  · intro p0
    refine r_iconst C (pc' := 185) (v := 3) at_184 rfl rfl ?_
    refine r_istore C (pc' := 187) (Ls' := #[.val (.int va), .val (.int vb), .val (.int n), .val (.int (i32 len)), .val (.ref ca), .val (.ref sa), .val (.ref s), .val (.int (3 : Int32)), .unset]) at_185 rfl rfl ?_
    refine r_goto C (pc' := 242) at_187 (by decide) (by decide) ?_
    exact rest 3 (by decide) (own_st_some _ len 0 (show len ≤ 6 by omega) (by intro j hj; omega) (own_b0 p0))
set_option maxRecDepth 65536 in
set_option maxHeartbeats 40000000 in
theorem comes_1 {Post : Tables → Env → Array Value → State → Outcome → State → Prop} (hpost : ∀ tb e args s v u, (limb_1_1.after args s (.returned v) u = true ∧ limb_1_2.after args s (.returned v) u = true ∧ True) → ReturnedEndW s (.returned v) u (Jvm.fieldLocs frame_1_writes args s ++ Jvm.arrayLocs frame_1_arrays args s ++ Jvm.staticLocs frame_1_statics s) 24 2176 → Post tb e args s (.returned v) u) :
    ArmFor flags0 classFile x code maxLocals ret World_1 tables_1 room_1 Calls_1 rest_1 Pre_1 Post := by
  intro l hfl _ _ p e ha hc hk s m args below hf hA hF happ hP
  obtain ⟨hcalls, hrest, hpre⟩ := hP
  obtain ⟨-, -, -, hnamed, -, -, -, hat⟩ := (Spec.applies_iff hf).mp happ
  obtain ⟨hg, hn⟩ := and_e (Cond.before_iff.mp (show (Jvm.Cond.and given_1 narrow_1).before args s = true from hpre))
  obtain ⟨h1, g0⟩ := and_e hg
  obtain ⟨k0, g1⟩ := and_e g0
  obtain ⟨k1, g2⟩ := and_e g1
  obtain ⟨w0, w1, w2, rfl⟩ : ∃ w0 w1 w2 : Value, args = #[w0, w1, w2] := by
    have hs : args.size = 3 := by simpa [Cond.value, given_1] using h1
    obtain ⟨L⟩ := args
    match L, hs with
    | [w0, w1, w2], _ => exact ⟨w0, w1, w2, rfl⟩
  have hw := fun d (hd : d ∈ tables_1) => atoms_spec (ws := Jvm.Cond.code x code maxLocals ret :: tables_1) hat d (List.mem_cons_of_mem _ hd)
  obtain ⟨hsets, hown0⟩ := atoms_of _ (rest_1_c_eq ▸ (show rest_1_c.before _ s = true from hrest))
  have hfit : Fit s := fun {y c} hc i hi => by
    obtain ⟨ha, rfl⟩ := Array.getElem?_eq_some_iff.mp hc
    have q := List.all_eq_true.mp ((Array.all_eq_true_iff_forall_mem.mp hF) _ (Array.getElem_mem ha)) i (List.mem_range.mpr hi)
    simpa [Array.getElem?_eq_getElem hi] using q
  obtain ⟨i0, e0⟩ := is_v k0
  obtain rfl : w0 = (.int i0) := Option.some.inj e0
  obtain ⟨i1, e1⟩ := is_v k1
  obtain rfl : w1 = (.int i1) := Option.some.inj e1
  obtain ⟨i2, e2⟩ := is_v g2
  obtain rfl : w2 = (.int i2) := Option.some.inj e2
  obtain ⟨cc, fv, ss⟩ := own_ss hsets
  obtain ⟨n, o, h1, h2, h3, _, L, rfl, ⟨rfl, N⟩, hq⟩ := rm0 l s _ hw s.heap.size s.heap i0 i1 i2 cc fv ss (Old.start s) (Nat.le_refl _) (hcalls.1 _ (List.mem_of_getElem? (i := 0) rfl)) (hcalls.1 _ (List.mem_of_getElem? (i := 1) rfl)) (hsets _ (List.mem_of_getElem? (i := 2) rfl)) p e ha hc hk s m _ below hf ((Spec.applies_iff_loose hf).mp happ).1 ⟨rfl, State.Warmed39.refl s, rfl, IB.start⟩ trivial
  refine ⟨n, _, h1, h2, h3, hpost _ _ _ _ _ _ ⟨Cond.after_iff.mpr rfl, Cond.after_iff.mpr (eq_i res_at (Term.int_eval (1)) rfl), trivial⟩ ⟨hq.1, hq.2.1, hq.2.2.1, (hq.2.2.2.sift fun y hy => Or.inr (N y hy)).mono (by decide) (by decide)⟩⟩
theorem main_1_1 : Claimed_1_1 := comes_1 fun _ _ _ _ _ _ h hF => ⟨h.1, hF⟩
theorem main_1_2 : Claimed_1_2 := comes_1 fun _ _ _ _ _ _ h hF => ⟨h.2.1, hF⟩
end Jvm.Pilot.@@N@@
namespace Jvm.Pilot.@@N@@
open Jvm Jvm.ClassFile Sem Op Lib Jvm.Free Jvm.Stand Jvm.Pilot.@@N@@.Jvm.D
/-! MADE BY PROGRAM (witnessworld.py) out of the Statement's table words and the real class files: 20 classes; the members and pool entries that the words name. The judged class is class 1, her method 5. -/
namespace start1
open Jvm.ClassFile
def u (s : String) : CpInfo := .utf8 (stringToUtf16 s)
/-- a pool by its gaps: so many unusable entries, then the entry; so many at the end -/
def gap : Nat → List CpInfo → List CpInfo
  | 0, r => r
  | n + 1, r => .unusable :: gap n r
def poolList (es : List (Nat × CpInfo)) (last : Nat) : List CpInfo := es.foldr (fun e r => gap e.1 (e.2 :: r)) (gap last [])
def pool (es : List (Nat × CpInfo)) (last : Nat) : Array CpInfo := ⟨poolList es last⟩
def fileOf (pool : Array CpInfo) (this : Nat) (attrs : Array Attribute := #[]) (ms : Array MethodInfo := #[]) (fl : Nat := 33) (sup : Nat := 0) (ifs : Array Nat := #[]) (fds : Array FieldInfo := #[]) : ClassFile where
  minorVersion := 0
  majorVersion := 65
  constantPool := pool
  accessFlags := fl
  thisClass := this
  superClass := sup
  interfaces := ifs
  fields := fds
  methods := ms
  attributes := attrs
def plain (name : String) (sup : Option ClassId) : Class where
  name := name
  kind := .ordinary
  loader := none
  accessFlags := 33
  super := sup
  interfaces := #[]
  cf := none
  fields := #[]
  methods := #[]
  instanceTypes := #[]
  staticTypes := #[]
  resolved := #[]
  callSites := []
  init := .initialized
  statics := none
  mirror := none

def pool0 : Array CpInfo := pool [(5, u "<init>"), (0, u "()V"), (1, .class_ 10), (1, u "java/lang/Object")] 113

def k0c0 : Code := { maxStack := 0, maxLocals := 1, code := object_method_1_code, exceptionTable := #[], attributes := #[] }
def k0m0 : Method := { name := "<init>", desc := "()V", sig := { parameters := [], returnType := none }, accessFlags := 1, code := some k0c0 }
/-- java/lang/Object -/
def k0 : Class := { plain "java/lang/Object" none with
  accessFlags := 33
  interfaces := #[]
  cf := some (fileOf pool0 8 #[] #[{ accessFlags := 1, nameIndex := 5, descriptorIndex := 6, attributes := #[] }] 33 0 #[] #[])
  fields := #[]
  methods := #[k0m0]
  instanceTypes := #[]
  staticTypes := #[]
  resolved := Array.replicate 124 none
  statics := none }

def pool1 : Array CpInfo := pool [(2, .class_ 4), (1, u "java/lang/Object"), (0, u "<init>"), (0, u "()V"), (0, .integer 2147483647), (0, .methodref 9 10), (0, .class_ 11), (0, .nameAndType 12 13), (0, u "com/example/ranker/ranker/PageUrlDepthPinLaw"), (0, u "draw"), (0, u "(I)C"), (0, .methodref 9 15), (0, .nameAndType 16 17), (0, u "put"), (0, u "([CIC)V"), (0, .class_ 19), (0, u "java/lang/String"), (0, .methodref 18 21), (0, .nameAndType 5 22), (0, u "([C)V"), (0, .methodref 9 24), (0, .nameAndType 25 26), (0, u "sepAt"), (0, u "([CII)Z"), (0, .methodref 9 28), (0, .nameAndType 29 30), (0, u "slashAt"), (0, u "([CIII)I"), (0, .methodref 32 33), (0, .class_ 34), (0, .nameAndType 35 36), (0, u "com/example/ranker/ranker/PageUrl"), (0, u "depth"), (0, u "(Ljava/lang/String;)I"), (3, u "law"), (0, u "(III)Z")] 4

def k1m0 : Method := { name := "<init>", desc := "()V", sig := { parameters := [], returnType := none }, accessFlags := 2, code := none }
def k1c1 : Code := { maxStack := 2, maxLocals := 3, code := method_2_code, exceptionTable := #[], attributes := #[] }
def k1m1 : Method := { name := "draw", desc := "(I)C", sig := { parameters := [.int], returnType := some .char }, accessFlags := 10, code := some k1c1 }
def k1c2 : Code := { maxStack := 3, maxLocals := 3, code := method_3_code, exceptionTable := #[], attributes := #[] }
def k1m2 : Method := { name := "put", desc := "([CIC)V", sig := { parameters := [(.array .char), .int, .char], returnType := none }, accessFlags := 10, code := some k1c2 }
def k1c3 : Code := { maxStack := 3, maxLocals := 3, code := method_4_code, exceptionTable := #[], attributes := #[] }
def k1m3 : Method := { name := "sepAt", desc := "([CII)Z", sig := { parameters := [(.array .char), .int, .int], returnType := some .boolean }, accessFlags := 10, code := some k1c3 }
def k1c4 : Code := { maxStack := 2, maxLocals := 4, code := method_5_code, exceptionTable := #[], attributes := #[] }
def k1m4 : Method := { name := "slashAt", desc := "([CIII)I", sig := { parameters := [(.array .char), .int, .int, .int], returnType := some .int }, accessFlags := 10, code := some k1c4 }
def k1c5 : Code := { maxStack := 5, maxLocals := 9, code := code, exceptionTable := #[], attributes := #[] }
def k1m5 : Method := { name := "law", desc := "(III)Z", sig := { parameters := [.int, .int, .int], returnType := some .boolean }, accessFlags := 9, code := some k1c5 }
/-- com/example/ranker/ranker/PageUrlDepthPinLaw -/
def k1 : Class := { plain "com/example/ranker/ranker/PageUrlDepthPinLaw" (some 0) with
  accessFlags := 49
  interfaces := #[]
  cf := some (fileOf pool1 9 #[] #[{ accessFlags := 2, nameIndex := 5, descriptorIndex := 6, attributes := #[] }, { accessFlags := 10, nameIndex := 12, descriptorIndex := 13, attributes := #[] }, { accessFlags := 10, nameIndex := 16, descriptorIndex := 17, attributes := #[] }, { accessFlags := 10, nameIndex := 25, descriptorIndex := 26, attributes := #[] }, { accessFlags := 10, nameIndex := 29, descriptorIndex := 30, attributes := #[] }, { accessFlags := 9, nameIndex := 40, descriptorIndex := 41, attributes := #[] }] 49 2 #[] #[])
  fields := #[]
  methods := #[k1m0, k1m1, k1m2, k1m3, k1m4, k1m5]
  instanceTypes := #[]
  staticTypes := #[]
  resolved := Array.replicate 46 none
  statics := none }

def pool2 : Array CpInfo := pool [(1, .class_ 2), (0, u "java/io/Serializable"), (0, .class_ 4), (0, u "java/lang/Object")] 2

/-- java/io/Serializable -/
def k2 : Class := { plain "java/io/Serializable" (some 0) with
  accessFlags := 1537
  interfaces := #[]
  cf := some (fileOf pool2 1 #[] #[] 1537 3 #[] #[])
  fields := #[]
  methods := #[]
  instanceTypes := #[]
  staticTypes := #[]
  resolved := Array.replicate 7 none
  statics := none }

def pool3 : Array CpInfo := pool [(1, .class_ 2), (0, u "java/lang/Comparable"), (0, .class_ 4), (0, u "java/lang/Object")] 7

/-- java/lang/Comparable -/
def k3 : Class := { plain "java/lang/Comparable" (some 0) with
  accessFlags := 1537
  interfaces := #[]
  cf := some (fileOf pool3 1 #[] #[] 1537 3 #[] #[])
  fields := #[]
  methods := #[]
  instanceTypes := #[]
  staticTypes := #[]
  resolved := Array.replicate 12 none
  statics := none }

def pool4 : Array CpInfo := pool [(2, .class_ 4), (1, u "java/lang/CharSequence"), (42, .class_ 48), (0, u "java/lang/CharSequence$1CodePointIterator"), (10, .class_ 60), (0, u "java/lang/CharSequence$1CharIterator"), (5, .class_ 67), (0, u "java/lang/Object")] 63

/-- java/lang/CharSequence -/
def k4 : Class := { plain "java/lang/CharSequence" (some 0) with
  accessFlags := 1537
  interfaces := #[]
  cf := some (fileOf pool4 2 #[.nestMembers #[47, 59]] #[] 1537 66 #[] #[])
  fields := #[]
  methods := #[]
  instanceTypes := #[]
  staticTypes := #[]
  resolved := Array.replicate 131 none
  statics := none }

def pool5 : Array CpInfo := pool [(1, .class_ 2), (0, u "java/lang/constant/Constable"), (0, .class_ 4), (0, u "java/lang/Object")] 6

/-- java/lang/constant/Constable -/
def k5 : Class := { plain "java/lang/constant/Constable" (some 0) with
  accessFlags := 1537
  interfaces := #[]
  cf := some (fileOf pool5 1 #[] #[] 1537 3 #[] #[])
  fields := #[]
  methods := #[]
  instanceTypes := #[]
  staticTypes := #[]
  resolved := Array.replicate 11 none
  statics := none }

def pool6 : Array CpInfo := pool [(1, .class_ 2), (0, u "java/lang/constant/ConstantDesc"), (0, .class_ 4), (0, u "java/lang/Object")] 32

/-- java/lang/constant/ConstantDesc -/
def k6 : Class := { plain "java/lang/constant/ConstantDesc" (some 0) with
  accessFlags := 1537
  interfaces := #[]
  cf := some (fileOf pool6 1 #[] #[] 1537 3 #[] #[])
  fields := #[]
  methods := #[]
  instanceTypes := #[]
  staticTypes := #[]
  resolved := Array.replicate 37 none
  statics := none }

def pool7 : Array CpInfo := pool [(1, .methodref 2 3), (0, .class_ 4), (0, .nameAndType 5 6), (0, u "java/lang/Object"), (0, u "<init>"), (0, u "()V"), (0, .string 8), (0, u ""), (0, .fieldref 10 11), (0, .class_ 12), (0, .nameAndType 13 14), (0, u "java/lang/String"), (0, u "value"), (0, u "[B"), (0, .fieldref 10 16), (0, .nameAndType 17 18), (0, u "coder"), (0, u "B"), (2, u "hash"), (0, u "I"), (2, u "hashIsZero"), (0, u "Z"), (0, .methodref 10 28), (0, .nameAndType 5 29), (0, u "([CIILjava/lang/Void;)V"), (8, .fieldref 10 39), (0, .nameAndType 40 26), (0, u "COMPACT_STRINGS"), (1, .class_ 44), (1, u "java/lang/StringUTF16"), (0, u "compress"), (1, .methodref 42 48), (0, .nameAndType 49 50), (0, u "coderFromArrayLen"), (0, u "([BI)B"), (56, .class_ 109), (1, u "java/lang/StringLatin1"), (32, u "()Z"), (34, .methodref 42 178), (0, .nameAndType 45 179), (0, u "([CII)[B"), (154, u "()I"), (0, .methodref 10 336), (0, .nameAndType 17 337), (0, u "()B"), (25, u "([BI)C"), (27, u "(II)V"), (35, u "(I)C"), (64, .methodref 10 493), (0, .nameAndType 494 142), (0, u "isLatin1"), (0, .methodref 107 496), (0, .nameAndType 497 363), (0, u "charAt"), (3, u "checkIndex"), (5, u "length"), (67, .class_ 576), (0, u "java/lang/CharSequence"), (12, u "([B[B)I"), (9, u "CASE_INSENSITIVE_ORDER"), (0, u "Ljava/util/Comparator;"), (34, u "indexOf"), (11, .methodref 107 648), (0, .nameAndType 635 589), (64, u "(Ljava/lang/String;)I"), (296, u "([C)V"), (42, .fieldref 1054 1055), (0, .class_ 1056), (0, .nameAndType 1057 1058), (0, u "jdk/internal/util/Preconditions"), (0, u "SIOOBE_FORMATTER"), (0, u "Ljava/util/function/BiFunction;"), (0, .methodref 1054 1060), (0, .nameAndType 501 1061), (0, u "(IILjava/util/function/BiFunction;)I"), (39, u "serialPersistentFields"), (0, u "[Ljava/io/ObjectStreamField;"), (0, .class_ 1104), (0, u "java/lang/String$CaseInsensitiveComparator"), (1, .class_ 1107), (0, u "java/io/Serializable"), (0, .class_ 1109), (0, u "java/lang/Comparable"), (0, .class_ 1111), (0, u "java/lang/constant/Constable"), (0, .class_ 1113), (0, u "java/lang/constant/ConstantDesc"), (2, u "serialVersionUID"), (0, u "J"), (3, u "REPL"), (0, u "C"), (2, u "LATIN1"), (1, u "UTF16")] 323

def k7m0 : Method := { name := "<init>", desc := "()V", sig := { parameters := [], returnType := none }, accessFlags := 1, code := none }
def k7c1 : Code := { maxStack := 5, maxLocals := 2, code := jdk_42_method_3_code, exceptionTable := #[], attributes := #[] }
def k7m1 : Method := { name := "<init>", desc := "([C)V", sig := { parameters := [(.array .char)], returnType := none }, accessFlags := 1, code := some k7c1 }
def k7c2 : Code := { maxStack := 2, maxLocals := 1, code := jdk_42_method_54_code, exceptionTable := #[], attributes := #[] }
def k7m2 : Method := { name := "length", desc := "()I", sig := { parameters := [], returnType := some .int }, accessFlags := 1, code := some k7c2 }
def k7c3 : Code := { maxStack := 2, maxLocals := 2, code := jdk_42_method_56_code, exceptionTable := #[], attributes := #[] }
def k7m3 : Method := { name := "charAt", desc := "(I)C", sig := { parameters := [.int], returnType := some .char }, accessFlags := 1, code := some k7c3 }
def k7c4 : Code := { maxStack := 2, maxLocals := 3, code := jdk_42_method_84_code, exceptionTable := #[], attributes := #[] }
def k7m4 : Method := { name := "indexOf", desc := "(Ljava/lang/String;)I", sig := { parameters := [(.object "java/lang/String")], returnType := some .int }, accessFlags := 1, code := some k7c4 }
def k7c5 : Code := { maxStack := 4, maxLocals := 6, code := jdk_42_method_149_code, exceptionTable := #[], attributes := #[] }
def k7m5 : Method := { name := "<init>", desc := "([CIILjava/lang/Void;)V", sig := { parameters := [(.array .char), .int, .int, (.object "java/lang/Void")], returnType := none }, accessFlags := 2, code := some k7c5 }
def k7c6 : Code := { maxStack := 1, maxLocals := 1, code := jdk_42_method_152_code, exceptionTable := #[], attributes := #[] }
def k7m6 : Method := { name := "coder", desc := "()B", sig := { parameters := [], returnType := some .byte }, accessFlags := 0, code := some k7c6 }
def k7c7 : Code := { maxStack := 1, maxLocals := 1, code := jdk_42_method_154_code, exceptionTable := #[], attributes := #[] }
def k7m7 : Method := { name := "isLatin1", desc := "()Z", sig := { parameters := [], returnType := some .boolean }, accessFlags := 0, code := some k7c7 }
def k7c8 : Code := { maxStack := 3, maxLocals := 2, code := jdk_42_method_155_code, exceptionTable := #[], attributes := #[] }
def k7m8 : Method := { name := "checkIndex", desc := "(II)V", sig := { parameters := [.int, .int], returnType := none }, accessFlags := 8, code := some k7c8 }
/-- java/lang/String -/
def k7 : Class := { plain "java/lang/String" (some 0) with
  accessFlags := 49
  interfaces := #[2, 3, 4, 5, 6]
  cf := some (fileOf pool7 10 #[.nestMembers #[1103]] #[{ accessFlags := 1, nameIndex := 5, descriptorIndex := 6, attributes := #[] }, { accessFlags := 1, nameIndex := 5, descriptorIndex := 1010, attributes := #[] }, { accessFlags := 1, nameIndex := 507, descriptorIndex := 334, attributes := #[] }, { accessFlags := 1, nameIndex := 497, descriptorIndex := 427, attributes := #[] }, { accessFlags := 1, nameIndex := 635, descriptorIndex := 713, attributes := #[] }, { accessFlags := 2, nameIndex := 5, descriptorIndex := 29, attributes := #[] }, { accessFlags := 0, nameIndex := 17, descriptorIndex := 337, attributes := #[] }, { accessFlags := 0, nameIndex := 494, descriptorIndex := 142, attributes := #[] }, { accessFlags := 8, nameIndex := 501, descriptorIndex := 391, attributes := #[] }] 49 2 #[1106, 1108, 575, 1110, 1112] #[{ accessFlags := 18, nameIndex := 13, descriptorIndex := 14, attributes := #[] }, { accessFlags := 18, nameIndex := 17, descriptorIndex := 18, attributes := #[] }, { accessFlags := 2, nameIndex := 21, descriptorIndex := 22, attributes := #[] }, { accessFlags := 2, nameIndex := 25, descriptorIndex := 26, attributes := #[] }, { accessFlags := 26, nameIndex := 1116, descriptorIndex := 1117, attributes := #[] }, { accessFlags := 24, nameIndex := 40, descriptorIndex := 26, attributes := #[] }, { accessFlags := 26, nameIndex := 1101, descriptorIndex := 1102, attributes := #[] }, { accessFlags := 26, nameIndex := 1121, descriptorIndex := 1122, attributes := #[] }, { accessFlags := 25, nameIndex := 599, descriptorIndex := 600, attributes := #[] }, { accessFlags := 24, nameIndex := 1125, descriptorIndex := 18, attributes := #[] }, { accessFlags := 24, nameIndex := 1127, descriptorIndex := 18, attributes := #[] }])
  fields := #[{ name := "value", type := (.array .byte), accessFlags := 18, slot := 0, constantValue := 0 }, { name := "coder", type := .byte, accessFlags := 18, slot := 1, constantValue := 0 }, { name := "hash", type := .int, accessFlags := 2, slot := 2, constantValue := 0 }, { name := "hashIsZero", type := .boolean, accessFlags := 2, slot := 3, constantValue := 0 }, { name := "serialVersionUID", type := .long, accessFlags := 26, slot := 0, constantValue := 0 }, { name := "COMPACT_STRINGS", type := .boolean, accessFlags := 24, slot := 1, constantValue := 0 }, { name := "serialPersistentFields", type := (.array (.object "java/io/ObjectStreamField")), accessFlags := 26, slot := 2, constantValue := 0 }, { name := "REPL", type := .char, accessFlags := 26, slot := 3, constantValue := 0 }, { name := "CASE_INSENSITIVE_ORDER", type := (.object "java/util/Comparator"), accessFlags := 25, slot := 4, constantValue := 0 }, { name := "LATIN1", type := .byte, accessFlags := 24, slot := 5, constantValue := 0 }, { name := "UTF16", type := .byte, accessFlags := 24, slot := 6, constantValue := 0 }]
  methods := #[k7m0, k7m1, k7m2, k7m3, k7m4, k7m5, k7m6, k7m7, k7m8]
  instanceTypes := #[(.array .byte), .byte, .int, .boolean]
  staticTypes := #[.long, .boolean, (.array (.object "java/io/ObjectStreamField")), .char, (.object "java/util/Comparator"), .byte, .byte]
  resolved := Array.replicate 1451 none
  statics := some 0 }

def pool8 : Array CpInfo := pool [(6, .class_ 8), (1, u "java/lang/Object"), (0, u "<init>"), (0, u "()V"), (1, .class_ 14), (1, u "java/lang/StringUTF16"), (31, u "$assertionsDisabled"), (0, u "Z"), (13, u "HI_BYTE_SHIFT"), (0, u "I"), (2, u "LO_BYTE_SHIFT"), (49, .methodref 12 116), (0, .nameAndType 117 118), (0, u "compress"), (0, u "([CI[BII)I"), (3, u "([CII)[B"), (138, u "coderFromArrayLen"), (0, u "([BI)B"), (106, .class_ 371), (1, u "java/lang/StringUTF16$LinesSpliterator"), (58, u "MAX_LENGTH"), (196, .class_ 628), (0, u "java/lang/StringUTF16$CodePointsSpliterator"), (0, .class_ 630), (0, u "java/lang/StringUTF16$CharsSpliterator")] 4

def k8m0 : Method := { name := "<init>", desc := "()V", sig := { parameters := [], returnType := none }, accessFlags := 0, code := none }
def k8c1 : Code := { maxStack := 2, maxLocals := 2, code := jdk_52_method_15_code, exceptionTable := #[], attributes := #[] }
def k8m1 : Method := { name := "coderFromArrayLen", desc := "([BI)B", sig := { parameters := [(.array .byte), .int], returnType := some .byte }, accessFlags := 8, code := some k8c1 }
def k8c2 : Code := { maxStack := 5, maxLocals := 6, code := jdk_52_method_16_code, exceptionTable := #[], attributes := #[] }
def k8m2 : Method := { name := "compress", desc := "([CII)[B", sig := { parameters := [(.array .char), .int, .int], returnType := some (.array .byte) }, accessFlags := 9, code := some k8c2 }
def k8c3 : Code := { maxStack := 3, maxLocals := 7, code := jdk_52_method_21_code, exceptionTable := #[], attributes := #[] }
def k8m3 : Method := { name := "compress", desc := "([CI[BII)I", sig := { parameters := [(.array .char), .int, (.array .byte), .int, .int], returnType := some .int }, accessFlags := 9, code := some k8c3 }
/-- java/lang/StringUTF16 -/
def k8 : Class := { plain "java/lang/StringUTF16" (some 0) with
  accessFlags := 48
  interfaces := #[]
  cf := some (fileOf pool8 12 #[.nestMembers #[627, 629, 369]] #[{ accessFlags := 0, nameIndex := 9, descriptorIndex := 10, attributes := #[] }, { accessFlags := 8, nameIndex := 261, descriptorIndex := 262, attributes := #[] }, { accessFlags := 9, nameIndex := 117, descriptorIndex := 122, attributes := #[] }, { accessFlags := 9, nameIndex := 117, descriptorIndex := 118, attributes := #[] }] 48 6 #[] #[{ accessFlags := 26, nameIndex := 61, descriptorIndex := 62, attributes := #[] }, { accessFlags := 26, nameIndex := 65, descriptorIndex := 62, attributes := #[] }, { accessFlags := 24, nameIndex := 430, descriptorIndex := 62, attributes := #[] }, { accessFlags := 4120, nameIndex := 46, descriptorIndex := 47, attributes := #[] }])
  fields := #[{ name := "HI_BYTE_SHIFT", type := .int, accessFlags := 26, slot := 0, constantValue := 0 }, { name := "LO_BYTE_SHIFT", type := .int, accessFlags := 26, slot := 1, constantValue := 0 }, { name := "MAX_LENGTH", type := .int, accessFlags := 24, slot := 2, constantValue := 0 }, { name := "$assertionsDisabled", type := .boolean, accessFlags := 4120, slot := 3, constantValue := 0 }]
  methods := #[k8m0, k8m1, k8m2, k8m3]
  instanceTypes := #[]
  staticTypes := #[.int, .int, .int, .boolean]
  resolved := Array.replicate 635 none
  statics := none }

def pool9 : Array CpInfo := pool [(2, .class_ 4), (1, u "java/lang/Object"), (0, u "<init>"), (0, u "()V"), (0, .methodref 8 9), (0, .class_ 10), (0, .nameAndType 11 12), (0, u "java/lang/String"), (0, u "length"), (0, u "()I"), (4, .class_ 18), (0, u "com/example/ranker/ranker/PageUrl"), (0, .string 20), (0, u "://"), (0, .methodref 8 22), (0, .nameAndType 23 24), (0, u "indexOf"), (0, u "(Ljava/lang/String;)I"), (0, .methodref 8 26), (0, .nameAndType 27 28), (0, u "charAt"), (0, u "(I)C"), (45, u "AFTER_SCHEME"), (0, u "Ljava/lang/String;"), (3, u "depth")] 9

def k9m0 : Method := { name := "<init>", desc := "()V", sig := { parameters := [], returnType := none }, accessFlags := 2, code := none }
def k9c1 : Code := { maxStack := 2, maxLocals := 4, code := prog_20_method_3_code, exceptionTable := #[], attributes := #[] }
def k9m1 : Method := { name := "depth", desc := "(Ljava/lang/String;)I", sig := { parameters := [(.object "java/lang/String")], returnType := some .int }, accessFlags := 8, code := some k9c1 }
/-- com/example/ranker/ranker/PageUrl -/
def k9 : Class := { plain "com/example/ranker/ranker/PageUrl" (some 0) with
  accessFlags := 32
  interfaces := #[]
  cf := some (fileOf pool9 17 #[] #[{ accessFlags := 2, nameIndex := 5, descriptorIndex := 6, attributes := #[] }, { accessFlags := 8, nameIndex := 79, descriptorIndex := 24, attributes := #[] }] 32 2 #[] #[{ accessFlags := 26, nameIndex := 74, descriptorIndex := 75, attributes := #[] }])
  fields := #[{ name := "AFTER_SCHEME", type := (.object "java/lang/String"), accessFlags := 26, slot := 0, constantValue := 0 }]
  methods := #[k9m0, k9m1]
  instanceTypes := #[]
  staticTypes := #[(.object "java/lang/String")]
  resolved := Array.replicate 89 none
  statics := none }

def pool10 : Array CpInfo := pool [(1, .class_ 2), (0, u "java/lang/String"), (1, .class_ 6), (1, u "java/lang/Object"), (0, u "<init>"), (0, u "()V"), (0, .methodref 1 10), (0, .nameAndType 11 12), (0, u "checkIndex"), (0, u "(II)V"), (1, .class_ 16), (1, u "java/lang/StringLatin1"), (36, u "([BI)C"), (45, .methodref 14 100), (0, .nameAndType 101 102), (0, u "indexOf"), (0, u "([BI[BII)I"), (18, u "$assertionsDisabled"), (0, u "Z"), (98, .class_ 223), (1, u "java/lang/StringLatin1$LinesSpliterator"), (28, u "charAt"), (34, u "([B[B)I"), (102, .class_ 391), (0, u "java/lang/StringLatin1$CharsSpliterator")] 3

def k10m0 : Method := { name := "<init>", desc := "()V", sig := { parameters := [], returnType := none }, accessFlags := 0, code := none }
def k10c1 : Code := { maxStack := 2, maxLocals := 2, code := jdk_43_method_2_code, exceptionTable := #[], attributes := #[] }
def k10m1 : Method := { name := "charAt", desc := "([BI)C", sig := { parameters := [(.array .byte), .int], returnType := some .char }, accessFlags := 9, code := some k10c1 }
def k10c2 : Code := { maxStack := 5, maxLocals := 2, code := jdk_43_method_24_code, exceptionTable := #[], attributes := #[] }
def k10m2 : Method := { name := "indexOf", desc := "([B[B)I", sig := { parameters := [(.array .byte), (.array .byte)], returnType := some .int }, accessFlags := 9, code := some k10c2 }
def k10c3 : Code := { maxStack := 3, maxLocals := 11, code := jdk_43_method_25_code, exceptionTable := #[], attributes := #[] }
def k10m3 : Method := { name := "indexOf", desc := "([BI[BII)I", sig := { parameters := [(.array .byte), .int, (.array .byte), .int, .int], returnType := some .int }, accessFlags := 9, code := some k10c3 }
/-- java/lang/StringLatin1 -/
def k10 : Class := { plain "java/lang/StringLatin1" (some 0) with
  accessFlags := 48
  interfaces := #[]
  cf := some (fileOf pool10 14 #[.nestMembers #[390, 221]] #[{ accessFlags := 0, nameIndex := 7, descriptorIndex := 8, attributes := #[] }, { accessFlags := 9, nameIndex := 252, descriptorIndex := 53, attributes := #[] }, { accessFlags := 9, nameIndex := 101, descriptorIndex := 287, attributes := #[] }, { accessFlags := 9, nameIndex := 101, descriptorIndex := 102, attributes := #[] }] 48 4 #[] #[{ accessFlags := 4120, nameIndex := 121, descriptorIndex := 122, attributes := #[] }])
  fields := #[{ name := "$assertionsDisabled", type := .boolean, accessFlags := 4120, slot := 0, constantValue := 0 }]
  methods := #[k10m0, k10m1, k10m2, k10m3]
  instanceTypes := #[]
  staticTypes := #[.boolean]
  resolved := Array.replicate 395 none
  statics := none }

def pool11 : Array CpInfo := pool [(2, .class_ 4), (1, u "java/lang/Object"), (0, u "<init>"), (0, u "()V"), (17, .class_ 26), (1, u "jdk/internal/util/Preconditions"), (6, u "checkIndex"), (21, .class_ 56), (0, u "jdk/internal/util/Preconditions$4"), (57, .class_ 115), (0, u "jdk/internal/util/Preconditions$1"), (7, u "SIOOBE_FORMATTER"), (0, u "Ljava/util/function/BiFunction;"), (0, .class_ 126), (0, u "jdk/internal/util/Preconditions$2"), (3, u "AIOOBE_FORMATTER"), (0, .class_ 132), (0, u "jdk/internal/util/Preconditions$3"), (3, u "IOOBE_FORMATTER"), (41, u "(IILjava/util/function/BiFunction;)I")] 15

def k11m0 : Method := { name := "<init>", desc := "()V", sig := { parameters := [], returnType := none }, accessFlags := 1, code := none }
def k11c1 : Code := { maxStack := 3, maxLocals := 3, code := jdk_41_method_11_code, exceptionTable := #[], attributes := #[] }
def k11m1 : Method := { name := "checkIndex", desc := "(IILjava/util/function/BiFunction;)I", sig := { parameters := [.int, .int, (.object "java/util/function/BiFunction")], returnType := some .int }, accessFlags := 9, code := some k11c1 }
/-- jdk/internal/util/Preconditions -/
def k11 : Class := { plain "jdk/internal/util/Preconditions" (some 0) with
  accessFlags := 33
  interfaces := #[]
  cf := some (fileOf pool11 24 #[.nestMembers #[55, 131, 125, 114]] #[{ accessFlags := 1, nameIndex := 5, descriptorIndex := 6, attributes := #[] }, { accessFlags := 9, nameIndex := 33, descriptorIndex := 178, attributes := #[] }] 33 2 #[] #[{ accessFlags := 25, nameIndex := 123, descriptorIndex := 124, attributes := #[] }, { accessFlags := 25, nameIndex := 130, descriptorIndex := 124, attributes := #[] }, { accessFlags := 25, nameIndex := 136, descriptorIndex := 124, attributes := #[] }])
  fields := #[{ name := "SIOOBE_FORMATTER", type := (.object "java/util/function/BiFunction"), accessFlags := 25, slot := 0, constantValue := 0 }, { name := "AIOOBE_FORMATTER", type := (.object "java/util/function/BiFunction"), accessFlags := 25, slot := 1, constantValue := 0 }, { name := "IOOBE_FORMATTER", type := (.object "java/util/function/BiFunction"), accessFlags := 25, slot := 2, constantValue := 0 }]
  methods := #[k11m0, k11m1]
  instanceTypes := #[]
  staticTypes := #[(.object "java/util/function/BiFunction"), (.object "java/util/function/BiFunction"), (.object "java/util/function/BiFunction")]
  resolved := Array.replicate 194 none
  statics := some 1 }

def pool12 : Array CpInfo := pool [(9, u "<init>"), (6, .class_ 18), (1, u "java/lang/Object"), (0, u "()V"), (1, .class_ 23), (1, u "jdk/internal/util/ArraysSupport"), (0, u "LOG2_ARRAY_LONG_INDEX_SCALE"), (0, u "I"), (2, u "U"), (0, u "Ljdk/internal/misc/Unsafe;"), (8, u "BIG_ENDIAN"), (0, u "Z"), (8, u "LOG2_BYTE_BIT_SIZE"), (4, u "LOG2_ARRAY_INT_INDEX_SCALE"), (54, u "JLA"), (0, u "Ljdk/internal/access/JavaLangAccess;"), (11, u "LOG2_ARRAY_BOOLEAN_INDEX_SCALE"), (9, u "LOG2_ARRAY_BYTE_INDEX_SCALE"), (5, u "LOG2_ARRAY_CHAR_INDEX_SCALE"), (5, u "LOG2_ARRAY_SHORT_INDEX_SCALE"), (18, u "LOG2_ARRAY_FLOAT_INDEX_SCALE"), (24, u "LOG2_ARRAY_DOUBLE_INDEX_SCALE"), (89, u "T_BOOLEAN"), (2, u "T_CHAR"), (1, u "T_FLOAT"), (1, u "T_DOUBLE"), (1, u "T_BYTE"), (1, u "T_SHORT"), (1, u "T_INT"), (1, u "T_LONG"), (1, u "SOFT_MAX_ARRAY_LENGTH")] 83

def k12m0 : Method := { name := "<init>", desc := "()V", sig := { parameters := [], returnType := none }, accessFlags := 2, code := none }
/-- jdk/internal/util/ArraysSupport -/
def k12 : Class := { plain "jdk/internal/util/ArraysSupport" (some 0) with
  accessFlags := 33
  interfaces := #[]
  cf := some (fileOf pool12 21 #[] #[{ accessFlags := 2, nameIndex := 9, descriptorIndex := 19, attributes := #[] }] 33 16 #[] #[{ accessFlags := 24, nameIndex := 28, descriptorIndex := 29, attributes := #[] }, { accessFlags := 26, nameIndex := 38, descriptorIndex := 39, attributes := #[] }, { accessFlags := 25, nameIndex := 121, descriptorIndex := 25, attributes := #[] }, { accessFlags := 25, nameIndex := 131, descriptorIndex := 25, attributes := #[] }, { accessFlags := 25, nameIndex := 137, descriptorIndex := 25, attributes := #[] }, { accessFlags := 25, nameIndex := 143, descriptorIndex := 25, attributes := #[] }, { accessFlags := 25, nameIndex := 53, descriptorIndex := 25, attributes := #[] }, { accessFlags := 25, nameIndex := 24, descriptorIndex := 25, attributes := #[] }, { accessFlags := 25, nameIndex := 162, descriptorIndex := 25, attributes := #[] }, { accessFlags := 25, nameIndex := 187, descriptorIndex := 25, attributes := #[] }, { accessFlags := 26, nameIndex := 48, descriptorIndex := 25, attributes := #[] }, { accessFlags := 25, nameIndex := 277, descriptorIndex := 25, attributes := #[] }, { accessFlags := 25, nameIndex := 280, descriptorIndex := 25, attributes := #[] }, { accessFlags := 25, nameIndex := 282, descriptorIndex := 25, attributes := #[] }, { accessFlags := 25, nameIndex := 284, descriptorIndex := 25, attributes := #[] }, { accessFlags := 25, nameIndex := 286, descriptorIndex := 25, attributes := #[] }, { accessFlags := 25, nameIndex := 288, descriptorIndex := 25, attributes := #[] }, { accessFlags := 25, nameIndex := 290, descriptorIndex := 25, attributes := #[] }, { accessFlags := 25, nameIndex := 292, descriptorIndex := 25, attributes := #[] }, { accessFlags := 26, nameIndex := 108, descriptorIndex := 109, attributes := #[] }, { accessFlags := 25, nameIndex := 294, descriptorIndex := 25, attributes := #[] }])
  fields := #[{ name := "U", type := (.object "jdk/internal/misc/Unsafe"), accessFlags := 24, slot := 0, constantValue := 0 }, { name := "BIG_ENDIAN", type := .boolean, accessFlags := 26, slot := 1, constantValue := 0 }, { name := "LOG2_ARRAY_BOOLEAN_INDEX_SCALE", type := .int, accessFlags := 25, slot := 2, constantValue := 0 }, { name := "LOG2_ARRAY_BYTE_INDEX_SCALE", type := .int, accessFlags := 25, slot := 3, constantValue := 0 }, { name := "LOG2_ARRAY_CHAR_INDEX_SCALE", type := .int, accessFlags := 25, slot := 4, constantValue := 0 }, { name := "LOG2_ARRAY_SHORT_INDEX_SCALE", type := .int, accessFlags := 25, slot := 5, constantValue := 0 }, { name := "LOG2_ARRAY_INT_INDEX_SCALE", type := .int, accessFlags := 25, slot := 6, constantValue := 0 }, { name := "LOG2_ARRAY_LONG_INDEX_SCALE", type := .int, accessFlags := 25, slot := 7, constantValue := 0 }, { name := "LOG2_ARRAY_FLOAT_INDEX_SCALE", type := .int, accessFlags := 25, slot := 8, constantValue := 0 }, { name := "LOG2_ARRAY_DOUBLE_INDEX_SCALE", type := .int, accessFlags := 25, slot := 9, constantValue := 0 }, { name := "LOG2_BYTE_BIT_SIZE", type := .int, accessFlags := 26, slot := 10, constantValue := 0 }, { name := "T_BOOLEAN", type := .int, accessFlags := 25, slot := 11, constantValue := 0 }, { name := "T_CHAR", type := .int, accessFlags := 25, slot := 12, constantValue := 0 }, { name := "T_FLOAT", type := .int, accessFlags := 25, slot := 13, constantValue := 0 }, { name := "T_DOUBLE", type := .int, accessFlags := 25, slot := 14, constantValue := 0 }, { name := "T_BYTE", type := .int, accessFlags := 25, slot := 15, constantValue := 0 }, { name := "T_SHORT", type := .int, accessFlags := 25, slot := 16, constantValue := 0 }, { name := "T_INT", type := .int, accessFlags := 25, slot := 17, constantValue := 0 }, { name := "T_LONG", type := .int, accessFlags := 25, slot := 18, constantValue := 0 }, { name := "JLA", type := (.object "jdk/internal/access/JavaLangAccess"), accessFlags := 26, slot := 19, constantValue := 0 }, { name := "SOFT_MAX_ARRAY_LENGTH", type := .int, accessFlags := 25, slot := 20, constantValue := 0 }]
  methods := #[k12m0]
  instanceTypes := #[]
  staticTypes := #[(.object "jdk/internal/misc/Unsafe"), .boolean, .int, .int, .int, .int, .int, .int, .int, .int, .int, .int, .int, .int, .int, .int, .int, .int, .int, (.object "jdk/internal/access/JavaLangAccess"), .int]
  resolved := Array.replicate 378 none
  statics := none }

def pool13 : Array CpInfo := pool [(1, u "java/lang/Cloneable"), (0, .class_ 1), (0, u "java/lang/Object"), (0, .class_ 3)] 3

/-- java/lang/Cloneable -/
def k13 : Class := { plain "java/lang/Cloneable" (some 0) with
  accessFlags := 1537
  interfaces := #[]
  cf := some (fileOf pool13 2 #[] #[] 1537 4 #[] #[])
  fields := #[]
  methods := #[]
  instanceTypes := #[]
  staticTypes := #[]
  resolved := Array.replicate 8 none
  statics := none }

/-- the primitive byte -/
def k14 : Class := { plain "byte" none with kind := .primitive 'B', accessFlags := 0x411 }
/-- [B -/
def k15 : Class := { plain "[B" (some 0) with kind := .array 14 .byte, interfaces := #[13, 2], accessFlags := 1041 }

/-- the primitive char -/
def k16 : Class := { plain "char" none with kind := .primitive 'C', accessFlags := 0x411 }
/-- [C -/
def k17 : Class := { plain "[C" (some 0) with kind := .array 16 .char, interfaces := #[13, 2], accessFlags := 1041 }

/-- the primitive int -/
def k18 : Class := { plain "int" none with kind := .primitive 'I', accessFlags := 0x411 }
/-- [I -/
def k19 : Class := { plain "[I" (some 0) with kind := .array 18 .int, interfaces := #[13, 2], accessFlags := 1041 }

def heap : Heap := #[{ cls := 7, slots := #[.long 0, .int 1, .null, .int 0, .null, .int 0, .int 0], vm := .statics 7 },
  { cls := 11, slots := #[.null, .null, .null], vm := .statics 11 }]
def classes : Array Class := #[k0, k1, k2, k3, k4, k5, k6, k7, k8, k9, k10, k11, k12, k13, k14, k15, k16, k17, k18, k19]
def interned : List (Array UInt16 × Addr) := []
def slotsUsed : Nat := 10
def theMethod : MethodId := ⟨1, 5⟩
def args0 : Array Value := #[.int 5, .int 7, .int 4]
def aboutOver (below : List Frame) : State where
  vm := { classes := classes, interned := interned.toArray }
  heap := heap
  slotsUsed := slotsUsed
  threads := #[{ frames := .invoking theMethod args0 :: below }]
def below0 : List Frame := [.native { method := ⟨0, 0⟩, args := #[] }]
def about1 : State := aboutOver below0
def p0 : Program := .bare "" "" ""
def e0 : Env := launch0.env 0 0 0
theorem w_frames : about1.frames = Frame.invoking theMethod args0 :: below0 := rfl
set_option maxRecDepth 65536 in
theorem w_args : argsFit about1.vm theMethod args0 = true := by decide +kernel
set_option maxRecDepth 65536 in
theorem w_heap : heapFits about1 = true := by decide +kernel
set_option maxRecDepth 65536 in
theorem w_runnable : about1.curStatus? = some .runnable := by decide +kernel
set_option maxRecDepth 65536 in
theorem w_alone : about1.alone = true := by decide +kernel
set_option maxRecDepth 65536 in
theorem w_named : about1.methodNamed? x = some theMethod := by decide +kernel
set_option maxRecDepth 65536 in
theorem w_hears : about1.hears theMethod below0 = true := by decide +kernel
set_option maxRecDepth 65536 in
theorem w_ripe : about1.ripe theMethod args0 below0 = true := by decide +kernel
theorem w_running : about1.status = .running := rfl
set_option maxRecDepth 65536 in
theorem w_room : about1.hasRoom e0.platform room_1 = true :=
  launch0.hasRoom_least _ room_1 (by decide +kernel) (by decide +kernel) (by decide +kernel) (by decide +kernel) (by decide +kernel) (by decide +kernel)
theorem allAtoms_all (ts : List Jvm.Cond) (a : Array Jvm.Value) (st : Jvm.State) : (allAtoms ts).before a st = ts.all (fun c => c.before a st) := by
  induction ts with
  | nil => rfl
  | cons c t ih =>
    show (Jvm.Cond.and c (allAtoms t)).before a st = _
    rw [Jvm.Cond.before_and, ih, List.all_cons]
def words1 : List Jvm.Cond := Jvm.Cond.code x code maxLocals ret :: tables_1
/-- a 'code' word, met by the world's own term for the bytes: nothing is compared byte by byte -/
theorem code_word {y : MethodName} {bytes : ByteArray} {mx : Nat} {rt : Option FieldType} {a : Array Value} {s : State} {m : MethodId} {meth : Method} {c : Code} (h1 : s.methodNamed? y = some m) (h2 : s.vm.method? m = some meth) (h3 : meth.code = some c) (h4 : c.code = bytes)
    (h5 : (c.maxLocals == mx && c.exceptionTable.isEmpty && decide (c.maxStack ≤ mostOperands) && decide (meth.sig.returnType = rt) && !meth.locks && decide (parseMethodDescriptor y.desc = some meth.sig)) = true) : (Jvm.Cond.code y bytes mx rt).before a s = true := by
  simp only [Bool.and_eq_true, beq_iff_eq, Bool.not_eq_true', decide_eq_true_eq] at h5
  obtain ⟨⟨⟨⟨⟨g1, g2⟩, g3⟩, g4⟩, g5⟩, g6⟩ := h5
  simp [Cond.before, Cond.holds, Cond.value, h1, h2, h3, h4, g1, g2, g3, g4, g5, g6]
def isCode : Jvm.Cond → Bool
  | .code _ _ _ _ => true
  | _ => false
theorem all_split {L : List Jvm.Cond} {P : Jvm.Cond → Bool} (h1 : L.all (fun c => isCode c || P c) = true) (h2 : ∀ c ∈ L.filter isCode, P c = true) : L.all P = true := by
  refine List.all_eq_true.mpr fun c hc => ?_
  have h := List.all_eq_true.mp h1 c hc
  rcases Bool.eq_false_or_eq_true (isCode c) with hi | hi
  · exact h2 c (List.mem_filter.mpr ⟨hc, hi⟩)
  · simpa [hi] using h
set_option maxRecDepth 65536 in
theorem w_c0 : (Jvm.Cond.code x code maxLocals ret).before args0 about1 = true := code_word (m := ⟨1, 5⟩) (meth := k1m5) (c := k1c5) (by decide +kernel) rfl rfl rfl (by decide +kernel)
set_option maxRecDepth 65536 in
theorem w_c1 : (Jvm.Cond.code ({ cls := "com/example/ranker/ranker/PageUrlDepthPinLaw", name := "draw", desc := "(I)C" } : Jvm.MethodName) method_2_code (3 : Nat) (Option.some Jvm.ClassFile.FieldType.char)).before args0 about1 = true := code_word (m := ⟨1, 1⟩) (meth := k1m1) (c := k1c1) (by decide +kernel) rfl rfl rfl (by decide +kernel)
set_option maxRecDepth 65536 in
theorem w_c2 : (Jvm.Cond.code ({ cls := "com/example/ranker/ranker/PageUrlDepthPinLaw", name := "put", desc := "([CIC)V" } : Jvm.MethodName) method_3_code (3 : Nat) (Option.none : Option Jvm.ClassFile.FieldType)).before args0 about1 = true := code_word (m := ⟨1, 2⟩) (meth := k1m2) (c := k1c2) (by decide +kernel) rfl rfl rfl (by decide +kernel)
set_option maxRecDepth 65536 in
theorem w_c3 : (Jvm.Cond.code ({ cls := "java/lang/String", name := "<init>", desc := "([C)V" } : Jvm.MethodName) jdk_42_method_3_code (2 : Nat) (Option.none : Option Jvm.ClassFile.FieldType)).before args0 about1 = true := code_word (m := ⟨7, 1⟩) (meth := k7m1) (c := k7c1) (by decide +kernel) rfl rfl rfl (by decide +kernel)
set_option maxRecDepth 65536 in
theorem w_c4 : (Jvm.Cond.code ({ cls := "java/lang/String", name := "<init>", desc := "([CIILjava/lang/Void;)V" } : Jvm.MethodName) jdk_42_method_149_code (6 : Nat) (Option.none : Option Jvm.ClassFile.FieldType)).before args0 about1 = true := code_word (m := ⟨7, 5⟩) (meth := k7m5) (c := k7c5) (by decide +kernel) rfl rfl rfl (by decide +kernel)
set_option maxRecDepth 65536 in
theorem w_c5 : (Jvm.Cond.code ({ cls := "java/lang/Object", name := "<init>", desc := "()V" } : Jvm.MethodName) object_method_1_code (1 : Nat) (Option.none : Option Jvm.ClassFile.FieldType)).before args0 about1 = true := code_word (m := ⟨0, 0⟩) (meth := k0m0) (c := k0c0) (by decide +kernel) rfl rfl rfl (by decide +kernel)
set_option maxRecDepth 65536 in
theorem w_c6 : (Jvm.Cond.code ({ cls := "java/lang/StringUTF16", name := "compress", desc := "([CII)[B" } : Jvm.MethodName) jdk_52_method_16_code (6 : Nat) (Option.some (Jvm.ClassFile.FieldType.array Jvm.ClassFile.FieldType.byte))).before args0 about1 = true := code_word (m := ⟨8, 2⟩) (meth := k8m2) (c := k8c2) (by decide +kernel) rfl rfl rfl (by decide +kernel)
set_option maxRecDepth 65536 in
theorem w_c7 : (Jvm.Cond.code ({ cls := "java/lang/StringUTF16", name := "compress", desc := "([CI[BII)I" } : Jvm.MethodName) jdk_52_method_21_code (7 : Nat) (Option.some Jvm.ClassFile.FieldType.int)).before args0 about1 = true := code_word (m := ⟨8, 3⟩) (meth := k8m3) (c := k8c3) (by decide +kernel) rfl rfl rfl (by decide +kernel)
set_option maxRecDepth 65536 in
theorem w_c8 : (Jvm.Cond.code ({ cls := "java/lang/StringUTF16", name := "coderFromArrayLen", desc := "([BI)B" } : Jvm.MethodName) jdk_52_method_15_code (2 : Nat) (Option.some Jvm.ClassFile.FieldType.byte)).before args0 about1 = true := code_word (m := ⟨8, 1⟩) (meth := k8m1) (c := k8c1) (by decide +kernel) rfl rfl rfl (by decide +kernel)
set_option maxRecDepth 65536 in
theorem w_c9 : (Jvm.Cond.code ({ cls := "com/example/ranker/ranker/PageUrlDepthPinLaw", name := "sepAt", desc := "([CII)Z" } : Jvm.MethodName) method_4_code (3 : Nat) (Option.some Jvm.ClassFile.FieldType.boolean)).before args0 about1 = true := code_word (m := ⟨1, 3⟩) (meth := k1m3) (c := k1c3) (by decide +kernel) rfl rfl rfl (by decide +kernel)
set_option maxRecDepth 65536 in
theorem w_c10 : (Jvm.Cond.code ({ cls := "com/example/ranker/ranker/PageUrlDepthPinLaw", name := "slashAt", desc := "([CIII)I" } : Jvm.MethodName) method_5_code (4 : Nat) (Option.some Jvm.ClassFile.FieldType.int)).before args0 about1 = true := code_word (m := ⟨1, 4⟩) (meth := k1m4) (c := k1c4) (by decide +kernel) rfl rfl rfl (by decide +kernel)
set_option maxRecDepth 65536 in
theorem w_c11 : (Jvm.Cond.code ({ cls := "com/example/ranker/ranker/PageUrl", name := "depth", desc := "(Ljava/lang/String;)I" } : Jvm.MethodName) prog_20_method_3_code (4 : Nat) (Option.some Jvm.ClassFile.FieldType.int)).before args0 about1 = true := code_word (m := ⟨9, 1⟩) (meth := k9m1) (c := k9c1) (by decide +kernel) rfl rfl rfl (by decide +kernel)
set_option maxRecDepth 65536 in
theorem w_c12 : (Jvm.Cond.code ({ cls := "java/lang/String", name := "indexOf", desc := "(Ljava/lang/String;)I" } : Jvm.MethodName) jdk_42_method_84_code (3 : Nat) (Option.some Jvm.ClassFile.FieldType.int)).before args0 about1 = true := code_word (m := ⟨7, 4⟩) (meth := k7m4) (c := k7c4) (by decide +kernel) rfl rfl rfl (by decide +kernel)
set_option maxRecDepth 65536 in
theorem w_c13 : (Jvm.Cond.code ({ cls := "java/lang/String", name := "coder", desc := "()B" } : Jvm.MethodName) jdk_42_method_152_code (1 : Nat) (Option.some Jvm.ClassFile.FieldType.byte)).before args0 about1 = true := code_word (m := ⟨7, 6⟩) (meth := k7m6) (c := k7c6) (by decide +kernel) rfl rfl rfl (by decide +kernel)
set_option maxRecDepth 65536 in
theorem w_c14 : (Jvm.Cond.code ({ cls := "java/lang/String", name := "isLatin1", desc := "()Z" } : Jvm.MethodName) jdk_42_method_154_code (1 : Nat) (Option.some Jvm.ClassFile.FieldType.boolean)).before args0 about1 = true := code_word (m := ⟨7, 7⟩) (meth := k7m7) (c := k7c7) (by decide +kernel) rfl rfl rfl (by decide +kernel)
set_option maxRecDepth 65536 in
theorem w_c15 : (Jvm.Cond.code ({ cls := "java/lang/StringLatin1", name := "indexOf", desc := "([B[B)I" } : Jvm.MethodName) jdk_43_method_24_code (2 : Nat) (Option.some Jvm.ClassFile.FieldType.int)).before args0 about1 = true := code_word (m := ⟨10, 2⟩) (meth := k10m2) (c := k10c2) (by decide +kernel) rfl rfl rfl (by decide +kernel)
set_option maxRecDepth 65536 in
theorem w_c16 : (Jvm.Cond.code ({ cls := "java/lang/StringLatin1", name := "indexOf", desc := "([BI[BII)I" } : Jvm.MethodName) jdk_43_method_25_code (11 : Nat) (Option.some Jvm.ClassFile.FieldType.int)).before args0 about1 = true := code_word (m := ⟨10, 3⟩) (meth := k10m3) (c := k10c3) (by decide +kernel) rfl rfl rfl (by decide +kernel)
set_option maxRecDepth 65536 in
theorem w_c17 : (Jvm.Cond.code ({ cls := "java/lang/String", name := "length", desc := "()I" } : Jvm.MethodName) jdk_42_method_54_code (1 : Nat) (Option.some Jvm.ClassFile.FieldType.int)).before args0 about1 = true := code_word (m := ⟨7, 2⟩) (meth := k7m2) (c := k7c2) (by decide +kernel) rfl rfl rfl (by decide +kernel)
set_option maxRecDepth 65536 in
theorem w_c18 : (Jvm.Cond.code ({ cls := "java/lang/String", name := "charAt", desc := "(I)C" } : Jvm.MethodName) jdk_42_method_56_code (2 : Nat) (Option.some Jvm.ClassFile.FieldType.char)).before args0 about1 = true := code_word (m := ⟨7, 3⟩) (meth := k7m3) (c := k7c3) (by decide +kernel) rfl rfl rfl (by decide +kernel)
set_option maxRecDepth 65536 in
theorem w_c19 : (Jvm.Cond.code ({ cls := "java/lang/StringLatin1", name := "charAt", desc := "([BI)C" } : Jvm.MethodName) jdk_43_method_2_code (2 : Nat) (Option.some Jvm.ClassFile.FieldType.char)).before args0 about1 = true := code_word (m := ⟨10, 1⟩) (meth := k10m1) (c := k10c1) (by decide +kernel) rfl rfl rfl (by decide +kernel)
set_option maxRecDepth 65536 in
theorem w_c20 : (Jvm.Cond.code ({ cls := "java/lang/String", name := "checkIndex", desc := "(II)V" } : Jvm.MethodName) jdk_42_method_155_code (2 : Nat) (Option.none : Option Jvm.ClassFile.FieldType)).before args0 about1 = true := code_word (m := ⟨7, 8⟩) (meth := k7m8) (c := k7c8) (by decide +kernel) rfl rfl rfl (by decide +kernel)
set_option maxRecDepth 65536 in
theorem w_c21 : (Jvm.Cond.code ({ cls := "jdk/internal/util/Preconditions", name := "checkIndex", desc := "(IILjava/util/function/BiFunction;)I" } : Jvm.MethodName) jdk_41_method_11_code (3 : Nat) (Option.some Jvm.ClassFile.FieldType.int)).before args0 about1 = true := code_word (m := ⟨11, 1⟩) (meth := k11m1) (c := k11c1) (by decide +kernel) rfl rfl rfl (by decide +kernel)
def codes1 : List Jvm.Cond := [Jvm.Cond.code x code maxLocals ret, Jvm.Cond.code ({ cls := "com/example/ranker/ranker/PageUrlDepthPinLaw", name := "draw", desc := "(I)C" } : Jvm.MethodName) method_2_code (3 : Nat) (Option.some Jvm.ClassFile.FieldType.char), Jvm.Cond.code ({ cls := "com/example/ranker/ranker/PageUrlDepthPinLaw", name := "put", desc := "([CIC)V" } : Jvm.MethodName) method_3_code (3 : Nat) (Option.none : Option Jvm.ClassFile.FieldType), Jvm.Cond.code ({ cls := "java/lang/String", name := "<init>", desc := "([C)V" } : Jvm.MethodName) jdk_42_method_3_code (2 : Nat) (Option.none : Option Jvm.ClassFile.FieldType), Jvm.Cond.code ({ cls := "java/lang/String", name := "<init>", desc := "([CIILjava/lang/Void;)V" } : Jvm.MethodName) jdk_42_method_149_code (6 : Nat) (Option.none : Option Jvm.ClassFile.FieldType), Jvm.Cond.code ({ cls := "java/lang/Object", name := "<init>", desc := "()V" } : Jvm.MethodName) object_method_1_code (1 : Nat) (Option.none : Option Jvm.ClassFile.FieldType), Jvm.Cond.code ({ cls := "java/lang/StringUTF16", name := "compress", desc := "([CII)[B" } : Jvm.MethodName) jdk_52_method_16_code (6 : Nat) (Option.some (Jvm.ClassFile.FieldType.array Jvm.ClassFile.FieldType.byte)), Jvm.Cond.code ({ cls := "java/lang/StringUTF16", name := "compress", desc := "([CI[BII)I" } : Jvm.MethodName) jdk_52_method_21_code (7 : Nat) (Option.some Jvm.ClassFile.FieldType.int), Jvm.Cond.code ({ cls := "java/lang/StringUTF16", name := "coderFromArrayLen", desc := "([BI)B" } : Jvm.MethodName) jdk_52_method_15_code (2 : Nat) (Option.some Jvm.ClassFile.FieldType.byte), Jvm.Cond.code ({ cls := "com/example/ranker/ranker/PageUrlDepthPinLaw", name := "sepAt", desc := "([CII)Z" } : Jvm.MethodName) method_4_code (3 : Nat) (Option.some Jvm.ClassFile.FieldType.boolean), Jvm.Cond.code ({ cls := "com/example/ranker/ranker/PageUrlDepthPinLaw", name := "slashAt", desc := "([CIII)I" } : Jvm.MethodName) method_5_code (4 : Nat) (Option.some Jvm.ClassFile.FieldType.int), Jvm.Cond.code ({ cls := "com/example/ranker/ranker/PageUrl", name := "depth", desc := "(Ljava/lang/String;)I" } : Jvm.MethodName) prog_20_method_3_code (4 : Nat) (Option.some Jvm.ClassFile.FieldType.int), Jvm.Cond.code ({ cls := "java/lang/String", name := "indexOf", desc := "(Ljava/lang/String;)I" } : Jvm.MethodName) jdk_42_method_84_code (3 : Nat) (Option.some Jvm.ClassFile.FieldType.int), Jvm.Cond.code ({ cls := "java/lang/String", name := "coder", desc := "()B" } : Jvm.MethodName) jdk_42_method_152_code (1 : Nat) (Option.some Jvm.ClassFile.FieldType.byte), Jvm.Cond.code ({ cls := "java/lang/String", name := "isLatin1", desc := "()Z" } : Jvm.MethodName) jdk_42_method_154_code (1 : Nat) (Option.some Jvm.ClassFile.FieldType.boolean), Jvm.Cond.code ({ cls := "java/lang/StringLatin1", name := "indexOf", desc := "([B[B)I" } : Jvm.MethodName) jdk_43_method_24_code (2 : Nat) (Option.some Jvm.ClassFile.FieldType.int), Jvm.Cond.code ({ cls := "java/lang/StringLatin1", name := "indexOf", desc := "([BI[BII)I" } : Jvm.MethodName) jdk_43_method_25_code (11 : Nat) (Option.some Jvm.ClassFile.FieldType.int), Jvm.Cond.code ({ cls := "java/lang/String", name := "length", desc := "()I" } : Jvm.MethodName) jdk_42_method_54_code (1 : Nat) (Option.some Jvm.ClassFile.FieldType.int), Jvm.Cond.code ({ cls := "java/lang/String", name := "charAt", desc := "(I)C" } : Jvm.MethodName) jdk_42_method_56_code (2 : Nat) (Option.some Jvm.ClassFile.FieldType.char), Jvm.Cond.code ({ cls := "java/lang/StringLatin1", name := "charAt", desc := "([BI)C" } : Jvm.MethodName) jdk_43_method_2_code (2 : Nat) (Option.some Jvm.ClassFile.FieldType.char), Jvm.Cond.code ({ cls := "java/lang/String", name := "checkIndex", desc := "(II)V" } : Jvm.MethodName) jdk_42_method_155_code (2 : Nat) (Option.none : Option Jvm.ClassFile.FieldType), Jvm.Cond.code ({ cls := "jdk/internal/util/Preconditions", name := "checkIndex", desc := "(IILjava/util/function/BiFunction;)I" } : Jvm.MethodName) jdk_41_method_11_code (3 : Nat) (Option.some Jvm.ClassFile.FieldType.int)]
set_option maxRecDepth 65536 in
theorem codes_eq : words1.filter isCode = codes1 := rfl
theorem w_codes : ∀ c ∈ words1.filter isCode, c.before args0 about1 = true := by
  rw [codes_eq]
  intro c hc
  simp only [codes1, List.mem_cons, List.not_mem_nil, or_false] at hc
  rcases hc with rfl | rfl | rfl | rfl | rfl | rfl | rfl | rfl | rfl | rfl | rfl | rfl | rfl | rfl | rfl | rfl | rfl | rfl | rfl | rfl | rfl | rfl
  · exact w_c0
  · exact w_c1
  · exact w_c2
  · exact w_c3
  · exact w_c4
  · exact w_c5
  · exact w_c6
  · exact w_c7
  · exact w_c8
  · exact w_c9
  · exact w_c10
  · exact w_c11
  · exact w_c12
  · exact w_c13
  · exact w_c14
  · exact w_c15
  · exact w_c16
  · exact w_c17
  · exact w_c18
  · exact w_c19
  · exact w_c20
  · exact w_c21
set_option maxRecDepth 65536 in
theorem w_t1 : (words1.take 24).all (fun c => isCode c || c.before args0 about1) = true := by decide +kernel
set_option maxRecDepth 65536 in
theorem w_t2 : ((words1.drop 24).take 24).all (fun c => isCode c || c.before args0 about1) = true := by decide +kernel
set_option maxRecDepth 65536 in
theorem w_t3 : (((words1.drop 24).drop 24).take 24).all (fun c => isCode c || c.before args0 about1) = true := by decide +kernel
set_option maxRecDepth 65536 in
theorem w_t4 : (((words1.drop 24).drop 24).drop 24).all (fun c => isCode c || c.before args0 about1) = true := by decide +kernel
theorem w_tables : (allAtoms (Jvm.Cond.code x code maxLocals ret :: tables_1)).before args0 about1 = true := by
  rw [allAtoms_all]
  show words1.all (fun c => c.before args0 about1) = true
  refine all_split ?_ w_codes
  rw [← List.take_append_drop 24 words1, List.all_append, w_t1, ← List.take_append_drop 24 (words1.drop 24), List.all_append, w_t2, ← List.take_append_drop 24 ((words1.drop 24).drop 24), List.all_append, w_t3, w_t4]
  rfl
set_option maxRecDepth 65536 in
theorem w_rest : rest_1_c.before args0 about1 = true := by decide +kernel
set_option maxRecDepth 65536 in
theorem w_case : (Jvm.Cond.and given_1 narrow_1).before args0 about1 = true := by decide +kernel
set_option maxRecDepth 65536 in
theorem w_consts : constsHeld consts_1 about1 := Jvm.Lit.constsHeldB_iff.mp (by decide +kernel)
theorem w_applies : (headSpec (Jvm.Cond.code x code maxLocals ret :: tables_1) room_1).applies x e0.platform about1 = true :=
  (Spec.applies_iff w_frames).mpr ⟨w_running, w_runnable, w_alone, w_named, w_hears, w_ripe, w_room, w_tables⟩
theorem atStart : AtStart classFile x code maxLocals ret World_1 tables_1 room_1 Calls_1 rest_1 Pre_1 launch0 p0 e0 about1 theMethod args0 below0 :=
  ⟨lists_1, trivial, launch0.admits_env _ _ _, launch0.least_env, fairChoices_fair.cas, fairChoices_fair.clock, w_frames, w_args, w_heap, w_applies, ⟨w_consts, trivial⟩, w_rest, w_case⟩
end start1
theorem witness_1 : WitnessClaimed_1 := ⟨start1.p0, start1.e0, start1.about1, start1.theMethod, start1.args0, start1.below0, start1.atStart⟩
end Jvm.Pilot.@@N@@
