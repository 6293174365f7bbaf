import JvmDerived
import JvmDerived.Pilot.@@N@@Statement
import JvmDerived.Pilot.@@N@@Code
set_option linter.unusedVariables false
set_option linter.unusedSimpArgs false
namespace Jvm.OwnKit
open Sem ClassFile Op Lib Jvm.Stand Jvm.Free Jvm.LawKit Jvm.RoadKit
/-- what stays the same through one method's walk: program, environment, start, method, arguments, frames below, the method's entry and code, the state with which the walk began -/
abbrev Cx := Program × Env × State × MethodId × Array Value × List Frame × Method × Code × State
/-- where a walk stands: heap h, what was written lies at n0 or above, so many new cells and slots, pc, locals, stack -/
def Wk (κ : Cx) (l : Launch) (Z : State) (own nm : String) (code : ByteArray) (ml : Nat) (ret : Option FieldType) (R : Room) (n0 : Nat) (h : Heap) (cells slots pc : Nat) (Ls : Array Slot) (St : List Value) : Prop :=
  match κ with
  | (p, e, s, m, args, below, meth, c, S0) =>
    (p.tables.exec = Jvm.exec ∧ c.code = code ∧ c.maxLocals = ml ∧ meth.sig.returnType = ret ∧ meth.locks = false ∧ meth.name = nm ∧ Z.Warmed39 s.vm ∧ s.vm.findClass own = some m.cls) ∧
    ∃ T locs, Stand p l e R s m args below meth c T locs cells slots ∧ Fr n0 locs ∧ T.heap = h ∧ ∀ t, Steps p.tables e below (T.setTop (mkF m pc Ls St)) t → Steps p.tables e below S0 t
/-- the walk has come to its end -/
def Dn (κ : Cx) (n0 : Nat) (Q : Option Value → Heap → Prop) (cells slots : Nat) : Prop :=
  match κ with
  | (p, e, s, _, _, below, _, _, S0) => ∃ s₂ o, Steps p.tables e below S0 s₂ ∧ s₂.status = .running ∧ Ended s₂ below o ∧ ∃ v L, o = .returned v ∧ (Q v s₂.heap ∧ Fr n0 L) ∧ FrameEnd s o s₂ L cells slots
/-- a method's contract: called with these arguments over this heap it returns, and Q holds of what it returns and of the heap -/
def Met (l : Launch) (Z : State) (y : MethodName) (code : ByteArray) (ml : Nat) (ret : Option FieldType) (R : Room) (n0 : Nat) (as : Array Value) (h0 : Heap) (Q : Option Value → Heap → Prop) : Prop :=
  ∀ ws : List Cond, MetFree l y (head1 (Cond.code y code ml ret :: ws) R) (fun a U => a = as ∧ Z.Warmed39 U.vm ∧ U.heap = h0) (fun _ _ _ _ _ => True) (fun _ U o U' => ∃ v L, o = .returned v ∧ (Q v U'.heap ∧ Fr n0 L) ∧ FrameEnd U o U' L R.cells R.slots)
section Own
variable {κ : Cx} {l : Launch} {Z : State} {own nm : String} {code : ByteArray} {ml : Nat} {ret : Option FieldType} {R : Room} {n0 : Nat} {h : Heap} {cells slots pc q : Nat} {Ls : Array Slot} {St : List Value} {a0 : Array Value}
theorem Met.of {y : MethodName} {as : Array Value} {Q : Option Value → Heap → Prop} (hpl : plainFor y = true) (hef : ∀ m, entryFrame m as ml = mkF m 0 Ls []) (body : ∀ κ, Wk κ l Z y.cls y.name code ml ret R n0 h 0 0 0 Ls [] → Dn κ n0 Q R.cells R.slots) : Met l Z y code ml ret R n0 as h Q := by
  intro ws
  refine MetFree.of_bodySF hpl hisR ?_
  intro p e s m args below meth c s₁ Bd hml0 hP hK
  obtain ⟨ha, hZ, hh⟩ := hP
  have e0 : s₁.heap = h := by rw [← hh, Bd.state]; rfl
  exact body (p, e, s, m, args, below, meth, c, s₁.setTop (entryFrame m args ml)) ⟨⟨Bd.exec, Bd.bytes, hml0, Bd.returns, Bd.notSynchronized, (name_of_methodNamed Bd.named Bd.method).1, hZ, findClass_of_methodNamed Bd.named⟩, s₁, [], Stand.of_body Bd, Fr.nil n0, e0, fun t k => castTop (by rw [ha]; exact hef m) k⟩
theorem Wk.step (w : Wk κ l Z own nm code ml ret R n0 h cells slots pc Ls St) {Ls' : Array Slot} {St' : List Value}
    (f : ∀ {p : Program} {e : Env} {below : List Frame} {m : MethodId} {c : Code} {T t : State}, p.tables.exec = Jvm.exec → c.code = code → At T m c below → Steps p.tables e below (T.setTop (mkF m q Ls' St')) t → Steps p.tables e below (T.setTop (mkF m pc Ls St)) t) : Wk κ l Z own nm code ml ret R n0 h cells slots q Ls' St' := by
  obtain ⟨p, e, s, m, args, below, meth, c, S0⟩ := κ
  obtain ⟨hs, T, locs, X, N, eT, st⟩ := w
  exact ⟨hs, T, locs, X, N, eT, fun t k => st t (f hs.1 hs.2.1 X.here k)⟩
theorem Wk.stepX (w : Wk κ l Z own nm code ml ret R n0 h cells slots pc Ls St) {Ls' : Array Slot} {St' : List Value}
    (f : ∀ {p : Program} {e : Env} {s : State} {m : MethodId} {args : Array Value} {below : List Frame} {meth : Method} {c : Code} {T t : State} {locs : List Loc}, p.tables.exec = Jvm.exec → c.code = code → Z.Warmed39 s.vm → s.vm.findClass own = some m.cls → Stand p l e R s m args below meth c T locs cells slots → T.heap = h → Steps p.tables e below (T.setTop (mkF m q Ls' St')) t → Steps p.tables e below (T.setTop (mkF m pc Ls St)) t) : Wk κ l Z own nm code ml ret R n0 h cells slots q Ls' St' := by
  obtain ⟨p, e, s, m, args, below, meth, c, S0⟩ := κ
  obtain ⟨hs, T, locs, X, N, eT, st⟩ := w
  exact ⟨hs, T, locs, X, N, eT, fun t k => st t (f hs.1 hs.2.1 hs.2.2.2.2.2.2.1 hs.2.2.2.2.2.2.2 X eT k)⟩
theorem Wk.stepT (w : Wk κ l Z own nm code ml ret R n0 h cells slots pc Ls St) {Ls' : Array Slot} {St' : List Value}
    (f : ∀ {p : Program} {e : Env} {s : State} {m : MethodId} {args : Array Value} {below : List Frame} {meth : Method} {c : Code} {T : State} {locs : List Loc}, p.tables.exec = Jvm.exec → c.code = code → c.maxLocals = ml → Z.Warmed39 s.vm → s.vm.findClass own = some m.cls → Stand p l e R s m args below meth c T locs cells slots → T.heap = h → ∃ T', Stand p l e R s m args below meth c T' locs cells slots ∧ T'.heap = h ∧ ∀ t, Steps p.tables e below (T'.setTop (mkF m q Ls' St')) t → Steps p.tables e below (T.setTop (mkF m pc Ls St)) t) : Wk κ l Z own nm code ml ret R n0 h cells slots q Ls' St' := by
  obtain ⟨p, e, s, m, args, below, meth, c, S0⟩ := κ
  obtain ⟨hs, T, locs, X, N, eT, st⟩ := w
  obtain ⟨T', X', eT', st'⟩ := f hs.1 hs.2.1 hs.2.2.1 hs.2.2.2.2.2.2.1 hs.2.2.2.2.2.2.2 X eT
  exact ⟨hs, T', locs, X', N, eT', fun t k => st t (st' t k)⟩
/-! loads, stores, constants -/
theorem Wk.aloadN (w : Wk κ l Z own nm code ml ret R n0 h cells slots pc Ls St) {k : Fin 4} {v : Value} (hd : decode code pc = .ok (.aload_n k, 1)) (hl : Ls[k.val]? = some (.val v)) (hv : v.isRef = true) (hq : pc + 1 = q) : Wk κ l Z own nm code ml ret R n0 h cells slots q Ls (v :: St) := by
  subst hq; exact w.step fun hx hby hat k => XS.aloadN hat hx rfl (hb hby hd) hl hv k
theorem Wk.aload (w : Wk κ l Z own nm code ml ret R n0 h cells slots pc Ls St) {k : Nat} {v : Value} (hd : decode code pc = .ok (.aload k, 2)) (hl : Ls[k]? = some (.val v)) (hv : v.isRef = true) (hq : pc + 2 = q) : Wk κ l Z own nm code ml ret R n0 h cells slots q Ls (v :: St) := by
  subst hq; exact w.step fun hx hby hat k => XS.aload hat hx rfl (hb hby hd) hl hv k
theorem Wk.iloadN (w : Wk κ l Z own nm code ml ret R n0 h cells slots pc Ls St) {k : Fin 4} {v : Int32} (hd : decode code pc = .ok (.iload_n k, 1)) (hl : Ls[k.val]? = some (.val (.int v))) (hq : pc + 1 = q) : Wk κ l Z own nm code ml ret R n0 h cells slots q Ls (.int v :: St) := by
  subst hq; exact w.step fun hx hby hat k => XS.iloadN hat hx rfl (hb hby hd) hl k
theorem Wk.iload (w : Wk κ l Z own nm code ml ret R n0 h cells slots pc Ls St) {k : Nat} {v : Int32} (hd : decode code pc = .ok (.iload k, 2)) (hl : Ls[k]? = some (.val (.int v))) (hq : pc + 2 = q) : Wk κ l Z own nm code ml ret R n0 h cells slots q Ls (.int v :: St) := by
  subst hq; exact w.step fun hx hby hat k => XS.iload hat hx rfl (hb hby hd) hl k
theorem Wk.lloadN (w : Wk κ l Z own nm code ml ret R n0 h cells slots pc Ls St) {k : Fin 4} {v : Int64} (hd : decode code pc = .ok (.lload_n k, 1)) (hl : Ls[k.val]? = some (.val (.long v))) (hq : pc + 1 = q) : Wk κ l Z own nm code ml ret R n0 h cells slots q Ls (.long v :: St) := by
  subst hq; exact w.step fun hx hby hat k => XT.lloadN hat hx rfl (hb hby hd) hl k
theorem Wk.lload (w : Wk κ l Z own nm code ml ret R n0 h cells slots pc Ls St) {k : Nat} {v : Int64} (hd : decode code pc = .ok (.lload k, 2)) (hl : Ls[k]? = some (.val (.long v))) (hq : pc + 2 = q) : Wk κ l Z own nm code ml ret R n0 h cells slots q Ls (.long v :: St) := by
  subst hq; exact w.step fun hx hby hat k => XT.lload hat hx rfl (hb hby hd) hl k
theorem Wk.dloadN (w : Wk κ l Z own nm code ml ret R n0 h cells slots pc Ls St) {k : Fin 4} {v : UInt64} (hd : decode code pc = .ok (.dload_n k, 1)) (hl : Ls[k.val]? = some (.val (.double v))) (hq : pc + 1 = q) : Wk κ l Z own nm code ml ret R n0 h cells slots q Ls (.double v :: St) := by
  subst hq; exact w.step fun hx hby hat k => XS.dloadN hat hx rfl (hb hby hd) hl k
theorem Wk.dload (w : Wk κ l Z own nm code ml ret R n0 h cells slots pc Ls St) {k : Nat} {v : UInt64} (hd : decode code pc = .ok (.dload k, 2)) (hl : Ls[k]? = some (.val (.double v))) (hq : pc + 2 = q) : Wk κ l Z own nm code ml ret R n0 h cells slots q Ls (.double v :: St) := by
  subst hq; exact w.step fun hx hby hat k => XS.dload hat hx rfl (hb hby hd) hl k
theorem Wk.astoreN {v : Value} (w : Wk κ l Z own nm code ml ret R n0 h cells slots pc Ls (v :: St)) {k : Fin 4} {l' : Array Slot} (hd : decode code pc = .ok (.astore_n k, 1)) (hv : v.isRef = true) (hl : storeLocals Ls k.val v = some l') (hq : pc + 1 = q) : Wk κ l Z own nm code ml ret R n0 h cells slots q l' St := by
  subst hq; exact w.step fun hx hby hat k => XS.astoreN hat hx rfl (hb hby hd) rfl hv hl k
theorem Wk.astore {v : Value} (w : Wk κ l Z own nm code ml ret R n0 h cells slots pc Ls (v :: St)) {k : Nat} {l' : Array Slot} (hd : decode code pc = .ok (.astore k, 2)) (hv : v.isRef = true) (hl : storeLocals Ls k v = some l') (hq : pc + 2 = q) : Wk κ l Z own nm code ml ret R n0 h cells slots q l' St := by
  subst hq; exact w.step fun hx hby hat k => XS.astore hat hx rfl (hb hby hd) rfl hv hl k
theorem Wk.istoreN {x : Int32} (w : Wk κ l Z own nm code ml ret R n0 h cells slots pc Ls (.int x :: St)) {k : Fin 4} {l' : Array Slot} (hd : decode code pc = .ok (.istore_n k, 1)) (hl : storeLocals Ls k.val (.int x) = some l') (hq : pc + 1 = q) : Wk κ l Z own nm code ml ret R n0 h cells slots q l' St := by
  subst hq; exact w.step fun hx hby hat k => XS.istoreN hat hx rfl (hb hby hd) rfl hl k
theorem Wk.istore {x : Int32} (w : Wk κ l Z own nm code ml ret R n0 h cells slots pc Ls (.int x :: St)) {k : Nat} {l' : Array Slot} (hd : decode code pc = .ok (.istore k, 2)) (hl : storeLocals Ls k (.int x) = some l') (hq : pc + 2 = q) : Wk κ l Z own nm code ml ret R n0 h cells slots q l' St := by
  subst hq; exact w.step fun hx hby hat k => XS.istore hat hx rfl (hb hby hd) rfl hl k
theorem Wk.lstoreN {x : Int64} (w : Wk κ l Z own nm code ml ret R n0 h cells slots pc Ls (.long x :: St)) {k : Fin 4} {l' : Array Slot} (hd : decode code pc = .ok (.lstore_n k, 1)) (hl : storeLocals Ls k.val (.long x) = some l') (hq : pc + 1 = q) : Wk κ l Z own nm code ml ret R n0 h cells slots q l' St := by
  subst hq; exact w.step fun hx hby hat k => XT.lstoreN hat hx rfl (hb hby hd) rfl hl k
theorem Wk.lstore {x : Int64} (w : Wk κ l Z own nm code ml ret R n0 h cells slots pc Ls (.long x :: St)) {k : Nat} {l' : Array Slot} (hd : decode code pc = .ok (.lstore k, 2)) (hl : storeLocals Ls k (.long x) = some l') (hq : pc + 2 = q) : Wk κ l Z own nm code ml ret R n0 h cells slots q l' St := by
  subst hq; exact w.step fun hx hby hat k => XT.lstore hat hx rfl (hb hby hd) rfl hl k
theorem Wk.dstoreN {x : UInt64} (w : Wk κ l Z own nm code ml ret R n0 h cells slots pc Ls (.double x :: St)) {k : Fin 4} {l' : Array Slot} (hd : decode code pc = .ok (.dstore_n k, 1)) (hl : storeLocals Ls k.val (.double x) = some l') (hq : pc + 1 = q) : Wk κ l Z own nm code ml ret R n0 h cells slots q l' St := by
  subst hq; exact w.step fun hx hby hat k => XS.dstoreN hat hx rfl (hb hby hd) rfl hl k
theorem Wk.dstore {x : UInt64} (w : Wk κ l Z own nm code ml ret R n0 h cells slots pc Ls (.double x :: St)) {k : Nat} {l' : Array Slot} (hd : decode code pc = .ok (.dstore k, 2)) (hl : storeLocals Ls k (.double x) = some l') (hq : pc + 2 = q) : Wk κ l Z own nm code ml ret R n0 h cells slots q l' St := by
  subst hq; exact w.step fun hx hby hat k => XS.dstore hat hx rfl (hb hby hd) rfl hl k
theorem Wk.iconst (w : Wk κ l Z own nm code ml ret R n0 h cells slots pc Ls St) {i : Int} {z : Int32} (hd : decode code pc = .ok (.iconst i, 1)) (hz : Int32.ofInt i = z) (hq : pc + 1 = q) : Wk κ l Z own nm code ml ret R n0 h cells slots q Ls (.int z :: St) := by
  subst hq hz; exact w.step fun hx hby hat k => XS.iconst hat hx rfl (hb hby hd) k
theorem Wk.bipush (w : Wk κ l Z own nm code ml ret R n0 h cells slots pc Ls St) {i : Int} {z : Int32} (hd : decode code pc = .ok (.bipush i, 2)) (hz : (Int8.ofInt i).toInt32 = z) (hq : pc + 2 = q) : Wk κ l Z own nm code ml ret R n0 h cells slots q Ls (.int z :: St) := by
  subst hq hz; exact w.step fun hx hby hat k => XS.bipush hat hx rfl (hb hby hd) k
theorem Wk.sipush (w : Wk κ l Z own nm code ml ret R n0 h cells slots pc Ls St) {i : Int} {z : Int32} (hd : decode code pc = .ok (.sipush i, 3)) (hz : (Int16.ofInt i).toInt32 = z) (hq : pc + 3 = q) : Wk κ l Z own nm code ml ret R n0 h cells slots q Ls (.int z :: St) := by
  subst hq hz; exact w.step fun hx hby hat k => XS.sipush hat hx rfl (hb hby hd) k
theorem Wk.lconst (w : Wk κ l Z own nm code ml ret R n0 h cells slots pc Ls St) {i : Fin 2} {z : Int64} (hd : decode code pc = .ok (.lconst i, 1)) (hz : Int64.ofNat i = z) (hq : pc + 1 = q) : Wk κ l Z own nm code ml ret R n0 h cells slots q Ls (.long z :: St) := by
  subst hq hz; exact w.step fun hx hby hat k => XT.lconst hat hx rfl (hb hby hd) k
theorem Wk.dconst0 (w : Wk κ l Z own nm code ml ret R n0 h cells slots pc Ls St) {z : UInt64} (hd : decode code pc = .ok (.dconst 0, 1)) (hz : FP.dconst0 = z) (hq : pc + 1 = q) : Wk κ l Z own nm code ml ret R n0 h cells slots q Ls (.double z :: St) := by
  subst hq; exact w.step fun hx hby hat k => XS.dconst0 hat hx rfl (hb hby hd) hz k
theorem Wk.ldcI (w : Wk κ l Z own nm code ml ret R n0 h cells slots pc Ls St) {i : Nat} {z : Int32} (wd : (Cond.constant own i z).before a0 Z = true) (hd : decode code pc = .ok (.ldc i, 2)) (hq : pc + 2 = q) : Wk κ l Z own nm code ml ret R n0 h cells slots q Ls (.int z :: St) := by
  subst hq; exact w.stepX fun hx hby hZ hown X _ k => X.ldcInt hx hown (mvT hZ wd) (g := mkF _ pc Ls St) rfl (hb hby hd) _ k
theorem Wk.ldcWI (w : Wk κ l Z own nm code ml ret R n0 h cells slots pc Ls St) {i : Nat} {z : Int32} (wd : (Cond.constant own i z).before a0 Z = true) (hd : decode code pc = .ok (.ldc_w i, 3)) (hq : pc + 3 = q) : Wk κ l Z own nm code ml ret R n0 h cells slots q Ls (.int z :: St) := by
  subst hq; exact w.stepX fun hx hby hZ hown X _ k => X.ldcWI hx hown (mvT hZ wd) (g := mkF _ pc Ls St) rfl (hb hby hd) k
theorem Wk.ldcJ (w : Wk κ l Z own nm code ml ret R n0 h cells slots pc Ls St) {i : Nat} {z : Int64} (wd : (Cond.constantLong own i z).before a0 Z = true) (hd : decode code pc = .ok (.ldc2_w i, 3)) (hq : pc + 3 = q) : Wk κ l Z own nm code ml ret R n0 h cells slots q Ls (.long z :: St) := by
  subst hq; exact w.stepX fun hx hby hZ hown X _ k => X.ldc2Long hx hown (mvT hZ wd) (g := mkF _ pc Ls St) rfl (hb hby hd) _ k
theorem Wk.ldcD (w : Wk κ l Z own nm code ml ret R n0 h cells slots pc Ls St) {i : Nat} {z : UInt64} (wd : (Cond.constantDouble own i z).before a0 Z = true) (hd : decode code pc = .ok (.ldc2_w i, 3)) (hq : pc + 3 = q) : Wk κ l Z own nm code ml ret R n0 h cells slots q Ls (.double z :: St) := by
  subst hq; exact w.stepX fun hx hby hZ hown X _ k => X.ldc2DoubleC hx hown (mvT hZ wd) (g := mkF _ pc Ls St) rfl (hb hby hd) _ k
theorem Wk.dup {v : Value} (w : Wk κ l Z own nm code ml ret R n0 h cells slots pc Ls (v :: St)) (hd : decode code pc = .ok (.dup, 1)) (hc : v.category = 1) (hq : pc + 1 = q) : Wk κ l Z own nm code ml ret R n0 h cells slots q Ls (v :: v :: St) := by
  subst hq; exact w.step fun hx hby hat k => XS.dup hat hx rfl (hb hby hd) rfl hc k
theorem Wk.dupX1 {v u : Value} (w : Wk κ l Z own nm code ml ret R n0 h cells slots pc Ls (v :: u :: St)) (hd : decode code pc = .ok (.dup_x1, 1)) (hc : v.category = 1) (hc' : u.category = 1) (hq : pc + 1 = q) : Wk κ l Z own nm code ml ret R n0 h cells slots q Ls (v :: u :: v :: St) := by
  subst hq; exact w.step fun hx hby hat k => XT.dupX1 hat hx rfl (hb hby hd) rfl hc hc' k
theorem Wk.dup2 {v u : Value} (w : Wk κ l Z own nm code ml ret R n0 h cells slots pc Ls (v :: u :: St)) (hd : decode code pc = .ok (.dup2, 1)) (hc : v.category = 1) (hc' : u.category = 1) (hq : pc + 1 = q) : Wk κ l Z own nm code ml ret R n0 h cells slots q Ls (v :: u :: v :: u :: St) := by
  subst hq; exact w.step fun hx hby hat k => XT.dup2 hat hx rfl (hb hby hd) rfl hc hc' k
theorem Wk.pop {v : Value} (w : Wk κ l Z own nm code ml ret R n0 h cells slots pc Ls (v :: St)) (hd : decode code pc = .ok (.pop, 1)) (hc : v.category = 1) (hq : pc + 1 = q) : Wk κ l Z own nm code ml ret R n0 h cells slots q Ls St := by
  subst hq; exact w.step fun hx hby hat k => XT.pop hat hx rfl (hb hby hd) rfl hc k
theorem Wk.iinc (w : Wk κ l Z own nm code ml ret R n0 h cells slots pc Ls St) {k : Nat} {i : Int} {x z : Int32} {l' : Array Slot} (hd : decode code pc = .ok (.iinc k i, 3)) (hl : Ls[k]? = some (.val (.int x))) (hz : x + Int32.ofInt i = z) (hl' : storeLocals Ls k (.int z) = some l') (hq : pc + 3 = q) : Wk κ l Z own nm code ml ret R n0 h cells slots q l' St := by
  subst hq hz; exact w.step fun hx hby hat k => XS.iinc hat hx rfl (hb hby hd) hl hl' k
theorem Wk.iadd {x y z : Int32} (w : Wk κ l Z own nm code ml ret R n0 h cells slots pc Ls (.int y :: .int x :: St)) (hd : decode code pc = .ok (.iadd, 1)) (hz : x + y = z) (hq : pc + 1 = q) : Wk κ l Z own nm code ml ret R n0 h cells slots q Ls (.int z :: St) := by
  subst hq hz; exact w.step fun hx hby hat k => XS.iadd hat hx rfl (hb hby hd) rfl k
theorem Wk.isub {x y z : Int32} (w : Wk κ l Z own nm code ml ret R n0 h cells slots pc Ls (.int y :: .int x :: St)) (hd : decode code pc = .ok (.isub, 1)) (hz : x - y = z) (hq : pc + 1 = q) : Wk κ l Z own nm code ml ret R n0 h cells slots q Ls (.int z :: St) := by
  subst hq hz; exact w.step fun hx hby hat k => XS.isub hat hx rfl (hb hby hd) rfl k
theorem Wk.imul {x y z : Int32} (w : Wk κ l Z own nm code ml ret R n0 h cells slots pc Ls (.int y :: .int x :: St)) (hd : decode code pc = .ok (.imul, 1)) (hz : x * y = z) (hq : pc + 1 = q) : Wk κ l Z own nm code ml ret R n0 h cells slots q Ls (.int z :: St) := by
  subst hq hz; exact w.step fun hx hby hat k => XS.imul hat hx rfl (hb hby hd) rfl k
theorem Wk.iand {x y z : Int32} (w : Wk κ l Z own nm code ml ret R n0 h cells slots pc Ls (.int y :: .int x :: St)) (hd : decode code pc = .ok (.iand, 1)) (hz : x &&& y = z) (hq : pc + 1 = q) : Wk κ l Z own nm code ml ret R n0 h cells slots q Ls (.int z :: St) := by
  subst hq hz; exact w.step fun hx hby hat k => XS.iand hat hx rfl (hb hby hd) rfl k
theorem Wk.ior {x y z : Int32} (w : Wk κ l Z own nm code ml ret R n0 h cells slots pc Ls (.int y :: .int x :: St)) (hd : decode code pc = .ok (.ior, 1)) (hz : x ||| y = z) (hq : pc + 1 = q) : Wk κ l Z own nm code ml ret R n0 h cells slots q Ls (.int z :: St) := by
  subst hq hz; exact w.step fun hx hby hat k => XT.ior hat hx rfl (hb hby hd) rfl k
theorem Wk.ixor {x y z : Int32} (w : Wk κ l Z own nm code ml ret R n0 h cells slots pc Ls (.int y :: .int x :: St)) (hd : decode code pc = .ok (.ixor, 1)) (hz : x ^^^ y = z) (hq : pc + 1 = q) : Wk κ l Z own nm code ml ret R n0 h cells slots q Ls (.int z :: St) := by
  subst hq hz; exact w.step fun hx hby hat k => XT.ixor hat hx rfl (hb hby hd) rfl k
theorem Wk.ishl {x y z : Int32} (w : Wk κ l Z own nm code ml ret R n0 h cells slots pc Ls (.int y :: .int x :: St)) (hd : decode code pc = .ok (.ishl, 1)) (hz : x <<< (y &&& 31) = z) (hq : pc + 1 = q) : Wk κ l Z own nm code ml ret R n0 h cells slots q Ls (.int z :: St) := by
  subst hq hz; exact w.step fun hx hby hat k => XT.ishl hat hx rfl (hb hby hd) rfl k
theorem Wk.ishr {x y z : Int32} (w : Wk κ l Z own nm code ml ret R n0 h cells slots pc Ls (.int y :: .int x :: St)) (hd : decode code pc = .ok (.ishr, 1)) (hz : x >>> (y &&& 31) = z) (hq : pc + 1 = q) : Wk κ l Z own nm code ml ret R n0 h cells slots q Ls (.int z :: St) := by
  subst hq hz; exact w.step fun hx hby hat k => XT.ishr hat hx rfl (hb hby hd) rfl k
theorem Wk.iushr {x y z : Int32} (w : Wk κ l Z own nm code ml ret R n0 h cells slots pc Ls (.int y :: .int x :: St)) (hd : decode code pc = .ok (.iushr, 1)) (hz : XT.ushr x y = z) (hq : pc + 1 = q) : Wk κ l Z own nm code ml ret R n0 h cells slots q Ls (.int z :: St) := by
  subst hq hz; exact w.step fun hx hby hat k => XT.iushr hat hx rfl (hb hby hd) rfl k
theorem Wk.idiv {x y z : Int32} (w : Wk κ l Z own nm code ml ret R n0 h cells slots pc Ls (.int y :: .int x :: St)) (hd : decode code pc = .ok (.idiv, 1)) (hy : y ≠ 0) (hz : x / y = z) (hq : pc + 1 = q) : Wk κ l Z own nm code ml ret R n0 h cells slots q Ls (.int z :: St) := by
  subst hq hz; exact w.step fun hx hby hat k => XS.idiv hat hx rfl (hb hby hd) rfl hy k
theorem Wk.ladd {x y z : Int64} (w : Wk κ l Z own nm code ml ret R n0 h cells slots pc Ls (.long y :: .long x :: St)) (hd : decode code pc = .ok (.ladd, 1)) (hz : x + y = z) (hq : pc + 1 = q) : Wk κ l Z own nm code ml ret R n0 h cells slots q Ls (.long z :: St) := by
  subst hq hz; exact w.step fun hx hby hat k => XT.ladd hat hx rfl (hb hby hd) rfl k
theorem Wk.lsub {x y z : Int64} (w : Wk κ l Z own nm code ml ret R n0 h cells slots pc Ls (.long y :: .long x :: St)) (hd : decode code pc = .ok (.lsub, 1)) (hz : x - y = z) (hq : pc + 1 = q) : Wk κ l Z own nm code ml ret R n0 h cells slots q Ls (.long z :: St) := by
  subst hq hz; exact w.step fun hx hby hat k => XT.lsub hat hx rfl (hb hby hd) rfl k
theorem Wk.lmul {x y z : Int64} (w : Wk κ l Z own nm code ml ret R n0 h cells slots pc Ls (.long y :: .long x :: St)) (hd : decode code pc = .ok (.lmul, 1)) (hz : x * y = z) (hq : pc + 1 = q) : Wk κ l Z own nm code ml ret R n0 h cells slots q Ls (.long z :: St) := by
  subst hq hz; exact w.step fun hx hby hat k => XT.lmul hat hx rfl (hb hby hd) rfl k
theorem Wk.land {x y z : Int64} (w : Wk κ l Z own nm code ml ret R n0 h cells slots pc Ls (.long y :: .long x :: St)) (hd : decode code pc = .ok (.land, 1)) (hz : x &&& y = z) (hq : pc + 1 = q) : Wk κ l Z own nm code ml ret R n0 h cells slots q Ls (.long z :: St) := by
  subst hq hz; exact w.step fun hx hby hat k => XT.land hat hx rfl (hb hby hd) rfl k
theorem Wk.lor {x y z : Int64} (w : Wk κ l Z own nm code ml ret R n0 h cells slots pc Ls (.long y :: .long x :: St)) (hd : decode code pc = .ok (.lor, 1)) (hz : x ||| y = z) (hq : pc + 1 = q) : Wk κ l Z own nm code ml ret R n0 h cells slots q Ls (.long z :: St) := by
  subst hq hz; exact w.step fun hx hby hat k => XT.lor hat hx rfl (hb hby hd) rfl k
theorem Wk.lxor {x y z : Int64} (w : Wk κ l Z own nm code ml ret R n0 h cells slots pc Ls (.long y :: .long x :: St)) (hd : decode code pc = .ok (.lxor, 1)) (hz : x ^^^ y = z) (hq : pc + 1 = q) : Wk κ l Z own nm code ml ret R n0 h cells slots q Ls (.long z :: St) := by
  subst hq hz; exact w.step fun hx hby hat k => XT.lxor hat hx rfl (hb hby hd) rfl k
theorem Wk.irem {x y z : Int32} (w : Wk κ l Z own nm code ml ret R n0 h cells slots pc Ls (.int y :: .int x :: St)) (hd : decode code pc = .ok (.irem, 1)) (hy : y ≠ 0) (hz : x % y = z) (hq : pc + 1 = q) : Wk κ l Z own nm code ml ret R n0 h cells slots q Ls (.int z :: St) := by
  subst hq hz; exact w.stepX fun hx hby _ _ X _ k => iremM X hx rfl (hb hby hd) rfl hy k
theorem Wk.lshl {x z : Int64} {y : Int32} (w : Wk κ l Z own nm code ml ret R n0 h cells slots pc Ls (.int y :: .long x :: St)) (hd : decode code pc = .ok (.lshl, 1)) (hz : x <<< (y.toInt64 &&& 63) = z) (hq : pc + 1 = q) : Wk κ l Z own nm code ml ret R n0 h cells slots q Ls (.long z :: St) := by
  subst hq hz; exact w.step fun hx hby hat k => XT.lshl hat hx rfl (hb hby hd) rfl k
theorem Wk.lshr {x z : Int64} {y : Int32} (w : Wk κ l Z own nm code ml ret R n0 h cells slots pc Ls (.int y :: .long x :: St)) (hd : decode code pc = .ok (.lshr, 1)) (hz : x >>> (y.toInt64 &&& 63) = z) (hq : pc + 1 = q) : Wk κ l Z own nm code ml ret R n0 h cells slots q Ls (.long z :: St) := by
  subst hq hz; exact w.step fun hx hby hat k => XT.lshr hat hx rfl (hb hby hd) rfl k
theorem Wk.lushr {x z : Int64} {y : Int32} (w : Wk κ l Z own nm code ml ret R n0 h cells slots pc Ls (.int y :: .long x :: St)) (hd : decode code pc = .ok (.lushr, 1)) (hz : XT.ushrL x y = z) (hq : pc + 1 = q) : Wk κ l Z own nm code ml ret R n0 h cells slots q Ls (.long z :: St) := by
  subst hq hz; exact w.step fun hx hby hat k => XT.lushr hat hx rfl (hb hby hd) rfl k
theorem Wk.lcmp {x y : Int64} {z : Int32} (w : Wk κ l Z own nm code ml ret R n0 h cells slots pc Ls (.long y :: .long x :: St)) (hd : decode code pc = .ok (.lcmp, 1)) (hz : XT.cmpL x y = z) (hq : pc + 1 = q) : Wk κ l Z own nm code ml ret R n0 h cells slots q Ls (.int z :: St) := by
  subst hq hz; exact w.step fun hx hby hat k => XT.lcmp hat hx rfl (hb hby hd) rfl k
theorem Wk.i2l {x : Int32} {z : Int64} (w : Wk κ l Z own nm code ml ret R n0 h cells slots pc Ls (.int x :: St)) (hd : decode code pc = .ok (.i2l, 1)) (hz : x.toInt64 = z) (hq : pc + 1 = q) : Wk κ l Z own nm code ml ret R n0 h cells slots q Ls (.long z :: St) := by
  subst hq hz; exact w.step fun hx hby hat k => XT.i2l hat hx rfl (hb hby hd) rfl k
theorem Wk.l2i {x : Int64} {z : Int32} (w : Wk κ l Z own nm code ml ret R n0 h cells slots pc Ls (.long x :: St)) (hd : decode code pc = .ok (.l2i, 1)) (hz : x.toInt32 = z) (hq : pc + 1 = q) : Wk κ l Z own nm code ml ret R n0 h cells slots q Ls (.int z :: St) := by
  subst hq hz; exact w.step fun hx hby hat k => XT.l2i hat hx rfl (hb hby hd) rfl k
theorem Wk.i2b {x : Int32} {z : Int32} (w : Wk κ l Z own nm code ml ret R n0 h cells slots pc Ls (.int x :: St)) (hd : decode code pc = .ok (.i2b, 1)) (hz : x.toInt8.toInt32 = z) (hq : pc + 1 = q) : Wk κ l Z own nm code ml ret R n0 h cells slots q Ls (.int z :: St) := by
  subst hq hz; exact w.step fun hx hby hat k => XT.i2b hat hx rfl (hb hby hd) rfl k
theorem Wk.i2c {x : Int32} {z : Int32} (w : Wk κ l Z own nm code ml ret R n0 h cells slots pc Ls (.int x :: St)) (hd : decode code pc = .ok (.i2c, 1)) (hz : x.toUInt32.toUInt16.toUInt32.toInt32 = z) (hq : pc + 1 = q) : Wk κ l Z own nm code ml ret R n0 h cells slots q Ls (.int z :: St) := by
  subst hq hz; exact w.step fun hx hby hat k => XT.i2c hat hx rfl (hb hby hd) rfl k
theorem Wk.i2d {x : Int32} {z : UInt64} (w : Wk κ l Z own nm code ml ret R n0 h cells slots pc Ls (.int x :: St)) (hd : decode code pc = .ok (.i2d, 1)) (hz : FP.i2d x = z) (hq : pc + 1 = q) : Wk κ l Z own nm code ml ret R n0 h cells slots q Ls (.double z :: St) := by
  subst hq; exact w.step fun hx hby hat k => XS.i2dS hat hx rfl (hb hby hd) rfl hz k
theorem Wk.dcmp {o : CmpOp} {x y : UInt64} {z : Int32} (w : Wk κ l Z own nm code ml ret R n0 h cells slots pc Ls (.double y :: .double x :: St)) (hd : decode code pc = .ok (.dcmp o, 1)) (hz : cmpValue (FP.dcmp x y) o = z) (hq : pc + 1 = q) : Wk κ l Z own nm code ml ret R n0 h cells slots q Ls (.int z :: St) := by
  subst hq; exact w.step fun hx hby hat k => XS.dcmpS hat hx rfl (hb hby hd) rfl hz k
theorem Wk.dadd {x y z : UInt64} (w : Wk κ l Z own nm code ml ret R n0 h cells slots pc Ls (.double y :: .double x :: St)) (hd : decode code pc = .ok (.dadd, 1)) (hn : Jvm.Free.Fl.NoNaN64 (FP.dadd x y)) (hz : FP.dadd x y = z) (hq : pc + 1 = q) : Wk κ l Z own nm code ml ret R n0 h cells slots q Ls (.double z :: St) := by
  subst hq; exact w.step fun hx hby hat k => XS.daddS hat hx rfl (hb hby hd) rfl hn hz k
theorem Wk.dsub {x y z : UInt64} (w : Wk κ l Z own nm code ml ret R n0 h cells slots pc Ls (.double y :: .double x :: St)) (hd : decode code pc = .ok (.dsub, 1)) (hn : Jvm.Free.Fl.NoNaN64 (FP.dsub x y)) (hz : FP.dsub x y = z) (hq : pc + 1 = q) : Wk κ l Z own nm code ml ret R n0 h cells slots q Ls (.double z :: St) := by
  subst hq; exact w.step fun hx hby hat k => XS.dsubS hat hx rfl (hb hby hd) rfl hn hz k
theorem Wk.ddiv {x y z : UInt64} (w : Wk κ l Z own nm code ml ret R n0 h cells slots pc Ls (.double y :: .double x :: St)) (hd : decode code pc = .ok (.ddiv, 1)) (hn : Jvm.Free.Fl.NoNaN64 (FP.ddiv x y)) (hz : FP.ddiv x y = z) (hq : pc + 1 = q) : Wk κ l Z own nm code ml ret R n0 h cells slots q Ls (.double z :: St) := by
  subst hq; exact w.step fun hx hby hat k => XS.ddivS hat hx rfl (hb hby hd) rfl hn hz k
theorem Wk.goto (w : Wk κ l Z own nm code ml ret R n0 h cells slots pc Ls St) {o : Int} (hd : decode code pc = .ok (.goto o, 3)) (ho : 0 ≤ (pc : Int) + o) (hq : ((pc : Int) + o).toNat = q) : Wk κ l Z own nm code ml ret R n0 h cells slots q Ls St :=
  w.step fun hx hby hat k => XS.goto hat hx rfl rfl (hb hby hd) ho hq k
theorem holdEq (x y : Int32) : if_icmp.holds .eq x y = decide (x.toInt = y.toInt) := by
  show (x == y) = _
  rw [Bool.eq_iff_iff, beq_iff_eq, decide_eq_true_iff, Int32.toInt_inj]
theorem holdNe (x y : Int32) : if_icmp.holds .ne x y = decide (x.toInt ≠ y.toInt) := by
  show (x != y) = _
  rw [Bool.eq_iff_iff, bne_iff_ne, decide_eq_true_iff, ne_eq, ne_eq, Int32.toInt_inj]
theorem holdLt (x y : Int32) : if_icmp.holds .lt x y = decide (x.toInt < y.toInt) := by simp [if_icmp.holds, Int32.lt_iff_toInt_lt, Int32.le_iff_toInt_le, ← Int32.toInt_inj]
theorem holdGe (x y : Int32) : if_icmp.holds .ge x y = decide (y.toInt ≤ x.toInt) := by simp [if_icmp.holds, Int32.lt_iff_toInt_lt, Int32.le_iff_toInt_le, ← Int32.toInt_inj]
theorem holdGt (x y : Int32) : if_icmp.holds .gt x y = decide (y.toInt < x.toInt) := by simp [if_icmp.holds, Int32.lt_iff_toInt_lt, Int32.le_iff_toInt_le, ← Int32.toInt_inj]
theorem holdLe (x y : Int32) : if_icmp.holds .le x y = decide (x.toInt ≤ y.toInt) := by simp [if_icmp.holds, Int32.lt_iff_toInt_lt, Int32.le_iff_toInt_le, ← Int32.toInt_inj]
theorem Wk.icmpEq {x y : Int32} (w : Wk κ l Z own nm code ml ret R n0 h cells slots pc Ls (.int y :: .int x :: St)) {o : Int} {q' : Nat} {xi yi : Int} (hd : decode code pc = .ok (.if_icmp .eq o, 3)) (hx0 : x.toInt = xi) (hy0 : y.toInt = yi) (ho : 0 ≤ (pc : Int) + o) (hq : ((pc : Int) + o).toNat = q) (hq' : pc + 3 = q') : (xi = yi ∧ Wk κ l Z own nm code ml ret R n0 h cells slots q Ls St) ∨ (¬ (xi = yi) ∧ Wk κ l Z own nm code ml ret R n0 h cells slots q' Ls St) := by
  subst hx0 hy0 hq'
  by_cases hc : x.toInt = y.toInt
  · exact Or.inl ⟨hc, w.step fun hx hby hat k => XS.icmpYes hat hx rfl rfl (hb hby hd) rfl (by rw [holdEq]; exact decide_eq_true hc) ho hq k⟩
  · exact Or.inr ⟨hc, w.step fun hx hby hat k => XS.icmpNo hat hx rfl (hb hby hd) rfl (by rw [holdEq]; exact decide_eq_false hc) k⟩
theorem Wk.icmpNe {x y : Int32} (w : Wk κ l Z own nm code ml ret R n0 h cells slots pc Ls (.int y :: .int x :: St)) {o : Int} {q' : Nat} {xi yi : Int} (hd : decode code pc = .ok (.if_icmp .ne o, 3)) (hx0 : x.toInt = xi) (hy0 : y.toInt = yi) (ho : 0 ≤ (pc : Int) + o) (hq : ((pc : Int) + o).toNat = q) (hq' : pc + 3 = q') : (xi ≠ yi ∧ Wk κ l Z own nm code ml ret R n0 h cells slots q Ls St) ∨ (¬ (xi ≠ yi) ∧ Wk κ l Z own nm code ml ret R n0 h cells slots q' Ls St) := by
  subst hx0 hy0 hq'
  by_cases hc : x.toInt ≠ y.toInt
  · exact Or.inl ⟨hc, w.step fun hx hby hat k => XS.icmpYes hat hx rfl rfl (hb hby hd) rfl (by rw [holdNe]; exact decide_eq_true hc) ho hq k⟩
  · exact Or.inr ⟨hc, w.step fun hx hby hat k => XS.icmpNo hat hx rfl (hb hby hd) rfl (by rw [holdNe]; exact decide_eq_false hc) k⟩
theorem Wk.icmpLt {x y : Int32} (w : Wk κ l Z own nm code ml ret R n0 h cells slots pc Ls (.int y :: .int x :: St)) {o : Int} {q' : Nat} {xi yi : Int} (hd : decode code pc = .ok (.if_icmp .lt o, 3)) (hx0 : x.toInt = xi) (hy0 : y.toInt = yi) (ho : 0 ≤ (pc : Int) + o) (hq : ((pc : Int) + o).toNat = q) (hq' : pc + 3 = q') : (xi < yi ∧ Wk κ l Z own nm code ml ret R n0 h cells slots q Ls St) ∨ (¬ (xi < yi) ∧ Wk κ l Z own nm code ml ret R n0 h cells slots q' Ls St) := by
  subst hx0 hy0 hq'
  by_cases hc : x.toInt < y.toInt
  · exact Or.inl ⟨hc, w.step fun hx hby hat k => XS.icmpYes hat hx rfl rfl (hb hby hd) rfl (by rw [holdLt]; exact decide_eq_true hc) ho hq k⟩
  · exact Or.inr ⟨hc, w.step fun hx hby hat k => XS.icmpNo hat hx rfl (hb hby hd) rfl (by rw [holdLt]; exact decide_eq_false hc) k⟩
theorem Wk.icmpGe {x y : Int32} (w : Wk κ l Z own nm code ml ret R n0 h cells slots pc Ls (.int y :: .int x :: St)) {o : Int} {q' : Nat} {xi yi : Int} (hd : decode code pc = .ok (.if_icmp .ge o, 3)) (hx0 : x.toInt = xi) (hy0 : y.toInt = yi) (ho : 0 ≤ (pc : Int) + o) (hq : ((pc : Int) + o).toNat = q) (hq' : pc + 3 = q') : (yi ≤ xi ∧ Wk κ l Z own nm code ml ret R n0 h cells slots q Ls St) ∨ (¬ (yi ≤ xi) ∧ Wk κ l Z own nm code ml ret R n0 h cells slots q' Ls St) := by
  subst hx0 hy0 hq'
  by_cases hc : y.toInt ≤ x.toInt
  · exact Or.inl ⟨hc, w.step fun hx hby hat k => XS.icmpYes hat hx rfl rfl (hb hby hd) rfl (by rw [holdGe]; exact decide_eq_true hc) ho hq k⟩
  · exact Or.inr ⟨hc, w.step fun hx hby hat k => XS.icmpNo hat hx rfl (hb hby hd) rfl (by rw [holdGe]; exact decide_eq_false hc) k⟩
theorem Wk.icmpGt {x y : Int32} (w : Wk κ l Z own nm code ml ret R n0 h cells slots pc Ls (.int y :: .int x :: St)) {o : Int} {q' : Nat} {xi yi : Int} (hd : decode code pc = .ok (.if_icmp .gt o, 3)) (hx0 : x.toInt = xi) (hy0 : y.toInt = yi) (ho : 0 ≤ (pc : Int) + o) (hq : ((pc : Int) + o).toNat = q) (hq' : pc + 3 = q') : (yi < xi ∧ Wk κ l Z own nm code ml ret R n0 h cells slots q Ls St) ∨ (¬ (yi < xi) ∧ Wk κ l Z own nm code ml ret R n0 h cells slots q' Ls St) := by
  subst hx0 hy0 hq'
  by_cases hc : y.toInt < x.toInt
  · exact Or.inl ⟨hc, w.step fun hx hby hat k => XS.icmpYes hat hx rfl rfl (hb hby hd) rfl (by rw [holdGt]; exact decide_eq_true hc) ho hq k⟩
  · exact Or.inr ⟨hc, w.step fun hx hby hat k => XS.icmpNo hat hx rfl (hb hby hd) rfl (by rw [holdGt]; exact decide_eq_false hc) k⟩
theorem Wk.icmpLe {x y : Int32} (w : Wk κ l Z own nm code ml ret R n0 h cells slots pc Ls (.int y :: .int x :: St)) {o : Int} {q' : Nat} {xi yi : Int} (hd : decode code pc = .ok (.if_icmp .le o, 3)) (hx0 : x.toInt = xi) (hy0 : y.toInt = yi) (ho : 0 ≤ (pc : Int) + o) (hq : ((pc : Int) + o).toNat = q) (hq' : pc + 3 = q') : (xi ≤ yi ∧ Wk κ l Z own nm code ml ret R n0 h cells slots q Ls St) ∨ (¬ (xi ≤ yi) ∧ Wk κ l Z own nm code ml ret R n0 h cells slots q' Ls St) := by
  subst hx0 hy0 hq'
  by_cases hc : x.toInt ≤ y.toInt
  · exact Or.inl ⟨hc, w.step fun hx hby hat k => XS.icmpYes hat hx rfl rfl (hb hby hd) rfl (by rw [holdLe]; exact decide_eq_true hc) ho hq k⟩
  · exact Or.inr ⟨hc, w.step fun hx hby hat k => XS.icmpNo hat hx rfl (hb hby hd) rfl (by rw [holdLe]; exact decide_eq_false hc) k⟩
theorem Wk.ifEq {x : Int32} (w : Wk κ l Z own nm code ml ret R n0 h cells slots pc Ls (.int x :: St)) {o : Int} {q' : Nat} {xi : Int} (hd : decode code pc = .ok (.ifCond .eq o, 3)) (hx0 : x.toInt = xi) (ho : 0 ≤ (pc : Int) + o) (hq : ((pc : Int) + o).toNat = q) (hq' : pc + 3 = q') : (xi = 0 ∧ Wk κ l Z own nm code ml ret R n0 h cells slots q Ls St) ∨ (¬ (xi = 0) ∧ Wk κ l Z own nm code ml ret R n0 h cells slots q' Ls St) := by
  subst hx0 hq'
  have h0 : (0 : Int32).toInt = 0 := rfl
  by_cases hc : x.toInt = 0
  · exact Or.inl ⟨hc, w.step fun hx hby hat k => XS.ifYes hat hx rfl rfl (hb hby hd) rfl (by rw [if0, holdEq, h0]; exact decide_eq_true hc) ho hq k⟩
  · exact Or.inr ⟨hc, w.step fun hx hby hat k => XS.ifNo hat hx rfl (hb hby hd) rfl (by rw [if0, holdEq, h0]; exact decide_eq_false hc) k⟩
theorem Wk.ifNe {x : Int32} (w : Wk κ l Z own nm code ml ret R n0 h cells slots pc Ls (.int x :: St)) {o : Int} {q' : Nat} {xi : Int} (hd : decode code pc = .ok (.ifCond .ne o, 3)) (hx0 : x.toInt = xi) (ho : 0 ≤ (pc : Int) + o) (hq : ((pc : Int) + o).toNat = q) (hq' : pc + 3 = q') : (xi ≠ 0 ∧ Wk κ l Z own nm code ml ret R n0 h cells slots q Ls St) ∨ (¬ (xi ≠ 0) ∧ Wk κ l Z own nm code ml ret R n0 h cells slots q' Ls St) := by
  subst hx0 hq'
  have h0 : (0 : Int32).toInt = 0 := rfl
  by_cases hc : x.toInt ≠ 0
  · exact Or.inl ⟨hc, w.step fun hx hby hat k => XS.ifYes hat hx rfl rfl (hb hby hd) rfl (by rw [if0, holdNe, h0]; exact decide_eq_true hc) ho hq k⟩
  · exact Or.inr ⟨hc, w.step fun hx hby hat k => XS.ifNo hat hx rfl (hb hby hd) rfl (by rw [if0, holdNe, h0]; exact decide_eq_false hc) k⟩
theorem Wk.ifLt {x : Int32} (w : Wk κ l Z own nm code ml ret R n0 h cells slots pc Ls (.int x :: St)) {o : Int} {q' : Nat} {xi : Int} (hd : decode code pc = .ok (.ifCond .lt o, 3)) (hx0 : x.toInt = xi) (ho : 0 ≤ (pc : Int) + o) (hq : ((pc : Int) + o).toNat = q) (hq' : pc + 3 = q') : (xi < 0 ∧ Wk κ l Z own nm code ml ret R n0 h cells slots q Ls St) ∨ (¬ (xi < 0) ∧ Wk κ l Z own nm code ml ret R n0 h cells slots q' Ls St) := by
  subst hx0 hq'
  have h0 : (0 : Int32).toInt = 0 := rfl
  by_cases hc : x.toInt < 0
  · exact Or.inl ⟨hc, w.step fun hx hby hat k => XS.ifYes hat hx rfl rfl (hb hby hd) rfl (by rw [if0, holdLt, h0]; exact decide_eq_true hc) ho hq k⟩
  · exact Or.inr ⟨hc, w.step fun hx hby hat k => XS.ifNo hat hx rfl (hb hby hd) rfl (by rw [if0, holdLt, h0]; exact decide_eq_false hc) k⟩
theorem Wk.ifGe {x : Int32} (w : Wk κ l Z own nm code ml ret R n0 h cells slots pc Ls (.int x :: St)) {o : Int} {q' : Nat} {xi : Int} (hd : decode code pc = .ok (.ifCond .ge o, 3)) (hx0 : x.toInt = xi) (ho : 0 ≤ (pc : Int) + o) (hq : ((pc : Int) + o).toNat = q) (hq' : pc + 3 = q') : (0 ≤ xi ∧ Wk κ l Z own nm code ml ret R n0 h cells slots q Ls St) ∨ (¬ (0 ≤ xi) ∧ Wk κ l Z own nm code ml ret R n0 h cells slots q' Ls St) := by
  subst hx0 hq'
  have h0 : (0 : Int32).toInt = 0 := rfl
  by_cases hc : 0 ≤ x.toInt
  · exact Or.inl ⟨hc, w.step fun hx hby hat k => XS.ifYes hat hx rfl rfl (hb hby hd) rfl (by rw [if0, holdGe, h0]; exact decide_eq_true hc) ho hq k⟩
  · exact Or.inr ⟨hc, w.step fun hx hby hat k => XS.ifNo hat hx rfl (hb hby hd) rfl (by rw [if0, holdGe, h0]; exact decide_eq_false hc) k⟩
theorem Wk.ifGt {x : Int32} (w : Wk κ l Z own nm code ml ret R n0 h cells slots pc Ls (.int x :: St)) {o : Int} {q' : Nat} {xi : Int} (hd : decode code pc = .ok (.ifCond .gt o, 3)) (hx0 : x.toInt = xi) (ho : 0 ≤ (pc : Int) + o) (hq : ((pc : Int) + o).toNat = q) (hq' : pc + 3 = q') : (0 < xi ∧ Wk κ l Z own nm code ml ret R n0 h cells slots q Ls St) ∨ (¬ (0 < xi) ∧ Wk κ l Z own nm code ml ret R n0 h cells slots q' Ls St) := by
  subst hx0 hq'
  have h0 : (0 : Int32).toInt = 0 := rfl
  by_cases hc : 0 < x.toInt
  · exact Or.inl ⟨hc, w.step fun hx hby hat k => XS.ifYes hat hx rfl rfl (hb hby hd) rfl (by rw [if0, holdGt, h0]; exact decide_eq_true hc) ho hq k⟩
  · exact Or.inr ⟨hc, w.step fun hx hby hat k => XS.ifNo hat hx rfl (hb hby hd) rfl (by rw [if0, holdGt, h0]; exact decide_eq_false hc) k⟩
theorem Wk.ifLe {x : Int32} (w : Wk κ l Z own nm code ml ret R n0 h cells slots pc Ls (.int x :: St)) {o : Int} {q' : Nat} {xi : Int} (hd : decode code pc = .ok (.ifCond .le o, 3)) (hx0 : x.toInt = xi) (ho : 0 ≤ (pc : Int) + o) (hq : ((pc : Int) + o).toNat = q) (hq' : pc + 3 = q') : (xi ≤ 0 ∧ Wk κ l Z own nm code ml ret R n0 h cells slots q Ls St) ∨ (¬ (xi ≤ 0) ∧ Wk κ l Z own nm code ml ret R n0 h cells slots q' Ls St) := by
  subst hx0 hq'
  have h0 : (0 : Int32).toInt = 0 := rfl
  by_cases hc : x.toInt ≤ 0
  · exact Or.inl ⟨hc, w.step fun hx hby hat k => XS.ifYes hat hx rfl rfl (hb hby hd) rfl (by rw [if0, holdLe, h0]; exact decide_eq_true hc) ho hq k⟩
  · exact Or.inr ⟨hc, w.step fun hx hby hat k => XS.ifNo hat hx rfl (hb hby hd) rfl (by rw [if0, holdLe, h0]; exact decide_eq_false hc) k⟩
theorem Wk.acmpEq {x y : Value} (w : Wk κ l Z own nm code ml ret R n0 h cells slots pc Ls (y :: x :: St)) {o : Int} {q' : Nat} (hd : decode code pc = .ok (.if_acmp .eq o, 3)) (hx' : x.isRef = true) (hy' : y.isRef = true) (ho : 0 ≤ (pc : Int) + o) (hq : ((pc : Int) + o).toNat = q) (hq' : pc + 3 = q') : (x = y ∧ Wk κ l Z own nm code ml ret R n0 h cells slots q Ls St) ∨ (¬ (x = y) ∧ Wk κ l Z own nm code ml ret R n0 h cells slots q' Ls St) := by
  subst hq'
  by_cases hc : x = y
  · exact Or.inl ⟨hc, w.step fun hx hby hat k => XT.acmpYes hat hx rfl rfl (hb hby hd) rfl hx' hy' (by simpa [XT.acmp] using hc) ho hq k⟩
  · exact Or.inr ⟨hc, w.step fun hx hby hat k => XT.acmpNo hat hx rfl (hb hby hd) rfl hx' hy' (by simpa [XT.acmp] using hc) k⟩
theorem Wk.acmpNe {x y : Value} (w : Wk κ l Z own nm code ml ret R n0 h cells slots pc Ls (y :: x :: St)) {o : Int} {q' : Nat} (hd : decode code pc = .ok (.if_acmp .ne o, 3)) (hx' : x.isRef = true) (hy' : y.isRef = true) (ho : 0 ≤ (pc : Int) + o) (hq : ((pc : Int) + o).toNat = q) (hq' : pc + 3 = q') : (x ≠ y ∧ Wk κ l Z own nm code ml ret R n0 h cells slots q Ls St) ∨ (¬ (x ≠ y) ∧ Wk κ l Z own nm code ml ret R n0 h cells slots q' Ls St) := by
  subst hq'
  by_cases hc : x ≠ y
  · exact Or.inl ⟨hc, w.step fun hx hby hat k => XT.acmpYes hat hx rfl rfl (hb hby hd) rfl hx' hy' (by simpa [XT.acmp] using hc) ho hq k⟩
  · exact Or.inr ⟨hc, w.step fun hx hby hat k => XT.acmpNo hat hx rfl (hb hby hd) rfl hx' hy' (by simpa [XT.acmp] using hc) k⟩
theorem Wk.acmpEqR {a b : Nat} (w : Wk κ l Z own nm code ml ret R n0 h cells slots pc Ls (.ref b :: .ref a :: St)) {o : Int} {q' : Nat} (hd : decode code pc = .ok (.if_acmp .eq o, 3)) (ho : 0 ≤ (pc : Int) + o) (hq : ((pc : Int) + o).toNat = q) (hq' : pc + 3 = q') : (a = b ∧ Wk κ l Z own nm code ml ret R n0 h cells slots q Ls St) ∨ (¬ (a = b) ∧ Wk κ l Z own nm code ml ret R n0 h cells slots q' Ls St) :=
  (w.acmpEq hd rfl rfl ho hq hq').imp (fun g => ⟨Value.ref.inj g.1, g.2⟩) (fun g => ⟨fun e => g.1 (congrArg Value.ref e), g.2⟩)
theorem Wk.acmpNeR {a b : Nat} (w : Wk κ l Z own nm code ml ret R n0 h cells slots pc Ls (.ref b :: .ref a :: St)) {o : Int} {q' : Nat} (hd : decode code pc = .ok (.if_acmp .ne o, 3)) (ho : 0 ≤ (pc : Int) + o) (hq : ((pc : Int) + o).toNat = q) (hq' : pc + 3 = q') : (a ≠ b ∧ Wk κ l Z own nm code ml ret R n0 h cells slots q Ls St) ∨ (¬ (a ≠ b) ∧ Wk κ l Z own nm code ml ret R n0 h cells slots q' Ls St) :=
  (w.acmpNe hd rfl rfl ho hq hq').imp (fun g => ⟨fun e => g.1 (congrArg Value.ref e), g.2⟩) (fun g => ⟨fun e => g.1 fun e' => e (Value.ref.inj e'), g.2⟩)
/-- a field of the start, by the case's own words -/
theorem fld_of_eq {args : Array Value} {s : State} {t : Term} {C n d : String} {k : Int32} {a : Nat} (hh : (Cond.eq (Term.field t C n d) (Term.int k)).value args s none s [] = some true) (ht : t.eval args s none [] s = some (.ref a)) : Fld s s.heap a C n d (.int k) := by
  obtain ⟨x, y, ex, ey, k1, k2⟩ := cmp_v (Or.inl hh)
  obtain rfl : y = .int k := (Option.some.inj (ey.symm.trans (Term.int_eval k)))
  obtain ⟨z, rfl⟩ := k2
  obtain rfl : z = k := gotT (Cond.eq_ints ex ey) hh
  exact Fld.start (by rw [← fld_at ht]; exact ex)
/-! returns -/
theorem Wk.retI {x : Int32} (w : Wk κ l Z own nm code ml (some .int) R n0 h cells slots pc Ls (.int x :: St)) {Q : Option Value → Heap → Prop} {C S : Nat} (hd : decode code pc = .ok (.ireturn, 1)) (hQ : Q (some (.int x)) h) (hc : cells ≤ C) (hs : slots ≤ S) : Dn κ n0 Q C S := by
  obtain ⟨p, e, s, m, args, below, meth, c, S0⟩ := κ
  obtain ⟨⟨hx, hby, hml, hret, hlk, hnm, hZ, hown⟩, T, locs, X, N, eT, st⟩ := w
  obtain ⟨fs, hr, hrun, hended, hW, hsame⟩ := X.leave (v := some (.int x)) (fun hh => by rw [hret] at hh; cases hh) hlk
  exact ⟨_, _, st _ (retOut X hx hret rfl (Or.inl ⟨rfl, Or.inl rfl, _, rfl⟩) (hb hby hd) hr), hrun, hended, _, _, rfl, ⟨by rw [show (T.setFrames fs).heap = h from eT]; exact hQ, N⟩, ⟨_, rfl⟩, hW, hsame.mono hc hs⟩
theorem Wk.retZ {x z : Int32} (w : Wk κ l Z own nm code ml (some .boolean) R n0 h cells slots pc Ls (.int x :: St)) {Q : Option Value → Heap → Prop} {C S : Nat} (hd : decode code pc = .ok (.ireturn, 1)) (hz : x &&& 1 = z) (hQ : Q (some (.int z)) h) (hc : cells ≤ C) (hs : slots ≤ S) : Dn κ n0 Q C S := by
  obtain ⟨p, e, s, m, args, below, meth, c, S0⟩ := κ
  obtain ⟨⟨hx, hby, hml, hret, hlk, hnm, hZ, hown⟩, T, locs, X, N, eT, st⟩ := w
  subst hz
  obtain ⟨fs, hr, hrun, hended, hW, hsame⟩ := X.leave (v := some (.int (nar .boolean x))) (fun hh => by rw [hret] at hh; cases hh) hlk
  exact ⟨_, _, st _ (retN X hx hret (by simp) (hb hby hd) hr), hrun, hended, _, _, rfl, ⟨by rw [show (T.setFrames fs).heap = h from eT]; exact hQ, N⟩, ⟨_, rfl⟩, hW, hsame.mono hc hs⟩
theorem Wk.retJ {x : Int64} (w : Wk κ l Z own nm code ml (some .long) R n0 h cells slots pc Ls (.long x :: St)) {Q : Option Value → Heap → Prop} {C S : Nat} (hd : decode code pc = .ok (.lreturn, 1)) (hQ : Q (some (.long x)) h) (hc : cells ≤ C) (hs : slots ≤ S) : Dn κ n0 Q C S := by
  obtain ⟨p, e, s, m, args, below, meth, c, S0⟩ := κ
  obtain ⟨⟨hx, hby, hml, hret, hlk, hnm, hZ, hown⟩, T, locs, X, N, eT, st⟩ := w
  obtain ⟨fs, hr, hrun, hended, hW, hsame⟩ := X.leave (v := some (.long x)) (fun hh => by rw [hret] at hh; cases hh) hlk
  exact ⟨_, _, st _ (retOut X hx hret rfl (Or.inr (Or.inl ⟨rfl, rfl, _, rfl⟩)) (hb hby hd) hr), hrun, hended, _, _, rfl, ⟨by rw [show (T.setFrames fs).heap = h from eT]; exact hQ, N⟩, ⟨_, rfl⟩, hW, hsame.mono hc hs⟩
theorem Wk.retD {x : UInt64} (w : Wk κ l Z own nm code ml (some .double) R n0 h cells slots pc Ls (.double x :: St)) {Q : Option Value → Heap → Prop} {C S : Nat} (hd : decode code pc = .ok (.dreturn, 1)) (hQ : Q (some (.double x)) h) (hc : cells ≤ C) (hs : slots ≤ S) : Dn κ n0 Q C S := by
  obtain ⟨p, e, s, m, args, below, meth, c, S0⟩ := κ
  obtain ⟨⟨hx, hby, hml, hret, hlk, hnm, hZ, hown⟩, T, locs, X, N, eT, st⟩ := w
  obtain ⟨fs, hr, hrun, hended, hW, hsame⟩ := X.leave (v := some (.double x)) (fun hh => by rw [hret] at hh; cases hh) hlk
  exact ⟨_, _, st _ (retOut X hx hret rfl (Or.inr (Or.inr (Or.inl ⟨rfl, rfl, _, rfl⟩))) (hb hby hd) hr), hrun, hended, _, _, rfl, ⟨by rw [show (T.setFrames fs).heap = h from eT]; exact hQ, N⟩, ⟨_, rfl⟩, hW, hsame.mono hc hs⟩
theorem Wk.retA {rt : FieldType} {v : Value} (w : Wk κ l Z own nm code ml (some rt) R n0 h cells slots pc Ls (v :: St)) {Q : Option Value → Heap → Prop} {C S : Nat} (hd : decode code pc = .ok (.areturn, 1)) (hrt : rt.isReference = true) (hn : narrow rt v = v) (hv : v.isRef = true) (hQ : Q (some v) h) (hc : cells ≤ C) (hs : slots ≤ S) : Dn κ n0 Q C S := by
  obtain ⟨p, e, s, m, args, below, meth, c, S0⟩ := κ
  obtain ⟨⟨hx, hby, hml, hret, hlk, hnm, hZ, hown⟩, T, locs, X, N, eT, st⟩ := w
  obtain ⟨fs, hr, hrun, hended, hW, hsame⟩ := X.leave (v := some v) (fun hh => by rw [hret] at hh; cases hh) hlk
  exact ⟨_, _, st _ (retOut X hx hret hn (Or.inr (Or.inr (Or.inr (Or.inr ⟨rfl, hrt, hv⟩)))) (hb hby hd) hr), hrun, hended, _, _, rfl, ⟨by rw [show (T.setFrames fs).heap = h from eT]; exact hQ, N⟩, ⟨_, rfl⟩, hW, hsame.mono hc hs⟩
theorem Wk.retV (w : Wk κ l Z own nm code ml none R n0 h cells slots pc Ls []) {Q : Option Value → Heap → Prop} {C S : Nat} (hd : decode code pc = .ok (.return_, 1)) (hQ : Q none h) (hc : cells ≤ C) (hs : slots ≤ S) : Dn κ n0 Q C S := by
  obtain ⟨p, e, s, m, args, below, meth, c, S0⟩ := κ
  obtain ⟨⟨hx, hby, hml, hret, hlk, hnm, hZ, hown⟩, T, locs, X, N, eT, st⟩ := w
  obtain ⟨fs, hr, hrun, hended, hW, hsame⟩ := X.leave (v := none) (fun hh => rfl) hlk
  exact ⟨_, _, st _ (X.returnOut hx hret (hb hby hd) hr), hrun, hended, _, _, rfl, ⟨by rw [show (T.setFrames fs).heap = h from eT]; exact hQ, N⟩, ⟨_, rfl⟩, hW, hsame.mono hc hs⟩
/-! the heap -/
theorem Wk.getF {a : Nat} (w : Wk κ l Z own nm code ml ret R n0 h cells slots pc Ls (.ref a :: St)) {O n d : String} {i : Nat} {v : Value} (wd : (Cond.fieldLink own i O n d).before a0 Z = true) (F : Fld Z h a O n d v) (hd : decode code pc = .ok (.getfield i, 3)) (hq : pc + 3 = q) : Wk κ l Z own nm code ml ret R n0 h cells slots q Ls (v :: St) := by
  subst hq; exact w.stepT fun hx hby _ hZ hown X eT => Jvm.RoadKit.getF X hx hZ hown (host := "") (Or.inl wd) Via.refl eT F (g := mkF _ pc Ls _) rfl rfl (hb hby hd)
theorem Wk.getS (w : Wk κ l Z own nm code ml ret R n0 h cells slots pc Ls St) {O n d : String} {i : Nat} {v : Value} (wd : (Cond.fieldLink own i O n d).before a0 Z = true) (F : Sta Z h O n d v) (hd : decode code pc = .ok (.getstatic i, 3)) (hq : pc + 3 = q) : Wk κ l Z own nm code ml ret R n0 h cells slots q Ls (v :: St) := by
  subst hq; exact w.stepT fun hx hby _ hZ hown X eT => Jvm.RoadKit.getS X hx hZ hown (host := "") wd Via.refl eT F (g := mkF _ pc Ls _) rfl (hb hby hd)
theorem Wk.putF {a : Nat} {v old : Value} (w : Wk κ l Z own nm code ml ret R n0 h cells slots pc Ls (v :: .ref a :: St)) {O n d C : String} {i kk : Nat} {ty : FieldType} (wd : (Cond.fieldLink own i O n d).before a0 Z = true) (F : Fld Z h a O n d old) (E : Exa Z h a C) (L : (Cond.lays C O n d).before a0 Z = true ∨ ((Cond.laysFinal C O n d).before a0 Z = true ∧ own = O ∧ nm = "<init>")) (wi : (Cond.instantiable C kk).before a0 Z = true)
    (hty : parseFieldDescriptor d = some ty) (hn : narrow ty v = v) (hf : fits ty v = true) (hd : decode code pc = .ok (.putfield i, 3)) (ge : n0 ≤ a) (hq : pc + 3 = q) : ∃ h', Wr h h' a (Jvm.RoadKit.slotOf Z O n d) v ∧ Wk κ l Z own nm code ml ret R n0 h' cells slots q Ls St := by
  obtain ⟨p, e, s, m, args, below, meth, c, S0⟩ := κ
  obtain ⟨hs, T, locs, X, N, eT, st⟩ := w
  subst hq
  obtain ⟨T', h', X', e', W, st'⟩ := Jvm.RoadKit.putF X hs.1 hs.2.2.2.2.2.2.1 hs.2.2.2.2.2.2.2 (host := "") (Or.inl wd) Via.refl eT F E (L.imp id fun q => ⟨q.1, q.2.1, hs.2.2.2.2.2.1.trans q.2.2⟩) wi hty hn hf (g := mkF m pc Ls _) rfl rfl (hb hs.2.1 hd)
  exact ⟨h', W, hs, T', _, X', Fr.snoc X' N ge, e', fun t k => st t (st' t k)⟩
theorem Wk.newO (w : Wk κ l Z own nm code ml ret R n0 h cells slots pc Ls St) {C : String} {i n : Nat} (w1 : (Cond.classLink own i C).before a0 Z = true) (w2 : (Cond.instantiable C n).before a0 Z = true) (w3 : (Cond.initialized C).before a0 Z = true) (hd : decode code pc = .ok (.new i, 3)) (hc : cells + 1 ≤ R.cells) (hl : slots + n ≤ R.slots) (hq : pc + 3 = q) :
    ∃ (h' : Heap) (a : Nat), a = h.size ∧ Ext h h' ∧ Exa Z h' a C ∧ (∀ {O nm d : String} {ty : FieldType}, Laid Z a0 C O nm d → parseFieldDescriptor d = some ty → Fld Z h' a O nm d (defaultValue ty)) ∧ Wk κ l Z own nm code ml ret R n0 h' (cells + 1) (slots + n) q Ls (.ref a :: St) := by
  obtain ⟨p, e, s, m, args, below, meth, c, S0⟩ := κ
  obtain ⟨hs, T, locs, X, N, eT, st⟩ := w
  subst hq
  obtain ⟨T', h', X', e', E, A, D, -, st'⟩ := Jvm.RoadKit.newO X hs.1 hs.2.2.2.2.2.2.1 hs.2.2.2.2.2.2.2 w1 w2 w3 eT (g := mkF m pc Ls St) rfl (hb hs.2.1 hd) hc hl
  exact ⟨h', _, rfl, E, A, D, hs, T', _, X', N, e', fun t k => st t (st' t k)⟩
theorem Wk.newP {z : Int32} (w : Wk κ l Z own nm code ml ret R n0 h cells slots pc Ls (.int z :: St)) {aty : ArrayType} {ty : FieldType} (w1 : (Cond.arrayClass ty).before a0 Z = true) (hty : newarray.typeOf aty = ty) (hd : decode code pc = .ok (.newarray aty, 2)) (hn : ¬ z < 0) {cap : Nat} (hcap : z.toNatClampNeg ≤ cap) (hbig : cap * 8 ≤ 536870912) (hc : cells + 1 ≤ R.cells) (hl : slots + cap ≤ R.slots) (hq : pc + 2 = q) :
    ∃ (h' : Heap) (a : Nat) (cA : ClassId), a = h.size ∧ Ext h h' ∧ Arr Z h' a (newA cA ty z) ty ∧ Wk κ l Z own nm code ml ret R n0 h' (cells + 1) (slots + cap) q Ls (.ref a :: St) := by
  obtain ⟨p, e, s, m, args, below, meth, c, S0⟩ := κ
  obtain ⟨hs, T, locs, X, N, eT, st⟩ := w
  subst hq hty
  obtain ⟨T', h', cA, X', e', E, A, st'⟩ := Jvm.RoadKit.newP X hs.1 hs.2.2.2.2.2.2.1 w1 eT (g := mkF m pc Ls _) rfl (hb hs.2.1 hd) rfl hn hcap hbig hc hl
  exact ⟨h', _, cA, rfl, E, A, hs, T', _, X', N, e', fun t k => st t (st' t k)⟩
theorem Wk.newR {z : Int32} (w : Wk κ l Z own nm code ml ret R n0 h cells slots pc Ls (.int z :: St)) {C : String} {i : Nat} (w1 : (Cond.classLink own i C).before a0 Z = true) (w2 : (Cond.arrayOver (.object C)).before a0 Z = true) (hd : decode code pc = .ok (.anewarray i, 3)) (hn : ¬ z < 0) {cap : Nat} (hcap : z.toNatClampNeg ≤ cap) (hbig : cap * 8 ≤ 536870912) (hc : cells + 1 ≤ R.cells) (hl : slots + cap ≤ R.slots) (hq : pc + 3 = q) :
    ∃ (h' : Heap) (a : Nat) (cA : ClassId), a = h.size ∧ Ext h h' ∧ Arr Z h' a (newA cA (.object C) z) (.object C) ∧ Ovr Z cA C ∧ Wk κ l Z own nm code ml ret R n0 h' (cells + 1) (slots + cap) q Ls (.ref a :: St) := by
  obtain ⟨p, e, s, m, args, below, meth, c, S0⟩ := κ
  obtain ⟨hs, T, locs, X, N, eT, st⟩ := w
  subst hq
  obtain ⟨T', h', cA, X', e', E, A, O, st'⟩ := Jvm.RoadKit.newR X hs.1 hs.2.2.2.2.2.2.1 hs.2.2.2.2.2.2.2 w1 w2 eT (g := mkF m pc Ls _) rfl (hb hs.2.1 hd) rfl hn hcap hbig hc hl
  exact ⟨h', _, cA, rfl, E, A, O, hs, T', _, X', N, e', fun t k => st t (st' t k)⟩
theorem Wk.stI {a : Nat} {j x : Int32} (w : Wk κ l Z own nm code ml ret R n0 h cells slots pc Ls (.int x :: .int j :: .ref a :: St)) {cl : Cell} (A : Arr Z h a cl .int) (hj : ¬ (j < 0 ∨ cl.slots.size ≤ j.toNatClampNeg)) (hd : decode code pc = .ok (.iastore, 1)) (ge : n0 ≤ a) (hq : pc + 1 = q) : ∃ h', Wr h h' a j.toNatClampNeg (.int x) ∧ Wk κ l Z own nm code ml ret R n0 h' cells slots q Ls St := by
  obtain ⟨p, e, s, m, args, below, meth, c, S0⟩ := κ
  obtain ⟨hs, T, locs, X, N, eT, st⟩ := w
  subst hq
  obtain ⟨T', h', X', e', W, st'⟩ := Jvm.RoadKit.stI X hs.1 hs.2.2.2.2.2.2.1 eT A hj (g := mkF m pc Ls _) rfl rfl (hb hs.2.1 hd)
  exact ⟨h', W, hs, T', _, X', Fr.snoc X' N ge, e', fun t k => st t (st' t k)⟩
theorem Wk.stB {a : Nat} {j x : Int32} (w : Wk κ l Z own nm code ml ret R n0 h cells slots pc Ls (.int x :: .int j :: .ref a :: St)) {cl : Cell} (A : Arr Z h a cl .byte) (hj : ¬ (j < 0 ∨ cl.slots.size ≤ j.toNatClampNeg)) (hd : decode code pc = .ok (.bastore, 1)) (ge : n0 ≤ a) (hq : pc + 1 = q) : ∃ h', Wr h h' a j.toNatClampNeg (.int (nar .byte x)) ∧ Wk κ l Z own nm code ml ret R n0 h' cells slots q Ls St := by
  obtain ⟨p, e, s, m, args, below, meth, c, S0⟩ := κ
  obtain ⟨hs, T, locs, X, N, eT, st⟩ := w
  subst hq
  obtain ⟨T', h', X', e', W, st'⟩ := Jvm.RoadKit.stB X hs.1 hs.2.2.2.2.2.2.1 eT A hj (g := mkF m pc Ls _) rfl rfl (hb hs.2.1 hd)
  exact ⟨h', W, hs, T', _, X', Fr.snoc X' N ge, e', fun t k => st t (st' t k)⟩
theorem Wk.stD {a : Nat} {j : Int32} {x : UInt64} (w : Wk κ l Z own nm code ml ret R n0 h cells slots pc Ls (.double x :: .int j :: .ref a :: St)) {cl : Cell} (A : Arr Z h a cl .double) (hj : ¬ (j < 0 ∨ cl.slots.size ≤ j.toNatClampNeg)) (hd : decode code pc = .ok (.dastore, 1)) (ge : n0 ≤ a) (hq : pc + 1 = q) : ∃ h', Wr h h' a j.toNatClampNeg (.double x) ∧ Wk κ l Z own nm code ml ret R n0 h' cells slots q Ls St := by
  obtain ⟨p, e, s, m, args, below, meth, c, S0⟩ := κ
  obtain ⟨hs, T, locs, X, N, eT, st⟩ := w
  subst hq
  obtain ⟨T', h', X', e', W, st'⟩ := Jvm.RoadKit.stD X hs.1 hs.2.2.2.2.2.2.1 eT A hj (g := mkF m pc Ls _) rfl rfl (hb hs.2.1 hd)
  exact ⟨h', W, hs, T', _, X', Fr.snoc X' N ge, e', fun t k => st t (st' t k)⟩
theorem Wk.stR {a : Nat} {j : Int32} {v : Value} (w : Wk κ l Z own nm code ml ret R n0 h cells slots pc Ls (v :: .int j :: .ref a :: St)) {cl : Cell} {ty : FieldType} (A : Arr Z h a cl ty) (hj : ¬ (j < 0 ∨ cl.slots.size ≤ j.toNatClampNeg)) (hty : ty.isReference = true) (F : Sto Z h a v) (hd : decode code pc = .ok (.aastore, 1)) (ge : n0 ≤ a) (hq : pc + 1 = q) : ∃ h', Wr h h' a j.toNatClampNeg v ∧ Wk κ l Z own nm code ml ret R n0 h' cells slots q Ls St := by
  obtain ⟨p, e, s, m, args, below, meth, c, S0⟩ := κ
  obtain ⟨hs, T, locs, X, N, eT, st⟩ := w
  subst hq
  obtain ⟨T', h', X', e', W, st'⟩ := Jvm.RoadKit.stR X hs.1 hs.2.2.2.2.2.2.1 eT A hj hty F (g := mkF m pc Ls _) rfl rfl (hb hs.2.1 hd)
  exact ⟨h', W, hs, T', _, X', Fr.snoc X' N ge, e', fun t k => st t (st' t k)⟩
theorem Wk.ldI {a : Nat} {j : Int32} {v : Value} (w : Wk κ l Z own nm code ml ret R n0 h cells slots pc Ls (.int j :: .ref a :: St)) {cl : Cell} (A : Arr Z h a cl .int) (hj : ¬ (j < 0 ∨ cl.slots.size ≤ j.toNatClampNeg)) (hv : cl.slots[j.toNatClampNeg]? = some v) (hd : decode code pc = .ok (.iaload, 1)) (hq : pc + 1 = q) : Wk κ l Z own nm code ml ret R n0 h cells slots q Ls (v :: St) := by
  subst hq; exact w.stepX fun hx hby hZ _ X eT k => X.iaload hx (j := j) (v := v) (by rw [eT]; exact A.1) (State.isArrayOf_alike hZ.alike A.2.1) A.2.2 hj hv (g := mkF _ pc Ls _) rfl rfl (hb hby hd) _ k
theorem Wk.ldB {a : Nat} {j : Int32} {v : Value} (w : Wk κ l Z own nm code ml ret R n0 h cells slots pc Ls (.int j :: .ref a :: St)) {cl : Cell} (A : Arr Z h a cl .byte) (hj : ¬ (j < 0 ∨ cl.slots.size ≤ j.toNatClampNeg)) (hv : cl.slots[j.toNatClampNeg]? = some v) (hd : decode code pc = .ok (.baload, 1)) (hq : pc + 1 = q) : Wk κ l Z own nm code ml ret R n0 h cells slots q Ls (v :: St) := by
  subst hq; exact w.stepX fun hx hby hZ _ X eT k => X.baloadBytes hx (j := j) (v := v) (by rw [eT]; exact A.1) (State.isArrayOf_alike hZ.alike A.2.1) A.2.2 hj hv (g := mkF _ pc Ls _) rfl rfl (hb hby hd) _ k
theorem Wk.ldD {a : Nat} {j : Int32} {v : Value} (w : Wk κ l Z own nm code ml ret R n0 h cells slots pc Ls (.int j :: .ref a :: St)) {cl : Cell} (A : Arr Z h a cl .double) (hj : ¬ (j < 0 ∨ cl.slots.size ≤ j.toNatClampNeg)) (hv : cl.slots[j.toNatClampNeg]? = some v) (hd : decode code pc = .ok (.daload, 1)) (hq : pc + 1 = q) : Wk κ l Z own nm code ml ret R n0 h cells slots q Ls (v :: St) := by
  subst hq; exact w.stepX fun hx hby hZ _ X eT k => X.daload hx (j := j) (v := v) (by rw [eT]; exact A.1) (State.isArrayOf_alike hZ.alike A.2.1) A.2.2 hj hv (g := mkF _ pc Ls _) rfl rfl (hb hby hd) _ k
theorem Wk.ldR {a : Nat} {j : Int32} {v : Value} (w : Wk κ l Z own nm code ml ret R n0 h cells slots pc Ls (.int j :: .ref a :: St)) {cl : Cell} {ty : FieldType} (A : Arr Z h a cl ty) (hty : ty.isReference = true) (hj : ¬ (j < 0 ∨ cl.slots.size ≤ j.toNatClampNeg)) (hv : cl.slots[j.toNatClampNeg]? = some v) (hd : decode code pc = .ok (.aaload, 1)) (hq : pc + 1 = q) : Wk κ l Z own nm code ml ret R n0 h cells slots q Ls (v :: St) := by
  subst hq; exact w.stepX fun hx hby hZ _ X eT k => X.aaload hx (j := j) (v := v) (by rw [eT]; exact A.1) (State.isArrayOf_alike hZ.alike A.2.1) hty A.2.2 hj hv (g := mkF _ pc Ls _) rfl rfl (hb hby hd) _ k
theorem Wk.len {a : Nat} {z : Int32} (w : Wk κ l Z own nm code ml ret R n0 h cells slots pc Ls (.ref a :: St)) {cl : Cell} {ty : FieldType} (A : Arr Z h a cl ty) (hz : cl.slots.size.toInt32 = z) (hd : decode code pc = .ok (.arraylength, 1)) (hq : pc + 1 = q) : Wk κ l Z own nm code ml ret R n0 h cells slots q Ls (.int z :: St) := by
  subst hq hz; exact w.stepX fun hx hby hZ _ X eT k => X.arraylength hx (by rw [eT]; exact A.1) (State.isArrayOf_alike hZ.alike A.2.1) (g := mkF _ pc Ls _) rfl rfl (hb hby hd) _ k
/-! calls -/
theorem Wk.initO {a : Nat} (w : Wk κ l Z own nm code ml ret R n0 h cells slots pc Ls (.ref a :: St)) {i : Nat} (w1 : (Cond.methodLink own i Lib.objectInit).before a0 Z = true) (w2 : (Cond.instanceMethod Lib.objectInit).before a0 Z = true) (w3 : (Cond.code Lib.objectInit ⟨#[0xb1]⟩ 1 none).before a0 Z = true) (hd : decode code pc = .ok (.invokespecial i, 3)) (hsz : Ls.size = ml) (hf : 1 ≤ R.frames) {W : Nat} (hW : (St.map fun v => v.category).sum ≤ W) (hl : W + 12 ≤ R.locals) (hq : pc + 3 = q) : Wk κ l Z own nm code ml ret R n0 h cells slots q Ls St := by
  subst hq; exact w.stepT fun hx hby hml hZ hown X eT => Jvm.RoadKit.initO X hx hZ hown w1 w2 w3 eT (g := mkF _ pc Ls _) rfl (hsz.trans hml.symm) rfl (hb hby hd) hf (W := W) (by show 2 * 0 + _ ≤ _; omega) hl
theorem Wk.callS (w : Wk κ l Z own nm code ml ret R n0 h cells slots pc Ls St) {y : MethodName} {i : Nat} {by0 : ByteArray} {ml' : Nat} {rt : Option FieldType} {rm : Room} {Q : Option Value → Heap → Prop} {argsL rest : List Value} (hM : Met l Z y by0 ml' rt rm n0 argsL.toArray h Q)
    (w1 : (Cond.methodLink own i y).before a0 Z = true) (w2 : (Cond.static y).before a0 Z = true) (w3 : (Cond.initialized y.cls).before a0 Z = true) (w4 : (Cond.code y by0 ml' rt).before a0 Z = true) (hy : y.cls ≠ "java/lang/invoke/MethodHandle" ∧ y.cls ≠ "java/lang/invoke/VarHandle")
    (hd : decode code pc = .ok (.invokestatic i, 3)) (hlen : ∀ sig, parseMethodDescriptor y.desc = some sig → argsL.length = sig.parameters.length) (hst : St = argsL.reverse ++ rest) (hsz : Ls.size = ml) (hf : rm.frames + 1 ≤ R.frames) {W : Nat} (hW : (rest.map fun v => v.category).sum ≤ W) (hl : W + (ml' + 11) + rm.locals ≤ R.locals) (hc : cells + rm.cells ≤ R.cells) (hs : slots + rm.slots ≤ R.slots) (hq : pc + 3 = q) :
    ∃ v h', Q v h' ∧ ∀ St', v.toList ++ rest = St' → Wk κ l Z own nm code ml ret R n0 h' (cells + rm.cells) (slots + rm.slots) q Ls St' := by
  obtain ⟨p, e, s, m, args, below, meth, c, S0⟩ := κ
  obtain ⟨g1, T, locs, X, N, eT, st⟩ := w
  subst hq hst
  have hZ := g1.2.2.2.2.2.2.1
  obtain ⟨v, _, ⟨T', L', k', n'⟩, -, X', ⟨Lc, hQ, l1, y1, z1⟩, st'⟩ := Jvm.LawKit.callS X g1.1 (y := y) g1.2.2.2.2.2.2.2 (mvT hZ w1) (mvT hZ w2) (mvT hZ w3) (mvT hZ w4) hy (backOf (W := W) (Q := fun v h L => Q v h ∧ Fr n0 L) (hM []) hZ w4 w3 hf hl) (g := mkF m pc Ls _) rfl (hsz.trans g1.2.2.1.symm) (argsL := argsL) (rest := rest) hlen rfl (by show 2 * 0 + _ ≤ _; omega) (hb g1.2.1 hd) (fun _ _ => ⟨rfl, eT, hc, hs⟩)
  dsimp only [Pt.U, Pt.locs, Pt.cells, Pt.slots] at X' l1 y1 z1 st' hQ
  subst l1 y1 z1
  exact ⟨v, _, hQ.1, fun St' hS => by subst hS; exact ⟨g1, T', _, X', N.app hQ.2, rfl, fun t k => st t (st' t k)⟩⟩
theorem Wk.callI {a : Nat} (w : Wk κ l Z own nm code ml ret R n0 h cells slots pc Ls St) {y : MethodName} {i : Nat} {by0 : ByteArray} {ml' : Nat} {rm : Room} {Q : Option Value → Heap → Prop} {argsL rest : List Value} (hM : Met l Z y by0 ml' none rm n0 (.ref a :: argsL).toArray h Q) (hy1 : y.name = "<init>")
    (w1 : (Cond.methodLink own i y).before a0 Z = true) (w2 : (Cond.instanceMethod y).before a0 Z = true) (w3 : (Cond.initialized y.cls).before a0 Z = true) (w4 : (Cond.code y by0 ml' none).before a0 Z = true) (hy : y.cls ≠ "java/lang/invoke/MethodHandle" ∧ y.cls ≠ "java/lang/invoke/VarHandle")
    (hd : decode code pc = .ok (.invokespecial i, 3)) (hlen : ∀ sig, parseMethodDescriptor y.desc = some sig → argsL.length = sig.parameters.length) (hst : St = argsL.reverse ++ .ref a :: rest) (hsz : Ls.size = ml) (hf : rm.frames + 1 ≤ R.frames) {W : Nat} (hW : (rest.map fun v => v.category).sum ≤ W) (hl : W + (ml' + 11) + rm.locals ≤ R.locals) (hc : cells + rm.cells ≤ R.cells) (hs : slots + rm.slots ≤ R.slots) (hq : pc + 3 = q) :
    ∃ v h', Q v h' ∧ ∀ St', v.toList ++ rest = St' → Wk κ l Z own nm code ml ret R n0 h' (cells + rm.cells) (slots + rm.slots) q Ls St' := by
  obtain ⟨p, e, s, m, args, below, meth, c, S0⟩ := κ
  obtain ⟨g1, T, locs, X, N, eT, st⟩ := w
  subst hq hst
  have hZ := g1.2.2.2.2.2.2.1
  obtain ⟨v, _, ⟨T', L', k', n'⟩, -, X', ⟨Lc, hQ, l1, y1, z1⟩, st'⟩ := X.specialBack g1.1 (y := y) hy1 g1.2.2.2.2.2.2.2 (mvT hZ w1) (mvT hZ w2) (mvT hZ w4) hy (backOf (W := W) (Q := fun v h L => Q v h ∧ Fr n0 L) (hM []) hZ w4 w3 hf hl) (g := mkF m pc Ls _) rfl (hsz.trans g1.2.2.1.symm) (Steps.refl _) (a := a) (argsL := argsL) (rest := rest) hlen rfl (by show 2 * 0 + _ ≤ _; omega) (hb g1.2.1 hd) (fun _ _ => ⟨rfl, eT, hc, hs⟩)
  dsimp only [Pt.U, Pt.locs, Pt.cells, Pt.slots] at X' l1 y1 z1 st' hQ
  subst l1 y1 z1
  exact ⟨v, _, hQ.1, fun St' hS => by subst hS; exact ⟨g1, T', _, X', N.app hQ.2, rfl, fun t k => st t (st'.trans k)⟩⟩
theorem Wk.callV {a : Nat} (w : Wk κ l Z own nm code ml ret R n0 h cells slots pc Ls St) {y : MethodName} {C : String} {i : Nat} {by0 : ByteArray} {ml' : Nat} {rt : Option FieldType} {rm : Room} {Q : Option Value → Heap → Prop} {argsL rest : List Value} (hM : Met l Z y by0 ml' rt rm n0 (.ref a :: argsL).toArray h Q) (E : Exa Z h a C)
    (w1 : (Cond.methodLink own i y).before a0 Z = true) (w5 : (Cond.declares y).before a0 Z = true) (w6 : (Cond.selects C y y).before a0 Z = true) (w2 : (Cond.instanceMethod y).before a0 Z = true) (w3 : (Cond.initialized y.cls).before a0 Z = true) (w4 : (Cond.code y by0 ml' rt).before a0 Z = true) (hy : y.cls ≠ "java/lang/invoke/MethodHandle" ∧ y.cls ≠ "java/lang/invoke/VarHandle")
    (hd : decode code pc = .ok (.invokevirtual i, 3)) (hlen : ∀ sig, parseMethodDescriptor y.desc = some sig → argsL.length = sig.parameters.length) (hst : St = argsL.reverse ++ .ref a :: rest) (hsz : Ls.size = ml) (hf : rm.frames + 1 ≤ R.frames) {W : Nat} (hW : (rest.map fun v => v.category).sum ≤ W) (hl : W + (ml' + 11) + rm.locals ≤ R.locals) (hc : cells + rm.cells ≤ R.cells) (hs : slots + rm.slots ≤ R.slots) (hq : pc + 3 = q) :
    ∃ v h', Q v h' ∧ ∀ St', v.toList ++ rest = St' → Wk κ l Z own nm code ml ret R n0 h' (cells + rm.cells) (slots + rm.slots) q Ls St' := by
  obtain ⟨p, e, s, m, args, below, meth, c, S0⟩ := κ
  obtain ⟨g1, T, locs, X, N, eT, st⟩ := w
  subst hq hst
  have hZ := g1.2.2.2.2.2.2.1
  obtain ⟨cq, kq, qa, qb, qc⟩ := isOf hZ eT E
  obtain ⟨v, _, ⟨T', L', k', n'⟩, -, X', ⟨Lc, hQ, l1, y1, z1⟩, st'⟩ := X.virtualBack g1.1 (y := y) (z := y) g1.2.2.2.2.2.2.2 (mvT hZ w1) (mvT hZ w5) (notFace_of_selects (args := #[]) (mvT hZ w6)) (mvT hZ w6) (mvT hZ w2) hy (backOf (W := W) (Q := fun v h L => Q v h ∧ Fr n0 L) (hM []) hZ w4 w3 hf hl) qa qc (g := mkF m pc Ls _) rfl (hsz.trans g1.2.2.1.symm) (Steps.refl _) (argsL := argsL) (rest := rest) hlen rfl (by show 2 * 0 + _ ≤ _; omega) (hb g1.2.1 hd) (fun _ _ => ⟨rfl, eT, hc, hs⟩)
  dsimp only [Pt.U, Pt.locs, Pt.cells, Pt.slots] at X' l1 y1 z1 st' hQ
  subst l1 y1 z1
  exact ⟨v, _, hQ.1, fun St' hS => by subst hS; exact ⟨g1, T', _, X', N.app hQ.2, rfl, fun t k => st t (st'.trans k)⟩⟩
end Own
end Jvm.OwnKit
@@BLOCK:HandJ.lean.txt@@
@@BLOCK:SymMore.lean.txt@@
namespace Jvm.OwnKit
open Sem ClassFile Op Lib Jvm.Stand Jvm.Free Jvm.LawKit Jvm.RoadKit
/-- an array, by the list of what it holds -/
def Arl (Z : State) (h : Heap) (t : Addr) (ty : FieldType) (vs : List Value) : Prop := ∃ cl : Cell, Arr Z h t cl ty ∧ cl.slots = vs.toArray
section Own2
variable {κ : Cx} {l : Launch} {Z : State} {own nm : String} {code : ByteArray} {ml : Nat} {ret : Option FieldType} {R : Room} {n0 : Nat} {h h' : Heap} {cells slots pc q : Nat} {Ls : Array Slot} {St : List Value} {a0 : Array Value} {t b : Nat} {ty : FieldType} {vs : List Value} {v : Value} {sl k : Nat}
theorem Arl.lt (F : Arl Z h t ty vs) : t < h.size := by obtain ⟨cl, A, -⟩ := F; exact A.lt
theorem Arl.ext (F : Arl Z h t ty vs) (E : Ext h h') : Arl Z h' t ty vs := by obtain ⟨cl, A, e⟩ := F; exact ⟨cl, A.ext E, e⟩
theorem Arl.far (F : Arl Z h t ty vs) (W : Wr h h' b sl v) (ne : t ≠ b) : Arl Z h' t ty vs := by obtain ⟨cl, A, e⟩ := F; exact ⟨cl, A.other W ne, e⟩
theorem Arl.keep {ws : List Addr} (F : Arl Z h t ty vs) (K : Keep h h' ws) (q : t ∉ ws) : Arl Z h' t ty vs := by obtain ⟨cl, A, e⟩ := F; exact ⟨cl, ⟨K.2.1 t cl A.1 q, A.2⟩, e⟩
theorem Arl.put (F : Arl Z h t ty vs) (W : Wr h h' t k v) : Arl Z h' t ty (vs.set k v) := by
  obtain ⟨cl, A, e⟩ := F
  refine ⟨_, A.same W, ?_⟩
  show cl.slots.setIfInBounds k v = _
  rw [e, List.setIfInBounds_toArray]
theorem Arl.new {cA : ClassId} {z : Int32} (A : Arr Z h t (newA cA ty z) ty) (e : Array.replicate z.toNatClampNeg (defaultValue ty) = vs.toArray) : Arl Z h t ty vs := ⟨_, A, e⟩
theorem in_list {j : Int32} {cl : Cell} (e : cl.slots = vs.toArray) (hj : j.toInt = k) (hk : k < vs.length) : ¬ (j < 0 ∨ cl.slots.size ≤ j.toNatClampNeg) := by
  have e1 : (0 : Int32).toInt = 0 := rfl
  have e2 : j.toNatClampNeg = j.toInt.toNat := rfl
  have e3 : cl.slots.size = vs.length := by rw [e]; simp
  rw [Int32.lt_iff_toInt_lt]
  omega
theorem at_list {j : Int32} {cl : Cell} (e : cl.slots = vs.toArray) (hj : j.toInt = k) (hv : vs[k]? = some v) : cl.slots[j.toNatClampNeg]? = some v := by
  have e2 : j.toNatClampNeg = k := by show j.toInt.toNat = k; omega
  rw [e, e2]; simpa using hv
theorem ltl {i n : Nat} (e : Nat.ble (i + 1) n = true) : i < n := Nat.le_of_ble_eq_true e
theorem lt_list (hv : vs[k]? = some v) : k < vs.length := (List.getElem?_eq_some_iff.mp hv).1
theorem Wk.ldIl {j : Int32} (w : Wk κ l Z own nm code ml ret R n0 h cells slots pc Ls (.int j :: .ref t :: St)) (F : Arl Z h t .int vs) (k : Nat) (hj : j.toInt = k) (hv : vs[k]? = some v) (hd : decode code pc = .ok (.iaload, 1)) (hq : pc + 1 = q) : Wk κ l Z own nm code ml ret R n0 h cells slots q Ls (v :: St) := by
  obtain ⟨cl, A, e⟩ := F
  exact w.ldI A (in_list e hj (lt_list hv)) (at_list e hj hv) hd hq
theorem Wk.ldDl {j : Int32} (w : Wk κ l Z own nm code ml ret R n0 h cells slots pc Ls (.int j :: .ref t :: St)) (F : Arl Z h t .double vs) (k : Nat) (hj : j.toInt = k) (hv : vs[k]? = some v) (hd : decode code pc = .ok (.daload, 1)) (hq : pc + 1 = q) : Wk κ l Z own nm code ml ret R n0 h cells slots q Ls (v :: St) := by
  obtain ⟨cl, A, e⟩ := F
  exact w.ldD A (in_list e hj (lt_list hv)) (at_list e hj hv) hd hq
theorem Wk.stIl {j x : Int32} (w : Wk κ l Z own nm code ml ret R n0 h cells slots pc Ls (.int x :: .int j :: .ref t :: St)) (F : Arl Z h t .int vs) (k : Nat) (hj : j.toInt = k) (hk : k < vs.length) (ge : n0 ≤ t) (hd : decode code pc = .ok (.iastore, 1)) (hq : pc + 1 = q) : ∃ h', Wr h h' t k (.int x) ∧ Wk κ l Z own nm code ml ret R n0 h' cells slots q Ls St := by
  obtain ⟨cl, A, e⟩ := F
  have e2 : j.toNatClampNeg = k := by show j.toInt.toNat = k; omega
  have r := w.stI A (in_list e hj hk) hd ge hq
  rw [e2] at r
  exact r
theorem Wk.stDl {j : Int32} {x : UInt64} (w : Wk κ l Z own nm code ml ret R n0 h cells slots pc Ls (.double x :: .int j :: .ref t :: St)) (F : Arl Z h t .double vs) (k : Nat) (hj : j.toInt = k) (hk : k < vs.length) (ge : n0 ≤ t) (hd : decode code pc = .ok (.dastore, 1)) (hq : pc + 1 = q) : ∃ h', Wr h h' t k (.double x) ∧ Wk κ l Z own nm code ml ret R n0 h' cells slots q Ls St := by
  obtain ⟨cl, A, e⟩ := F
  have e2 : j.toNatClampNeg = k := by show j.toInt.toNat = k; omega
  have r := w.stD A (in_list e hj hk) hd ge hq
  rw [e2] at r
  exact r
theorem Wk.lenl {z : Int32} (w : Wk κ l Z own nm code ml ret R n0 h cells slots pc Ls (.ref t :: St)) (F : Arl Z h t ty vs) (hz : vs.length.toInt32 = z) (hd : decode code pc = .ok (.arraylength, 1)) (hq : pc + 1 = q) : Wk κ l Z own nm code ml ret R n0 h cells slots q Ls (.int z :: St) := by
  obtain ⟨cl, A, e⟩ := F
  exact w.len A (by rw [e]; simpa using hz) hd hq
theorem Wk.callP {a : Nat} (w : Wk κ l Z own nm code ml ret R n0 h cells slots pc Ls St) {y : MethodName} {i n : Nat} {by0 : ByteArray} {ml' : Nat} {rt : Option FieldType} {rm : Room} {Q : Option Value → Heap → Prop} {argsL rest : List Value} {C : String} (hM : Met l Z y by0 ml' rt rm n0 (.ref a :: argsL).toArray h Q) (E : Exa Z h a C)
    (w1 : (Cond.methodLink own i y).before a0 Z = true) (w5 : (Cond.privateMethod y).before a0 Z = true) (w6 : (Cond.instantiable y.cls n).before a0 Z = true) (w2 : (Cond.instanceMethod y).before a0 Z = true) (w3 : (Cond.initialized y.cls).before a0 Z = true) (w4 : (Cond.code y by0 ml' rt).before a0 Z = true) (hy : y.cls ≠ "java/lang/invoke/MethodHandle" ∧ y.cls ≠ "java/lang/invoke/VarHandle")
    (hd : decode code pc = .ok (.invokevirtual i, 3)) (hlen : ∀ sig, parseMethodDescriptor y.desc = some sig → argsL.length = sig.parameters.length) (hst : St = argsL.reverse ++ .ref a :: rest) (hsz : Ls.size = ml) (hf : rm.frames + 1 ≤ R.frames) {W : Nat} (hW : (rest.map fun v => v.category).sum ≤ W) (hl : W + (ml' + 11) + rm.locals ≤ R.locals) (hc : cells + rm.cells ≤ R.cells) (hs : slots + rm.slots ≤ R.slots) (hq : pc + 3 = q) :
    ∃ v h', Q v h' ∧ ∀ St', v.toList ++ rest = St' → Wk κ l Z own nm code ml ret R n0 h' (cells + rm.cells) (slots + rm.slots) q Ls St' := by
  obtain ⟨p, e, s, m, args, below, meth, c, S0⟩ := κ
  obtain ⟨g1, T, locs, X, N, eT, st⟩ := w
  subst hq hst
  have hZ := g1.2.2.2.2.2.2.1
  have hsel := Jvm.Kit.selects_private hy w6 w5 w2
  obtain ⟨cq, q1, q2⟩ := E.cell
  obtain ⟨v, _, ⟨T', L', k', n'⟩, -, X', ⟨Lc, hQ, l1, y1, z1⟩, st'⟩ := X.privateBack g1.1 (y := y) g1.2.2.2.2.2.2.2 (mvT hZ w1) (mvT hZ w2) (mvT hZ hsel) (Cond.privateMethod_at (mvP hZ w5 (args := #[]))) (mvT hZ w4) hy (backOf (W := W) (Q := fun v h L => Q v h ∧ Fr n0 L) (hM []) hZ w4 w3 hf hl) (g := mkF m pc Ls _) rfl (hsz.trans g1.2.2.1.symm) (Steps.refl _) (a := a) (by rw [eT]; exact q1) q2 (argsL := argsL) (rest := rest) hlen rfl (by show 2 * 0 + _ ≤ _; omega) (hb g1.2.1 hd) (fun _ _ => ⟨rfl, eT, hc, hs⟩)
  dsimp only [Pt.U, Pt.locs, Pt.cells, Pt.slots] at X' l1 y1 z1 st' hQ
  subst l1 y1 z1
  exact ⟨v, _, hQ.1, fun St' hS => by subst hS; exact ⟨g1, T', _, X', N.app hQ.2, rfl, fun t k => st t (st'.trans k)⟩⟩
end Own2
end Jvm.OwnKit
namespace Jvm.Pilot.@@N@@
open Jvm Jvm.ClassFile Sem Op Lib Jvm.Free Jvm.Stand Jvm.LawKit Jvm.RoadKit Jvm.OwnKit Bundle Jvm.Pilot.@@N@@.Jvm.D
theorem pn_0 : plainName "com/example/lucky_fork/luckyfork/model/GroupSums" = true := by first | (simp [plainName, overriddenIn]; done) | decide +kernel
theorem pn_1 : plainName "java/lang/Integer" = true := by first | (simp [plainName, overriddenIn]; done) | decide +kernel
theorem pn_2 : plainName "com/example/lucky_fork/luckyfork/model/GroupSumsFindByRatePinLaw" = true := by first | (simp [plainName, overriddenIn]; done) | decide +kernel
theorem pd_0 : parseMethodDescriptor "(I)I" = some ⟨[.int], (some .int)⟩ := by decide +kernel
theorem pd_1 : parseMethodDescriptor "(I)V" = some ⟨[.int], none⟩ := by decide +kernel
theorem pd_2 : parseMethodDescriptor "()V" = some ⟨[], none⟩ := by decide +kernel
theorem pd_3 : parseMethodDescriptor "(IDI)V" = some ⟨[.int, .double, .int], none⟩ := by decide +kernel
theorem pd_4 : parseMethodDescriptor "(D)I" = some ⟨[.double], (some .int)⟩ := by decide +kernel
theorem pd_5 : parseMethodDescriptor "()D" = some ⟨[], (some .double)⟩ := by decide +kernel
theorem pd_6 : parseMethodDescriptor "()I" = some ⟨[], (some .int)⟩ := by decide +kernel
theorem dp120m1_0 : decode prog_120_method_1_code 0 = .ok (.aload_n 0, 1) := by decide +kernel
theorem dp120m1_1 : decode prog_120_method_1_code 1 = .ok (.invokespecial 1, 3) := by decide +kernel
theorem dp120m1_4 : decode prog_120_method_1_code 4 = .ok (.aload_n 0, 1) := by decide +kernel
theorem dp120m1_5 : decode prog_120_method_1_code 5 = .ok (.iconst 1, 1) := by decide +kernel
theorem dp120m1_6 : decode prog_120_method_1_code 6 = .ok (.putfield 7, 3) := by decide +kernel
theorem dp120m1_9 : decode prog_120_method_1_code 9 = .ok (.aload_n 0, 1) := by decide +kernel
theorem dp120m1_10 : decode prog_120_method_1_code 10 = .ok (.iconst 2, 1) := by decide +kernel
theorem dp120m1_11 : decode prog_120_method_1_code 11 = .ok (.newarray .double, 2) := by decide +kernel
theorem dp120m1_13 : decode prog_120_method_1_code 13 = .ok (.putfield 13, 3) := by decide +kernel
theorem dp120m1_16 : decode prog_120_method_1_code 16 = .ok (.aload_n 0, 1) := by decide +kernel
theorem dp120m1_17 : decode prog_120_method_1_code 17 = .ok (.iconst 2, 1) := by decide +kernel
theorem dp120m1_18 : decode prog_120_method_1_code 18 = .ok (.newarray .int, 2) := by decide +kernel
theorem dp120m1_20 : decode prog_120_method_1_code 20 = .ok (.putfield 17, 3) := by decide +kernel
theorem dp120m1_23 : decode prog_120_method_1_code 23 = .ok (.aload_n 0, 1) := by decide +kernel
theorem dp120m1_24 : decode prog_120_method_1_code 24 = .ok (.bipush 8, 2) := by decide +kernel
theorem dp120m1_26 : decode prog_120_method_1_code 26 = .ok (.newarray .int, 2) := by decide +kernel
theorem dp120m1_28 : decode prog_120_method_1_code 28 = .ok (.putfield 21, 3) := by decide +kernel
theorem dp120m1_31 : decode prog_120_method_1_code 31 = .ok (.return_, 1) := by decide +kernel
theorem dp120m3_0 : decode prog_120_method_3_code 0 = .ok (.iload_n 1, 1) := by decide +kernel
theorem dp120m3_1 : decode prog_120_method_3_code 1 = .ok (.iconst 1, 1) := by decide +kernel
theorem dp120m3_2 : decode prog_120_method_3_code 2 = .ok (.if_icmp .gt 7, 3) := by decide +kernel
theorem dp120m3_5 : decode prog_120_method_3_code 5 = .ok (.iconst 1, 1) := by decide +kernel
theorem dp120m3_6 : decode prog_120_method_3_code 6 = .ok (.goto 11, 3) := by decide +kernel
theorem dp120m3_9 : decode prog_120_method_3_code 9 = .ok (.iload_n 1, 1) := by decide +kernel
theorem dp120m3_10 : decode prog_120_method_3_code 10 = .ok (.iconst 1, 1) := by decide +kernel
theorem dp120m3_11 : decode prog_120_method_3_code 11 = .ok (.isub, 1) := by decide +kernel
theorem dp120m3_12 : decode prog_120_method_3_code 12 = .ok (.invokestatic 35, 3) := by decide +kernel
theorem dp120m3_15 : decode prog_120_method_3_code 15 = .ok (.iconst 1, 1) := by decide +kernel
theorem dp120m3_16 : decode prog_120_method_3_code 16 = .ok (.ishl, 1) := by decide +kernel
theorem dp120m3_17 : decode prog_120_method_3_code 17 = .ok (.istore_n 2, 1) := by decide +kernel
theorem dp120m3_18 : decode prog_120_method_3_code 18 = .ok (.iload_n 2, 1) := by decide +kernel
theorem dp120m3_19 : decode prog_120_method_3_code 19 = .ok (.aload_n 0, 1) := by decide +kernel
theorem dp120m3_20 : decode prog_120_method_3_code 20 = .ok (.getfield 7, 3) := by decide +kernel
theorem dp120m3_23 : decode prog_120_method_3_code 23 = .ok (.if_icmp .eq 46, 3) := by decide +kernel
theorem dp120m3_26 : decode prog_120_method_3_code 26 = .ok (.aload_n 0, 1) := by decide +kernel
theorem dp120m3_27 : decode prog_120_method_3_code 27 = .ok (.iload_n 2, 1) := by decide +kernel
theorem dp120m3_28 : decode prog_120_method_3_code 28 = .ok (.putfield 7, 3) := by decide +kernel
theorem dp120m3_31 : decode prog_120_method_3_code 31 = .ok (.aload_n 0, 1) := by decide +kernel
theorem dp120m3_32 : decode prog_120_method_3_code 32 = .ok (.aload_n 0, 1) := by decide +kernel
theorem dp120m3_33 : decode prog_120_method_3_code 33 = .ok (.getfield 7, 3) := by decide +kernel
theorem dp120m3_36 : decode prog_120_method_3_code 36 = .ok (.invokestatic 41, 3) := by decide +kernel
theorem dp120m3_39 : decode prog_120_method_3_code 39 = .ok (.putfield 25, 3) := by decide +kernel
theorem dp120m3_42 : decode prog_120_method_3_code 42 = .ok (.aload_n 0, 1) := by decide +kernel
theorem dp120m3_43 : decode prog_120_method_3_code 43 = .ok (.iconst 2, 1) := by decide +kernel
theorem dp120m3_44 : decode prog_120_method_3_code 44 = .ok (.aload_n 0, 1) := by decide +kernel
theorem dp120m3_45 : decode prog_120_method_3_code 45 = .ok (.getfield 7, 3) := by decide +kernel
theorem dp120m3_48 : decode prog_120_method_3_code 48 = .ok (.imul, 1) := by decide +kernel
theorem dp120m3_49 : decode prog_120_method_3_code 49 = .ok (.newarray .double, 2) := by decide +kernel
theorem dp120m3_51 : decode prog_120_method_3_code 51 = .ok (.putfield 13, 3) := by decide +kernel
theorem dp120m3_54 : decode prog_120_method_3_code 54 = .ok (.aload_n 0, 1) := by decide +kernel
theorem dp120m3_55 : decode prog_120_method_3_code 55 = .ok (.iconst 2, 1) := by decide +kernel
theorem dp120m3_56 : decode prog_120_method_3_code 56 = .ok (.aload_n 0, 1) := by decide +kernel
theorem dp120m3_57 : decode prog_120_method_3_code 57 = .ok (.getfield 7, 3) := by decide +kernel
theorem dp120m3_60 : decode prog_120_method_3_code 60 = .ok (.imul, 1) := by decide +kernel
theorem dp120m3_61 : decode prog_120_method_3_code 61 = .ok (.newarray .int, 2) := by decide +kernel
theorem dp120m3_63 : decode prog_120_method_3_code 63 = .ok (.putfield 17, 3) := by decide +kernel
theorem dp120m3_66 : decode prog_120_method_3_code 66 = .ok (.goto 19, 3) := by decide +kernel
theorem dp120m3_69 : decode prog_120_method_3_code 69 = .ok (.aload_n 0, 1) := by decide +kernel
theorem dp120m3_70 : decode prog_120_method_3_code 70 = .ok (.getfield 13, 3) := by decide +kernel
theorem dp120m3_73 : decode prog_120_method_3_code 73 = .ok (.dconst 0, 1) := by decide +kernel
theorem dp120m3_74 : decode prog_120_method_3_code 74 = .ok (.invokestatic 44, 3) := by decide +kernel
theorem dp120m3_77 : decode prog_120_method_3_code 77 = .ok (.aload_n 0, 1) := by decide +kernel
theorem dp120m3_78 : decode prog_120_method_3_code 78 = .ok (.getfield 17, 3) := by decide +kernel
theorem dp120m3_81 : decode prog_120_method_3_code 81 = .ok (.iconst 0, 1) := by decide +kernel
theorem dp120m3_82 : decode prog_120_method_3_code 82 = .ok (.invokestatic 50, 3) := by decide +kernel
theorem dp120m3_85 : decode prog_120_method_3_code 85 = .ok (.aload_n 0, 1) := by decide +kernel
theorem dp120m3_86 : decode prog_120_method_3_code 86 = .ok (.iconst 0, 1) := by decide +kernel
theorem dp120m3_87 : decode prog_120_method_3_code 87 = .ok (.putfield 53, 3) := by decide +kernel
theorem dp120m3_90 : decode prog_120_method_3_code 90 = .ok (.aload_n 0, 1) := by decide +kernel
theorem dp120m3_91 : decode prog_120_method_3_code 91 = .ok (.iconst 0, 1) := by decide +kernel
theorem dp120m3_92 : decode prog_120_method_3_code 92 = .ok (.putfield 56, 3) := by decide +kernel
theorem dp120m3_95 : decode prog_120_method_3_code 95 = .ok (.return_, 1) := by decide +kernel
theorem dj33m45_0 : decode jdk_33_method_45_code 0 = .ok (.iload_n 0, 1) := by decide +kernel
theorem dj33m45_1 : decode jdk_33_method_45_code 1 = .ok (.ldc 127, 2) := by decide +kernel
theorem dj33m45_3 : decode jdk_33_method_45_code 3 = .ok (.iload_n 0, 1) := by decide +kernel
theorem dj33m45_4 : decode jdk_33_method_45_code 4 = .ok (.invokestatic 51, 3) := by decide +kernel
theorem dj33m45_7 : decode jdk_33_method_45_code 7 = .ok (.iushr, 1) := by decide +kernel
theorem dj33m45_8 : decode jdk_33_method_45_code 8 = .ok (.iand, 1) := by decide +kernel
theorem dj33m45_9 : decode jdk_33_method_45_code 9 = .ok (.ireturn, 1) := by decide +kernel
theorem dj33m47_0 : decode jdk_33_method_47_code 0 = .ok (.iload_n 0, 1) := by decide +kernel
theorem dj33m47_1 : decode jdk_33_method_47_code 1 = .ok (.ifCond .gt 14, 3) := by decide +kernel
theorem dj33m47_4 : decode jdk_33_method_47_code 4 = .ok (.iload_n 0, 1) := by decide +kernel
theorem dj33m47_5 : decode jdk_33_method_47_code 5 = .ok (.ifCond .ne 8, 3) := by decide +kernel
theorem dj33m47_8 : decode jdk_33_method_47_code 8 = .ok (.bipush 32, 2) := by decide +kernel
theorem dj33m47_10 : decode jdk_33_method_47_code 10 = .ok (.goto 4, 3) := by decide +kernel
theorem dj33m47_13 : decode jdk_33_method_47_code 13 = .ok (.iconst 0, 1) := by decide +kernel
theorem dj33m47_14 : decode jdk_33_method_47_code 14 = .ok (.ireturn, 1) := by decide +kernel
theorem dj33m47_15 : decode jdk_33_method_47_code 15 = .ok (.bipush 31, 2) := by decide +kernel
theorem dj33m47_17 : decode jdk_33_method_47_code 17 = .ok (.istore_n 1, 1) := by decide +kernel
theorem dj33m47_18 : decode jdk_33_method_47_code 18 = .ok (.iload_n 0, 1) := by decide +kernel
theorem dj33m47_19 : decode jdk_33_method_47_code 19 = .ok (.ldc_w 264, 3) := by decide +kernel
theorem dj33m47_22 : decode jdk_33_method_47_code 22 = .ok (.if_icmp .lt 11, 3) := by decide +kernel
theorem dj33m47_25 : decode jdk_33_method_47_code 25 = .ok (.iinc 1 (-16), 3) := by decide +kernel
theorem dj33m47_28 : decode jdk_33_method_47_code 28 = .ok (.iload_n 0, 1) := by decide +kernel
theorem dj33m47_29 : decode jdk_33_method_47_code 29 = .ok (.bipush 16, 2) := by decide +kernel
theorem dj33m47_31 : decode jdk_33_method_47_code 31 = .ok (.iushr, 1) := by decide +kernel
theorem dj33m47_32 : decode jdk_33_method_47_code 32 = .ok (.istore_n 0, 1) := by decide +kernel
theorem dj33m47_33 : decode jdk_33_method_47_code 33 = .ok (.iload_n 0, 1) := by decide +kernel
theorem dj33m47_34 : decode jdk_33_method_47_code 34 = .ok (.sipush 256, 3) := by decide +kernel
theorem dj33m47_37 : decode jdk_33_method_47_code 37 = .ok (.if_icmp .lt 11, 3) := by decide +kernel
theorem dj33m47_40 : decode jdk_33_method_47_code 40 = .ok (.iinc 1 (-8), 3) := by decide +kernel
theorem dj33m47_43 : decode jdk_33_method_47_code 43 = .ok (.iload_n 0, 1) := by decide +kernel
theorem dj33m47_44 : decode jdk_33_method_47_code 44 = .ok (.bipush 8, 2) := by decide +kernel
theorem dj33m47_46 : decode jdk_33_method_47_code 46 = .ok (.iushr, 1) := by decide +kernel
theorem dj33m47_47 : decode jdk_33_method_47_code 47 = .ok (.istore_n 0, 1) := by decide +kernel
theorem dj33m47_48 : decode jdk_33_method_47_code 48 = .ok (.iload_n 0, 1) := by decide +kernel
theorem dj33m47_49 : decode jdk_33_method_47_code 49 = .ok (.bipush 16, 2) := by decide +kernel
theorem dj33m47_51 : decode jdk_33_method_47_code 51 = .ok (.if_icmp .lt 10, 3) := by decide +kernel
theorem dj33m47_54 : decode jdk_33_method_47_code 54 = .ok (.iinc 1 (-4), 3) := by decide +kernel
theorem dj33m47_57 : decode jdk_33_method_47_code 57 = .ok (.iload_n 0, 1) := by decide +kernel
theorem dj33m47_58 : decode jdk_33_method_47_code 58 = .ok (.iconst 4, 1) := by decide +kernel
theorem dj33m47_59 : decode jdk_33_method_47_code 59 = .ok (.iushr, 1) := by decide +kernel
theorem dj33m47_60 : decode jdk_33_method_47_code 60 = .ok (.istore_n 0, 1) := by decide +kernel
theorem dj33m47_61 : decode jdk_33_method_47_code 61 = .ok (.iload_n 0, 1) := by decide +kernel
theorem dj33m47_62 : decode jdk_33_method_47_code 62 = .ok (.iconst 4, 1) := by decide +kernel
theorem dj33m47_63 : decode jdk_33_method_47_code 63 = .ok (.if_icmp .lt 10, 3) := by decide +kernel
theorem dj33m47_66 : decode jdk_33_method_47_code 66 = .ok (.iinc 1 (-2), 3) := by decide +kernel
theorem dj33m47_69 : decode jdk_33_method_47_code 69 = .ok (.iload_n 0, 1) := by decide +kernel
theorem dj33m47_70 : decode jdk_33_method_47_code 70 = .ok (.iconst 2, 1) := by decide +kernel
theorem dj33m47_71 : decode jdk_33_method_47_code 71 = .ok (.iushr, 1) := by decide +kernel
theorem dj33m47_72 : decode jdk_33_method_47_code 72 = .ok (.istore_n 0, 1) := by decide +kernel
theorem dj33m47_73 : decode jdk_33_method_47_code 73 = .ok (.iload_n 1, 1) := by decide +kernel
theorem dj33m47_74 : decode jdk_33_method_47_code 74 = .ok (.iload_n 0, 1) := by decide +kernel
theorem dj33m47_75 : decode jdk_33_method_47_code 75 = .ok (.iconst 1, 1) := by decide +kernel
theorem dj33m47_76 : decode jdk_33_method_47_code 76 = .ok (.iushr, 1) := by decide +kernel
theorem dj33m47_77 : decode jdk_33_method_47_code 77 = .ok (.isub, 1) := by decide +kernel
theorem dj33m47_78 : decode jdk_33_method_47_code 78 = .ok (.ireturn, 1) := by decide +kernel
theorem dj33m48_0 : decode jdk_33_method_48_code 0 = .ok (.iload_n 0, 1) := by decide +kernel
theorem dj33m48_1 : decode jdk_33_method_48_code 1 = .ok (.iconst (-1), 1) := by decide +kernel
theorem dj33m48_2 : decode jdk_33_method_48_code 2 = .ok (.ixor, 1) := by decide +kernel
theorem dj33m48_3 : decode jdk_33_method_48_code 3 = .ok (.iload_n 0, 1) := by decide +kernel
theorem dj33m48_4 : decode jdk_33_method_48_code 4 = .ok (.iconst 1, 1) := by decide +kernel
theorem dj33m48_5 : decode jdk_33_method_48_code 5 = .ok (.isub, 1) := by decide +kernel
theorem dj33m48_6 : decode jdk_33_method_48_code 6 = .ok (.iand, 1) := by decide +kernel
theorem dj33m48_7 : decode jdk_33_method_48_code 7 = .ok (.istore_n 0, 1) := by decide +kernel
theorem dj33m48_8 : decode jdk_33_method_48_code 8 = .ok (.iload_n 0, 1) := by decide +kernel
theorem dj33m48_9 : decode jdk_33_method_48_code 9 = .ok (.ifCond .gt 8, 3) := by decide +kernel
theorem dj33m48_12 : decode jdk_33_method_48_code 12 = .ok (.iload_n 0, 1) := by decide +kernel
theorem dj33m48_13 : decode jdk_33_method_48_code 13 = .ok (.bipush 32, 2) := by decide +kernel
theorem dj33m48_15 : decode jdk_33_method_48_code 15 = .ok (.iand, 1) := by decide +kernel
theorem dj33m48_16 : decode jdk_33_method_48_code 16 = .ok (.ireturn, 1) := by decide +kernel
theorem dj33m48_17 : decode jdk_33_method_48_code 17 = .ok (.iconst 1, 1) := by decide +kernel
theorem dj33m48_18 : decode jdk_33_method_48_code 18 = .ok (.istore_n 1, 1) := by decide +kernel
theorem dj33m48_19 : decode jdk_33_method_48_code 19 = .ok (.iload_n 0, 1) := by decide +kernel
theorem dj33m48_20 : decode jdk_33_method_48_code 20 = .ok (.ldc_w 264, 3) := by decide +kernel
theorem dj33m48_23 : decode jdk_33_method_48_code 23 = .ok (.if_icmp .le 11, 3) := by decide +kernel
theorem dj33m48_26 : decode jdk_33_method_48_code 26 = .ok (.iinc 1 16, 3) := by decide +kernel
theorem dj33m48_29 : decode jdk_33_method_48_code 29 = .ok (.iload_n 0, 1) := by decide +kernel
theorem dj33m48_30 : decode jdk_33_method_48_code 30 = .ok (.bipush 16, 2) := by decide +kernel
theorem dj33m48_32 : decode jdk_33_method_48_code 32 = .ok (.iushr, 1) := by decide +kernel
theorem dj33m48_33 : decode jdk_33_method_48_code 33 = .ok (.istore_n 0, 1) := by decide +kernel
theorem dj33m48_34 : decode jdk_33_method_48_code 34 = .ok (.iload_n 0, 1) := by decide +kernel
theorem dj33m48_35 : decode jdk_33_method_48_code 35 = .ok (.sipush 256, 3) := by decide +kernel
theorem dj33m48_38 : decode jdk_33_method_48_code 38 = .ok (.if_icmp .le 11, 3) := by decide +kernel
theorem dj33m48_41 : decode jdk_33_method_48_code 41 = .ok (.iinc 1 8, 3) := by decide +kernel
theorem dj33m48_44 : decode jdk_33_method_48_code 44 = .ok (.iload_n 0, 1) := by decide +kernel
theorem dj33m48_45 : decode jdk_33_method_48_code 45 = .ok (.bipush 8, 2) := by decide +kernel
theorem dj33m48_47 : decode jdk_33_method_48_code 47 = .ok (.iushr, 1) := by decide +kernel
theorem dj33m48_48 : decode jdk_33_method_48_code 48 = .ok (.istore_n 0, 1) := by decide +kernel
theorem dj33m48_49 : decode jdk_33_method_48_code 49 = .ok (.iload_n 0, 1) := by decide +kernel
theorem dj33m48_50 : decode jdk_33_method_48_code 50 = .ok (.bipush 16, 2) := by decide +kernel
theorem dj33m48_52 : decode jdk_33_method_48_code 52 = .ok (.if_icmp .le 10, 3) := by decide +kernel
theorem dj33m48_55 : decode jdk_33_method_48_code 55 = .ok (.iinc 1 4, 3) := by decide +kernel
theorem dj33m48_58 : decode jdk_33_method_48_code 58 = .ok (.iload_n 0, 1) := by decide +kernel
theorem dj33m48_59 : decode jdk_33_method_48_code 59 = .ok (.iconst 4, 1) := by decide +kernel
theorem dj33m48_60 : decode jdk_33_method_48_code 60 = .ok (.iushr, 1) := by decide +kernel
theorem dj33m48_61 : decode jdk_33_method_48_code 61 = .ok (.istore_n 0, 1) := by decide +kernel
theorem dj33m48_62 : decode jdk_33_method_48_code 62 = .ok (.iload_n 0, 1) := by decide +kernel
theorem dj33m48_63 : decode jdk_33_method_48_code 63 = .ok (.iconst 4, 1) := by decide +kernel
theorem dj33m48_64 : decode jdk_33_method_48_code 64 = .ok (.if_icmp .le 10, 3) := by decide +kernel
theorem dj33m48_67 : decode jdk_33_method_48_code 67 = .ok (.iinc 1 2, 3) := by decide +kernel
theorem dj33m48_70 : decode jdk_33_method_48_code 70 = .ok (.iload_n 0, 1) := by decide +kernel
theorem dj33m48_71 : decode jdk_33_method_48_code 71 = .ok (.iconst 2, 1) := by decide +kernel
theorem dj33m48_72 : decode jdk_33_method_48_code 72 = .ok (.iushr, 1) := by decide +kernel
theorem dj33m48_73 : decode jdk_33_method_48_code 73 = .ok (.istore_n 0, 1) := by decide +kernel
theorem dj33m48_74 : decode jdk_33_method_48_code 74 = .ok (.iload_n 1, 1) := by decide +kernel
theorem dj33m48_75 : decode jdk_33_method_48_code 75 = .ok (.iload_n 0, 1) := by decide +kernel
theorem dj33m48_76 : decode jdk_33_method_48_code 76 = .ok (.iconst 1, 1) := by decide +kernel
theorem dj33m48_77 : decode jdk_33_method_48_code 77 = .ok (.iushr, 1) := by decide +kernel
theorem dj33m48_78 : decode jdk_33_method_48_code 78 = .ok (.iadd, 1) := by decide +kernel
theorem dj33m48_79 : decode jdk_33_method_48_code 79 = .ok (.ireturn, 1) := by decide +kernel
theorem dp120m4_0 : decode prog_120_method_4_code 0 = .ok (.aload_n 0, 1) := by decide +kernel
theorem dp120m4_1 : decode prog_120_method_4_code 1 = .ok (.getfield 7, 3) := by decide +kernel
theorem dp120m4_4 : decode prog_120_method_4_code 4 = .ok (.iload_n 1, 1) := by decide +kernel
theorem dp120m4_5 : decode prog_120_method_4_code 5 = .ok (.iadd, 1) := by decide +kernel
theorem dp120m4_6 : decode prog_120_method_4_code 6 = .ok (.istore 5, 2) := by decide +kernel
theorem dp120m4_8 : decode prog_120_method_4_code 8 = .ok (.aload_n 0, 1) := by decide +kernel
theorem dp120m4_9 : decode prog_120_method_4_code 9 = .ok (.getfield 13, 3) := by decide +kernel
theorem dp120m4_12 : decode prog_120_method_4_code 12 = .ok (.iload 5, 2) := by decide +kernel
theorem dp120m4_14 : decode prog_120_method_4_code 14 = .ok (.dload_n 2, 1) := by decide +kernel
theorem dp120m4_15 : decode prog_120_method_4_code 15 = .ok (.dastore, 1) := by decide +kernel
theorem dp120m4_16 : decode prog_120_method_4_code 16 = .ok (.aload_n 0, 1) := by decide +kernel
theorem dp120m4_17 : decode prog_120_method_4_code 17 = .ok (.getfield 17, 3) := by decide +kernel
theorem dp120m4_20 : decode prog_120_method_4_code 20 = .ok (.iload 5, 2) := by decide +kernel
theorem dp120m4_22 : decode prog_120_method_4_code 22 = .ok (.iload 4, 2) := by decide +kernel
theorem dp120m4_24 : decode prog_120_method_4_code 24 = .ok (.iastore, 1) := by decide +kernel
theorem dp120m4_25 : decode prog_120_method_4_code 25 = .ok (.aload_n 0, 1) := by decide +kernel
theorem dp120m4_26 : decode prog_120_method_4_code 26 = .ok (.getfield 56, 3) := by decide +kernel
theorem dp120m4_29 : decode prog_120_method_4_code 29 = .ok (.ifCond .eq 4, 3) := by decide +kernel
theorem dp120m4_32 : decode prog_120_method_4_code 32 = .ok (.return_, 1) := by decide +kernel
theorem dp120m4_33 : decode prog_120_method_4_code 33 = .ok (.aload_n 0, 1) := by decide +kernel
theorem dp120m4_34 : decode prog_120_method_4_code 34 = .ok (.getfield 53, 3) := by decide +kernel
theorem dp120m4_37 : decode prog_120_method_4_code 37 = .ok (.aload_n 0, 1) := by decide +kernel
theorem dp120m4_38 : decode prog_120_method_4_code 38 = .ok (.getfield 25, 3) := by decide +kernel
theorem dp120m4_41 : decode prog_120_method_4_code 41 = .ok (.imul, 1) := by decide +kernel
theorem dp120m4_42 : decode prog_120_method_4_code 42 = .ok (.aload_n 0, 1) := by decide +kernel
theorem dp120m4_43 : decode prog_120_method_4_code 43 = .ok (.getfield 7, 3) := by decide +kernel
theorem dp120m4_46 : decode prog_120_method_4_code 46 = .ok (.if_icmp .lt 9, 3) := by decide +kernel
theorem dp120m4_49 : decode prog_120_method_4_code 49 = .ok (.aload_n 0, 1) := by decide +kernel
theorem dp120m4_50 : decode prog_120_method_4_code 50 = .ok (.iconst 1, 1) := by decide +kernel
theorem dp120m4_51 : decode prog_120_method_4_code 51 = .ok (.putfield 56, 3) := by decide +kernel
theorem dp120m4_54 : decode prog_120_method_4_code 54 = .ok (.return_, 1) := by decide +kernel
theorem dp120m4_55 : decode prog_120_method_4_code 55 = .ok (.aload_n 0, 1) := by decide +kernel
theorem dp120m4_56 : decode prog_120_method_4_code 56 = .ok (.getfield 53, 3) := by decide +kernel
theorem dp120m4_59 : decode prog_120_method_4_code 59 = .ok (.aload_n 0, 1) := by decide +kernel
theorem dp120m4_60 : decode prog_120_method_4_code 60 = .ok (.getfield 21, 3) := by decide +kernel
theorem dp120m4_63 : decode prog_120_method_4_code 63 = .ok (.arraylength, 1) := by decide +kernel
theorem dp120m4_64 : decode prog_120_method_4_code 64 = .ok (.if_icmp .ne 20, 3) := by decide +kernel
theorem dp120m4_67 : decode prog_120_method_4_code 67 = .ok (.aload_n 0, 1) := by decide +kernel
theorem dp120m4_68 : decode prog_120_method_4_code 68 = .ok (.aload_n 0, 1) := by decide +kernel
theorem dp120m4_69 : decode prog_120_method_4_code 69 = .ok (.getfield 21, 3) := by decide +kernel
theorem dp120m4_72 : decode prog_120_method_4_code 72 = .ok (.iconst 2, 1) := by decide +kernel
theorem dp120m4_73 : decode prog_120_method_4_code 73 = .ok (.aload_n 0, 1) := by decide +kernel
theorem dp120m4_74 : decode prog_120_method_4_code 74 = .ok (.getfield 53, 3) := by decide +kernel
theorem dp120m4_77 : decode prog_120_method_4_code 77 = .ok (.imul, 1) := by decide +kernel
theorem dp120m4_78 : decode prog_120_method_4_code 78 = .ok (.invokestatic 60, 3) := by decide +kernel
theorem dp120m4_81 : decode prog_120_method_4_code 81 = .ok (.putfield 21, 3) := by decide +kernel
theorem dp120m4_84 : decode prog_120_method_4_code 84 = .ok (.aload_n 0, 1) := by decide +kernel
theorem dp120m4_85 : decode prog_120_method_4_code 85 = .ok (.getfield 21, 3) := by decide +kernel
theorem dp120m4_88 : decode prog_120_method_4_code 88 = .ok (.aload_n 0, 1) := by decide +kernel
theorem dp120m4_89 : decode prog_120_method_4_code 89 = .ok (.dup, 1) := by decide +kernel
theorem dp120m4_90 : decode prog_120_method_4_code 90 = .ok (.getfield 53, 3) := by decide +kernel
theorem dp120m4_93 : decode prog_120_method_4_code 93 = .ok (.dup_x1, 1) := by decide +kernel
theorem dp120m4_94 : decode prog_120_method_4_code 94 = .ok (.iconst 1, 1) := by decide +kernel
theorem dp120m4_95 : decode prog_120_method_4_code 95 = .ok (.iadd, 1) := by decide +kernel
theorem dp120m4_96 : decode prog_120_method_4_code 96 = .ok (.putfield 53, 3) := by decide +kernel
theorem dp120m4_99 : decode prog_120_method_4_code 99 = .ok (.iload 5, 2) := by decide +kernel
theorem dp120m4_101 : decode prog_120_method_4_code 101 = .ok (.iastore, 1) := by decide +kernel
theorem dp120m4_102 : decode prog_120_method_4_code 102 = .ok (.return_, 1) := by decide +kernel
theorem dp120m11_0 : decode prog_120_method_11_code 0 = .ok (.aload_n 0, 1) := by decide +kernel
theorem dp120m11_1 : decode prog_120_method_11_code 1 = .ok (.getfield 56, 3) := by decide +kernel
theorem dp120m11_4 : decode prog_120_method_11_code 4 = .ok (.ifCond .eq 37, 3) := by decide +kernel
theorem dp120m11_7 : decode prog_120_method_11_code 7 = .ok (.aload_n 0, 1) := by decide +kernel
theorem dp120m11_8 : decode prog_120_method_11_code 8 = .ok (.getfield 7, 3) := by decide +kernel
theorem dp120m11_11 : decode prog_120_method_11_code 11 = .ok (.iconst 1, 1) := by decide +kernel
theorem dp120m11_12 : decode prog_120_method_11_code 12 = .ok (.isub, 1) := by decide +kernel
theorem dp120m11_13 : decode prog_120_method_11_code 13 = .ok (.istore_n 1, 1) := by decide +kernel
theorem dp120m11_14 : decode prog_120_method_11_code 14 = .ok (.iload_n 1, 1) := by decide +kernel
theorem dp120m11_15 : decode prog_120_method_11_code 15 = .ok (.iconst 1, 1) := by decide +kernel
theorem dp120m11_16 : decode prog_120_method_11_code 16 = .ok (.if_icmp .lt 14, 3) := by decide +kernel
theorem dp120m11_19 : decode prog_120_method_11_code 19 = .ok (.aload_n 0, 1) := by decide +kernel
theorem dp120m11_20 : decode prog_120_method_11_code 20 = .ok (.iload_n 1, 1) := by decide +kernel
theorem dp120m11_21 : decode prog_120_method_11_code 21 = .ok (.invokevirtual 71, 3) := by decide +kernel
theorem dp120m11_24 : decode prog_120_method_11_code 24 = .ok (.iinc 1 (-1), 3) := by decide +kernel
theorem dp120m11_27 : decode prog_120_method_11_code 27 = .ok (.goto (-13), 3) := by decide +kernel
theorem dp120m11_30 : decode prog_120_method_11_code 30 = .ok (.aload_n 0, 1) := by decide +kernel
theorem dp120m11_31 : decode prog_120_method_11_code 31 = .ok (.iconst 0, 1) := by decide +kernel
theorem dp120m11_32 : decode prog_120_method_11_code 32 = .ok (.putfield 56, 3) := by decide +kernel
theorem dp120m11_35 : decode prog_120_method_11_code 35 = .ok (.aload_n 0, 1) := by decide +kernel
theorem dp120m11_36 : decode prog_120_method_11_code 36 = .ok (.iconst 0, 1) := by decide +kernel
theorem dp120m11_37 : decode prog_120_method_11_code 37 = .ok (.putfield 53, 3) := by decide +kernel
theorem dp120m11_40 : decode prog_120_method_11_code 40 = .ok (.return_, 1) := by decide +kernel
theorem dp120m11_41 : decode prog_120_method_11_code 41 = .ok (.iconst 0, 1) := by decide +kernel
theorem dp120m11_42 : decode prog_120_method_11_code 42 = .ok (.istore_n 1, 1) := by decide +kernel
theorem dp120m11_43 : decode prog_120_method_11_code 43 = .ok (.iload_n 1, 1) := by decide +kernel
theorem dp120m11_44 : decode prog_120_method_11_code 44 = .ok (.aload_n 0, 1) := by decide +kernel
theorem dp120m11_45 : decode prog_120_method_11_code 45 = .ok (.getfield 53, 3) := by decide +kernel
theorem dp120m11_48 : decode prog_120_method_11_code 48 = .ok (.if_icmp .ge 35, 3) := by decide +kernel
theorem dp120m11_51 : decode prog_120_method_11_code 51 = .ok (.aload_n 0, 1) := by decide +kernel
theorem dp120m11_52 : decode prog_120_method_11_code 52 = .ok (.getfield 21, 3) := by decide +kernel
theorem dp120m11_55 : decode prog_120_method_11_code 55 = .ok (.iload_n 1, 1) := by decide +kernel
theorem dp120m11_56 : decode prog_120_method_11_code 56 = .ok (.iaload, 1) := by decide +kernel
theorem dp120m11_57 : decode prog_120_method_11_code 57 = .ok (.iconst 1, 1) := by decide +kernel
theorem dp120m11_58 : decode prog_120_method_11_code 58 = .ok (.ishr, 1) := by decide +kernel
theorem dp120m11_59 : decode prog_120_method_11_code 59 = .ok (.istore_n 2, 1) := by decide +kernel
theorem dp120m11_60 : decode prog_120_method_11_code 60 = .ok (.iload_n 2, 1) := by decide +kernel
theorem dp120m11_61 : decode prog_120_method_11_code 61 = .ok (.iconst 1, 1) := by decide +kernel
theorem dp120m11_62 : decode prog_120_method_11_code 62 = .ok (.if_icmp .lt 15, 3) := by decide +kernel
theorem dp120m11_65 : decode prog_120_method_11_code 65 = .ok (.aload_n 0, 1) := by decide +kernel
theorem dp120m11_66 : decode prog_120_method_11_code 66 = .ok (.iload_n 2, 1) := by decide +kernel
theorem dp120m11_67 : decode prog_120_method_11_code 67 = .ok (.invokevirtual 71, 3) := by decide +kernel
theorem dp120m11_70 : decode prog_120_method_11_code 70 = .ok (.iload_n 2, 1) := by decide +kernel
theorem dp120m11_71 : decode prog_120_method_11_code 71 = .ok (.iconst 1, 1) := by decide +kernel
theorem dp120m11_72 : decode prog_120_method_11_code 72 = .ok (.ishr, 1) := by decide +kernel
theorem dp120m11_73 : decode prog_120_method_11_code 73 = .ok (.istore_n 2, 1) := by decide +kernel
theorem dp120m11_74 : decode prog_120_method_11_code 74 = .ok (.goto (-14), 3) := by decide +kernel
theorem dp120m11_77 : decode prog_120_method_11_code 77 = .ok (.iinc 1 1, 3) := by decide +kernel
theorem dp120m11_80 : decode prog_120_method_11_code 80 = .ok (.goto (-37), 3) := by decide +kernel
theorem dp120m11_83 : decode prog_120_method_11_code 83 = .ok (.aload_n 0, 1) := by decide +kernel
theorem dp120m11_84 : decode prog_120_method_11_code 84 = .ok (.iconst 0, 1) := by decide +kernel
theorem dp120m11_85 : decode prog_120_method_11_code 85 = .ok (.putfield 53, 3) := by decide +kernel
theorem dp120m11_88 : decode prog_120_method_11_code 88 = .ok (.return_, 1) := by decide +kernel
theorem dp120m12_0 : decode prog_120_method_12_code 0 = .ok (.aload_n 0, 1) := by decide +kernel
theorem dp120m12_1 : decode prog_120_method_12_code 1 = .ok (.getfield 13, 3) := by decide +kernel
theorem dp120m12_4 : decode prog_120_method_12_code 4 = .ok (.iload_n 1, 1) := by decide +kernel
theorem dp120m12_5 : decode prog_120_method_12_code 5 = .ok (.aload_n 0, 1) := by decide +kernel
theorem dp120m12_6 : decode prog_120_method_12_code 6 = .ok (.getfield 13, 3) := by decide +kernel
theorem dp120m12_9 : decode prog_120_method_12_code 9 = .ok (.iconst 2, 1) := by decide +kernel
theorem dp120m12_10 : decode prog_120_method_12_code 10 = .ok (.iload_n 1, 1) := by decide +kernel
theorem dp120m12_11 : decode prog_120_method_12_code 11 = .ok (.imul, 1) := by decide +kernel
theorem dp120m12_12 : decode prog_120_method_12_code 12 = .ok (.daload, 1) := by decide +kernel
theorem dp120m12_13 : decode prog_120_method_12_code 13 = .ok (.aload_n 0, 1) := by decide +kernel
theorem dp120m12_14 : decode prog_120_method_12_code 14 = .ok (.getfield 13, 3) := by decide +kernel
theorem dp120m12_17 : decode prog_120_method_12_code 17 = .ok (.iconst 2, 1) := by decide +kernel
theorem dp120m12_18 : decode prog_120_method_12_code 18 = .ok (.iload_n 1, 1) := by decide +kernel
theorem dp120m12_19 : decode prog_120_method_12_code 19 = .ok (.imul, 1) := by decide +kernel
theorem dp120m12_20 : decode prog_120_method_12_code 20 = .ok (.iconst 1, 1) := by decide +kernel
theorem dp120m12_21 : decode prog_120_method_12_code 21 = .ok (.iadd, 1) := by decide +kernel
theorem dp120m12_22 : decode prog_120_method_12_code 22 = .ok (.daload, 1) := by decide +kernel
theorem dp120m12_23 : decode prog_120_method_12_code 23 = .ok (.dadd, 1) := by decide +kernel
theorem dp120m12_24 : decode prog_120_method_12_code 24 = .ok (.dastore, 1) := by decide +kernel
theorem dp120m12_25 : decode prog_120_method_12_code 25 = .ok (.aload_n 0, 1) := by decide +kernel
theorem dp120m12_26 : decode prog_120_method_12_code 26 = .ok (.getfield 17, 3) := by decide +kernel
theorem dp120m12_29 : decode prog_120_method_12_code 29 = .ok (.iload_n 1, 1) := by decide +kernel
theorem dp120m12_30 : decode prog_120_method_12_code 30 = .ok (.aload_n 0, 1) := by decide +kernel
theorem dp120m12_31 : decode prog_120_method_12_code 31 = .ok (.getfield 17, 3) := by decide +kernel
theorem dp120m12_34 : decode prog_120_method_12_code 34 = .ok (.iconst 2, 1) := by decide +kernel
theorem dp120m12_35 : decode prog_120_method_12_code 35 = .ok (.iload_n 1, 1) := by decide +kernel
theorem dp120m12_36 : decode prog_120_method_12_code 36 = .ok (.imul, 1) := by decide +kernel
theorem dp120m12_37 : decode prog_120_method_12_code 37 = .ok (.iaload, 1) := by decide +kernel
theorem dp120m12_38 : decode prog_120_method_12_code 38 = .ok (.aload_n 0, 1) := by decide +kernel
theorem dp120m12_39 : decode prog_120_method_12_code 39 = .ok (.getfield 17, 3) := by decide +kernel
theorem dp120m12_42 : decode prog_120_method_12_code 42 = .ok (.iconst 2, 1) := by decide +kernel
theorem dp120m12_43 : decode prog_120_method_12_code 43 = .ok (.iload_n 1, 1) := by decide +kernel
theorem dp120m12_44 : decode prog_120_method_12_code 44 = .ok (.imul, 1) := by decide +kernel
theorem dp120m12_45 : decode prog_120_method_12_code 45 = .ok (.iconst 1, 1) := by decide +kernel
theorem dp120m12_46 : decode prog_120_method_12_code 46 = .ok (.iadd, 1) := by decide +kernel
theorem dp120m12_47 : decode prog_120_method_12_code 47 = .ok (.iaload, 1) := by decide +kernel
theorem dp120m12_48 : decode prog_120_method_12_code 48 = .ok (.iadd, 1) := by decide +kernel
theorem dp120m12_49 : decode prog_120_method_12_code 49 = .ok (.iastore, 1) := by decide +kernel
theorem dp120m12_50 : decode prog_120_method_12_code 50 = .ok (.return_, 1) := by decide +kernel
theorem dp120m8_0 : decode prog_120_method_8_code 0 = .ok (.iconst 1, 1) := by decide +kernel
theorem dp120m8_1 : decode prog_120_method_8_code 1 = .ok (.istore_n 3, 1) := by decide +kernel
theorem dp120m8_2 : decode prog_120_method_8_code 2 = .ok (.dconst 0, 1) := by decide +kernel
theorem dp120m8_3 : decode prog_120_method_8_code 3 = .ok (.dstore 4, 2) := by decide +kernel
theorem dp120m8_5 : decode prog_120_method_8_code 5 = .ok (.iconst 0, 1) := by decide +kernel
theorem dp120m8_6 : decode prog_120_method_8_code 6 = .ok (.istore 6, 2) := by decide +kernel
theorem dp120m8_8 : decode prog_120_method_8_code 8 = .ok (.iload_n 3, 1) := by decide +kernel
theorem dp120m8_9 : decode prog_120_method_8_code 9 = .ok (.aload_n 0, 1) := by decide +kernel
theorem dp120m8_10 : decode prog_120_method_8_code 10 = .ok (.getfield 7, 3) := by decide +kernel
theorem dp120m8_13 : decode prog_120_method_8_code 13 = .ok (.if_icmp .ge 85, 3) := by decide +kernel
theorem dp120m8_16 : decode prog_120_method_8_code 16 = .ok (.iconst 2, 1) := by decide +kernel
theorem dp120m8_17 : decode prog_120_method_8_code 17 = .ok (.iload_n 3, 1) := by decide +kernel
theorem dp120m8_18 : decode prog_120_method_8_code 18 = .ok (.imul, 1) := by decide +kernel
theorem dp120m8_19 : decode prog_120_method_8_code 19 = .ok (.istore 7, 2) := by decide +kernel
theorem dp120m8_21 : decode prog_120_method_8_code 21 = .ok (.aload_n 0, 1) := by decide +kernel
theorem dp120m8_22 : decode prog_120_method_8_code 22 = .ok (.getfield 17, 3) := by decide +kernel
theorem dp120m8_25 : decode prog_120_method_8_code 25 = .ok (.iload 7, 2) := by decide +kernel
theorem dp120m8_27 : decode prog_120_method_8_code 27 = .ok (.iconst 1, 1) := by decide +kernel
theorem dp120m8_28 : decode prog_120_method_8_code 28 = .ok (.iadd, 1) := by decide +kernel
theorem dp120m8_29 : decode prog_120_method_8_code 29 = .ok (.iaload, 1) := by decide +kernel
theorem dp120m8_30 : decode prog_120_method_8_code 30 = .ok (.ifCond .le 22, 3) := by decide +kernel
theorem dp120m8_33 : decode prog_120_method_8_code 33 = .ok (.dload_n 1, 1) := by decide +kernel
theorem dp120m8_34 : decode prog_120_method_8_code 34 = .ok (.dload 4, 2) := by decide +kernel
theorem dp120m8_36 : decode prog_120_method_8_code 36 = .ok (.aload_n 0, 1) := by decide +kernel
theorem dp120m8_37 : decode prog_120_method_8_code 37 = .ok (.getfield 13, 3) := by decide +kernel
theorem dp120m8_40 : decode prog_120_method_8_code 40 = .ok (.iload 7, 2) := by decide +kernel
theorem dp120m8_42 : decode prog_120_method_8_code 42 = .ok (.daload, 1) := by decide +kernel
theorem dp120m8_43 : decode prog_120_method_8_code 43 = .ok (.dadd, 1) := by decide +kernel
theorem dp120m8_44 : decode prog_120_method_8_code 44 = .ok (.dcmp .l, 1) := by decide +kernel
theorem dp120m8_45 : decode prog_120_method_8_code 45 = .ok (.ifCond .lt 7, 3) := by decide +kernel
theorem dp120m8_48 : decode prog_120_method_8_code 48 = .ok (.iconst 1, 1) := by decide +kernel
theorem dp120m8_49 : decode prog_120_method_8_code 49 = .ok (.goto 4, 3) := by decide +kernel
theorem dp120m8_52 : decode prog_120_method_8_code 52 = .ok (.iconst 0, 1) := by decide +kernel
theorem dp120m8_53 : decode prog_120_method_8_code 53 = .ok (.istore 8, 2) := by decide +kernel
theorem dp120m8_55 : decode prog_120_method_8_code 55 = .ok (.iload 8, 2) := by decide +kernel
theorem dp120m8_57 : decode prog_120_method_8_code 57 = .ok (.ifCond .eq 35, 3) := by decide +kernel
theorem dp120m8_60 : decode prog_120_method_8_code 60 = .ok (.dload 4, 2) := by decide +kernel
theorem dp120m8_62 : decode prog_120_method_8_code 62 = .ok (.aload_n 0, 1) := by decide +kernel
theorem dp120m8_63 : decode prog_120_method_8_code 63 = .ok (.getfield 13, 3) := by decide +kernel
theorem dp120m8_66 : decode prog_120_method_8_code 66 = .ok (.iload 7, 2) := by decide +kernel
theorem dp120m8_68 : decode prog_120_method_8_code 68 = .ok (.daload, 1) := by decide +kernel
theorem dp120m8_69 : decode prog_120_method_8_code 69 = .ok (.dadd, 1) := by decide +kernel
theorem dp120m8_70 : decode prog_120_method_8_code 70 = .ok (.dstore 4, 2) := by decide +kernel
theorem dp120m8_72 : decode prog_120_method_8_code 72 = .ok (.iload 6, 2) := by decide +kernel
theorem dp120m8_74 : decode prog_120_method_8_code 74 = .ok (.aload_n 0, 1) := by decide +kernel
theorem dp120m8_75 : decode prog_120_method_8_code 75 = .ok (.getfield 17, 3) := by decide +kernel
theorem dp120m8_78 : decode prog_120_method_8_code 78 = .ok (.iload 7, 2) := by decide +kernel
theorem dp120m8_80 : decode prog_120_method_8_code 80 = .ok (.iaload, 1) := by decide +kernel
theorem dp120m8_81 : decode prog_120_method_8_code 81 = .ok (.iadd, 1) := by decide +kernel
theorem dp120m8_82 : decode prog_120_method_8_code 82 = .ok (.istore 6, 2) := by decide +kernel
theorem dp120m8_84 : decode prog_120_method_8_code 84 = .ok (.iload 7, 2) := by decide +kernel
theorem dp120m8_86 : decode prog_120_method_8_code 86 = .ok (.iconst 1, 1) := by decide +kernel
theorem dp120m8_87 : decode prog_120_method_8_code 87 = .ok (.iadd, 1) := by decide +kernel
theorem dp120m8_88 : decode prog_120_method_8_code 88 = .ok (.istore_n 3, 1) := by decide +kernel
theorem dp120m8_89 : decode prog_120_method_8_code 89 = .ok (.goto 6, 3) := by decide +kernel
theorem dp120m8_92 : decode prog_120_method_8_code 92 = .ok (.iload 7, 2) := by decide +kernel
theorem dp120m8_94 : decode prog_120_method_8_code 94 = .ok (.istore_n 3, 1) := by decide +kernel
theorem dp120m8_95 : decode prog_120_method_8_code 95 = .ok (.goto (-87), 3) := by decide +kernel
theorem dp120m8_98 : decode prog_120_method_8_code 98 = .ok (.aload_n 0, 1) := by decide +kernel
theorem dp120m8_99 : decode prog_120_method_8_code 99 = .ok (.dload 4, 2) := by decide +kernel
theorem dp120m8_101 : decode prog_120_method_8_code 101 = .ok (.putfield 67, 3) := by decide +kernel
theorem dp120m8_104 : decode prog_120_method_8_code 104 = .ok (.aload_n 0, 1) := by decide +kernel
theorem dp120m8_105 : decode prog_120_method_8_code 105 = .ok (.iload 6, 2) := by decide +kernel
theorem dp120m8_107 : decode prog_120_method_8_code 107 = .ok (.putfield 64, 3) := by decide +kernel
theorem dp120m8_110 : decode prog_120_method_8_code 110 = .ok (.iload_n 3, 1) := by decide +kernel
theorem dp120m8_111 : decode prog_120_method_8_code 111 = .ok (.aload_n 0, 1) := by decide +kernel
theorem dp120m8_112 : decode prog_120_method_8_code 112 = .ok (.getfield 7, 3) := by decide +kernel
theorem dp120m8_115 : decode prog_120_method_8_code 115 = .ok (.isub, 1) := by decide +kernel
theorem dp120m8_116 : decode prog_120_method_8_code 116 = .ok (.ireturn, 1) := by decide +kernel
theorem dp120m9_0 : decode prog_120_method_9_code 0 = .ok (.aload_n 0, 1) := by decide +kernel
theorem dp120m9_1 : decode prog_120_method_9_code 1 = .ok (.getfield 67, 3) := by decide +kernel
theorem dp120m9_4 : decode prog_120_method_9_code 4 = .ok (.dreturn, 1) := by decide +kernel
theorem dp120m10_0 : decode prog_120_method_10_code 0 = .ok (.aload_n 0, 1) := by decide +kernel
theorem dp120m10_1 : decode prog_120_method_10_code 1 = .ok (.getfield 64, 3) := by decide +kernel
theorem dp120m10_4 : decode prog_120_method_10_code 4 = .ok (.ireturn, 1) := by decide +kernel
def Gs (Z : State) (h : Heap) (a : Nat) (u_leaves u_depth u_rates u_counts u_pending u_pendingCount u_rebuild u_countBefore u_rateBefore : Value) : Prop := Exa Z h a "com/example/lucky_fork/luckyfork/model/GroupSums" ∧ Fld Z h a "com/example/lucky_fork/luckyfork/model/GroupSums" "leaves" "I" u_leaves ∧ Fld Z h a "com/example/lucky_fork/luckyfork/model/GroupSums" "depth" "I" u_depth ∧ Fld Z h a "com/example/lucky_fork/luckyfork/model/GroupSums" "rates" "[D" u_rates ∧ Fld Z h a "com/example/lucky_fork/luckyfork/model/GroupSums" "counts" "[I" u_counts ∧ Fld Z h a "com/example/lucky_fork/luckyfork/model/GroupSums" "pending" "[I" u_pending ∧ Fld Z h a "com/example/lucky_fork/luckyfork/model/GroupSums" "pendingCount" "I" u_pendingCount ∧ Fld Z h a "com/example/lucky_fork/luckyfork/model/GroupSums" "rebuild" "Z" u_rebuild ∧ Fld Z h a "com/example/lucky_fork/luckyfork/model/GroupSums" "countBefore" "I" u_countBefore ∧ Fld Z h a "com/example/lucky_fork/luckyfork/model/GroupSums" "rateBefore" "D" u_rateBefore
theorem Gs.ext {Z : State} {h h' : Heap} {a : Nat} {u_leaves u_depth u_rates u_counts u_pending u_pendingCount u_rebuild u_countBefore u_rateBefore : Value} (S : Gs Z h a u_leaves u_depth u_rates u_counts u_pending u_pendingCount u_rebuild u_countBefore u_rateBefore) (E : Ext h h') : Gs Z h' a u_leaves u_depth u_rates u_counts u_pending u_pendingCount u_rebuild u_countBefore u_rateBefore := ⟨Exa.ext E S.1, Fld.ext E (S.2.1), Fld.ext E (S.2.2.1), Fld.ext E (S.2.2.2.1), Fld.ext E (S.2.2.2.2.1), Fld.ext E (S.2.2.2.2.2.1), Fld.ext E (S.2.2.2.2.2.2.1), Fld.ext E (S.2.2.2.2.2.2.2.1), Fld.ext E (S.2.2.2.2.2.2.2.2.1), Fld.ext E (S.2.2.2.2.2.2.2.2.2)⟩
theorem Gs.far {Z : State} {h h' : Heap} {a b : Nat} {u_leaves u_depth u_rates u_counts u_pending u_pendingCount u_rebuild u_countBefore u_rateBefore u : Value} {sl : Nat} (S : Gs Z h a u_leaves u_depth u_rates u_counts u_pending u_pendingCount u_rebuild u_countBefore u_rateBefore) (W : Wr h h' b sl u) (ne : a ≠ b) : Gs Z h' a u_leaves u_depth u_rates u_counts u_pending u_pendingCount u_rebuild u_countBefore u_rateBefore := ⟨Exa.wr W S.1, Fld.other W (S.2.1) (Or.inl ne), Fld.other W (S.2.2.1) (Or.inl ne), Fld.other W (S.2.2.2.1) (Or.inl ne), Fld.other W (S.2.2.2.2.1) (Or.inl ne), Fld.other W (S.2.2.2.2.2.1) (Or.inl ne), Fld.other W (S.2.2.2.2.2.2.1) (Or.inl ne), Fld.other W (S.2.2.2.2.2.2.2.1) (Or.inl ne), Fld.other W (S.2.2.2.2.2.2.2.2.1) (Or.inl ne), Fld.other W (S.2.2.2.2.2.2.2.2.2) (Or.inl ne)⟩
theorem Gs.lt {Z : State} {h : Heap} {a : Nat} {u_leaves u_depth u_rates u_counts u_pending u_pendingCount u_rebuild u_countBefore u_rateBefore : Value} (S : Gs Z h a u_leaves u_depth u_rates u_counts u_pending u_pendingCount u_rebuild u_countBefore u_rateBefore) : a < h.size := S.1.lt
theorem Gs.put_leaves {Z : State} {h h' : Heap} {a : Nat} {u_leaves u_depth u_rates u_counts u_pending u_pendingCount u_rebuild u_countBefore u_rateBefore u : Value} {a0 : Array Value} (S : Gs Z h a u_leaves u_depth u_rates u_counts u_pending u_pendingCount u_rebuild u_countBefore u_rateBefore) (hw : ∀ d ∈ tables_1, d.before a0 Z = true) (W : Wr h h' a (Jvm.RoadKit.slotOf Z "com/example/lucky_fork/luckyfork/model/GroupSums" "leaves" "I") u) : Gs Z h' a u u_depth u_rates u_counts u_pending u_pendingCount u_rebuild u_countBefore u_rateBefore := ⟨Exa.wr W S.1, Fld.same W (S.2.1), Fld.other W (S.2.2.1) (Or.inr (slot_ne (C := "com/example/lucky_fork/luckyfork/model/GroupSums") (Or.inl (hw _ (List.mem_of_getElem? (i := 37) rfl))) (Or.inl (hw _ (List.mem_of_getElem? (i := 10) rfl))) (by decide) (t := .int) (by decide) (t' := .int) (by decide))), Fld.other W (S.2.2.2.1) (Or.inr (slot_ne (C := "com/example/lucky_fork/luckyfork/model/GroupSums") (Or.inl (hw _ (List.mem_of_getElem? (i := 13) rfl))) (Or.inl (hw _ (List.mem_of_getElem? (i := 10) rfl))) (by decide) (t := (.array .double)) (by decide) (t' := .int) (by decide))), Fld.other W (S.2.2.2.2.1) (Or.inr (slot_ne (C := "com/example/lucky_fork/luckyfork/model/GroupSums") (Or.inl (hw _ (List.mem_of_getElem? (i := 16) rfl))) (Or.inl (hw _ (List.mem_of_getElem? (i := 10) rfl))) (by decide) (t := (.array .int)) (by decide) (t' := .int) (by decide))), Fld.other W (S.2.2.2.2.2.1) (Or.inr (slot_ne (C := "com/example/lucky_fork/luckyfork/model/GroupSums") (Or.inl (hw _ (List.mem_of_getElem? (i := 18) rfl))) (Or.inl (hw _ (List.mem_of_getElem? (i := 10) rfl))) (by decide) (t := (.array .int)) (by decide) (t' := .int) (by decide))), Fld.other W (S.2.2.2.2.2.2.1) (Or.inr (slot_ne (C := "com/example/lucky_fork/luckyfork/model/GroupSums") (Or.inl (hw _ (List.mem_of_getElem? (i := 39) rfl))) (Or.inl (hw _ (List.mem_of_getElem? (i := 10) rfl))) (by decide) (t := .int) (by decide) (t' := .int) (by decide))), Fld.other W (S.2.2.2.2.2.2.2.1) (Or.inr (slot_ne (C := "com/example/lucky_fork/luckyfork/model/GroupSums") (Or.inl (hw _ (List.mem_of_getElem? (i := 41) rfl))) (Or.inl (hw _ (List.mem_of_getElem? (i := 10) rfl))) (by decide) (t := .boolean) (by decide) (t' := .int) (by decide))), Fld.other W (S.2.2.2.2.2.2.2.2.1) (Or.inr (slot_ne (C := "com/example/lucky_fork/luckyfork/model/GroupSums") (Or.inl (hw _ (List.mem_of_getElem? (i := 65) rfl))) (Or.inl (hw _ (List.mem_of_getElem? (i := 10) rfl))) (by decide) (t := .int) (by decide) (t' := .int) (by decide))), Fld.other W (S.2.2.2.2.2.2.2.2.2) (Or.inr (slot_ne (C := "com/example/lucky_fork/luckyfork/model/GroupSums") (Or.inl (hw _ (List.mem_of_getElem? (i := 63) rfl))) (Or.inl (hw _ (List.mem_of_getElem? (i := 10) rfl))) (by decide) (t := .double) (by decide) (t' := .int) (by decide)))⟩
theorem Gs.put_depth {Z : State} {h h' : Heap} {a : Nat} {u_leaves u_depth u_rates u_counts u_pending u_pendingCount u_rebuild u_countBefore u_rateBefore u : Value} {a0 : Array Value} (S : Gs Z h a u_leaves u_depth u_rates u_counts u_pending u_pendingCount u_rebuild u_countBefore u_rateBefore) (hw : ∀ d ∈ tables_1, d.before a0 Z = true) (W : Wr h h' a (Jvm.RoadKit.slotOf Z "com/example/lucky_fork/luckyfork/model/GroupSums" "depth" "I") u) : Gs Z h' a u_leaves u u_rates u_counts u_pending u_pendingCount u_rebuild u_countBefore u_rateBefore := ⟨Exa.wr W S.1, Fld.other W (S.2.1) (Or.inr (slot_ne (C := "com/example/lucky_fork/luckyfork/model/GroupSums") (Or.inl (hw _ (List.mem_of_getElem? (i := 10) rfl))) (Or.inl (hw _ (List.mem_of_getElem? (i := 37) rfl))) (by decide) (t := .int) (by decide) (t' := .int) (by decide))), Fld.same W (S.2.2.1), Fld.other W (S.2.2.2.1) (Or.inr (slot_ne (C := "com/example/lucky_fork/luckyfork/model/GroupSums") (Or.inl (hw _ (List.mem_of_getElem? (i := 13) rfl))) (Or.inl (hw _ (List.mem_of_getElem? (i := 37) rfl))) (by decide) (t := (.array .double)) (by decide) (t' := .int) (by decide))), Fld.other W (S.2.2.2.2.1) (Or.inr (slot_ne (C := "com/example/lucky_fork/luckyfork/model/GroupSums") (Or.inl (hw _ (List.mem_of_getElem? (i := 16) rfl))) (Or.inl (hw _ (List.mem_of_getElem? (i := 37) rfl))) (by decide) (t := (.array .int)) (by decide) (t' := .int) (by decide))), Fld.other W (S.2.2.2.2.2.1) (Or.inr (slot_ne (C := "com/example/lucky_fork/luckyfork/model/GroupSums") (Or.inl (hw _ (List.mem_of_getElem? (i := 18) rfl))) (Or.inl (hw _ (List.mem_of_getElem? (i := 37) rfl))) (by decide) (t := (.array .int)) (by decide) (t' := .int) (by decide))), Fld.other W (S.2.2.2.2.2.2.1) (Or.inr (slot_ne (C := "com/example/lucky_fork/luckyfork/model/GroupSums") (Or.inl (hw _ (List.mem_of_getElem? (i := 39) rfl))) (Or.inl (hw _ (List.mem_of_getElem? (i := 37) rfl))) (by decide) (t := .int) (by decide) (t' := .int) (by decide))), Fld.other W (S.2.2.2.2.2.2.2.1) (Or.inr (slot_ne (C := "com/example/lucky_fork/luckyfork/model/GroupSums") (Or.inl (hw _ (List.mem_of_getElem? (i := 41) rfl))) (Or.inl (hw _ (List.mem_of_getElem? (i := 37) rfl))) (by decide) (t := .boolean) (by decide) (t' := .int) (by decide))), Fld.other W (S.2.2.2.2.2.2.2.2.1) (Or.inr (slot_ne (C := "com/example/lucky_fork/luckyfork/model/GroupSums") (Or.inl (hw _ (List.mem_of_getElem? (i := 65) rfl))) (Or.inl (hw _ (List.mem_of_getElem? (i := 37) rfl))) (by decide) (t := .int) (by decide) (t' := .int) (by decide))), Fld.other W (S.2.2.2.2.2.2.2.2.2) (Or.inr (slot_ne (C := "com/example/lucky_fork/luckyfork/model/GroupSums") (Or.inl (hw _ (List.mem_of_getElem? (i := 63) rfl))) (Or.inl (hw _ (List.mem_of_getElem? (i := 37) rfl))) (by decide) (t := .double) (by decide) (t' := .int) (by decide)))⟩
theorem Gs.put_rates {Z : State} {h h' : Heap} {a : Nat} {u_leaves u_depth u_rates u_counts u_pending u_pendingCount u_rebuild u_countBefore u_rateBefore u : Value} {a0 : Array Value} (S : Gs Z h a u_leaves u_depth u_rates u_counts u_pending u_pendingCount u_rebuild u_countBefore u_rateBefore) (hw : ∀ d ∈ tables_1, d.before a0 Z = true) (W : Wr h h' a (Jvm.RoadKit.slotOf Z "com/example/lucky_fork/luckyfork/model/GroupSums" "rates" "[D") u) : Gs Z h' a u_leaves u_depth u u_counts u_pending u_pendingCount u_rebuild u_countBefore u_rateBefore := ⟨Exa.wr W S.1, Fld.other W (S.2.1) (Or.inr (slot_ne (C := "com/example/lucky_fork/luckyfork/model/GroupSums") (Or.inl (hw _ (List.mem_of_getElem? (i := 10) rfl))) (Or.inl (hw _ (List.mem_of_getElem? (i := 13) rfl))) (by decide) (t := .int) (by decide) (t' := (.array .double)) (by decide))), Fld.other W (S.2.2.1) (Or.inr (slot_ne (C := "com/example/lucky_fork/luckyfork/model/GroupSums") (Or.inl (hw _ (List.mem_of_getElem? (i := 37) rfl))) (Or.inl (hw _ (List.mem_of_getElem? (i := 13) rfl))) (by decide) (t := .int) (by decide) (t' := (.array .double)) (by decide))), Fld.same W (S.2.2.2.1), Fld.other W (S.2.2.2.2.1) (Or.inr (slot_ne (C := "com/example/lucky_fork/luckyfork/model/GroupSums") (Or.inl (hw _ (List.mem_of_getElem? (i := 16) rfl))) (Or.inl (hw _ (List.mem_of_getElem? (i := 13) rfl))) (by decide) (t := (.array .int)) (by decide) (t' := (.array .double)) (by decide))), Fld.other W (S.2.2.2.2.2.1) (Or.inr (slot_ne (C := "com/example/lucky_fork/luckyfork/model/GroupSums") (Or.inl (hw _ (List.mem_of_getElem? (i := 18) rfl))) (Or.inl (hw _ (List.mem_of_getElem? (i := 13) rfl))) (by decide) (t := (.array .int)) (by decide) (t' := (.array .double)) (by decide))), Fld.other W (S.2.2.2.2.2.2.1) (Or.inr (slot_ne (C := "com/example/lucky_fork/luckyfork/model/GroupSums") (Or.inl (hw _ (List.mem_of_getElem? (i := 39) rfl))) (Or.inl (hw _ (List.mem_of_getElem? (i := 13) rfl))) (by decide) (t := .int) (by decide) (t' := (.array .double)) (by decide))), Fld.other W (S.2.2.2.2.2.2.2.1) (Or.inr (slot_ne (C := "com/example/lucky_fork/luckyfork/model/GroupSums") (Or.inl (hw _ (List.mem_of_getElem? (i := 41) rfl))) (Or.inl (hw _ (List.mem_of_getElem? (i := 13) rfl))) (by decide) (t := .boolean) (by decide) (t' := (.array .double)) (by decide))), Fld.other W (S.2.2.2.2.2.2.2.2.1) (Or.inr (slot_ne (C := "com/example/lucky_fork/luckyfork/model/GroupSums") (Or.inl (hw _ (List.mem_of_getElem? (i := 65) rfl))) (Or.inl (hw _ (List.mem_of_getElem? (i := 13) rfl))) (by decide) (t := .int) (by decide) (t' := (.array .double)) (by decide))), Fld.other W (S.2.2.2.2.2.2.2.2.2) (Or.inr (slot_ne (C := "com/example/lucky_fork/luckyfork/model/GroupSums") (Or.inl (hw _ (List.mem_of_getElem? (i := 63) rfl))) (Or.inl (hw _ (List.mem_of_getElem? (i := 13) rfl))) (by decide) (t := .double) (by decide) (t' := (.array .double)) (by decide)))⟩
theorem Gs.put_counts {Z : State} {h h' : Heap} {a : Nat} {u_leaves u_depth u_rates u_counts u_pending u_pendingCount u_rebuild u_countBefore u_rateBefore u : Value} {a0 : Array Value} (S : Gs Z h a u_leaves u_depth u_rates u_counts u_pending u_pendingCount u_rebuild u_countBefore u_rateBefore) (hw : ∀ d ∈ tables_1, d.before a0 Z = true) (W : Wr h h' a (Jvm.RoadKit.slotOf Z "com/example/lucky_fork/luckyfork/model/GroupSums" "counts" "[I") u) : Gs Z h' a u_leaves u_depth u_rates u u_pending u_pendingCount u_rebuild u_countBefore u_rateBefore := ⟨Exa.wr W S.1, Fld.other W (S.2.1) (Or.inr (slot_ne (C := "com/example/lucky_fork/luckyfork/model/GroupSums") (Or.inl (hw _ (List.mem_of_getElem? (i := 10) rfl))) (Or.inl (hw _ (List.mem_of_getElem? (i := 16) rfl))) (by decide) (t := .int) (by decide) (t' := (.array .int)) (by decide))), Fld.other W (S.2.2.1) (Or.inr (slot_ne (C := "com/example/lucky_fork/luckyfork/model/GroupSums") (Or.inl (hw _ (List.mem_of_getElem? (i := 37) rfl))) (Or.inl (hw _ (List.mem_of_getElem? (i := 16) rfl))) (by decide) (t := .int) (by decide) (t' := (.array .int)) (by decide))), Fld.other W (S.2.2.2.1) (Or.inr (slot_ne (C := "com/example/lucky_fork/luckyfork/model/GroupSums") (Or.inl (hw _ (List.mem_of_getElem? (i := 13) rfl))) (Or.inl (hw _ (List.mem_of_getElem? (i := 16) rfl))) (by decide) (t := (.array .double)) (by decide) (t' := (.array .int)) (by decide))), Fld.same W (S.2.2.2.2.1), Fld.other W (S.2.2.2.2.2.1) (Or.inr (slot_ne (C := "com/example/lucky_fork/luckyfork/model/GroupSums") (Or.inl (hw _ (List.mem_of_getElem? (i := 18) rfl))) (Or.inl (hw _ (List.mem_of_getElem? (i := 16) rfl))) (by decide) (t := (.array .int)) (by decide) (t' := (.array .int)) (by decide))), Fld.other W (S.2.2.2.2.2.2.1) (Or.inr (slot_ne (C := "com/example/lucky_fork/luckyfork/model/GroupSums") (Or.inl (hw _ (List.mem_of_getElem? (i := 39) rfl))) (Or.inl (hw _ (List.mem_of_getElem? (i := 16) rfl))) (by decide) (t := .int) (by decide) (t' := (.array .int)) (by decide))), Fld.other W (S.2.2.2.2.2.2.2.1) (Or.inr (slot_ne (C := "com/example/lucky_fork/luckyfork/model/GroupSums") (Or.inl (hw _ (List.mem_of_getElem? (i := 41) rfl))) (Or.inl (hw _ (List.mem_of_getElem? (i := 16) rfl))) (by decide) (t := .boolean) (by decide) (t' := (.array .int)) (by decide))), Fld.other W (S.2.2.2.2.2.2.2.2.1) (Or.inr (slot_ne (C := "com/example/lucky_fork/luckyfork/model/GroupSums") (Or.inl (hw _ (List.mem_of_getElem? (i := 65) rfl))) (Or.inl (hw _ (List.mem_of_getElem? (i := 16) rfl))) (by decide) (t := .int) (by decide) (t' := (.array .int)) (by decide))), Fld.other W (S.2.2.2.2.2.2.2.2.2) (Or.inr (slot_ne (C := "com/example/lucky_fork/luckyfork/model/GroupSums") (Or.inl (hw _ (List.mem_of_getElem? (i := 63) rfl))) (Or.inl (hw _ (List.mem_of_getElem? (i := 16) rfl))) (by decide) (t := .double) (by decide) (t' := (.array .int)) (by decide)))⟩
theorem Gs.put_pending {Z : State} {h h' : Heap} {a : Nat} {u_leaves u_depth u_rates u_counts u_pending u_pendingCount u_rebuild u_countBefore u_rateBefore u : Value} {a0 : Array Value} (S : Gs Z h a u_leaves u_depth u_rates u_counts u_pending u_pendingCount u_rebuild u_countBefore u_rateBefore) (hw : ∀ d ∈ tables_1, d.before a0 Z = true) (W : Wr h h' a (Jvm.RoadKit.slotOf Z "com/example/lucky_fork/luckyfork/model/GroupSums" "pending" "[I") u) : Gs Z h' a u_leaves u_depth u_rates u_counts u u_pendingCount u_rebuild u_countBefore u_rateBefore := ⟨Exa.wr W S.1, Fld.other W (S.2.1) (Or.inr (slot_ne (C := "com/example/lucky_fork/luckyfork/model/GroupSums") (Or.inl (hw _ (List.mem_of_getElem? (i := 10) rfl))) (Or.inl (hw _ (List.mem_of_getElem? (i := 18) rfl))) (by decide) (t := .int) (by decide) (t' := (.array .int)) (by decide))), Fld.other W (S.2.2.1) (Or.inr (slot_ne (C := "com/example/lucky_fork/luckyfork/model/GroupSums") (Or.inl (hw _ (List.mem_of_getElem? (i := 37) rfl))) (Or.inl (hw _ (List.mem_of_getElem? (i := 18) rfl))) (by decide) (t := .int) (by decide) (t' := (.array .int)) (by decide))), Fld.other W (S.2.2.2.1) (Or.inr (slot_ne (C := "com/example/lucky_fork/luckyfork/model/GroupSums") (Or.inl (hw _ (List.mem_of_getElem? (i := 13) rfl))) (Or.inl (hw _ (List.mem_of_getElem? (i := 18) rfl))) (by decide) (t := (.array .double)) (by decide) (t' := (.array .int)) (by decide))), Fld.other W (S.2.2.2.2.1) (Or.inr (slot_ne (C := "com/example/lucky_fork/luckyfork/model/GroupSums") (Or.inl (hw _ (List.mem_of_getElem? (i := 16) rfl))) (Or.inl (hw _ (List.mem_of_getElem? (i := 18) rfl))) (by decide) (t := (.array .int)) (by decide) (t' := (.array .int)) (by decide))), Fld.same W (S.2.2.2.2.2.1), Fld.other W (S.2.2.2.2.2.2.1) (Or.inr (slot_ne (C := "com/example/lucky_fork/luckyfork/model/GroupSums") (Or.inl (hw _ (List.mem_of_getElem? (i := 39) rfl))) (Or.inl (hw _ (List.mem_of_getElem? (i := 18) rfl))) (by decide) (t := .int) (by decide) (t' := (.array .int)) (by decide))), Fld.other W (S.2.2.2.2.2.2.2.1) (Or.inr (slot_ne (C := "com/example/lucky_fork/luckyfork/model/GroupSums") (Or.inl (hw _ (List.mem_of_getElem? (i := 41) rfl))) (Or.inl (hw _ (List.mem_of_getElem? (i := 18) rfl))) (by decide) (t := .boolean) (by decide) (t' := (.array .int)) (by decide))), Fld.other W (S.2.2.2.2.2.2.2.2.1) (Or.inr (slot_ne (C := "com/example/lucky_fork/luckyfork/model/GroupSums") (Or.inl (hw _ (List.mem_of_getElem? (i := 65) rfl))) (Or.inl (hw _ (List.mem_of_getElem? (i := 18) rfl))) (by decide) (t := .int) (by decide) (t' := (.array .int)) (by decide))), Fld.other W (S.2.2.2.2.2.2.2.2.2) (Or.inr (slot_ne (C := "com/example/lucky_fork/luckyfork/model/GroupSums") (Or.inl (hw _ (List.mem_of_getElem? (i := 63) rfl))) (Or.inl (hw _ (List.mem_of_getElem? (i := 18) rfl))) (by decide) (t := .double) (by decide) (t' := (.array .int)) (by decide)))⟩
theorem Gs.put_pendingCount {Z : State} {h h' : Heap} {a : Nat} {u_leaves u_depth u_rates u_counts u_pending u_pendingCount u_rebuild u_countBefore u_rateBefore u : Value} {a0 : Array Value} (S : Gs Z h a u_leaves u_depth u_rates u_counts u_pending u_pendingCount u_rebuild u_countBefore u_rateBefore) (hw : ∀ d ∈ tables_1, d.before a0 Z = true) (W : Wr h h' a (Jvm.RoadKit.slotOf Z "com/example/lucky_fork/luckyfork/model/GroupSums" "pendingCount" "I") u) : Gs Z h' a u_leaves u_depth u_rates u_counts u_pending u u_rebuild u_countBefore u_rateBefore := ⟨Exa.wr W S.1, Fld.other W (S.2.1) (Or.inr (slot_ne (C := "com/example/lucky_fork/luckyfork/model/GroupSums") (Or.inl (hw _ (List.mem_of_getElem? (i := 10) rfl))) (Or.inl (hw _ (List.mem_of_getElem? (i := 39) rfl))) (by decide) (t := .int) (by decide) (t' := .int) (by decide))), Fld.other W (S.2.2.1) (Or.inr (slot_ne (C := "com/example/lucky_fork/luckyfork/model/GroupSums") (Or.inl (hw _ (List.mem_of_getElem? (i := 37) rfl))) (Or.inl (hw _ (List.mem_of_getElem? (i := 39) rfl))) (by decide) (t := .int) (by decide) (t' := .int) (by decide))), Fld.other W (S.2.2.2.1) (Or.inr (slot_ne (C := "com/example/lucky_fork/luckyfork/model/GroupSums") (Or.inl (hw _ (List.mem_of_getElem? (i := 13) rfl))) (Or.inl (hw _ (List.mem_of_getElem? (i := 39) rfl))) (by decide) (t := (.array .double)) (by decide) (t' := .int) (by decide))), Fld.other W (S.2.2.2.2.1) (Or.inr (slot_ne (C := "com/example/lucky_fork/luckyfork/model/GroupSums") (Or.inl (hw _ (List.mem_of_getElem? (i := 16) rfl))) (Or.inl (hw _ (List.mem_of_getElem? (i := 39) rfl))) (by decide) (t := (.array .int)) (by decide) (t' := .int) (by decide))), Fld.other W (S.2.2.2.2.2.1) (Or.inr (slot_ne (C := "com/example/lucky_fork/luckyfork/model/GroupSums") (Or.inl (hw _ (List.mem_of_getElem? (i := 18) rfl))) (Or.inl (hw _ (List.mem_of_getElem? (i := 39) rfl))) (by decide) (t := (.array .int)) (by decide) (t' := .int) (by decide))), Fld.same W (S.2.2.2.2.2.2.1), Fld.other W (S.2.2.2.2.2.2.2.1) (Or.inr (slot_ne (C := "com/example/lucky_fork/luckyfork/model/GroupSums") (Or.inl (hw _ (List.mem_of_getElem? (i := 41) rfl))) (Or.inl (hw _ (List.mem_of_getElem? (i := 39) rfl))) (by decide) (t := .boolean) (by decide) (t' := .int) (by decide))), Fld.other W (S.2.2.2.2.2.2.2.2.1) (Or.inr (slot_ne (C := "com/example/lucky_fork/luckyfork/model/GroupSums") (Or.inl (hw _ (List.mem_of_getElem? (i := 65) rfl))) (Or.inl (hw _ (List.mem_of_getElem? (i := 39) rfl))) (by decide) (t := .int) (by decide) (t' := .int) (by decide))), Fld.other W (S.2.2.2.2.2.2.2.2.2) (Or.inr (slot_ne (C := "com/example/lucky_fork/luckyfork/model/GroupSums") (Or.inl (hw _ (List.mem_of_getElem? (i := 63) rfl))) (Or.inl (hw _ (List.mem_of_getElem? (i := 39) rfl))) (by decide) (t := .double) (by decide) (t' := .int) (by decide)))⟩
theorem Gs.put_rebuild {Z : State} {h h' : Heap} {a : Nat} {u_leaves u_depth u_rates u_counts u_pending u_pendingCount u_rebuild u_countBefore u_rateBefore u : Value} {a0 : Array Value} (S : Gs Z h a u_leaves u_depth u_rates u_counts u_pending u_pendingCount u_rebuild u_countBefore u_rateBefore) (hw : ∀ d ∈ tables_1, d.before a0 Z = true) (W : Wr h h' a (Jvm.RoadKit.slotOf Z "com/example/lucky_fork/luckyfork/model/GroupSums" "rebuild" "Z") u) : Gs Z h' a u_leaves u_depth u_rates u_counts u_pending u_pendingCount u u_countBefore u_rateBefore := ⟨Exa.wr W S.1, Fld.other W (S.2.1) (Or.inr (slot_ne (C := "com/example/lucky_fork/luckyfork/model/GroupSums") (Or.inl (hw _ (List.mem_of_getElem? (i := 10) rfl))) (Or.inl (hw _ (List.mem_of_getElem? (i := 41) rfl))) (by decide) (t := .int) (by decide) (t' := .boolean) (by decide))), Fld.other W (S.2.2.1) (Or.inr (slot_ne (C := "com/example/lucky_fork/luckyfork/model/GroupSums") (Or.inl (hw _ (List.mem_of_getElem? (i := 37) rfl))) (Or.inl (hw _ (List.mem_of_getElem? (i := 41) rfl))) (by decide) (t := .int) (by decide) (t' := .boolean) (by decide))), Fld.other W (S.2.2.2.1) (Or.inr (slot_ne (C := "com/example/lucky_fork/luckyfork/model/GroupSums") (Or.inl (hw _ (List.mem_of_getElem? (i := 13) rfl))) (Or.inl (hw _ (List.mem_of_getElem? (i := 41) rfl))) (by decide) (t := (.array .double)) (by decide) (t' := .boolean) (by decide))), Fld.other W (S.2.2.2.2.1) (Or.inr (slot_ne (C := "com/example/lucky_fork/luckyfork/model/GroupSums") (Or.inl (hw _ (List.mem_of_getElem? (i := 16) rfl))) (Or.inl (hw _ (List.mem_of_getElem? (i := 41) rfl))) (by decide) (t := (.array .int)) (by decide) (t' := .boolean) (by decide))), Fld.other W (S.2.2.2.2.2.1) (Or.inr (slot_ne (C := "com/example/lucky_fork/luckyfork/model/GroupSums") (Or.inl (hw _ (List.mem_of_getElem? (i := 18) rfl))) (Or.inl (hw _ (List.mem_of_getElem? (i := 41) rfl))) (by decide) (t := (.array .int)) (by decide) (t' := .boolean) (by decide))), Fld.other W (S.2.2.2.2.2.2.1) (Or.inr (slot_ne (C := "com/example/lucky_fork/luckyfork/model/GroupSums") (Or.inl (hw _ (List.mem_of_getElem? (i := 39) rfl))) (Or.inl (hw _ (List.mem_of_getElem? (i := 41) rfl))) (by decide) (t := .int) (by decide) (t' := .boolean) (by decide))), Fld.same W (S.2.2.2.2.2.2.2.1), Fld.other W (S.2.2.2.2.2.2.2.2.1) (Or.inr (slot_ne (C := "com/example/lucky_fork/luckyfork/model/GroupSums") (Or.inl (hw _ (List.mem_of_getElem? (i := 65) rfl))) (Or.inl (hw _ (List.mem_of_getElem? (i := 41) rfl))) (by decide) (t := .int) (by decide) (t' := .boolean) (by decide))), Fld.other W (S.2.2.2.2.2.2.2.2.2) (Or.inr (slot_ne (C := "com/example/lucky_fork/luckyfork/model/GroupSums") (Or.inl (hw _ (List.mem_of_getElem? (i := 63) rfl))) (Or.inl (hw _ (List.mem_of_getElem? (i := 41) rfl))) (by decide) (t := .double) (by decide) (t' := .boolean) (by decide)))⟩
theorem Gs.put_countBefore {Z : State} {h h' : Heap} {a : Nat} {u_leaves u_depth u_rates u_counts u_pending u_pendingCount u_rebuild u_countBefore u_rateBefore u : Value} {a0 : Array Value} (S : Gs Z h a u_leaves u_depth u_rates u_counts u_pending u_pendingCount u_rebuild u_countBefore u_rateBefore) (hw : ∀ d ∈ tables_1, d.before a0 Z = true) (W : Wr h h' a (Jvm.RoadKit.slotOf Z "com/example/lucky_fork/luckyfork/model/GroupSums" "countBefore" "I") u) : Gs Z h' a u_leaves u_depth u_rates u_counts u_pending u_pendingCount u_rebuild u u_rateBefore := ⟨Exa.wr W S.1, Fld.other W (S.2.1) (Or.inr (slot_ne (C := "com/example/lucky_fork/luckyfork/model/GroupSums") (Or.inl (hw _ (List.mem_of_getElem? (i := 10) rfl))) (Or.inl (hw _ (List.mem_of_getElem? (i := 65) rfl))) (by decide) (t := .int) (by decide) (t' := .int) (by decide))), Fld.other W (S.2.2.1) (Or.inr (slot_ne (C := "com/example/lucky_fork/luckyfork/model/GroupSums") (Or.inl (hw _ (List.mem_of_getElem? (i := 37) rfl))) (Or.inl (hw _ (List.mem_of_getElem? (i := 65) rfl))) (by decide) (t := .int) (by decide) (t' := .int) (by decide))), Fld.other W (S.2.2.2.1) (Or.inr (slot_ne (C := "com/example/lucky_fork/luckyfork/model/GroupSums") (Or.inl (hw _ (List.mem_of_getElem? (i := 13) rfl))) (Or.inl (hw _ (List.mem_of_getElem? (i := 65) rfl))) (by decide) (t := (.array .double)) (by decide) (t' := .int) (by decide))), Fld.other W (S.2.2.2.2.1) (Or.inr (slot_ne (C := "com/example/lucky_fork/luckyfork/model/GroupSums") (Or.inl (hw _ (List.mem_of_getElem? (i := 16) rfl))) (Or.inl (hw _ (List.mem_of_getElem? (i := 65) rfl))) (by decide) (t := (.array .int)) (by decide) (t' := .int) (by decide))), Fld.other W (S.2.2.2.2.2.1) (Or.inr (slot_ne (C := "com/example/lucky_fork/luckyfork/model/GroupSums") (Or.inl (hw _ (List.mem_of_getElem? (i := 18) rfl))) (Or.inl (hw _ (List.mem_of_getElem? (i := 65) rfl))) (by decide) (t := (.array .int)) (by decide) (t' := .int) (by decide))), Fld.other W (S.2.2.2.2.2.2.1) (Or.inr (slot_ne (C := "com/example/lucky_fork/luckyfork/model/GroupSums") (Or.inl (hw _ (List.mem_of_getElem? (i := 39) rfl))) (Or.inl (hw _ (List.mem_of_getElem? (i := 65) rfl))) (by decide) (t := .int) (by decide) (t' := .int) (by decide))), Fld.other W (S.2.2.2.2.2.2.2.1) (Or.inr (slot_ne (C := "com/example/lucky_fork/luckyfork/model/GroupSums") (Or.inl (hw _ (List.mem_of_getElem? (i := 41) rfl))) (Or.inl (hw _ (List.mem_of_getElem? (i := 65) rfl))) (by decide) (t := .boolean) (by decide) (t' := .int) (by decide))), Fld.same W (S.2.2.2.2.2.2.2.2.1), Fld.other W (S.2.2.2.2.2.2.2.2.2) (Or.inr (slot_ne (C := "com/example/lucky_fork/luckyfork/model/GroupSums") (Or.inl (hw _ (List.mem_of_getElem? (i := 63) rfl))) (Or.inl (hw _ (List.mem_of_getElem? (i := 65) rfl))) (by decide) (t := .double) (by decide) (t' := .int) (by decide)))⟩
theorem Gs.put_rateBefore {Z : State} {h h' : Heap} {a : Nat} {u_leaves u_depth u_rates u_counts u_pending u_pendingCount u_rebuild u_countBefore u_rateBefore u : Value} {a0 : Array Value} (S : Gs Z h a u_leaves u_depth u_rates u_counts u_pending u_pendingCount u_rebuild u_countBefore u_rateBefore) (hw : ∀ d ∈ tables_1, d.before a0 Z = true) (W : Wr h h' a (Jvm.RoadKit.slotOf Z "com/example/lucky_fork/luckyfork/model/GroupSums" "rateBefore" "D") u) : Gs Z h' a u_leaves u_depth u_rates u_counts u_pending u_pendingCount u_rebuild u_countBefore u := ⟨Exa.wr W S.1, Fld.other W (S.2.1) (Or.inr (slot_ne (C := "com/example/lucky_fork/luckyfork/model/GroupSums") (Or.inl (hw _ (List.mem_of_getElem? (i := 10) rfl))) (Or.inl (hw _ (List.mem_of_getElem? (i := 63) rfl))) (by decide) (t := .int) (by decide) (t' := .double) (by decide))), Fld.other W (S.2.2.1) (Or.inr (slot_ne (C := "com/example/lucky_fork/luckyfork/model/GroupSums") (Or.inl (hw _ (List.mem_of_getElem? (i := 37) rfl))) (Or.inl (hw _ (List.mem_of_getElem? (i := 63) rfl))) (by decide) (t := .int) (by decide) (t' := .double) (by decide))), Fld.other W (S.2.2.2.1) (Or.inr (slot_ne (C := "com/example/lucky_fork/luckyfork/model/GroupSums") (Or.inl (hw _ (List.mem_of_getElem? (i := 13) rfl))) (Or.inl (hw _ (List.mem_of_getElem? (i := 63) rfl))) (by decide) (t := (.array .double)) (by decide) (t' := .double) (by decide))), Fld.other W (S.2.2.2.2.1) (Or.inr (slot_ne (C := "com/example/lucky_fork/luckyfork/model/GroupSums") (Or.inl (hw _ (List.mem_of_getElem? (i := 16) rfl))) (Or.inl (hw _ (List.mem_of_getElem? (i := 63) rfl))) (by decide) (t := (.array .int)) (by decide) (t' := .double) (by decide))), Fld.other W (S.2.2.2.2.2.1) (Or.inr (slot_ne (C := "com/example/lucky_fork/luckyfork/model/GroupSums") (Or.inl (hw _ (List.mem_of_getElem? (i := 18) rfl))) (Or.inl (hw _ (List.mem_of_getElem? (i := 63) rfl))) (by decide) (t := (.array .int)) (by decide) (t' := .double) (by decide))), Fld.other W (S.2.2.2.2.2.2.1) (Or.inr (slot_ne (C := "com/example/lucky_fork/luckyfork/model/GroupSums") (Or.inl (hw _ (List.mem_of_getElem? (i := 39) rfl))) (Or.inl (hw _ (List.mem_of_getElem? (i := 63) rfl))) (by decide) (t := .int) (by decide) (t' := .double) (by decide))), Fld.other W (S.2.2.2.2.2.2.2.1) (Or.inr (slot_ne (C := "com/example/lucky_fork/luckyfork/model/GroupSums") (Or.inl (hw _ (List.mem_of_getElem? (i := 41) rfl))) (Or.inl (hw _ (List.mem_of_getElem? (i := 63) rfl))) (by decide) (t := .boolean) (by decide) (t' := .double) (by decide))), Fld.other W (S.2.2.2.2.2.2.2.2.1) (Or.inr (slot_ne (C := "com/example/lucky_fork/luckyfork/model/GroupSums") (Or.inl (hw _ (List.mem_of_getElem? (i := 65) rfl))) (Or.inl (hw _ (List.mem_of_getElem? (i := 63) rfl))) (by decide) (t := .int) (by decide) (t' := .double) (by decide))), Fld.same W (S.2.2.2.2.2.2.2.2.2)⟩
def Gt (Z : State) (h : Heap) (n0 : Nat) (a r c p : Nat) (lv dp pn rb cb : Int32) (bf : UInt64) (rs cs ps : List Value) : Prop := Gs Z h a (.int lv) (.int dp) (.ref r) (.ref c) (.ref p) (.int pn) (.int rb) (.int cb) (.double bf) ∧ Arl Z h r .double rs ∧ Arl Z h c .int cs ∧ Arl Z h p .int ps ∧ (n0 ≤ a ∧ n0 ≤ r ∧ n0 ≤ c ∧ n0 ≤ p) ∧ (a ≠ r ∧ a ≠ c ∧ a ≠ p ∧ r ≠ c ∧ r ≠ p ∧ c ≠ p)
theorem Gt.put_leaves {Z : State} {h h' : Heap} {n0 : Nat} {a r c p : Nat} {lv dp pn rb cb : Int32} {bf : UInt64} {rs cs ps : List Value} {a0 : Array Value} {u : Int32} (S : Gt Z h n0 a r c p lv dp pn rb cb bf rs cs ps) (hw : ∀ d ∈ tables_1, d.before a0 Z = true) (W : Wr h h' a (Jvm.RoadKit.slotOf Z "com/example/lucky_fork/luckyfork/model/GroupSums" "leaves" "I") (.int u)) : Gt Z h' n0 a r c p u dp pn rb cb bf rs cs ps := ⟨S.1.put_leaves hw W, S.2.1.far W S.2.2.2.2.2.1.symm, S.2.2.1.far W S.2.2.2.2.2.2.1.symm, S.2.2.2.1.far W S.2.2.2.2.2.2.2.1.symm, S.2.2.2.2⟩
theorem Gt.put_depth {Z : State} {h h' : Heap} {n0 : Nat} {a r c p : Nat} {lv dp pn rb cb : Int32} {bf : UInt64} {rs cs ps : List Value} {a0 : Array Value} {u : Int32} (S : Gt Z h n0 a r c p lv dp pn rb cb bf rs cs ps) (hw : ∀ d ∈ tables_1, d.before a0 Z = true) (W : Wr h h' a (Jvm.RoadKit.slotOf Z "com/example/lucky_fork/luckyfork/model/GroupSums" "depth" "I") (.int u)) : Gt Z h' n0 a r c p lv u pn rb cb bf rs cs ps := ⟨S.1.put_depth hw W, S.2.1.far W S.2.2.2.2.2.1.symm, S.2.2.1.far W S.2.2.2.2.2.2.1.symm, S.2.2.2.1.far W S.2.2.2.2.2.2.2.1.symm, S.2.2.2.2⟩
theorem Gt.put_pendingCount {Z : State} {h h' : Heap} {n0 : Nat} {a r c p : Nat} {lv dp pn rb cb : Int32} {bf : UInt64} {rs cs ps : List Value} {a0 : Array Value} {u : Int32} (S : Gt Z h n0 a r c p lv dp pn rb cb bf rs cs ps) (hw : ∀ d ∈ tables_1, d.before a0 Z = true) (W : Wr h h' a (Jvm.RoadKit.slotOf Z "com/example/lucky_fork/luckyfork/model/GroupSums" "pendingCount" "I") (.int u)) : Gt Z h' n0 a r c p lv dp u rb cb bf rs cs ps := ⟨S.1.put_pendingCount hw W, S.2.1.far W S.2.2.2.2.2.1.symm, S.2.2.1.far W S.2.2.2.2.2.2.1.symm, S.2.2.2.1.far W S.2.2.2.2.2.2.2.1.symm, S.2.2.2.2⟩
theorem Gt.put_rebuild {Z : State} {h h' : Heap} {n0 : Nat} {a r c p : Nat} {lv dp pn rb cb : Int32} {bf : UInt64} {rs cs ps : List Value} {a0 : Array Value} {u : Int32} (S : Gt Z h n0 a r c p lv dp pn rb cb bf rs cs ps) (hw : ∀ d ∈ tables_1, d.before a0 Z = true) (W : Wr h h' a (Jvm.RoadKit.slotOf Z "com/example/lucky_fork/luckyfork/model/GroupSums" "rebuild" "Z") (.int u)) : Gt Z h' n0 a r c p lv dp pn u cb bf rs cs ps := ⟨S.1.put_rebuild hw W, S.2.1.far W S.2.2.2.2.2.1.symm, S.2.2.1.far W S.2.2.2.2.2.2.1.symm, S.2.2.2.1.far W S.2.2.2.2.2.2.2.1.symm, S.2.2.2.2⟩
theorem Gt.put_countBefore {Z : State} {h h' : Heap} {n0 : Nat} {a r c p : Nat} {lv dp pn rb cb : Int32} {bf : UInt64} {rs cs ps : List Value} {a0 : Array Value} {u : Int32} (S : Gt Z h n0 a r c p lv dp pn rb cb bf rs cs ps) (hw : ∀ d ∈ tables_1, d.before a0 Z = true) (W : Wr h h' a (Jvm.RoadKit.slotOf Z "com/example/lucky_fork/luckyfork/model/GroupSums" "countBefore" "I") (.int u)) : Gt Z h' n0 a r c p lv dp pn rb u bf rs cs ps := ⟨S.1.put_countBefore hw W, S.2.1.far W S.2.2.2.2.2.1.symm, S.2.2.1.far W S.2.2.2.2.2.2.1.symm, S.2.2.2.1.far W S.2.2.2.2.2.2.2.1.symm, S.2.2.2.2⟩
theorem Gt.put_rateBefore {Z : State} {h h' : Heap} {n0 : Nat} {a r c p : Nat} {lv dp pn rb cb : Int32} {bf : UInt64} {rs cs ps : List Value} {a0 : Array Value} {u : UInt64} (S : Gt Z h n0 a r c p lv dp pn rb cb bf rs cs ps) (hw : ∀ d ∈ tables_1, d.before a0 Z = true) (W : Wr h h' a (Jvm.RoadKit.slotOf Z "com/example/lucky_fork/luckyfork/model/GroupSums" "rateBefore" "D") (.double u)) : Gt Z h' n0 a r c p lv dp pn rb cb u rs cs ps := ⟨S.1.put_rateBefore hw W, S.2.1.far W S.2.2.2.2.2.1.symm, S.2.2.1.far W S.2.2.2.2.2.2.1.symm, S.2.2.2.1.far W S.2.2.2.2.2.2.2.1.symm, S.2.2.2.2⟩
theorem Gt.setR {Z : State} {h h' : Heap} {n0 : Nat} {a r c p : Nat} {lv dp pn rb cb : Int32} {bf : UInt64} {rs cs ps : List Value} {k : Nat} {v : Value} (S : Gt Z h n0 a r c p lv dp pn rb cb bf rs cs ps) (W : Wr h h' r k v) : Gt Z h' n0 a r c p lv dp pn rb cb bf (rs.set k v) cs ps := ⟨S.1.far W S.2.2.2.2.2.1, S.2.1.put W, S.2.2.1.far W S.2.2.2.2.2.2.2.2.1.symm, S.2.2.2.1.far W S.2.2.2.2.2.2.2.2.2.1.symm, S.2.2.2.2⟩
theorem Gt.setC {Z : State} {h h' : Heap} {n0 : Nat} {a r c p : Nat} {lv dp pn rb cb : Int32} {bf : UInt64} {rs cs ps : List Value} {k : Nat} {v : Value} (S : Gt Z h n0 a r c p lv dp pn rb cb bf rs cs ps) (W : Wr h h' c k v) : Gt Z h' n0 a r c p lv dp pn rb cb bf rs (cs.set k v) ps := ⟨S.1.far W S.2.2.2.2.2.2.1, S.2.1.far W S.2.2.2.2.2.2.2.2.1, S.2.2.1.put W, S.2.2.2.1.far W S.2.2.2.2.2.2.2.2.2.2.symm, S.2.2.2.2⟩
theorem Gt.setP {Z : State} {h h' : Heap} {n0 : Nat} {a r c p : Nat} {lv dp pn rb cb : Int32} {bf : UInt64} {rs cs ps : List Value} {k : Nat} {v : Value} (S : Gt Z h n0 a r c p lv dp pn rb cb bf rs cs ps) (W : Wr h h' p k v) : Gt Z h' n0 a r c p lv dp pn rb cb bf rs cs (ps.set k v) := ⟨S.1.far W S.2.2.2.2.2.2.2.1, S.2.1.far W S.2.2.2.2.2.2.2.2.2.1, S.2.2.1.far W S.2.2.2.2.2.2.2.2.2.2, S.2.2.2.1.put W, S.2.2.2.2⟩
theorem Gt.z0 {Z : State} {h : Heap} {n0 : Nat} {a r c p : Nat} {lv dp pn rb cb : Int32} {bf : UInt64} {rs cs ps : List Value} (S : Gt Z h n0 a r c p lv dp pn rb cb bf rs cs ps) : n0 ≤ h.size := Nat.le_of_lt (Nat.lt_of_le_of_lt S.2.2.2.2.1.1 S.1.lt)
theorem own_d00 : FP.dadd 0 0 = 0 := by decide +kernel
theorem own_n00 : Jvm.Free.Fl.NoNaN64 (FP.dadd 0 0) := by rw [own_d00]; unfold Jvm.Free.Fl.NoNaN64; decide
theorem own_add {x y z : Int32} (e : x + y = z) (b1 : 0 ≤ x.toInt) (b2 : x.toInt < 1073741824) (b3 : 0 ≤ y.toInt) (b4 : y.toInt < 1073741824) : z.toInt = x.toInt + y.toInt := by
  have h1 := c_iadd x y
  have h2 := rng32 (x + y)
  rw [e] at h1 h2
  omega
set_option maxRecDepth 65536 in
set_option maxHeartbeats 40000000 in
theorem own_init (l : Launch) (Z : State) (a0 : Array Value) (hw : ∀ d ∈ tables_1, d.before a0 Z = true) (h0 : Heap) (n0 : Nat) (Z0 : n0 ≤ h0.size) (a : Nat) (ge : n0 ≤ a) (S : Gs Z h0 a (.int 0) (.int 0) .null .null .null (.int 0) (.int 0) (.int 0) (.double 0)) :
    Met l Z (⟨"com/example/lucky_fork/luckyfork/model/GroupSums", "<init>", "()V"⟩ : MethodName) prog_120_method_1_code 1 none ({ frames := 1, cells := 3, slots := 12, locals := 12 } : Room) n0 #[(.ref a)] h0 (fun v h => v = none ∧ ∃ r c p, Gt Z h n0 a r c p (1 : Int32) (0 : Int32) (0 : Int32) (0 : Int32) (0 : Int32) (0 : UInt64) [(.double (0 : UInt64)), (.double (0 : UInt64))] [(.int (0 : Int32)), (.int (0 : Int32))] [(.int (0 : Int32)), (.int (0 : Int32)), (.int (0 : Int32)), (.int (0 : Int32)), (.int (0 : Int32)), (.int (0 : Int32)), (.int (0 : Int32)), (.int (0 : Int32))]) := by
  refine Met.of (Ls := #[.val (.ref a)]) (plainFor_of_name pn_0) (fun m => by first | (simp [entryFrame, mkF, argsToLocals, Value.category, maxLocals]; done) | rfl) (fun κ w => ?_)
  replace w : Wk κ l Z "com/example/lucky_fork/luckyfork/model/GroupSums" "<init>" prog_120_method_1_code 1 none ({ frames := 1, cells := 3, slots := 12, locals := 12 } : Room) n0 h0 0 0 0 #[.val (.ref a)] [] := w
  replace w := w.aloadN (q := 1) (v := (.ref a)) dp120m1_0 rfl rfl rfl
  replace w := w.initO (q := 4) (hw _ (List.mem_of_getElem? (i := 6) rfl)) (hw _ (List.mem_of_getElem? (i := 7) rfl)) (hw _ (List.mem_of_getElem? (i := 8) rfl)) dp120m1_1 rfl (by decide) (W := 0) (Nat.le_of_eq rfl) (by decide) rfl
  replace w := w.aloadN (q := 5) (v := (.ref a)) dp120m1_4 rfl rfl rfl
  replace w := w.iconst (q := 6) (z := (1 : Int32)) dp120m1_5 (by decide) rfl
  obtain ⟨h1, W2, w⟩ := w.putF (q := 9) (C := "com/example/lucky_fork/luckyfork/model/GroupSums") (hw _ (List.mem_of_getElem? (i := 9) rfl)) (S.2.1) (S.1) (Or.inl (hw _ (List.mem_of_getElem? (i := 10) rfl))) (hw _ (List.mem_of_getElem? (i := 1) rfl)) (ty := .int) (by decide) rfl rfl dp120m1_6 (ge) rfl
  replace S := S.put_leaves hw W2
  replace w := w.aloadN (q := 10) (v := (.ref a)) dp120m1_9 rfl rfl rfl
  replace w := w.iconst (q := 11) (z := (2 : Int32)) dp120m1_10 (by decide) rfl
  obtain ⟨h3, r, cr, er, Er, Ar, w⟩ := w.newP (q := 13) (cap := 2) (ty := .double) (hw _ (List.mem_of_getElem? (i := 11) rfl)) rfl dp120m1_11 (by decide) (by decide) (by decide) (by decide) (by decide) rfl
  have lt_r : a < r := by rw [er]; exact S.lt
  replace S := S.ext Er
  have Fr : Arl Z h3 r .double [.double 0, .double 0] := Arl.new Ar rfl
  obtain ⟨h4, W5, w⟩ := w.putF (q := 16) (C := "com/example/lucky_fork/luckyfork/model/GroupSums") (hw _ (List.mem_of_getElem? (i := 12) rfl)) (S.2.2.2.1) (S.1) (Or.inl (hw _ (List.mem_of_getElem? (i := 13) rfl))) (hw _ (List.mem_of_getElem? (i := 1) rfl)) (ty := (.array .double)) (by decide) rfl rfl dp120m1_13 (ge) rfl
  replace S := S.put_rates hw W5
  replace Fr := Fr.far W5 (by omega)
  replace w := w.aloadN (q := 17) (v := (.ref a)) dp120m1_16 rfl rfl rfl
  replace w := w.iconst (q := 18) (z := (2 : Int32)) dp120m1_17 (by decide) rfl
  obtain ⟨h6, c, cc, ec, Ec, Ac, w⟩ := w.newP (q := 20) (cap := 2) (ty := .int) (hw _ (List.mem_of_getElem? (i := 14) rfl)) rfl dp120m1_18 (by decide) (by decide) (by decide) (by decide) (by decide) rfl
  have lt_c : a < c := by rw [ec]; exact S.lt
  have lt_r_c : r < c := by rw [ec]; exact Fr.lt
  replace S := S.ext Ec
  replace Fr := Fr.ext Ec
  have Fc : Arl Z h6 c .int [.int 0, .int 0] := Arl.new Ac rfl
  obtain ⟨h7, W8, w⟩ := w.putF (q := 23) (C := "com/example/lucky_fork/luckyfork/model/GroupSums") (hw _ (List.mem_of_getElem? (i := 15) rfl)) (S.2.2.2.2.1) (S.1) (Or.inl (hw _ (List.mem_of_getElem? (i := 16) rfl))) (hw _ (List.mem_of_getElem? (i := 1) rfl)) (ty := (.array .int)) (by decide) rfl rfl dp120m1_20 (ge) rfl
  replace S := S.put_counts hw W8
  replace Fr := Fr.far W8 (by omega)
  replace Fc := Fc.far W8 (by omega)
  replace w := w.aloadN (q := 24) (v := (.ref a)) dp120m1_23 rfl rfl rfl
  replace w := w.bipush (q := 26) (z := (8 : Int32)) dp120m1_24 (by decide) rfl
  obtain ⟨h9, p, cp, ep, Ep, Ap, w⟩ := w.newP (q := 28) (cap := 8) (ty := .int) (hw _ (List.mem_of_getElem? (i := 14) rfl)) rfl dp120m1_26 (by decide) (by decide) (by decide) (by decide) (by decide) rfl
  have lt_p : a < p := by rw [ep]; exact S.lt
  have lt_r_p : r < p := by rw [ep]; exact Fr.lt
  have lt_c_p : c < p := by rw [ep]; exact Fc.lt
  replace S := S.ext Ep
  replace Fr := Fr.ext Ep
  replace Fc := Fc.ext Ep
  have Fp : Arl Z h9 p .int [.int 0, .int 0, .int 0, .int 0, .int 0, .int 0, .int 0, .int 0] := Arl.new Ap rfl
  obtain ⟨h10, W11, w⟩ := w.putF (q := 31) (C := "com/example/lucky_fork/luckyfork/model/GroupSums") (hw _ (List.mem_of_getElem? (i := 17) rfl)) (S.2.2.2.2.2.1) (S.1) (Or.inl (hw _ (List.mem_of_getElem? (i := 18) rfl))) (hw _ (List.mem_of_getElem? (i := 1) rfl)) (ty := (.array .int)) (by decide) rfl rfl dp120m1_28 (ge) rfl
  replace S := S.put_pending hw W11
  replace Fr := Fr.far W11 (by omega)
  replace Fc := Fc.far W11 (by omega)
  replace Fp := Fp.far W11 (by omega)
  exact w.retV dp120m1_31 ⟨rfl, r, c, p, S, Fr, Fc, Fp, ⟨ge, by omega, by omega, by omega⟩, by omega, by omega, by omega, by omega, by omega, by omega⟩ (by decide) (by decide)
set_option maxRecDepth 65536 in
set_option maxHeartbeats 40000000 in
theorem own_nlz_3 (l : Launch) (Z : State) (a0 : Array Value) (hw : ∀ d ∈ tables_1, d.before a0 Z = true) (h0 : Heap) (n0 : Nat) (Z0 : n0 ≤ h0.size)  :
    Met l Z (⟨"java/lang/Integer", "numberOfLeadingZeros", "(I)I"⟩ : MethodName) jdk_33_method_47_code 2 (some .int) ({ frames := 0, cells := 0, slots := 0, locals := 0 } : Room) n0 #[(.int (3 : Int32))] h0 (fun v h => h = h0 ∧ v = some (.int (30 : Int32))) := by
  refine Met.of (Ls := #[.val (.int (3 : Int32)), .unset]) (plainFor_of_name pn_1) (fun m => by first | (simp [entryFrame, mkF, argsToLocals, Value.category, maxLocals]; done) | rfl) (fun κ w => ?_)
  replace w : Wk κ l Z "java/lang/Integer" "numberOfLeadingZeros" jdk_33_method_47_code 2 (some .int) ({ frames := 0, cells := 0, slots := 0, locals := 0 } : Room) n0 h0 0 0 0 #[.val (.int (3 : Int32)), .unset] [] := w
  replace w := w.iloadN (q := 1) (v := (3 : Int32)) dj33m47_0 rfl rfl
  obtain ⟨-, w⟩ := (w.ifGt (q := 15) (q' := 4) (xi := 3) dj33m47_1 rfl (by decide) (by decide) rfl).resolve_right (fun g => by have hc1 := g.1; revert hc1; decide)
  replace w := w.bipush (q := 17) (z := (31 : Int32)) dj33m47_15 (by decide) rfl
  replace w := w.istoreN (q := 18) (l' := #[.val (.int (3 : Int32)), .val (.int (31 : Int32))]) dj33m47_17 rfl rfl
  replace w := w.iloadN (q := 19) (v := (3 : Int32)) dj33m47_18 rfl rfl
  replace w := w.ldcWI (q := 22) (z := (65536 : Int32)) (hw _ (List.mem_of_getElem? (i := 32) rfl)) dj33m47_19 rfl
  obtain ⟨-, w⟩ := (w.icmpLt (q := 33) (q' := 25) (xi := 3) (yi := 65536) dj33m47_22 rfl rfl (by decide) (by decide) rfl).resolve_right (fun g => by have hc22 := g.1; revert hc22; decide)
  replace w := w.iloadN (q := 34) (v := (3 : Int32)) dj33m47_33 rfl rfl
  replace w := w.sipush (q := 37) (z := (256 : Int32)) dj33m47_34 (by decide) rfl
  obtain ⟨-, w⟩ := (w.icmpLt (q := 48) (q' := 40) (xi := 3) (yi := 256) dj33m47_37 rfl rfl (by decide) (by decide) rfl).resolve_right (fun g => by have hc37 := g.1; revert hc37; decide)
  replace w := w.iloadN (q := 49) (v := (3 : Int32)) dj33m47_48 rfl rfl
  replace w := w.bipush (q := 51) (z := (16 : Int32)) dj33m47_49 (by decide) rfl
  obtain ⟨-, w⟩ := (w.icmpLt (q := 61) (q' := 54) (xi := 3) (yi := 16) dj33m47_51 rfl rfl (by decide) (by decide) rfl).resolve_right (fun g => by have hc51 := g.1; revert hc51; decide)
  replace w := w.iloadN (q := 62) (v := (3 : Int32)) dj33m47_61 rfl rfl
  replace w := w.iconst (q := 63) (z := (4 : Int32)) dj33m47_62 (by decide) rfl
  obtain ⟨-, w⟩ := (w.icmpLt (q := 73) (q' := 66) (xi := 3) (yi := 4) dj33m47_63 rfl rfl (by decide) (by decide) rfl).resolve_right (fun g => by have hc63 := g.1; revert hc63; decide)
  replace w := w.iloadN (q := 74) (v := (31 : Int32)) dj33m47_73 rfl rfl
  replace w := w.iloadN (q := 75) (v := (3 : Int32)) dj33m47_74 rfl rfl
  replace w := w.iconst (q := 76) (z := (1 : Int32)) dj33m47_75 (by decide) rfl
  replace w := w.iushr (q := 77) (z := (1 : Int32)) dj33m47_76 (by decide) rfl
  replace w := w.isub (q := 78) (z := (30 : Int32)) dj33m47_77 (by decide) rfl
  exact w.retI dj33m47_78 ⟨rfl, rfl⟩ (by decide) (by decide)
set_option maxRecDepth 65536 in
set_option maxHeartbeats 40000000 in
theorem own_hob_3 (l : Launch) (Z : State) (a0 : Array Value) (hw : ∀ d ∈ tables_1, d.before a0 Z = true) (h0 : Heap) (n0 : Nat) (Z0 : n0 ≤ h0.size)  :
    Met l Z (⟨"java/lang/Integer", "highestOneBit", "(I)I"⟩ : MethodName) jdk_33_method_45_code 1 (some .int) ({ frames := 1, cells := 0, slots := 0, locals := 15 } : Room) n0 #[(.int (3 : Int32))] h0 (fun v h => h = h0 ∧ v = some (.int (2 : Int32))) := by
  refine Met.of (Ls := #[.val (.int (3 : Int32))]) (plainFor_of_name pn_1) (fun m => by first | (simp [entryFrame, mkF, argsToLocals, Value.category, maxLocals]; done) | rfl) (fun κ w => ?_)
  replace w : Wk κ l Z "java/lang/Integer" "highestOneBit" jdk_33_method_45_code 1 (some .int) ({ frames := 1, cells := 0, slots := 0, locals := 15 } : Room) n0 h0 0 0 0 #[.val (.int (3 : Int32))] [] := w
  replace w := w.iloadN (q := 1) (v := (3 : Int32)) dj33m45_0 rfl rfl
  replace w := w.ldcI (q := 3) (z := (-2147483648 : Int32)) (hw _ (List.mem_of_getElem? (i := 28) rfl)) dj33m45_1 rfl
  replace w := w.iloadN (q := 4) (v := (3 : Int32)) dj33m45_3 rfl rfl
  obtain ⟨_, _, ⟨eh, rfl⟩, w⟩ := w.callS (y := (⟨"java/lang/Integer", "numberOfLeadingZeros", "(I)I"⟩ : MethodName)) (argsL := [(.int (3 : Int32))]) (rest := [(.int (-2147483648 : Int32)), (.int (3 : Int32))]) (own_nlz_3 l Z a0 hw _ n0 Z0) (hw _ (List.mem_of_getElem? (i := 29) rfl)) (hw _ (List.mem_of_getElem? (i := 30) rfl)) (hw _ (List.mem_of_getElem? (i := 26) rfl)) (hw _ (List.mem_of_getElem? (i := 31) rfl)) (by decide) dj33m45_4 (lenOf pd_0 rfl) rfl rfl (by decide) (W := 2) (Nat.le_of_eq rfl) (by decide) (by decide) (by decide) (q := 7) rfl
  rw [eh] at w
  replace w := w [(.int (30 : Int32)), (.int (-2147483648 : Int32)), (.int (3 : Int32))] rfl
  replace w := w.iushr (q := 8) (z := (2 : Int32)) dj33m45_7 (by decide) rfl
  replace w := w.iand (q := 9) (z := (2 : Int32)) dj33m45_8 (by decide) rfl
  exact w.retI dj33m45_9 ⟨rfl, rfl⟩ (by decide) (by decide)
set_option maxRecDepth 65536 in
set_option maxHeartbeats 40000000 in
theorem own_ntz_4 (l : Launch) (Z : State) (a0 : Array Value) (hw : ∀ d ∈ tables_1, d.before a0 Z = true) (h0 : Heap) (n0 : Nat) (Z0 : n0 ≤ h0.size)  :
    Met l Z (⟨"java/lang/Integer", "numberOfTrailingZeros", "(I)I"⟩ : MethodName) jdk_33_method_48_code 2 (some .int) ({ frames := 0, cells := 0, slots := 0, locals := 0 } : Room) n0 #[(.int (4 : Int32))] h0 (fun v h => h = h0 ∧ v = some (.int (2 : Int32))) := by
  refine Met.of (Ls := #[.val (.int (4 : Int32)), .unset]) (plainFor_of_name pn_1) (fun m => by first | (simp [entryFrame, mkF, argsToLocals, Value.category, maxLocals]; done) | rfl) (fun κ w => ?_)
  replace w : Wk κ l Z "java/lang/Integer" "numberOfTrailingZeros" jdk_33_method_48_code 2 (some .int) ({ frames := 0, cells := 0, slots := 0, locals := 0 } : Room) n0 h0 0 0 0 #[.val (.int (4 : Int32)), .unset] [] := w
  replace w := w.iloadN (q := 1) (v := (4 : Int32)) dj33m48_0 rfl rfl
  replace w := w.iconst (q := 2) (z := (-1 : Int32)) dj33m48_1 (by decide) rfl
  replace w := w.ixor (q := 3) (z := (-5 : Int32)) dj33m48_2 (by decide) rfl
  replace w := w.iloadN (q := 4) (v := (4 : Int32)) dj33m48_3 rfl rfl
  replace w := w.iconst (q := 5) (z := (1 : Int32)) dj33m48_4 (by decide) rfl
  replace w := w.isub (q := 6) (z := (3 : Int32)) dj33m48_5 (by decide) rfl
  replace w := w.iand (q := 7) (z := (3 : Int32)) dj33m48_6 (by decide) rfl
  replace w := w.istoreN (q := 8) (l' := #[.val (.int (3 : Int32)), .unset]) dj33m48_7 rfl rfl
  replace w := w.iloadN (q := 9) (v := (3 : Int32)) dj33m48_8 rfl rfl
  obtain ⟨-, w⟩ := (w.ifGt (q := 17) (q' := 12) (xi := 3) dj33m48_9 rfl (by decide) (by decide) rfl).resolve_right (fun g => by have hc9 := g.1; revert hc9; decide)
  replace w := w.iconst (q := 18) (z := (1 : Int32)) dj33m48_17 (by decide) rfl
  replace w := w.istoreN (q := 19) (l' := #[.val (.int (3 : Int32)), .val (.int (1 : Int32))]) dj33m48_18 rfl rfl
  replace w := w.iloadN (q := 20) (v := (3 : Int32)) dj33m48_19 rfl rfl
  replace w := w.ldcWI (q := 23) (z := (65536 : Int32)) (hw _ (List.mem_of_getElem? (i := 32) rfl)) dj33m48_20 rfl
  obtain ⟨-, w⟩ := (w.icmpLe (q := 34) (q' := 26) (xi := 3) (yi := 65536) dj33m48_23 rfl rfl (by decide) (by decide) rfl).resolve_right (fun g => by have hc23 := g.1; revert hc23; decide)
  replace w := w.iloadN (q := 35) (v := (3 : Int32)) dj33m48_34 rfl rfl
  replace w := w.sipush (q := 38) (z := (256 : Int32)) dj33m48_35 (by decide) rfl
  obtain ⟨-, w⟩ := (w.icmpLe (q := 49) (q' := 41) (xi := 3) (yi := 256) dj33m48_38 rfl rfl (by decide) (by decide) rfl).resolve_right (fun g => by have hc38 := g.1; revert hc38; decide)
  replace w := w.iloadN (q := 50) (v := (3 : Int32)) dj33m48_49 rfl rfl
  replace w := w.bipush (q := 52) (z := (16 : Int32)) dj33m48_50 (by decide) rfl
  obtain ⟨-, w⟩ := (w.icmpLe (q := 62) (q' := 55) (xi := 3) (yi := 16) dj33m48_52 rfl rfl (by decide) (by decide) rfl).resolve_right (fun g => by have hc52 := g.1; revert hc52; decide)
  replace w := w.iloadN (q := 63) (v := (3 : Int32)) dj33m48_62 rfl rfl
  replace w := w.iconst (q := 64) (z := (4 : Int32)) dj33m48_63 (by decide) rfl
  obtain ⟨-, w⟩ := (w.icmpLe (q := 74) (q' := 67) (xi := 3) (yi := 4) dj33m48_64 rfl rfl (by decide) (by decide) rfl).resolve_right (fun g => by have hc64 := g.1; revert hc64; decide)
  replace w := w.iloadN (q := 75) (v := (1 : Int32)) dj33m48_74 rfl rfl
  replace w := w.iloadN (q := 76) (v := (3 : Int32)) dj33m48_75 rfl rfl
  replace w := w.iconst (q := 77) (z := (1 : Int32)) dj33m48_76 (by decide) rfl
  replace w := w.iushr (q := 78) (z := (1 : Int32)) dj33m48_77 (by decide) rfl
  replace w := w.iadd (q := 79) (z := (2 : Int32)) dj33m48_78 (by decide) rfl
  exact w.retI dj33m48_79 ⟨rfl, rfl⟩ (by decide) (by decide)
set_option maxRecDepth 65536 in
set_option maxHeartbeats 40000000 in
theorem own_clear_4 (l : Launch) (Z : State) (a0 : Array Value) (hw : ∀ d ∈ tables_1, d.before a0 Z = true) (h0 : Heap) (n0 : Nat) (Z0 : n0 ≤ h0.size) (a r c p : Nat) (S : Gt Z h0 n0 a r c p (1 : Int32) (0 : Int32) (0 : Int32) (0 : Int32) (0 : Int32) (0 : UInt64) [(.double (0 : UInt64)), (.double (0 : UInt64))] [(.int (0 : Int32)), (.int (0 : Int32))] [(.int (0 : Int32)), (.int (0 : Int32)), (.int (0 : Int32)), (.int (0 : Int32)), (.int (0 : Int32)), (.int (0 : Int32)), (.int (0 : Int32)), (.int (0 : Int32))]) :
    Met l Z (⟨"com/example/lucky_fork/luckyfork/model/GroupSums", "clear", "(I)V"⟩ : MethodName) prog_120_method_3_code 3 none ({ frames := 2, cells := 2, slots := 16, locals := 27 } : Room) n0 #[(.ref a), (.int (4 : Int32))] h0 (fun v h => v = none ∧ ∃ r1 c1, Gt Z h n0 a r1 c1 p (4 : Int32) (2 : Int32) (0 : Int32) (0 : Int32) (0 : Int32) (0 : UInt64) [(.double (0 : UInt64)), (.double (0 : UInt64)), (.double (0 : UInt64)), (.double (0 : UInt64)), (.double (0 : UInt64)), (.double (0 : UInt64)), (.double (0 : UInt64)), (.double (0 : UInt64))] [(.int (0 : Int32)), (.int (0 : Int32)), (.int (0 : Int32)), (.int (0 : Int32)), (.int (0 : Int32)), (.int (0 : Int32)), (.int (0 : Int32)), (.int (0 : Int32))] [(.int (0 : Int32)), (.int (0 : Int32)), (.int (0 : Int32)), (.int (0 : Int32)), (.int (0 : Int32)), (.int (0 : Int32)), (.int (0 : Int32)), (.int (0 : Int32))]) := by
  refine Met.of (Ls := #[.val (.ref a), .val (.int (4 : Int32)), .unset]) (plainFor_of_name pn_0) (fun m => by first | (simp [entryFrame, mkF, argsToLocals, Value.category, maxLocals]; done) | rfl) (fun κ w => ?_)
  replace w : Wk κ l Z "com/example/lucky_fork/luckyfork/model/GroupSums" "clear" prog_120_method_3_code 3 none ({ frames := 2, cells := 2, slots := 16, locals := 27 } : Room) n0 h0 0 0 0 #[.val (.ref a), .val (.int (4 : Int32)), .unset] [] := w
  replace w := w.iloadN (q := 1) (v := (4 : Int32)) dp120m3_0 rfl rfl
  replace w := w.iconst (q := 2) (z := (1 : Int32)) dp120m3_1 (by decide) rfl
  obtain ⟨-, w⟩ := (w.icmpGt (q := 9) (q' := 5) (xi := 4) (yi := 1) dp120m3_2 rfl rfl (by decide) (by decide) rfl).resolve_right (fun g => by have hc2 := g.1; revert hc2; decide)
  replace w := w.iloadN (q := 10) (v := (4 : Int32)) dp120m3_9 rfl rfl
  replace w := w.iconst (q := 11) (z := (1 : Int32)) dp120m3_10 (by decide) rfl
  replace w := w.isub (q := 12) (z := (3 : Int32)) dp120m3_11 (by decide) rfl
  obtain ⟨_, _, ⟨eh, rfl⟩, w⟩ := w.callS (y := (⟨"java/lang/Integer", "highestOneBit", "(I)I"⟩ : MethodName)) (argsL := [(.int (3 : Int32))]) (rest := []) (own_hob_3 l Z a0 hw _ n0 S.z0) (hw _ (List.mem_of_getElem? (i := 24) rfl)) (hw _ (List.mem_of_getElem? (i := 25) rfl)) (hw _ (List.mem_of_getElem? (i := 26) rfl)) (hw _ (List.mem_of_getElem? (i := 27) rfl)) (by decide) dp120m3_12 (lenOf pd_0 rfl) rfl rfl (by decide) (W := 0) (Nat.le_of_eq rfl) (by decide) (by decide) (by decide) (q := 15) rfl
  rw [eh] at w
  replace w := w [(.int (2 : Int32))] rfl
  replace w := w.iconst (q := 16) (z := (1 : Int32)) dp120m3_15 (by decide) rfl
  replace w := w.ishl (q := 17) (z := (4 : Int32)) dp120m3_16 (by decide) rfl
  replace w := w.istoreN (q := 18) (l' := #[.val (.ref a), .val (.int (4 : Int32)), .val (.int (4 : Int32))]) dp120m3_17 rfl rfl
  replace w := w.iloadN (q := 19) (v := (4 : Int32)) dp120m3_18 rfl rfl
  replace w := w.aloadN (q := 20) (v := (.ref a)) dp120m3_19 rfl rfl rfl
  replace w := w.getF (q := 23) (v := (.int (1 : Int32))) (hw _ (List.mem_of_getElem? (i := 9) rfl)) (S.1.2.1) dp120m3_20 rfl
  obtain ⟨-, w⟩ := (w.icmpEq (q := 69) (q' := 26) (xi := 4) (yi := 1) dp120m3_23 rfl rfl (by decide) (by decide) rfl).resolve_left (fun g => by have hc23 := g.1; revert hc23; decide)
  replace w := w.aloadN (q := 27) (v := (.ref a)) dp120m3_26 rfl rfl rfl
  replace w := w.iloadN (q := 28) (v := (4 : Int32)) dp120m3_27 rfl rfl
  obtain ⟨h12, W13, w⟩ := w.putF (q := 31) (C := "com/example/lucky_fork/luckyfork/model/GroupSums") (hw _ (List.mem_of_getElem? (i := 9) rfl)) (S.1.2.1) (S.1.1) (Or.inl (hw _ (List.mem_of_getElem? (i := 10) rfl))) (hw _ (List.mem_of_getElem? (i := 1) rfl)) (ty := .int) (by decide) rfl rfl dp120m3_28 (S.2.2.2.2.1.1) rfl
  replace S := S.put_leaves hw W13
  replace w := w.aloadN (q := 32) (v := (.ref a)) dp120m3_31 rfl rfl rfl
  replace w := w.aloadN (q := 33) (v := (.ref a)) dp120m3_32 rfl rfl rfl
  replace w := w.getF (q := 36) (v := (.int (4 : Int32))) (hw _ (List.mem_of_getElem? (i := 9) rfl)) (S.1.2.1) dp120m3_33 rfl
  obtain ⟨_, _, ⟨eh, rfl⟩, w⟩ := w.callS (y := (⟨"java/lang/Integer", "numberOfTrailingZeros", "(I)I"⟩ : MethodName)) (argsL := [(.int (4 : Int32))]) (rest := [(.ref a)]) (own_ntz_4 l Z a0 hw _ n0 S.z0) (hw _ (List.mem_of_getElem? (i := 33) rfl)) (hw _ (List.mem_of_getElem? (i := 34) rfl)) (hw _ (List.mem_of_getElem? (i := 26) rfl)) (hw _ (List.mem_of_getElem? (i := 35) rfl)) (by decide) dp120m3_36 (lenOf pd_0 rfl) rfl rfl (by decide) (W := 1) (Nat.le_of_eq rfl) (by decide) (by decide) (by decide) (q := 39) rfl
  rw [eh] at w
  replace w := w [(.int (2 : Int32)), (.ref a)] rfl
  obtain ⟨h14, W15, w⟩ := w.putF (q := 42) (C := "com/example/lucky_fork/luckyfork/model/GroupSums") (hw _ (List.mem_of_getElem? (i := 36) rfl)) (S.1.2.2.1) (S.1.1) (Or.inl (hw _ (List.mem_of_getElem? (i := 37) rfl))) (hw _ (List.mem_of_getElem? (i := 1) rfl)) (ty := .int) (by decide) rfl rfl dp120m3_39 (S.2.2.2.2.1.1) rfl
  replace S := S.put_depth hw W15
  replace w := w.aloadN (q := 43) (v := (.ref a)) dp120m3_42 rfl rfl rfl
  replace w := w.iconst (q := 44) (z := (2 : Int32)) dp120m3_43 (by decide) rfl
  replace w := w.aloadN (q := 45) (v := (.ref a)) dp120m3_44 rfl rfl rfl
  replace w := w.getF (q := 48) (v := (.int (4 : Int32))) (hw _ (List.mem_of_getElem? (i := 9) rfl)) (S.1.2.1) dp120m3_45 rfl
  replace w := w.imul (q := 49) (z := (8 : Int32)) dp120m3_48 (by decide) rfl
  obtain ⟨h16, r1, cr1, er1, Er1, Ar1, w⟩ := w.newP (q := 51) (cap := 8) (ty := .double) (hw _ (List.mem_of_getElem? (i := 11) rfl)) rfl dp120m3_49 (by decide) (by decide) (by decide) (by decide) (by decide) rfl
  have lt_r1 : a < r1 := by rw [er1]; exact S.1.lt
  have lt_p : p < r1 := by rw [er1]; exact S.2.2.2.1.lt
  have S2 := S.1.ext Er1
  have Fp := S.2.2.2.1.ext Er1
  have gep := S.2.2.2.2.1
  have nep := S.2.2.2.2.2
  have Fr : Arl Z h16 r1 .double [.double 0, .double 0, .double 0, .double 0, .double 0, .double 0, .double 0, .double 0] := Arl.new Ar1 rfl
  obtain ⟨h17, W18, w⟩ := w.putF (q := 54) (C := "com/example/lucky_fork/luckyfork/model/GroupSums") (hw _ (List.mem_of_getElem? (i := 12) rfl)) (S2.2.2.2.1) (S2.1) (Or.inl (hw _ (List.mem_of_getElem? (i := 13) rfl))) (hw _ (List.mem_of_getElem? (i := 1) rfl)) (ty := (.array .double)) (by decide) rfl rfl dp120m3_51 (gep.1) rfl
  replace S2 := S2.put_rates hw W18
  replace Fp := Fp.far W18 (by omega)
  replace Fr := Fr.far W18 (by omega)
  replace w := w.aloadN (q := 55) (v := (.ref a)) dp120m3_54 rfl rfl rfl
  replace w := w.iconst (q := 56) (z := (2 : Int32)) dp120m3_55 (by decide) rfl
  replace w := w.aloadN (q := 57) (v := (.ref a)) dp120m3_56 rfl rfl rfl
  replace w := w.getF (q := 60) (v := (.int (4 : Int32))) (hw _ (List.mem_of_getElem? (i := 9) rfl)) (S2.2.1) dp120m3_57 rfl
  replace w := w.imul (q := 61) (z := (8 : Int32)) dp120m3_60 (by decide) rfl
  obtain ⟨h19, c1, cc1, ec1, Ec1, Ac1, w⟩ := w.newP (q := 63) (cap := 8) (ty := .int) (hw _ (List.mem_of_getElem? (i := 14) rfl)) rfl dp120m3_61 (by decide) (by decide) (by decide) (by decide) (by decide) rfl
  have lt_c1 : a < c1 := by rw [ec1]; exact S2.lt
  have lt_p1 : p < c1 := by rw [ec1]; exact Fp.lt
  have lt_rc : r1 < c1 := by rw [ec1]; exact Fr.lt
  replace S2 := S2.ext Ec1
  replace Fp := Fp.ext Ec1
  replace Fr := Fr.ext Ec1
  have Fc : Arl Z h19 c1 .int [.int 0, .int 0, .int 0, .int 0, .int 0, .int 0, .int 0, .int 0] := Arl.new Ac1 rfl
  obtain ⟨h20, W21, w⟩ := w.putF (q := 66) (C := "com/example/lucky_fork/luckyfork/model/GroupSums") (hw _ (List.mem_of_getElem? (i := 15) rfl)) (S2.2.2.2.2.1) (S2.1) (Or.inl (hw _ (List.mem_of_getElem? (i := 16) rfl))) (hw _ (List.mem_of_getElem? (i := 1) rfl)) (ty := (.array .int)) (by decide) rfl rfl dp120m3_63 (gep.1) rfl
  replace S2 := S2.put_counts hw W21
  replace Fp := Fp.far W21 (by omega)
  replace Fr := Fr.far W21 (by omega)
  replace Fc := Fc.far W21 (by omega)
  have S3 : Gt Z h20 n0 a r1 c1 p (4 : Int32) (2 : Int32) (0 : Int32) (0 : Int32) (0 : Int32) (0 : UInt64) [(.double (0 : UInt64)), (.double (0 : UInt64)), (.double (0 : UInt64)), (.double (0 : UInt64)), (.double (0 : UInt64)), (.double (0 : UInt64)), (.double (0 : UInt64)), (.double (0 : UInt64))] [(.int (0 : Int32)), (.int (0 : Int32)), (.int (0 : Int32)), (.int (0 : Int32)), (.int (0 : Int32)), (.int (0 : Int32)), (.int (0 : Int32)), (.int (0 : Int32))] [(.int (0 : Int32)), (.int (0 : Int32)), (.int (0 : Int32)), (.int (0 : Int32)), (.int (0 : Int32)), (.int (0 : Int32)), (.int (0 : Int32)), (.int (0 : Int32))] := ⟨S2, Fr, Fc, Fp, ⟨gep.1, by omega, by omega, gep.2.2.2⟩, by omega, by omega, nep.2.2.1, by omega, by omega, by omega⟩
  clear S
  have S := S3
  replace w := w.goto (q := 85) dp120m3_66 (by decide) (by decide)
  replace w := w.aloadN (q := 86) (v := (.ref a)) dp120m3_85 rfl rfl rfl
  replace w := w.iconst (q := 87) (z := (0 : Int32)) dp120m3_86 (by decide) rfl
  obtain ⟨h22, W23, w⟩ := w.putF (q := 90) (C := "com/example/lucky_fork/luckyfork/model/GroupSums") (hw _ (List.mem_of_getElem? (i := 38) rfl)) (S.1.2.2.2.2.2.2.1) (S.1.1) (Or.inl (hw _ (List.mem_of_getElem? (i := 39) rfl))) (hw _ (List.mem_of_getElem? (i := 1) rfl)) (ty := .int) (by decide) rfl rfl dp120m3_87 (S.2.2.2.2.1.1) rfl
  replace S := S.put_pendingCount hw W23
  replace w := w.aloadN (q := 91) (v := (.ref a)) dp120m3_90 rfl rfl rfl
  replace w := w.iconst (q := 92) (z := (0 : Int32)) dp120m3_91 (by decide) rfl
  obtain ⟨h24, W25, w⟩ := w.putF (q := 95) (C := "com/example/lucky_fork/luckyfork/model/GroupSums") (hw _ (List.mem_of_getElem? (i := 40) rfl)) (S.1.2.2.2.2.2.2.2.1) (S.1.1) (Or.inl (hw _ (List.mem_of_getElem? (i := 41) rfl))) (hw _ (List.mem_of_getElem? (i := 1) rfl)) (ty := .boolean) (by decide) (by decide) (by decide) dp120m3_92 (S.2.2.2.2.1.1) rfl
  replace S := S.put_rebuild hw W25
  exact w.retV dp120m3_95 ⟨rfl, r1, c1, S⟩ (by decide) (by decide)
set_option maxRecDepth 65536 in
set_option maxHeartbeats 40000000 in
theorem own_au_4_1 (l : Launch) (Z : State) (a0 : Array Value) (hw : ∀ d ∈ tables_1, d.before a0 Z = true) (h0 : Heap) (n0 : Nat) (Z0 : n0 ≤ h0.size) (a r c p : Nat) (lv : Int32) (dp : Int32) (pn : Int32) (rb : Int32) (cb : Int32) (bf : UInt64) (x0 : UInt64) (x1 : UInt64) (x2 : UInt64) (x3 : UInt64) (x4 : UInt64) (x5 : UInt64) (x6 : UInt64) (x7 : UInt64) (y0 : Int32) (y1 : Int32) (y2 : Int32) (y3 : Int32) (y4 : Int32) (y5 : Int32) (y6 : Int32) (y7 : Int32) (p0 : Int32) (p1 : Int32) (p2 : Int32) (p3 : Int32) (p4 : Int32) (p5 : Int32) (p6 : Int32) (p7 : Int32) (S : Gt Z h0 n0 a r c p lv dp pn rb cb bf [(.double x0), (.double x1), (.double x2), (.double x3), (.double x4), (.double x5), (.double x6), (.double x7)] [(.int y0), (.int y1), (.int y2), (.int y3), (.int y4), (.int y5), (.int y6), (.int y7)] [(.int p0), (.int p1), (.int p2), (.int p3), (.int p4), (.int p5), (.int p6), (.int p7)]) (hnn : Jvm.Free.Fl.NoNaN64 (FP.dadd x2 x3)) :
    Met l Z (⟨"com/example/lucky_fork/luckyfork/model/GroupSums", "addUp", "(I)V"⟩ : MethodName) prog_120_method_12_code 2 none ({ frames := 0, cells := 0, slots := 0, locals := 0 } : Room) n0 #[(.ref a), (.int (1 : Int32))] h0 (fun v h => v = none ∧ Gt Z h n0 a r c p lv dp pn rb cb bf [(.double x0), (.double (FP.dadd x2 x3)), (.double x2), (.double x3), (.double x4), (.double x5), (.double x6), (.double x7)] [(.int y0), (.int (y2 + y3)), (.int y2), (.int y3), (.int y4), (.int y5), (.int y6), (.int y7)] [(.int p0), (.int p1), (.int p2), (.int p3), (.int p4), (.int p5), (.int p6), (.int p7)]) := by
  refine Met.of (Ls := #[.val (.ref a), .val (.int (1 : Int32))]) (plainFor_of_name pn_0) (fun m => by first | (simp [entryFrame, mkF, argsToLocals, Value.category, maxLocals]; done) | rfl) (fun κ w => ?_)
  replace w : Wk κ l Z "com/example/lucky_fork/luckyfork/model/GroupSums" "addUp" prog_120_method_12_code 2 none ({ frames := 0, cells := 0, slots := 0, locals := 0 } : Room) n0 h0 0 0 0 #[.val (.ref a), .val (.int (1 : Int32))] [] := w
  replace w := w.aloadN (q := 1) (v := (.ref a)) dp120m12_0 rfl rfl rfl
  replace w := w.getF (q := 4) (v := (.ref r)) (hw _ (List.mem_of_getElem? (i := 12) rfl)) (S.1.2.2.2.1) dp120m12_1 rfl
  replace w := w.iloadN (q := 5) (v := (1 : Int32)) dp120m12_4 rfl rfl
  replace w := w.aloadN (q := 6) (v := (.ref a)) dp120m12_5 rfl rfl rfl
  replace w := w.getF (q := 9) (v := (.ref r)) (hw _ (List.mem_of_getElem? (i := 12) rfl)) (S.1.2.2.2.1) dp120m12_6 rfl
  replace w := w.iconst (q := 10) (z := (2 : Int32)) dp120m12_9 (by decide) rfl
  replace w := w.iloadN (q := 11) (v := (1 : Int32)) dp120m12_10 rfl rfl
  replace w := w.imul (q := 12) (z := (2 : Int32)) dp120m12_11 (by decide) rfl
  replace w := w.ldDl (q := 13) (v := (.double x2)) (S.2.1) 2 rfl rfl dp120m12_12 rfl
  replace w := w.aloadN (q := 14) (v := (.ref a)) dp120m12_13 rfl rfl rfl
  replace w := w.getF (q := 17) (v := (.ref r)) (hw _ (List.mem_of_getElem? (i := 12) rfl)) (S.1.2.2.2.1) dp120m12_14 rfl
  replace w := w.iconst (q := 18) (z := (2 : Int32)) dp120m12_17 (by decide) rfl
  replace w := w.iloadN (q := 19) (v := (1 : Int32)) dp120m12_18 rfl rfl
  replace w := w.imul (q := 20) (z := (2 : Int32)) dp120m12_19 (by decide) rfl
  replace w := w.iconst (q := 21) (z := (1 : Int32)) dp120m12_20 (by decide) rfl
  replace w := w.iadd (q := 22) (z := (3 : Int32)) dp120m12_21 (by decide) rfl
  replace w := w.ldDl (q := 23) (v := (.double x3)) (S.2.1) 3 rfl rfl dp120m12_22 rfl
  obtain ⟨ds, hds⟩ : ∃ z : UInt64, FP.dadd x2 x3 = z := ⟨_, rfl⟩
  replace w := w.dadd (q := 24) dp120m12_23 hnn hds rfl
  obtain ⟨h26, W27, w⟩ := w.stDl (q := 25) (S.2.1) 1 rfl (ltl rfl) (S.2.2.2.2.1.2.1) dp120m12_24 rfl
  replace S := S.setR W27
  replace S : Gt Z h26 n0 a r c p lv dp pn rb cb bf [(.double x0), (.double ds), (.double x2), (.double x3), (.double x4), (.double x5), (.double x6), (.double x7)] [(.int y0), (.int y1), (.int y2), (.int y3), (.int y4), (.int y5), (.int y6), (.int y7)] [(.int p0), (.int p1), (.int p2), (.int p3), (.int p4), (.int p5), (.int p6), (.int p7)] := S
  replace w := w.aloadN (q := 26) (v := (.ref a)) dp120m12_25 rfl rfl rfl
  replace w := w.getF (q := 29) (v := (.ref c)) (hw _ (List.mem_of_getElem? (i := 15) rfl)) (S.1.2.2.2.2.1) dp120m12_26 rfl
  replace w := w.iloadN (q := 30) (v := (1 : Int32)) dp120m12_29 rfl rfl
  replace w := w.aloadN (q := 31) (v := (.ref a)) dp120m12_30 rfl rfl rfl
  replace w := w.getF (q := 34) (v := (.ref c)) (hw _ (List.mem_of_getElem? (i := 15) rfl)) (S.1.2.2.2.2.1) dp120m12_31 rfl
  replace w := w.iconst (q := 35) (z := (2 : Int32)) dp120m12_34 (by decide) rfl
  replace w := w.iloadN (q := 36) (v := (1 : Int32)) dp120m12_35 rfl rfl
  replace w := w.imul (q := 37) (z := (2 : Int32)) dp120m12_36 (by decide) rfl
  replace w := w.ldIl (q := 38) (v := (.int y2)) (S.2.2.1) 2 rfl rfl dp120m12_37 rfl
  replace w := w.aloadN (q := 39) (v := (.ref a)) dp120m12_38 rfl rfl rfl
  replace w := w.getF (q := 42) (v := (.ref c)) (hw _ (List.mem_of_getElem? (i := 15) rfl)) (S.1.2.2.2.2.1) dp120m12_39 rfl
  replace w := w.iconst (q := 43) (z := (2 : Int32)) dp120m12_42 (by decide) rfl
  replace w := w.iloadN (q := 44) (v := (1 : Int32)) dp120m12_43 rfl rfl
  replace w := w.imul (q := 45) (z := (2 : Int32)) dp120m12_44 (by decide) rfl
  replace w := w.iconst (q := 46) (z := (1 : Int32)) dp120m12_45 (by decide) rfl
  replace w := w.iadd (q := 47) (z := (3 : Int32)) dp120m12_46 (by decide) rfl
  replace w := w.ldIl (q := 48) (v := (.int y3)) (S.2.2.1) 3 rfl rfl dp120m12_47 rfl
  obtain ⟨z28, hz28⟩ : ∃ z : Int32, y2 + y3 = z := ⟨_, rfl⟩
  replace w := w.iadd (q := 49) dp120m12_48 hz28 rfl
  obtain ⟨h29, W30, w⟩ := w.stIl (q := 50) (S.2.2.1) 1 rfl (ltl rfl) (S.2.2.2.2.1.2.2.1) dp120m12_49 rfl
  replace S := S.setC W30
  replace S : Gt Z h29 n0 a r c p lv dp pn rb cb bf [(.double x0), (.double ds), (.double x2), (.double x3), (.double x4), (.double x5), (.double x6), (.double x7)] [(.int y0), (.int z28), (.int y2), (.int y3), (.int y4), (.int y5), (.int y6), (.int y7)] [(.int p0), (.int p1), (.int p2), (.int p3), (.int p4), (.int p5), (.int p6), (.int p7)] := S
  exact w.retV dp120m12_50 ⟨rfl, by subst_vars; exact S⟩ (by decide) (by decide)
set_option maxRecDepth 65536 in
set_option maxHeartbeats 40000000 in
theorem own_au_4_2 (l : Launch) (Z : State) (a0 : Array Value) (hw : ∀ d ∈ tables_1, d.before a0 Z = true) (h0 : Heap) (n0 : Nat) (Z0 : n0 ≤ h0.size) (a r c p : Nat) (lv : Int32) (dp : Int32) (pn : Int32) (rb : Int32) (cb : Int32) (bf : UInt64) (x0 : UInt64) (x1 : UInt64) (x2 : UInt64) (x3 : UInt64) (x4 : UInt64) (x5 : UInt64) (x6 : UInt64) (x7 : UInt64) (y0 : Int32) (y1 : Int32) (y2 : Int32) (y3 : Int32) (y4 : Int32) (y5 : Int32) (y6 : Int32) (y7 : Int32) (p0 : Int32) (p1 : Int32) (p2 : Int32) (p3 : Int32) (p4 : Int32) (p5 : Int32) (p6 : Int32) (p7 : Int32) (S : Gt Z h0 n0 a r c p lv dp pn rb cb bf [(.double x0), (.double x1), (.double x2), (.double x3), (.double x4), (.double x5), (.double x6), (.double x7)] [(.int y0), (.int y1), (.int y2), (.int y3), (.int y4), (.int y5), (.int y6), (.int y7)] [(.int p0), (.int p1), (.int p2), (.int p3), (.int p4), (.int p5), (.int p6), (.int p7)]) (hnn : Jvm.Free.Fl.NoNaN64 (FP.dadd x4 x5)) :
    Met l Z (⟨"com/example/lucky_fork/luckyfork/model/GroupSums", "addUp", "(I)V"⟩ : MethodName) prog_120_method_12_code 2 none ({ frames := 0, cells := 0, slots := 0, locals := 0 } : Room) n0 #[(.ref a), (.int (2 : Int32))] h0 (fun v h => v = none ∧ Gt Z h n0 a r c p lv dp pn rb cb bf [(.double x0), (.double x1), (.double (FP.dadd x4 x5)), (.double x3), (.double x4), (.double x5), (.double x6), (.double x7)] [(.int y0), (.int y1), (.int (y4 + y5)), (.int y3), (.int y4), (.int y5), (.int y6), (.int y7)] [(.int p0), (.int p1), (.int p2), (.int p3), (.int p4), (.int p5), (.int p6), (.int p7)]) := by
  refine Met.of (Ls := #[.val (.ref a), .val (.int (2 : Int32))]) (plainFor_of_name pn_0) (fun m => by first | (simp [entryFrame, mkF, argsToLocals, Value.category, maxLocals]; done) | rfl) (fun κ w => ?_)
  replace w : Wk κ l Z "com/example/lucky_fork/luckyfork/model/GroupSums" "addUp" prog_120_method_12_code 2 none ({ frames := 0, cells := 0, slots := 0, locals := 0 } : Room) n0 h0 0 0 0 #[.val (.ref a), .val (.int (2 : Int32))] [] := w
  replace w := w.aloadN (q := 1) (v := (.ref a)) dp120m12_0 rfl rfl rfl
  replace w := w.getF (q := 4) (v := (.ref r)) (hw _ (List.mem_of_getElem? (i := 12) rfl)) (S.1.2.2.2.1) dp120m12_1 rfl
  replace w := w.iloadN (q := 5) (v := (2 : Int32)) dp120m12_4 rfl rfl
  replace w := w.aloadN (q := 6) (v := (.ref a)) dp120m12_5 rfl rfl rfl
  replace w := w.getF (q := 9) (v := (.ref r)) (hw _ (List.mem_of_getElem? (i := 12) rfl)) (S.1.2.2.2.1) dp120m12_6 rfl
  replace w := w.iconst (q := 10) (z := (2 : Int32)) dp120m12_9 (by decide) rfl
  replace w := w.iloadN (q := 11) (v := (2 : Int32)) dp120m12_10 rfl rfl
  replace w := w.imul (q := 12) (z := (4 : Int32)) dp120m12_11 (by decide) rfl
  replace w := w.ldDl (q := 13) (v := (.double x4)) (S.2.1) 4 rfl rfl dp120m12_12 rfl
  replace w := w.aloadN (q := 14) (v := (.ref a)) dp120m12_13 rfl rfl rfl
  replace w := w.getF (q := 17) (v := (.ref r)) (hw _ (List.mem_of_getElem? (i := 12) rfl)) (S.1.2.2.2.1) dp120m12_14 rfl
  replace w := w.iconst (q := 18) (z := (2 : Int32)) dp120m12_17 (by decide) rfl
  replace w := w.iloadN (q := 19) (v := (2 : Int32)) dp120m12_18 rfl rfl
  replace w := w.imul (q := 20) (z := (4 : Int32)) dp120m12_19 (by decide) rfl
  replace w := w.iconst (q := 21) (z := (1 : Int32)) dp120m12_20 (by decide) rfl
  replace w := w.iadd (q := 22) (z := (5 : Int32)) dp120m12_21 (by decide) rfl
  replace w := w.ldDl (q := 23) (v := (.double x5)) (S.2.1) 5 rfl rfl dp120m12_22 rfl
  obtain ⟨ds, hds⟩ : ∃ z : UInt64, FP.dadd x4 x5 = z := ⟨_, rfl⟩
  replace w := w.dadd (q := 24) dp120m12_23 hnn hds rfl
  obtain ⟨h31, W32, w⟩ := w.stDl (q := 25) (S.2.1) 2 rfl (ltl rfl) (S.2.2.2.2.1.2.1) dp120m12_24 rfl
  replace S := S.setR W32
  replace S : Gt Z h31 n0 a r c p lv dp pn rb cb bf [(.double x0), (.double x1), (.double ds), (.double x3), (.double x4), (.double x5), (.double x6), (.double x7)] [(.int y0), (.int y1), (.int y2), (.int y3), (.int y4), (.int y5), (.int y6), (.int y7)] [(.int p0), (.int p1), (.int p2), (.int p3), (.int p4), (.int p5), (.int p6), (.int p7)] := S
  replace w := w.aloadN (q := 26) (v := (.ref a)) dp120m12_25 rfl rfl rfl
  replace w := w.getF (q := 29) (v := (.ref c)) (hw _ (List.mem_of_getElem? (i := 15) rfl)) (S.1.2.2.2.2.1) dp120m12_26 rfl
  replace w := w.iloadN (q := 30) (v := (2 : Int32)) dp120m12_29 rfl rfl
  replace w := w.aloadN (q := 31) (v := (.ref a)) dp120m12_30 rfl rfl rfl
  replace w := w.getF (q := 34) (v := (.ref c)) (hw _ (List.mem_of_getElem? (i := 15) rfl)) (S.1.2.2.2.2.1) dp120m12_31 rfl
  replace w := w.iconst (q := 35) (z := (2 : Int32)) dp120m12_34 (by decide) rfl
  replace w := w.iloadN (q := 36) (v := (2 : Int32)) dp120m12_35 rfl rfl
  replace w := w.imul (q := 37) (z := (4 : Int32)) dp120m12_36 (by decide) rfl
  replace w := w.ldIl (q := 38) (v := (.int y4)) (S.2.2.1) 4 rfl rfl dp120m12_37 rfl
  replace w := w.aloadN (q := 39) (v := (.ref a)) dp120m12_38 rfl rfl rfl
  replace w := w.getF (q := 42) (v := (.ref c)) (hw _ (List.mem_of_getElem? (i := 15) rfl)) (S.1.2.2.2.2.1) dp120m12_39 rfl
  replace w := w.iconst (q := 43) (z := (2 : Int32)) dp120m12_42 (by decide) rfl
  replace w := w.iloadN (q := 44) (v := (2 : Int32)) dp120m12_43 rfl rfl
  replace w := w.imul (q := 45) (z := (4 : Int32)) dp120m12_44 (by decide) rfl
  replace w := w.iconst (q := 46) (z := (1 : Int32)) dp120m12_45 (by decide) rfl
  replace w := w.iadd (q := 47) (z := (5 : Int32)) dp120m12_46 (by decide) rfl
  replace w := w.ldIl (q := 48) (v := (.int y5)) (S.2.2.1) 5 rfl rfl dp120m12_47 rfl
  obtain ⟨z33, hz33⟩ : ∃ z : Int32, y4 + y5 = z := ⟨_, rfl⟩
  replace w := w.iadd (q := 49) dp120m12_48 hz33 rfl
  obtain ⟨h34, W35, w⟩ := w.stIl (q := 50) (S.2.2.1) 2 rfl (ltl rfl) (S.2.2.2.2.1.2.2.1) dp120m12_49 rfl
  replace S := S.setC W35
  replace S : Gt Z h34 n0 a r c p lv dp pn rb cb bf [(.double x0), (.double x1), (.double ds), (.double x3), (.double x4), (.double x5), (.double x6), (.double x7)] [(.int y0), (.int y1), (.int z33), (.int y3), (.int y4), (.int y5), (.int y6), (.int y7)] [(.int p0), (.int p1), (.int p2), (.int p3), (.int p4), (.int p5), (.int p6), (.int p7)] := S
  exact w.retV dp120m12_50 ⟨rfl, by subst_vars; exact S⟩ (by decide) (by decide)
set_option maxRecDepth 65536 in
set_option maxHeartbeats 40000000 in
theorem own_au_4_3 (l : Launch) (Z : State) (a0 : Array Value) (hw : ∀ d ∈ tables_1, d.before a0 Z = true) (h0 : Heap) (n0 : Nat) (Z0 : n0 ≤ h0.size) (a r c p : Nat) (lv : Int32) (dp : Int32) (pn : Int32) (rb : Int32) (cb : Int32) (bf : UInt64) (x0 : UInt64) (x1 : UInt64) (x2 : UInt64) (x3 : UInt64) (x4 : UInt64) (x5 : UInt64) (x6 : UInt64) (x7 : UInt64) (y0 : Int32) (y1 : Int32) (y2 : Int32) (y3 : Int32) (y4 : Int32) (y5 : Int32) (y6 : Int32) (y7 : Int32) (p0 : Int32) (p1 : Int32) (p2 : Int32) (p3 : Int32) (p4 : Int32) (p5 : Int32) (p6 : Int32) (p7 : Int32) (S : Gt Z h0 n0 a r c p lv dp pn rb cb bf [(.double x0), (.double x1), (.double x2), (.double x3), (.double x4), (.double x5), (.double x6), (.double x7)] [(.int y0), (.int y1), (.int y2), (.int y3), (.int y4), (.int y5), (.int y6), (.int y7)] [(.int p0), (.int p1), (.int p2), (.int p3), (.int p4), (.int p5), (.int p6), (.int p7)]) (hnn : Jvm.Free.Fl.NoNaN64 (FP.dadd x6 x7)) :
    Met l Z (⟨"com/example/lucky_fork/luckyfork/model/GroupSums", "addUp", "(I)V"⟩ : MethodName) prog_120_method_12_code 2 none ({ frames := 0, cells := 0, slots := 0, locals := 0 } : Room) n0 #[(.ref a), (.int (3 : Int32))] h0 (fun v h => v = none ∧ Gt Z h n0 a r c p lv dp pn rb cb bf [(.double x0), (.double x1), (.double x2), (.double (FP.dadd x6 x7)), (.double x4), (.double x5), (.double x6), (.double x7)] [(.int y0), (.int y1), (.int y2), (.int (y6 + y7)), (.int y4), (.int y5), (.int y6), (.int y7)] [(.int p0), (.int p1), (.int p2), (.int p3), (.int p4), (.int p5), (.int p6), (.int p7)]) := by
  refine Met.of (Ls := #[.val (.ref a), .val (.int (3 : Int32))]) (plainFor_of_name pn_0) (fun m => by first | (simp [entryFrame, mkF, argsToLocals, Value.category, maxLocals]; done) | rfl) (fun κ w => ?_)
  replace w : Wk κ l Z "com/example/lucky_fork/luckyfork/model/GroupSums" "addUp" prog_120_method_12_code 2 none ({ frames := 0, cells := 0, slots := 0, locals := 0 } : Room) n0 h0 0 0 0 #[.val (.ref a), .val (.int (3 : Int32))] [] := w
  replace w := w.aloadN (q := 1) (v := (.ref a)) dp120m12_0 rfl rfl rfl
  replace w := w.getF (q := 4) (v := (.ref r)) (hw _ (List.mem_of_getElem? (i := 12) rfl)) (S.1.2.2.2.1) dp120m12_1 rfl
  replace w := w.iloadN (q := 5) (v := (3 : Int32)) dp120m12_4 rfl rfl
  replace w := w.aloadN (q := 6) (v := (.ref a)) dp120m12_5 rfl rfl rfl
  replace w := w.getF (q := 9) (v := (.ref r)) (hw _ (List.mem_of_getElem? (i := 12) rfl)) (S.1.2.2.2.1) dp120m12_6 rfl
  replace w := w.iconst (q := 10) (z := (2 : Int32)) dp120m12_9 (by decide) rfl
  replace w := w.iloadN (q := 11) (v := (3 : Int32)) dp120m12_10 rfl rfl
  replace w := w.imul (q := 12) (z := (6 : Int32)) dp120m12_11 (by decide) rfl
  replace w := w.ldDl (q := 13) (v := (.double x6)) (S.2.1) 6 rfl rfl dp120m12_12 rfl
  replace w := w.aloadN (q := 14) (v := (.ref a)) dp120m12_13 rfl rfl rfl
  replace w := w.getF (q := 17) (v := (.ref r)) (hw _ (List.mem_of_getElem? (i := 12) rfl)) (S.1.2.2.2.1) dp120m12_14 rfl
  replace w := w.iconst (q := 18) (z := (2 : Int32)) dp120m12_17 (by decide) rfl
  replace w := w.iloadN (q := 19) (v := (3 : Int32)) dp120m12_18 rfl rfl
  replace w := w.imul (q := 20) (z := (6 : Int32)) dp120m12_19 (by decide) rfl
  replace w := w.iconst (q := 21) (z := (1 : Int32)) dp120m12_20 (by decide) rfl
  replace w := w.iadd (q := 22) (z := (7 : Int32)) dp120m12_21 (by decide) rfl
  replace w := w.ldDl (q := 23) (v := (.double x7)) (S.2.1) 7 rfl rfl dp120m12_22 rfl
  obtain ⟨ds, hds⟩ : ∃ z : UInt64, FP.dadd x6 x7 = z := ⟨_, rfl⟩
  replace w := w.dadd (q := 24) dp120m12_23 hnn hds rfl
  obtain ⟨h36, W37, w⟩ := w.stDl (q := 25) (S.2.1) 3 rfl (ltl rfl) (S.2.2.2.2.1.2.1) dp120m12_24 rfl
  replace S := S.setR W37
  replace S : Gt Z h36 n0 a r c p lv dp pn rb cb bf [(.double x0), (.double x1), (.double x2), (.double ds), (.double x4), (.double x5), (.double x6), (.double x7)] [(.int y0), (.int y1), (.int y2), (.int y3), (.int y4), (.int y5), (.int y6), (.int y7)] [(.int p0), (.int p1), (.int p2), (.int p3), (.int p4), (.int p5), (.int p6), (.int p7)] := S
  replace w := w.aloadN (q := 26) (v := (.ref a)) dp120m12_25 rfl rfl rfl
  replace w := w.getF (q := 29) (v := (.ref c)) (hw _ (List.mem_of_getElem? (i := 15) rfl)) (S.1.2.2.2.2.1) dp120m12_26 rfl
  replace w := w.iloadN (q := 30) (v := (3 : Int32)) dp120m12_29 rfl rfl
  replace w := w.aloadN (q := 31) (v := (.ref a)) dp120m12_30 rfl rfl rfl
  replace w := w.getF (q := 34) (v := (.ref c)) (hw _ (List.mem_of_getElem? (i := 15) rfl)) (S.1.2.2.2.2.1) dp120m12_31 rfl
  replace w := w.iconst (q := 35) (z := (2 : Int32)) dp120m12_34 (by decide) rfl
  replace w := w.iloadN (q := 36) (v := (3 : Int32)) dp120m12_35 rfl rfl
  replace w := w.imul (q := 37) (z := (6 : Int32)) dp120m12_36 (by decide) rfl
  replace w := w.ldIl (q := 38) (v := (.int y6)) (S.2.2.1) 6 rfl rfl dp120m12_37 rfl
  replace w := w.aloadN (q := 39) (v := (.ref a)) dp120m12_38 rfl rfl rfl
  replace w := w.getF (q := 42) (v := (.ref c)) (hw _ (List.mem_of_getElem? (i := 15) rfl)) (S.1.2.2.2.2.1) dp120m12_39 rfl
  replace w := w.iconst (q := 43) (z := (2 : Int32)) dp120m12_42 (by decide) rfl
  replace w := w.iloadN (q := 44) (v := (3 : Int32)) dp120m12_43 rfl rfl
  replace w := w.imul (q := 45) (z := (6 : Int32)) dp120m12_44 (by decide) rfl
  replace w := w.iconst (q := 46) (z := (1 : Int32)) dp120m12_45 (by decide) rfl
  replace w := w.iadd (q := 47) (z := (7 : Int32)) dp120m12_46 (by decide) rfl
  replace w := w.ldIl (q := 48) (v := (.int y7)) (S.2.2.1) 7 rfl rfl dp120m12_47 rfl
  obtain ⟨z38, hz38⟩ : ∃ z : Int32, y6 + y7 = z := ⟨_, rfl⟩
  replace w := w.iadd (q := 49) dp120m12_48 hz38 rfl
  obtain ⟨h39, W40, w⟩ := w.stIl (q := 50) (S.2.2.1) 3 rfl (ltl rfl) (S.2.2.2.2.1.2.2.1) dp120m12_49 rfl
  replace S := S.setC W40
  replace S : Gt Z h39 n0 a r c p lv dp pn rb cb bf [(.double x0), (.double x1), (.double x2), (.double ds), (.double x4), (.double x5), (.double x6), (.double x7)] [(.int y0), (.int y1), (.int y2), (.int z38), (.int y4), (.int y5), (.int y6), (.int y7)] [(.int p0), (.int p1), (.int p2), (.int p3), (.int p4), (.int p5), (.int p6), (.int p7)] := S
  exact w.retV dp120m12_50 ⟨rfl, by subst_vars; exact S⟩ (by decide) (by decide)
set_option maxRecDepth 65536 in
set_option maxHeartbeats 40000000 in
theorem own_set_4_0 (l : Launch) (Z : State) (a0 : Array Value) (hw : ∀ d ∈ tables_1, d.before a0 Z = true) (h0 : Heap) (n0 : Nat) (Z0 : n0 ≤ h0.size) (a r c p : Nat) (cb : Int32) (bf : UInt64) (x0 : UInt64) (x1 : UInt64) (x2 : UInt64) (x3 : UInt64) (x4 : UInt64) (x5 : UInt64) (x6 : UInt64) (x7 : UInt64) (y0 : Int32) (y1 : Int32) (y2 : Int32) (y3 : Int32) (y4 : Int32) (y5 : Int32) (y6 : Int32) (y7 : Int32) (p0 : Int32) (p1 : Int32) (p2 : Int32) (p3 : Int32) (p4 : Int32) (p5 : Int32) (p6 : Int32) (p7 : Int32) (dv : UInt64) (cv : Int32) (S : Gt Z h0 n0 a r c p (4 : Int32) (2 : Int32) (0 : Int32) (0 : Int32) cb bf [(.double x0), (.double x1), (.double x2), (.double x3), (.double x4), (.double x5), (.double x6), (.double x7)] [(.int y0), (.int y1), (.int y2), (.int y3), (.int y4), (.int y5), (.int y6), (.int y7)] [(.int p0), (.int p1), (.int p2), (.int p3), (.int p4), (.int p5), (.int p6), (.int p7)]) :
    Met l Z (⟨"com/example/lucky_fork/luckyfork/model/GroupSums", "set", "(IDI)V"⟩ : MethodName) prog_120_method_4_code 6 none ({ frames := 0, cells := 0, slots := 0, locals := 0 } : Room) n0 #[(.ref a), (.int (0 : Int32)), (.double dv), (.int cv)] h0 (fun v h => v = none ∧ Gt Z h n0 a r c p (4 : Int32) (2 : Int32) (1 : Int32) (0 : Int32) cb bf [(.double x0), (.double x1), (.double x2), (.double x3), (.double dv), (.double x5), (.double x6), (.double x7)] [(.int y0), (.int y1), (.int y2), (.int y3), (.int cv), (.int y5), (.int y6), (.int y7)] [(.int (4 : Int32)), (.int p1), (.int p2), (.int p3), (.int p4), (.int p5), (.int p6), (.int p7)]) := by
  refine Met.of (Ls := #[.val (.ref a), .val (.int (0 : Int32)), .val (.double dv), .second, .val (.int cv), .unset]) (plainFor_of_name pn_0) (fun m => by first | (simp [entryFrame, mkF, argsToLocals, Value.category, maxLocals]; done) | rfl) (fun κ w => ?_)
  replace w : Wk κ l Z "com/example/lucky_fork/luckyfork/model/GroupSums" "set" prog_120_method_4_code 6 none ({ frames := 0, cells := 0, slots := 0, locals := 0 } : Room) n0 h0 0 0 0 #[.val (.ref a), .val (.int (0 : Int32)), .val (.double dv), .second, .val (.int cv), .unset] [] := w
  replace w := w.aloadN (q := 1) (v := (.ref a)) dp120m4_0 rfl rfl rfl
  replace w := w.getF (q := 4) (v := (.int (4 : Int32))) (hw _ (List.mem_of_getElem? (i := 9) rfl)) (S.1.2.1) dp120m4_1 rfl
  replace w := w.iloadN (q := 5) (v := (0 : Int32)) dp120m4_4 rfl rfl
  replace w := w.iadd (q := 6) (z := (4 : Int32)) dp120m4_5 (by decide) rfl
  replace w := w.istore (q := 8) (l' := #[.val (.ref a), .val (.int (0 : Int32)), .val (.double dv), .second, .val (.int cv), .val (.int (4 : Int32))]) dp120m4_6 rfl rfl
  replace w := w.aloadN (q := 9) (v := (.ref a)) dp120m4_8 rfl rfl rfl
  replace w := w.getF (q := 12) (v := (.ref r)) (hw _ (List.mem_of_getElem? (i := 12) rfl)) (S.1.2.2.2.1) dp120m4_9 rfl
  replace w := w.iload (q := 14) (v := (4 : Int32)) dp120m4_12 rfl rfl
  replace w := w.dloadN (q := 15) (v := dv) dp120m4_14 rfl rfl
  obtain ⟨h41, W42, w⟩ := w.stDl (q := 16) (S.2.1) 4 rfl (ltl rfl) (S.2.2.2.2.1.2.1) dp120m4_15 rfl
  replace S := S.setR W42
  replace S : Gt Z h41 n0 a r c p (4 : Int32) (2 : Int32) (0 : Int32) (0 : Int32) cb bf [(.double x0), (.double x1), (.double x2), (.double x3), (.double dv), (.double x5), (.double x6), (.double x7)] [(.int y0), (.int y1), (.int y2), (.int y3), (.int y4), (.int y5), (.int y6), (.int y7)] [(.int p0), (.int p1), (.int p2), (.int p3), (.int p4), (.int p5), (.int p6), (.int p7)] := S
  replace w := w.aloadN (q := 17) (v := (.ref a)) dp120m4_16 rfl rfl rfl
  replace w := w.getF (q := 20) (v := (.ref c)) (hw _ (List.mem_of_getElem? (i := 15) rfl)) (S.1.2.2.2.2.1) dp120m4_17 rfl
  replace w := w.iload (q := 22) (v := (4 : Int32)) dp120m4_20 rfl rfl
  replace w := w.iload (q := 24) (v := cv) dp120m4_22 rfl rfl
  obtain ⟨h43, W44, w⟩ := w.stIl (q := 25) (S.2.2.1) 4 rfl (ltl rfl) (S.2.2.2.2.1.2.2.1) dp120m4_24 rfl
  replace S := S.setC W44
  replace S : Gt Z h43 n0 a r c p (4 : Int32) (2 : Int32) (0 : Int32) (0 : Int32) cb bf [(.double x0), (.double x1), (.double x2), (.double x3), (.double dv), (.double x5), (.double x6), (.double x7)] [(.int y0), (.int y1), (.int y2), (.int y3), (.int cv), (.int y5), (.int y6), (.int y7)] [(.int p0), (.int p1), (.int p2), (.int p3), (.int p4), (.int p5), (.int p6), (.int p7)] := S
  replace w := w.aloadN (q := 26) (v := (.ref a)) dp120m4_25 rfl rfl rfl
  replace w := w.getF (q := 29) (v := (.int (0 : Int32))) (hw _ (List.mem_of_getElem? (i := 40) rfl)) (S.1.2.2.2.2.2.2.2.1) dp120m4_26 rfl
  obtain ⟨-, w⟩ := (w.ifEq (q := 33) (q' := 32) (xi := 0) dp120m4_29 rfl (by decide) (by decide) rfl).resolve_right (fun g => by have hc29 := g.1; revert hc29; decide)
  replace w := w.aloadN (q := 34) (v := (.ref a)) dp120m4_33 rfl rfl rfl
  replace w := w.getF (q := 37) (v := (.int (0 : Int32))) (hw _ (List.mem_of_getElem? (i := 38) rfl)) (S.1.2.2.2.2.2.2.1) dp120m4_34 rfl
  replace w := w.aloadN (q := 38) (v := (.ref a)) dp120m4_37 rfl rfl rfl
  replace w := w.getF (q := 41) (v := (.int (2 : Int32))) (hw _ (List.mem_of_getElem? (i := 36) rfl)) (S.1.2.2.1) dp120m4_38 rfl
  replace w := w.imul (q := 42) (z := (0 : Int32)) dp120m4_41 (by decide) rfl
  replace w := w.aloadN (q := 43) (v := (.ref a)) dp120m4_42 rfl rfl rfl
  replace w := w.getF (q := 46) (v := (.int (4 : Int32))) (hw _ (List.mem_of_getElem? (i := 9) rfl)) (S.1.2.1) dp120m4_43 rfl
  obtain ⟨-, w⟩ := (w.icmpLt (q := 55) (q' := 49) (xi := 0) (yi := 4) dp120m4_46 rfl rfl (by decide) (by decide) rfl).resolve_right (fun g => by have hc46 := g.1; revert hc46; decide)
  replace w := w.aloadN (q := 56) (v := (.ref a)) dp120m4_55 rfl rfl rfl
  replace w := w.getF (q := 59) (v := (.int (0 : Int32))) (hw _ (List.mem_of_getElem? (i := 38) rfl)) (S.1.2.2.2.2.2.2.1) dp120m4_56 rfl
  replace w := w.aloadN (q := 60) (v := (.ref a)) dp120m4_59 rfl rfl rfl
  replace w := w.getF (q := 63) (v := (.ref p)) (hw _ (List.mem_of_getElem? (i := 17) rfl)) (S.1.2.2.2.2.2.1) dp120m4_60 rfl
  replace w := w.lenl (q := 64) (z := 8) (S.2.2.2.1) rfl dp120m4_63 rfl
  obtain ⟨-, w⟩ := (w.icmpNe (q := 84) (q' := 67) (xi := 0) (yi := 8) dp120m4_64 rfl rfl (by decide) (by decide) rfl).resolve_right (fun g => by have hc64 := g.1; revert hc64; decide)
  replace w := w.aloadN (q := 85) (v := (.ref a)) dp120m4_84 rfl rfl rfl
  replace w := w.getF (q := 88) (v := (.ref p)) (hw _ (List.mem_of_getElem? (i := 17) rfl)) (S.1.2.2.2.2.2.1) dp120m4_85 rfl
  replace w := w.aloadN (q := 89) (v := (.ref a)) dp120m4_88 rfl rfl rfl
  replace w := w.dup (q := 90) dp120m4_89 rfl rfl
  replace w := w.getF (q := 93) (v := (.int (0 : Int32))) (hw _ (List.mem_of_getElem? (i := 38) rfl)) (S.1.2.2.2.2.2.2.1) dp120m4_90 rfl
  replace w := w.dupX1 (q := 94) dp120m4_93 rfl rfl rfl
  replace w := w.iconst (q := 95) (z := (1 : Int32)) dp120m4_94 (by decide) rfl
  replace w := w.iadd (q := 96) (z := (1 : Int32)) dp120m4_95 (by decide) rfl
  obtain ⟨h45, W46, w⟩ := w.putF (q := 99) (C := "com/example/lucky_fork/luckyfork/model/GroupSums") (hw _ (List.mem_of_getElem? (i := 38) rfl)) (S.1.2.2.2.2.2.2.1) (S.1.1) (Or.inl (hw _ (List.mem_of_getElem? (i := 39) rfl))) (hw _ (List.mem_of_getElem? (i := 1) rfl)) (ty := .int) (by decide) rfl rfl dp120m4_96 (S.2.2.2.2.1.1) rfl
  replace S := S.put_pendingCount hw W46
  replace w := w.iload (q := 101) (v := (4 : Int32)) dp120m4_99 rfl rfl
  obtain ⟨h47, W48, w⟩ := w.stIl (q := 102) (S.2.2.2.1) 0 rfl (ltl rfl) (S.2.2.2.2.1.2.2.2) dp120m4_101 rfl
  replace S := S.setP W48
  replace S : Gt Z h47 n0 a r c p (4 : Int32) (2 : Int32) (1 : Int32) (0 : Int32) cb bf [(.double x0), (.double x1), (.double x2), (.double x3), (.double dv), (.double x5), (.double x6), (.double x7)] [(.int y0), (.int y1), (.int y2), (.int y3), (.int cv), (.int y5), (.int y6), (.int y7)] [(.int (4 : Int32)), (.int p1), (.int p2), (.int p3), (.int p4), (.int p5), (.int p6), (.int p7)] := S
  exact w.retV dp120m4_102 ⟨rfl, S⟩ (by decide) (by decide)
set_option maxRecDepth 65536 in
set_option maxHeartbeats 40000000 in
theorem own_set_4_1 (l : Launch) (Z : State) (a0 : Array Value) (hw : ∀ d ∈ tables_1, d.before a0 Z = true) (h0 : Heap) (n0 : Nat) (Z0 : n0 ≤ h0.size) (a r c p : Nat) (cb : Int32) (bf : UInt64) (x0 : UInt64) (x1 : UInt64) (x2 : UInt64) (x3 : UInt64) (x4 : UInt64) (x5 : UInt64) (x6 : UInt64) (x7 : UInt64) (y0 : Int32) (y1 : Int32) (y2 : Int32) (y3 : Int32) (y4 : Int32) (y5 : Int32) (y6 : Int32) (y7 : Int32) (p0 : Int32) (p1 : Int32) (p2 : Int32) (p3 : Int32) (p4 : Int32) (p5 : Int32) (p6 : Int32) (p7 : Int32) (dv : UInt64) (cv : Int32) (S : Gt Z h0 n0 a r c p (4 : Int32) (2 : Int32) (1 : Int32) (0 : Int32) cb bf [(.double x0), (.double x1), (.double x2), (.double x3), (.double x4), (.double x5), (.double x6), (.double x7)] [(.int y0), (.int y1), (.int y2), (.int y3), (.int y4), (.int y5), (.int y6), (.int y7)] [(.int p0), (.int p1), (.int p2), (.int p3), (.int p4), (.int p5), (.int p6), (.int p7)]) :
    Met l Z (⟨"com/example/lucky_fork/luckyfork/model/GroupSums", "set", "(IDI)V"⟩ : MethodName) prog_120_method_4_code 6 none ({ frames := 0, cells := 0, slots := 0, locals := 0 } : Room) n0 #[(.ref a), (.int (1 : Int32)), (.double dv), (.int cv)] h0 (fun v h => v = none ∧ Gt Z h n0 a r c p (4 : Int32) (2 : Int32) (2 : Int32) (0 : Int32) cb bf [(.double x0), (.double x1), (.double x2), (.double x3), (.double x4), (.double dv), (.double x6), (.double x7)] [(.int y0), (.int y1), (.int y2), (.int y3), (.int y4), (.int cv), (.int y6), (.int y7)] [(.int p0), (.int (5 : Int32)), (.int p2), (.int p3), (.int p4), (.int p5), (.int p6), (.int p7)]) := by
  refine Met.of (Ls := #[.val (.ref a), .val (.int (1 : Int32)), .val (.double dv), .second, .val (.int cv), .unset]) (plainFor_of_name pn_0) (fun m => by first | (simp [entryFrame, mkF, argsToLocals, Value.category, maxLocals]; done) | rfl) (fun κ w => ?_)
  replace w : Wk κ l Z "com/example/lucky_fork/luckyfork/model/GroupSums" "set" prog_120_method_4_code 6 none ({ frames := 0, cells := 0, slots := 0, locals := 0 } : Room) n0 h0 0 0 0 #[.val (.ref a), .val (.int (1 : Int32)), .val (.double dv), .second, .val (.int cv), .unset] [] := w
  replace w := w.aloadN (q := 1) (v := (.ref a)) dp120m4_0 rfl rfl rfl
  replace w := w.getF (q := 4) (v := (.int (4 : Int32))) (hw _ (List.mem_of_getElem? (i := 9) rfl)) (S.1.2.1) dp120m4_1 rfl
  replace w := w.iloadN (q := 5) (v := (1 : Int32)) dp120m4_4 rfl rfl
  replace w := w.iadd (q := 6) (z := (5 : Int32)) dp120m4_5 (by decide) rfl
  replace w := w.istore (q := 8) (l' := #[.val (.ref a), .val (.int (1 : Int32)), .val (.double dv), .second, .val (.int cv), .val (.int (5 : Int32))]) dp120m4_6 rfl rfl
  replace w := w.aloadN (q := 9) (v := (.ref a)) dp120m4_8 rfl rfl rfl
  replace w := w.getF (q := 12) (v := (.ref r)) (hw _ (List.mem_of_getElem? (i := 12) rfl)) (S.1.2.2.2.1) dp120m4_9 rfl
  replace w := w.iload (q := 14) (v := (5 : Int32)) dp120m4_12 rfl rfl
  replace w := w.dloadN (q := 15) (v := dv) dp120m4_14 rfl rfl
  obtain ⟨h49, W50, w⟩ := w.stDl (q := 16) (S.2.1) 5 rfl (ltl rfl) (S.2.2.2.2.1.2.1) dp120m4_15 rfl
  replace S := S.setR W50
  replace S : Gt Z h49 n0 a r c p (4 : Int32) (2 : Int32) (1 : Int32) (0 : Int32) cb bf [(.double x0), (.double x1), (.double x2), (.double x3), (.double x4), (.double dv), (.double x6), (.double x7)] [(.int y0), (.int y1), (.int y2), (.int y3), (.int y4), (.int y5), (.int y6), (.int y7)] [(.int p0), (.int p1), (.int p2), (.int p3), (.int p4), (.int p5), (.int p6), (.int p7)] := S
  replace w := w.aloadN (q := 17) (v := (.ref a)) dp120m4_16 rfl rfl rfl
  replace w := w.getF (q := 20) (v := (.ref c)) (hw _ (List.mem_of_getElem? (i := 15) rfl)) (S.1.2.2.2.2.1) dp120m4_17 rfl
  replace w := w.iload (q := 22) (v := (5 : Int32)) dp120m4_20 rfl rfl
  replace w := w.iload (q := 24) (v := cv) dp120m4_22 rfl rfl
  obtain ⟨h51, W52, w⟩ := w.stIl (q := 25) (S.2.2.1) 5 rfl (ltl rfl) (S.2.2.2.2.1.2.2.1) dp120m4_24 rfl
  replace S := S.setC W52
  replace S : Gt Z h51 n0 a r c p (4 : Int32) (2 : Int32) (1 : Int32) (0 : Int32) cb bf [(.double x0), (.double x1), (.double x2), (.double x3), (.double x4), (.double dv), (.double x6), (.double x7)] [(.int y0), (.int y1), (.int y2), (.int y3), (.int y4), (.int cv), (.int y6), (.int y7)] [(.int p0), (.int p1), (.int p2), (.int p3), (.int p4), (.int p5), (.int p6), (.int p7)] := S
  replace w := w.aloadN (q := 26) (v := (.ref a)) dp120m4_25 rfl rfl rfl
  replace w := w.getF (q := 29) (v := (.int (0 : Int32))) (hw _ (List.mem_of_getElem? (i := 40) rfl)) (S.1.2.2.2.2.2.2.2.1) dp120m4_26 rfl
  obtain ⟨-, w⟩ := (w.ifEq (q := 33) (q' := 32) (xi := 0) dp120m4_29 rfl (by decide) (by decide) rfl).resolve_right (fun g => by have hc29 := g.1; revert hc29; decide)
  replace w := w.aloadN (q := 34) (v := (.ref a)) dp120m4_33 rfl rfl rfl
  replace w := w.getF (q := 37) (v := (.int (1 : Int32))) (hw _ (List.mem_of_getElem? (i := 38) rfl)) (S.1.2.2.2.2.2.2.1) dp120m4_34 rfl
  replace w := w.aloadN (q := 38) (v := (.ref a)) dp120m4_37 rfl rfl rfl
  replace w := w.getF (q := 41) (v := (.int (2 : Int32))) (hw _ (List.mem_of_getElem? (i := 36) rfl)) (S.1.2.2.1) dp120m4_38 rfl
  replace w := w.imul (q := 42) (z := (2 : Int32)) dp120m4_41 (by decide) rfl
  replace w := w.aloadN (q := 43) (v := (.ref a)) dp120m4_42 rfl rfl rfl
  replace w := w.getF (q := 46) (v := (.int (4 : Int32))) (hw _ (List.mem_of_getElem? (i := 9) rfl)) (S.1.2.1) dp120m4_43 rfl
  obtain ⟨-, w⟩ := (w.icmpLt (q := 55) (q' := 49) (xi := 2) (yi := 4) dp120m4_46 rfl rfl (by decide) (by decide) rfl).resolve_right (fun g => by have hc46 := g.1; revert hc46; decide)
  replace w := w.aloadN (q := 56) (v := (.ref a)) dp120m4_55 rfl rfl rfl
  replace w := w.getF (q := 59) (v := (.int (1 : Int32))) (hw _ (List.mem_of_getElem? (i := 38) rfl)) (S.1.2.2.2.2.2.2.1) dp120m4_56 rfl
  replace w := w.aloadN (q := 60) (v := (.ref a)) dp120m4_59 rfl rfl rfl
  replace w := w.getF (q := 63) (v := (.ref p)) (hw _ (List.mem_of_getElem? (i := 17) rfl)) (S.1.2.2.2.2.2.1) dp120m4_60 rfl
  replace w := w.lenl (q := 64) (z := 8) (S.2.2.2.1) rfl dp120m4_63 rfl
  obtain ⟨-, w⟩ := (w.icmpNe (q := 84) (q' := 67) (xi := 1) (yi := 8) dp120m4_64 rfl rfl (by decide) (by decide) rfl).resolve_right (fun g => by have hc64 := g.1; revert hc64; decide)
  replace w := w.aloadN (q := 85) (v := (.ref a)) dp120m4_84 rfl rfl rfl
  replace w := w.getF (q := 88) (v := (.ref p)) (hw _ (List.mem_of_getElem? (i := 17) rfl)) (S.1.2.2.2.2.2.1) dp120m4_85 rfl
  replace w := w.aloadN (q := 89) (v := (.ref a)) dp120m4_88 rfl rfl rfl
  replace w := w.dup (q := 90) dp120m4_89 rfl rfl
  replace w := w.getF (q := 93) (v := (.int (1 : Int32))) (hw _ (List.mem_of_getElem? (i := 38) rfl)) (S.1.2.2.2.2.2.2.1) dp120m4_90 rfl
  replace w := w.dupX1 (q := 94) dp120m4_93 rfl rfl rfl
  replace w := w.iconst (q := 95) (z := (1 : Int32)) dp120m4_94 (by decide) rfl
  replace w := w.iadd (q := 96) (z := (2 : Int32)) dp120m4_95 (by decide) rfl
  obtain ⟨h53, W54, w⟩ := w.putF (q := 99) (C := "com/example/lucky_fork/luckyfork/model/GroupSums") (hw _ (List.mem_of_getElem? (i := 38) rfl)) (S.1.2.2.2.2.2.2.1) (S.1.1) (Or.inl (hw _ (List.mem_of_getElem? (i := 39) rfl))) (hw _ (List.mem_of_getElem? (i := 1) rfl)) (ty := .int) (by decide) rfl rfl dp120m4_96 (S.2.2.2.2.1.1) rfl
  replace S := S.put_pendingCount hw W54
  replace w := w.iload (q := 101) (v := (5 : Int32)) dp120m4_99 rfl rfl
  obtain ⟨h55, W56, w⟩ := w.stIl (q := 102) (S.2.2.2.1) 1 rfl (ltl rfl) (S.2.2.2.2.1.2.2.2) dp120m4_101 rfl
  replace S := S.setP W56
  replace S : Gt Z h55 n0 a r c p (4 : Int32) (2 : Int32) (2 : Int32) (0 : Int32) cb bf [(.double x0), (.double x1), (.double x2), (.double x3), (.double x4), (.double dv), (.double x6), (.double x7)] [(.int y0), (.int y1), (.int y2), (.int y3), (.int y4), (.int cv), (.int y6), (.int y7)] [(.int p0), (.int (5 : Int32)), (.int p2), (.int p3), (.int p4), (.int p5), (.int p6), (.int p7)] := S
  exact w.retV dp120m4_102 ⟨rfl, S⟩ (by decide) (by decide)
set_option maxRecDepth 65536 in
set_option maxHeartbeats 40000000 in
theorem own_set_4_2 (l : Launch) (Z : State) (a0 : Array Value) (hw : ∀ d ∈ tables_1, d.before a0 Z = true) (h0 : Heap) (n0 : Nat) (Z0 : n0 ≤ h0.size) (a r c p : Nat) (cb : Int32) (bf : UInt64) (x0 : UInt64) (x1 : UInt64) (x2 : UInt64) (x3 : UInt64) (x4 : UInt64) (x5 : UInt64) (x6 : UInt64) (x7 : UInt64) (y0 : Int32) (y1 : Int32) (y2 : Int32) (y3 : Int32) (y4 : Int32) (y5 : Int32) (y6 : Int32) (y7 : Int32) (p0 : Int32) (p1 : Int32) (p2 : Int32) (p3 : Int32) (p4 : Int32) (p5 : Int32) (p6 : Int32) (p7 : Int32) (dv : UInt64) (cv : Int32) (S : Gt Z h0 n0 a r c p (4 : Int32) (2 : Int32) (2 : Int32) (0 : Int32) cb bf [(.double x0), (.double x1), (.double x2), (.double x3), (.double x4), (.double x5), (.double x6), (.double x7)] [(.int y0), (.int y1), (.int y2), (.int y3), (.int y4), (.int y5), (.int y6), (.int y7)] [(.int p0), (.int p1), (.int p2), (.int p3), (.int p4), (.int p5), (.int p6), (.int p7)]) :
    Met l Z (⟨"com/example/lucky_fork/luckyfork/model/GroupSums", "set", "(IDI)V"⟩ : MethodName) prog_120_method_4_code 6 none ({ frames := 0, cells := 0, slots := 0, locals := 0 } : Room) n0 #[(.ref a), (.int (2 : Int32)), (.double dv), (.int cv)] h0 (fun v h => v = none ∧ Gt Z h n0 a r c p (4 : Int32) (2 : Int32) (2 : Int32) (1 : Int32) cb bf [(.double x0), (.double x1), (.double x2), (.double x3), (.double x4), (.double x5), (.double dv), (.double x7)] [(.int y0), (.int y1), (.int y2), (.int y3), (.int y4), (.int y5), (.int cv), (.int y7)] [(.int p0), (.int p1), (.int p2), (.int p3), (.int p4), (.int p5), (.int p6), (.int p7)]) := by
  refine Met.of (Ls := #[.val (.ref a), .val (.int (2 : Int32)), .val (.double dv), .second, .val (.int cv), .unset]) (plainFor_of_name pn_0) (fun m => by first | (simp [entryFrame, mkF, argsToLocals, Value.category, maxLocals]; done) | rfl) (fun κ w => ?_)
  replace w : Wk κ l Z "com/example/lucky_fork/luckyfork/model/GroupSums" "set" prog_120_method_4_code 6 none ({ frames := 0, cells := 0, slots := 0, locals := 0 } : Room) n0 h0 0 0 0 #[.val (.ref a), .val (.int (2 : Int32)), .val (.double dv), .second, .val (.int cv), .unset] [] := w
  replace w := w.aloadN (q := 1) (v := (.ref a)) dp120m4_0 rfl rfl rfl
  replace w := w.getF (q := 4) (v := (.int (4 : Int32))) (hw _ (List.mem_of_getElem? (i := 9) rfl)) (S.1.2.1) dp120m4_1 rfl
  replace w := w.iloadN (q := 5) (v := (2 : Int32)) dp120m4_4 rfl rfl
  replace w := w.iadd (q := 6) (z := (6 : Int32)) dp120m4_5 (by decide) rfl
  replace w := w.istore (q := 8) (l' := #[.val (.ref a), .val (.int (2 : Int32)), .val (.double dv), .second, .val (.int cv), .val (.int (6 : Int32))]) dp120m4_6 rfl rfl
  replace w := w.aloadN (q := 9) (v := (.ref a)) dp120m4_8 rfl rfl rfl
  replace w := w.getF (q := 12) (v := (.ref r)) (hw _ (List.mem_of_getElem? (i := 12) rfl)) (S.1.2.2.2.1) dp120m4_9 rfl
  replace w := w.iload (q := 14) (v := (6 : Int32)) dp120m4_12 rfl rfl
  replace w := w.dloadN (q := 15) (v := dv) dp120m4_14 rfl rfl
  obtain ⟨h57, W58, w⟩ := w.stDl (q := 16) (S.2.1) 6 rfl (ltl rfl) (S.2.2.2.2.1.2.1) dp120m4_15 rfl
  replace S := S.setR W58
  replace S : Gt Z h57 n0 a r c p (4 : Int32) (2 : Int32) (2 : Int32) (0 : Int32) cb bf [(.double x0), (.double x1), (.double x2), (.double x3), (.double x4), (.double x5), (.double dv), (.double x7)] [(.int y0), (.int y1), (.int y2), (.int y3), (.int y4), (.int y5), (.int y6), (.int y7)] [(.int p0), (.int p1), (.int p2), (.int p3), (.int p4), (.int p5), (.int p6), (.int p7)] := S
  replace w := w.aloadN (q := 17) (v := (.ref a)) dp120m4_16 rfl rfl rfl
  replace w := w.getF (q := 20) (v := (.ref c)) (hw _ (List.mem_of_getElem? (i := 15) rfl)) (S.1.2.2.2.2.1) dp120m4_17 rfl
  replace w := w.iload (q := 22) (v := (6 : Int32)) dp120m4_20 rfl rfl
  replace w := w.iload (q := 24) (v := cv) dp120m4_22 rfl rfl
  obtain ⟨h59, W60, w⟩ := w.stIl (q := 25) (S.2.2.1) 6 rfl (ltl rfl) (S.2.2.2.2.1.2.2.1) dp120m4_24 rfl
  replace S := S.setC W60
  replace S : Gt Z h59 n0 a r c p (4 : Int32) (2 : Int32) (2 : Int32) (0 : Int32) cb bf [(.double x0), (.double x1), (.double x2), (.double x3), (.double x4), (.double x5), (.double dv), (.double x7)] [(.int y0), (.int y1), (.int y2), (.int y3), (.int y4), (.int y5), (.int cv), (.int y7)] [(.int p0), (.int p1), (.int p2), (.int p3), (.int p4), (.int p5), (.int p6), (.int p7)] := S
  replace w := w.aloadN (q := 26) (v := (.ref a)) dp120m4_25 rfl rfl rfl
  replace w := w.getF (q := 29) (v := (.int (0 : Int32))) (hw _ (List.mem_of_getElem? (i := 40) rfl)) (S.1.2.2.2.2.2.2.2.1) dp120m4_26 rfl
  obtain ⟨-, w⟩ := (w.ifEq (q := 33) (q' := 32) (xi := 0) dp120m4_29 rfl (by decide) (by decide) rfl).resolve_right (fun g => by have hc29 := g.1; revert hc29; decide)
  replace w := w.aloadN (q := 34) (v := (.ref a)) dp120m4_33 rfl rfl rfl
  replace w := w.getF (q := 37) (v := (.int (2 : Int32))) (hw _ (List.mem_of_getElem? (i := 38) rfl)) (S.1.2.2.2.2.2.2.1) dp120m4_34 rfl
  replace w := w.aloadN (q := 38) (v := (.ref a)) dp120m4_37 rfl rfl rfl
  replace w := w.getF (q := 41) (v := (.int (2 : Int32))) (hw _ (List.mem_of_getElem? (i := 36) rfl)) (S.1.2.2.1) dp120m4_38 rfl
  replace w := w.imul (q := 42) (z := (4 : Int32)) dp120m4_41 (by decide) rfl
  replace w := w.aloadN (q := 43) (v := (.ref a)) dp120m4_42 rfl rfl rfl
  replace w := w.getF (q := 46) (v := (.int (4 : Int32))) (hw _ (List.mem_of_getElem? (i := 9) rfl)) (S.1.2.1) dp120m4_43 rfl
  obtain ⟨-, w⟩ := (w.icmpLt (q := 55) (q' := 49) (xi := 4) (yi := 4) dp120m4_46 rfl rfl (by decide) (by decide) rfl).resolve_left (fun g => by have hc46 := g.1; revert hc46; decide)
  replace w := w.aloadN (q := 50) (v := (.ref a)) dp120m4_49 rfl rfl rfl
  replace w := w.iconst (q := 51) (z := (1 : Int32)) dp120m4_50 (by decide) rfl
  obtain ⟨h61, W62, w⟩ := w.putF (q := 54) (C := "com/example/lucky_fork/luckyfork/model/GroupSums") (hw _ (List.mem_of_getElem? (i := 40) rfl)) (S.1.2.2.2.2.2.2.2.1) (S.1.1) (Or.inl (hw _ (List.mem_of_getElem? (i := 41) rfl))) (hw _ (List.mem_of_getElem? (i := 1) rfl)) (ty := .boolean) (by decide) (by decide) (by decide) dp120m4_51 (S.2.2.2.2.1.1) rfl
  replace S := S.put_rebuild hw W62
  exact w.retV dp120m4_54 ⟨rfl, S⟩ (by decide) (by decide)
set_option maxRecDepth 65536 in
set_option maxHeartbeats 40000000 in
theorem own_set_4_3 (l : Launch) (Z : State) (a0 : Array Value) (hw : ∀ d ∈ tables_1, d.before a0 Z = true) (h0 : Heap) (n0 : Nat) (Z0 : n0 ≤ h0.size) (a r c p : Nat) (cb : Int32) (bf : UInt64) (x0 : UInt64) (x1 : UInt64) (x2 : UInt64) (x3 : UInt64) (x4 : UInt64) (x5 : UInt64) (x6 : UInt64) (x7 : UInt64) (y0 : Int32) (y1 : Int32) (y2 : Int32) (y3 : Int32) (y4 : Int32) (y5 : Int32) (y6 : Int32) (y7 : Int32) (p0 : Int32) (p1 : Int32) (p2 : Int32) (p3 : Int32) (p4 : Int32) (p5 : Int32) (p6 : Int32) (p7 : Int32) (dv : UInt64) (cv : Int32) (S : Gt Z h0 n0 a r c p (4 : Int32) (2 : Int32) (2 : Int32) (1 : Int32) cb bf [(.double x0), (.double x1), (.double x2), (.double x3), (.double x4), (.double x5), (.double x6), (.double x7)] [(.int y0), (.int y1), (.int y2), (.int y3), (.int y4), (.int y5), (.int y6), (.int y7)] [(.int p0), (.int p1), (.int p2), (.int p3), (.int p4), (.int p5), (.int p6), (.int p7)]) :
    Met l Z (⟨"com/example/lucky_fork/luckyfork/model/GroupSums", "set", "(IDI)V"⟩ : MethodName) prog_120_method_4_code 6 none ({ frames := 0, cells := 0, slots := 0, locals := 0 } : Room) n0 #[(.ref a), (.int (3 : Int32)), (.double dv), (.int cv)] h0 (fun v h => v = none ∧ Gt Z h n0 a r c p (4 : Int32) (2 : Int32) (2 : Int32) (1 : Int32) cb bf [(.double x0), (.double x1), (.double x2), (.double x3), (.double x4), (.double x5), (.double x6), (.double dv)] [(.int y0), (.int y1), (.int y2), (.int y3), (.int y4), (.int y5), (.int y6), (.int cv)] [(.int p0), (.int p1), (.int p2), (.int p3), (.int p4), (.int p5), (.int p6), (.int p7)]) := by
  refine Met.of (Ls := #[.val (.ref a), .val (.int (3 : Int32)), .val (.double dv), .second, .val (.int cv), .unset]) (plainFor_of_name pn_0) (fun m => by first | (simp [entryFrame, mkF, argsToLocals, Value.category, maxLocals]; done) | rfl) (fun κ w => ?_)
  replace w : Wk κ l Z "com/example/lucky_fork/luckyfork/model/GroupSums" "set" prog_120_method_4_code 6 none ({ frames := 0, cells := 0, slots := 0, locals := 0 } : Room) n0 h0 0 0 0 #[.val (.ref a), .val (.int (3 : Int32)), .val (.double dv), .second, .val (.int cv), .unset] [] := w
  replace w := w.aloadN (q := 1) (v := (.ref a)) dp120m4_0 rfl rfl rfl
  replace w := w.getF (q := 4) (v := (.int (4 : Int32))) (hw _ (List.mem_of_getElem? (i := 9) rfl)) (S.1.2.1) dp120m4_1 rfl
  replace w := w.iloadN (q := 5) (v := (3 : Int32)) dp120m4_4 rfl rfl
  replace w := w.iadd (q := 6) (z := (7 : Int32)) dp120m4_5 (by decide) rfl
  replace w := w.istore (q := 8) (l' := #[.val (.ref a), .val (.int (3 : Int32)), .val (.double dv), .second, .val (.int cv), .val (.int (7 : Int32))]) dp120m4_6 rfl rfl
  replace w := w.aloadN (q := 9) (v := (.ref a)) dp120m4_8 rfl rfl rfl
  replace w := w.getF (q := 12) (v := (.ref r)) (hw _ (List.mem_of_getElem? (i := 12) rfl)) (S.1.2.2.2.1) dp120m4_9 rfl
  replace w := w.iload (q := 14) (v := (7 : Int32)) dp120m4_12 rfl rfl
  replace w := w.dloadN (q := 15) (v := dv) dp120m4_14 rfl rfl
  obtain ⟨h63, W64, w⟩ := w.stDl (q := 16) (S.2.1) 7 rfl (ltl rfl) (S.2.2.2.2.1.2.1) dp120m4_15 rfl
  replace S := S.setR W64
  replace S : Gt Z h63 n0 a r c p (4 : Int32) (2 : Int32) (2 : Int32) (1 : Int32) cb bf [(.double x0), (.double x1), (.double x2), (.double x3), (.double x4), (.double x5), (.double x6), (.double dv)] [(.int y0), (.int y1), (.int y2), (.int y3), (.int y4), (.int y5), (.int y6), (.int y7)] [(.int p0), (.int p1), (.int p2), (.int p3), (.int p4), (.int p5), (.int p6), (.int p7)] := S
  replace w := w.aloadN (q := 17) (v := (.ref a)) dp120m4_16 rfl rfl rfl
  replace w := w.getF (q := 20) (v := (.ref c)) (hw _ (List.mem_of_getElem? (i := 15) rfl)) (S.1.2.2.2.2.1) dp120m4_17 rfl
  replace w := w.iload (q := 22) (v := (7 : Int32)) dp120m4_20 rfl rfl
  replace w := w.iload (q := 24) (v := cv) dp120m4_22 rfl rfl
  obtain ⟨h65, W66, w⟩ := w.stIl (q := 25) (S.2.2.1) 7 rfl (ltl rfl) (S.2.2.2.2.1.2.2.1) dp120m4_24 rfl
  replace S := S.setC W66
  replace S : Gt Z h65 n0 a r c p (4 : Int32) (2 : Int32) (2 : Int32) (1 : Int32) cb bf [(.double x0), (.double x1), (.double x2), (.double x3), (.double x4), (.double x5), (.double x6), (.double dv)] [(.int y0), (.int y1), (.int y2), (.int y3), (.int y4), (.int y5), (.int y6), (.int cv)] [(.int p0), (.int p1), (.int p2), (.int p3), (.int p4), (.int p5), (.int p6), (.int p7)] := S
  replace w := w.aloadN (q := 26) (v := (.ref a)) dp120m4_25 rfl rfl rfl
  replace w := w.getF (q := 29) (v := (.int (1 : Int32))) (hw _ (List.mem_of_getElem? (i := 40) rfl)) (S.1.2.2.2.2.2.2.2.1) dp120m4_26 rfl
  obtain ⟨-, w⟩ := (w.ifEq (q := 33) (q' := 32) (xi := 1) dp120m4_29 rfl (by decide) (by decide) rfl).resolve_left (fun g => by have hc29 := g.1; revert hc29; decide)
  exact w.retV dp120m4_32 ⟨rfl, S⟩ (by decide) (by decide)
set_option maxRecDepth 65536 in
set_option maxHeartbeats 40000000 in
theorem own_settle_4 (l : Launch) (Z : State) (a0 : Array Value) (hw : ∀ d ∈ tables_1, d.before a0 Z = true) (h0 : Heap) (n0 : Nat) (Z0 : n0 ≤ h0.size) (a r c p : Nat) (cb : Int32) (bf : UInt64) (x0 : UInt64) (x1 : UInt64) (x2 : UInt64) (x3 : UInt64) (x4 : UInt64) (x5 : UInt64) (x6 : UInt64) (x7 : UInt64) (y0 : Int32) (y1 : Int32) (y2 : Int32) (y3 : Int32) (y4 : Int32) (y5 : Int32) (y6 : Int32) (y7 : Int32) (p0 : Int32) (p1 : Int32) (p2 : Int32) (p3 : Int32) (p4 : Int32) (p5 : Int32) (p6 : Int32) (p7 : Int32) (S : Gt Z h0 n0 a r c p (4 : Int32) (2 : Int32) (2 : Int32) (1 : Int32) cb bf [(.double x0), (.double x1), (.double x2), (.double x3), (.double x4), (.double x5), (.double x6), (.double x7)] [(.int y0), (.int y1), (.int y2), (.int y3), (.int y4), (.int y5), (.int y6), (.int y7)] [(.int p0), (.int p1), (.int p2), (.int p3), (.int p4), (.int p5), (.int p6), (.int p7)]) (hn3 : Jvm.Free.Fl.NoNaN64 (FP.dadd x6 x7)) (hn2 : Jvm.Free.Fl.NoNaN64 (FP.dadd x4 x5)) (hn1 : Jvm.Free.Fl.NoNaN64 (FP.dadd (FP.dadd x4 x5) (FP.dadd x6 x7))) :
    Met l Z (⟨"com/example/lucky_fork/luckyfork/model/GroupSums", "settle", "()V"⟩ : MethodName) prog_120_method_11_code 3 none ({ frames := 1, cells := 0, slots := 0, locals := 13 } : Room) n0 #[(.ref a)] h0 (fun v h => v = none ∧ Gt Z h n0 a r c p (4 : Int32) (2 : Int32) (0 : Int32) (0 : Int32) cb bf [(.double x0), (.double (FP.dadd (FP.dadd x4 x5) (FP.dadd x6 x7))), (.double (FP.dadd x4 x5)), (.double (FP.dadd x6 x7)), (.double x4), (.double x5), (.double x6), (.double x7)] [(.int y0), (.int ((y4 + y5) + (y6 + y7))), (.int (y4 + y5)), (.int (y6 + y7)), (.int y4), (.int y5), (.int y6), (.int y7)] [(.int p0), (.int p1), (.int p2), (.int p3), (.int p4), (.int p5), (.int p6), (.int p7)]) := by
  refine Met.of (Ls := #[.val (.ref a), .unset, .unset]) (plainFor_of_name pn_0) (fun m => by first | (simp [entryFrame, mkF, argsToLocals, Value.category, maxLocals]; done) | rfl) (fun κ w => ?_)
  replace w : Wk κ l Z "com/example/lucky_fork/luckyfork/model/GroupSums" "settle" prog_120_method_11_code 3 none ({ frames := 1, cells := 0, slots := 0, locals := 13 } : Room) n0 h0 0 0 0 #[.val (.ref a), .unset, .unset] [] := w
  replace w := w.aloadN (q := 1) (v := (.ref a)) dp120m11_0 rfl rfl rfl
  replace w := w.getF (q := 4) (v := (.int (1 : Int32))) (hw _ (List.mem_of_getElem? (i := 40) rfl)) (S.1.2.2.2.2.2.2.2.1) dp120m11_1 rfl
  obtain ⟨-, w⟩ := (w.ifEq (q := 41) (q' := 7) (xi := 1) dp120m11_4 rfl (by decide) (by decide) rfl).resolve_left (fun g => by have hc4 := g.1; revert hc4; decide)
  replace w := w.aloadN (q := 8) (v := (.ref a)) dp120m11_7 rfl rfl rfl
  replace w := w.getF (q := 11) (v := (.int (4 : Int32))) (hw _ (List.mem_of_getElem? (i := 9) rfl)) (S.1.2.1) dp120m11_8 rfl
  replace w := w.iconst (q := 12) (z := (1 : Int32)) dp120m11_11 (by decide) rfl
  replace w := w.isub (q := 13) (z := (3 : Int32)) dp120m11_12 (by decide) rfl
  replace w := w.istoreN (q := 14) (l' := #[.val (.ref a), .val (.int (3 : Int32)), .unset]) dp120m11_13 rfl rfl
  replace w := w.iloadN (q := 15) (v := (3 : Int32)) dp120m11_14 rfl rfl
  replace w := w.iconst (q := 16) (z := (1 : Int32)) dp120m11_15 (by decide) rfl
  obtain ⟨-, w⟩ := (w.icmpLt (q := 30) (q' := 19) (xi := 3) (yi := 1) dp120m11_16 rfl rfl (by decide) (by decide) rfl).resolve_left (fun g => by have hc16 := g.1; revert hc16; decide)
  replace w := w.aloadN (q := 20) (v := (.ref a)) dp120m11_19 rfl rfl rfl
  replace w := w.iloadN (q := 21) (v := (3 : Int32)) dp120m11_20 rfl rfl
  obtain ⟨_, h67, ⟨rfl, S⟩, w⟩ := w.callP (a := a) (y := (⟨"com/example/lucky_fork/luckyfork/model/GroupSums", "addUp", "(I)V"⟩ : MethodName)) (argsL := [(.int (3 : Int32))]) (rest := []) (own_au_4_3 l Z a0 hw _ n0 S.z0 a r c p (4 : Int32) (2 : Int32) (2 : Int32) (1 : Int32) cb bf x0 x1 x2 x3 x4 x5 x6 x7 y0 y1 y2 y3 y4 y5 y6 y7 p0 p1 p2 p3 p4 p5 p6 p7  S hn3) (S.1.1) (hw _ (List.mem_of_getElem? (i := 52) rfl)) (hw _ (List.mem_of_getElem? (i := 54) rfl)) (hw _ (List.mem_of_getElem? (i := 1) rfl)) (hw _ (List.mem_of_getElem? (i := 53) rfl)) (hw _ (List.mem_of_getElem? (i := 2) rfl)) (hw _ (List.mem_of_getElem? (i := 55) rfl)) (by decide) dp120m11_21 (lenOf pd_1 rfl) rfl rfl (by decide) (W := 0) (Nat.le_of_eq rfl) (by decide) (by decide) (by decide) (q := 24) rfl
  replace w := w [] rfl
  replace w := w.iinc (q := 27) (z := (2 : Int32)) (l' := #[.val (.ref a), .val (.int (2 : Int32)), .unset]) dp120m11_24 rfl (by decide) rfl rfl
  replace w := w.goto (q := 14) dp120m11_27 (by decide) (by decide)
  replace w := w.iloadN (q := 15) (v := (2 : Int32)) dp120m11_14 rfl rfl
  replace w := w.iconst (q := 16) (z := (1 : Int32)) dp120m11_15 (by decide) rfl
  obtain ⟨-, w⟩ := (w.icmpLt (q := 30) (q' := 19) (xi := 2) (yi := 1) dp120m11_16 rfl rfl (by decide) (by decide) rfl).resolve_left (fun g => by have hc16 := g.1; revert hc16; decide)
  replace w := w.aloadN (q := 20) (v := (.ref a)) dp120m11_19 rfl rfl rfl
  replace w := w.iloadN (q := 21) (v := (2 : Int32)) dp120m11_20 rfl rfl
  obtain ⟨_, h68, ⟨rfl, S⟩, w⟩ := w.callP (a := a) (y := (⟨"com/example/lucky_fork/luckyfork/model/GroupSums", "addUp", "(I)V"⟩ : MethodName)) (argsL := [(.int (2 : Int32))]) (rest := []) (own_au_4_2 l Z a0 hw _ n0 S.z0 a r c p (4 : Int32) (2 : Int32) (2 : Int32) (1 : Int32) cb bf x0 x1 x2 (FP.dadd x6 x7) x4 x5 x6 x7 y0 y1 y2 (y6 + y7) y4 y5 y6 y7 p0 p1 p2 p3 p4 p5 p6 p7  S hn2) (S.1.1) (hw _ (List.mem_of_getElem? (i := 52) rfl)) (hw _ (List.mem_of_getElem? (i := 54) rfl)) (hw _ (List.mem_of_getElem? (i := 1) rfl)) (hw _ (List.mem_of_getElem? (i := 53) rfl)) (hw _ (List.mem_of_getElem? (i := 2) rfl)) (hw _ (List.mem_of_getElem? (i := 55) rfl)) (by decide) dp120m11_21 (lenOf pd_1 rfl) rfl rfl (by decide) (W := 0) (Nat.le_of_eq rfl) (by decide) (by decide) (by decide) (q := 24) rfl
  replace w := w [] rfl
  replace w := w.iinc (q := 27) (z := (1 : Int32)) (l' := #[.val (.ref a), .val (.int (1 : Int32)), .unset]) dp120m11_24 rfl (by decide) rfl rfl
  replace w := w.goto (q := 14) dp120m11_27 (by decide) (by decide)
  replace w := w.iloadN (q := 15) (v := (1 : Int32)) dp120m11_14 rfl rfl
  replace w := w.iconst (q := 16) (z := (1 : Int32)) dp120m11_15 (by decide) rfl
  obtain ⟨-, w⟩ := (w.icmpLt (q := 30) (q' := 19) (xi := 1) (yi := 1) dp120m11_16 rfl rfl (by decide) (by decide) rfl).resolve_left (fun g => by have hc16 := g.1; revert hc16; decide)
  replace w := w.aloadN (q := 20) (v := (.ref a)) dp120m11_19 rfl rfl rfl
  replace w := w.iloadN (q := 21) (v := (1 : Int32)) dp120m11_20 rfl rfl
  obtain ⟨_, h69, ⟨rfl, S⟩, w⟩ := w.callP (a := a) (y := (⟨"com/example/lucky_fork/luckyfork/model/GroupSums", "addUp", "(I)V"⟩ : MethodName)) (argsL := [(.int (1 : Int32))]) (rest := []) (own_au_4_1 l Z a0 hw _ n0 S.z0 a r c p (4 : Int32) (2 : Int32) (2 : Int32) (1 : Int32) cb bf x0 x1 (FP.dadd x4 x5) (FP.dadd x6 x7) x4 x5 x6 x7 y0 y1 (y4 + y5) (y6 + y7) y4 y5 y6 y7 p0 p1 p2 p3 p4 p5 p6 p7  S hn1) (S.1.1) (hw _ (List.mem_of_getElem? (i := 52) rfl)) (hw _ (List.mem_of_getElem? (i := 54) rfl)) (hw _ (List.mem_of_getElem? (i := 1) rfl)) (hw _ (List.mem_of_getElem? (i := 53) rfl)) (hw _ (List.mem_of_getElem? (i := 2) rfl)) (hw _ (List.mem_of_getElem? (i := 55) rfl)) (by decide) dp120m11_21 (lenOf pd_1 rfl) rfl rfl (by decide) (W := 0) (Nat.le_of_eq rfl) (by decide) (by decide) (by decide) (q := 24) rfl
  replace w := w [] rfl
  replace w := w.iinc (q := 27) (z := (0 : Int32)) (l' := #[.val (.ref a), .val (.int (0 : Int32)), .unset]) dp120m11_24 rfl (by decide) rfl rfl
  replace w := w.goto (q := 14) dp120m11_27 (by decide) (by decide)
  replace w := w.iloadN (q := 15) (v := (0 : Int32)) dp120m11_14 rfl rfl
  replace w := w.iconst (q := 16) (z := (1 : Int32)) dp120m11_15 (by decide) rfl
  obtain ⟨-, w⟩ := (w.icmpLt (q := 30) (q' := 19) (xi := 0) (yi := 1) dp120m11_16 rfl rfl (by decide) (by decide) rfl).resolve_right (fun g => by have hc16 := g.1; revert hc16; decide)
  replace w := w.aloadN (q := 31) (v := (.ref a)) dp120m11_30 rfl rfl rfl
  replace w := w.iconst (q := 32) (z := (0 : Int32)) dp120m11_31 (by decide) rfl
  obtain ⟨h70, W71, w⟩ := w.putF (q := 35) (C := "com/example/lucky_fork/luckyfork/model/GroupSums") (hw _ (List.mem_of_getElem? (i := 40) rfl)) (S.1.2.2.2.2.2.2.2.1) (S.1.1) (Or.inl (hw _ (List.mem_of_getElem? (i := 41) rfl))) (hw _ (List.mem_of_getElem? (i := 1) rfl)) (ty := .boolean) (by decide) (by decide) (by decide) dp120m11_32 (S.2.2.2.2.1.1) rfl
  replace S := S.put_rebuild hw W71
  replace w := w.aloadN (q := 36) (v := (.ref a)) dp120m11_35 rfl rfl rfl
  replace w := w.iconst (q := 37) (z := (0 : Int32)) dp120m11_36 (by decide) rfl
  obtain ⟨h72, W73, w⟩ := w.putF (q := 40) (C := "com/example/lucky_fork/luckyfork/model/GroupSums") (hw _ (List.mem_of_getElem? (i := 38) rfl)) (S.1.2.2.2.2.2.2.1) (S.1.1) (Or.inl (hw _ (List.mem_of_getElem? (i := 39) rfl))) (hw _ (List.mem_of_getElem? (i := 1) rfl)) (ty := .int) (by decide) rfl rfl dp120m11_37 (S.2.2.2.2.1.1) rfl
  replace S := S.put_pendingCount hw W73
  exact w.retV dp120m11_40 ⟨rfl, S⟩ (by decide) (by decide)
set_option maxRecDepth 65536 in
set_option maxHeartbeats 40000000 in
theorem own_cb_4 (l : Launch) (Z : State) (a0 : Array Value) (hw : ∀ d ∈ tables_1, d.before a0 Z = true) (h0 : Heap) (n0 : Nat) (Z0 : n0 ≤ h0.size) (a r c p : Nat) (dp : Int32) (pn : Int32) (rb : Int32) (cb : Int32) (bf : UInt64) (x0 : UInt64) (x1 : UInt64) (x2 : UInt64) (x3 : UInt64) (x4 : UInt64) (x5 : UInt64) (x6 : UInt64) (x7 : UInt64) (y0 : Int32) (y1 : Int32) (y2 : Int32) (y3 : Int32) (y4 : Int32) (y5 : Int32) (y6 : Int32) (y7 : Int32) (p0 : Int32) (p1 : Int32) (p2 : Int32) (p3 : Int32) (p4 : Int32) (p5 : Int32) (p6 : Int32) (p7 : Int32) (S : Gt Z h0 n0 a r c p (4 : Int32) dp pn rb cb bf [(.double x0), (.double x1), (.double x2), (.double x3), (.double x4), (.double x5), (.double x6), (.double x7)] [(.int y0), (.int y1), (.int y2), (.int y3), (.int y4), (.int y5), (.int y6), (.int y7)] [(.int p0), (.int p1), (.int p2), (.int p3), (.int p4), (.int p5), (.int p6), (.int p7)]) :
    Met l Z (⟨"com/example/lucky_fork/luckyfork/model/GroupSums", "countBefore", "()I"⟩ : MethodName) prog_120_method_10_code 1 (some .int) ({ frames := 0, cells := 0, slots := 0, locals := 0 } : Room) n0 #[(.ref a)] h0 (fun v h => v = some (.int cb) ∧ Gt Z h n0 a r c p (4 : Int32) dp pn rb cb bf [(.double x0), (.double x1), (.double x2), (.double x3), (.double x4), (.double x5), (.double x6), (.double x7)] [(.int y0), (.int y1), (.int y2), (.int y3), (.int y4), (.int y5), (.int y6), (.int y7)] [(.int p0), (.int p1), (.int p2), (.int p3), (.int p4), (.int p5), (.int p6), (.int p7)]) := by
  refine Met.of (Ls := #[.val (.ref a)]) (plainFor_of_name pn_0) (fun m => by first | (simp [entryFrame, mkF, argsToLocals, Value.category, maxLocals]; done) | rfl) (fun κ w => ?_)
  replace w : Wk κ l Z "com/example/lucky_fork/luckyfork/model/GroupSums" "countBefore" prog_120_method_10_code 1 (some .int) ({ frames := 0, cells := 0, slots := 0, locals := 0 } : Room) n0 h0 0 0 0 #[.val (.ref a)] [] := w
  replace w := w.aloadN (q := 1) (v := (.ref a)) dp120m10_0 rfl rfl rfl
  replace w := w.getF (q := 4) (v := (.int cb)) (hw _ (List.mem_of_getElem? (i := 64) rfl)) (S.1.2.2.2.2.2.2.2.2.1) dp120m10_1 rfl
  exact w.retI dp120m10_4 ⟨rfl, S⟩ (by decide) (by decide)
set_option maxRecDepth 65536 in
set_option maxHeartbeats 40000000 in
theorem own_rb_4 (l : Launch) (Z : State) (a0 : Array Value) (hw : ∀ d ∈ tables_1, d.before a0 Z = true) (h0 : Heap) (n0 : Nat) (Z0 : n0 ≤ h0.size) (a r c p : Nat) (dp : Int32) (pn : Int32) (rb : Int32) (cb : Int32) (bf : UInt64) (x0 : UInt64) (x1 : UInt64) (x2 : UInt64) (x3 : UInt64) (x4 : UInt64) (x5 : UInt64) (x6 : UInt64) (x7 : UInt64) (y0 : Int32) (y1 : Int32) (y2 : Int32) (y3 : Int32) (y4 : Int32) (y5 : Int32) (y6 : Int32) (y7 : Int32) (p0 : Int32) (p1 : Int32) (p2 : Int32) (p3 : Int32) (p4 : Int32) (p5 : Int32) (p6 : Int32) (p7 : Int32) (S : Gt Z h0 n0 a r c p (4 : Int32) dp pn rb cb bf [(.double x0), (.double x1), (.double x2), (.double x3), (.double x4), (.double x5), (.double x6), (.double x7)] [(.int y0), (.int y1), (.int y2), (.int y3), (.int y4), (.int y5), (.int y6), (.int y7)] [(.int p0), (.int p1), (.int p2), (.int p3), (.int p4), (.int p5), (.int p6), (.int p7)]) :
    Met l Z (⟨"com/example/lucky_fork/luckyfork/model/GroupSums", "rateBefore", "()D"⟩ : MethodName) prog_120_method_9_code 1 (some .double) ({ frames := 0, cells := 0, slots := 0, locals := 0 } : Room) n0 #[(.ref a)] h0 (fun v h => v = some (.double bf) ∧ Gt Z h n0 a r c p (4 : Int32) dp pn rb cb bf [(.double x0), (.double x1), (.double x2), (.double x3), (.double x4), (.double x5), (.double x6), (.double x7)] [(.int y0), (.int y1), (.int y2), (.int y3), (.int y4), (.int y5), (.int y6), (.int y7)] [(.int p0), (.int p1), (.int p2), (.int p3), (.int p4), (.int p5), (.int p6), (.int p7)]) := by
  refine Met.of (Ls := #[.val (.ref a)]) (plainFor_of_name pn_0) (fun m => by first | (simp [entryFrame, mkF, argsToLocals, Value.category, maxLocals]; done) | rfl) (fun κ w => ?_)
  replace w : Wk κ l Z "com/example/lucky_fork/luckyfork/model/GroupSums" "rateBefore" prog_120_method_9_code 1 (some .double) ({ frames := 0, cells := 0, slots := 0, locals := 0 } : Room) n0 h0 0 0 0 #[.val (.ref a)] [] := w
  replace w := w.aloadN (q := 1) (v := (.ref a)) dp120m9_0 rfl rfl rfl
  replace w := w.getF (q := 4) (v := (.double bf)) (hw _ (List.mem_of_getElem? (i := 62) rfl)) (S.1.2.2.2.2.2.2.2.2.2) dp120m9_1 rfl
  exact w.retD dp120m9_4 ⟨rfl, S⟩ (by decide) (by decide)
theorem own_b53 (x : Int32) : B53 x.toInt64 := by
  have h := c_i2l x
  have r := rng32 x
  exact ⟨by omega, by omega⟩
theorem own_lcmp (a b : Int64) : (lcmpW a b).toInt < 0 ∧ a.toInt < b.toInt ∨ (lcmpW a b).toInt = 0 ∧ a.toInt = b.toInt ∨ 0 < (lcmpW a b).toInt ∧ b.toInt < a.toInt := by
  unfold lcmpW
  have e1 : (1 : Int32).toInt = 1 := rfl
  have e2 : (0 : Int32).toInt = 0 := rfl
  have e3 : (-1 : Int32).toInt = -1 := rfl
  by_cases h1 : a > b
  · rw [if_pos h1]; have := Int64.lt_iff_toInt_lt.mp h1; omega
  · rw [if_neg h1]
    have g1 : ¬ b.toInt < a.toInt := fun q => h1 (Int64.lt_iff_toInt_lt.mpr q)
    by_cases h2 : a = b
    · rw [if_pos h2]; subst h2; omega
    · rw [if_neg h2]
      have g2 : ¬ a.toInt = b.toInt := fun q => h2 (Int64.toInt_inj.mp q)
      omega
theorem own_dcmp (x y : Int32) (o : CmpOp) : (cmpValue (FP.dcmp (FP.i2d x) (FP.i2d y)) o).toInt < 0 ∧ x.toInt < y.toInt ∨ (cmpValue (FP.dcmp (FP.i2d x) (FP.i2d y)) o).toInt = 0 ∧ x.toInt = y.toInt ∨ 0 < (cmpValue (FP.dcmp (FP.i2d x) (FP.i2d y)) o).toInt ∧ y.toInt < x.toInt := by
  rw [i2d_w, i2d_w, dcmpV_w (own_b53 x) (own_b53 y) o]
  have h := own_lcmp x.toInt64 y.toInt64
  rw [c_i2l, c_i2l] at h
  exact h
theorem own_i2d0 : FP.i2d 0 = 0 := by decide +kernel
theorem own_dadd {x y z : Int32} (e : x + y = z) (b1 : 0 ≤ x.toInt) (b2 : x.toInt < 1073741824) (b3 : 0 ≤ y.toInt) (b4 : y.toInt < 1073741824) : FP.dadd (FP.i2d x) (FP.i2d y) = FP.i2d z := by
  rw [i2d_w, i2d_w, i2d_w, dadd_w (own_b53 x) (own_b53 y)]
  congr 1
  apply Int64.toInt_inj.mp
  rw [add64 (own_b53 x) (own_b53 y), c_i2l, c_i2l, c_i2l]
  exact (own_add e b1 b2 b3 b4).symm
theorem own_nn (x : Int32) : Jvm.Free.Fl.NoNaN64 (FP.i2d x) := (Jvm.Free.Fl.i2d_fin x).noNaN
theorem own_half_all : ∀ h : Fin 128, ∀ q : Fin 22, (decide ((cmpValue (FP.dcmp (FP.ddiv (FP.i2d (Int32.ofNat h.val)) 4611686018427387904) (FP.i2d (Int32.ofNat q.val))) .l).toInt < 0) == decide (h.val < 2 * q.val)) = true := by decide +kernel
theorem own_of {x : Int32} {n : Nat} (h0 : 0 ≤ x.toInt) (h1 : x.toInt < n) : ∃ m : Fin n, Int32.ofNat m.val = x ∧ x.toInt = m.val := by
  refine ⟨⟨x.toInt.toNat, by omega⟩, ?_, by show _ = ((x.toInt.toNat : Nat) : Int); omega⟩
  apply Int32.toInt_inj.mp
  have r := rng32 x
  rw [Int32.toInt_ofNat_of_lt (by show x.toInt.toNat < _; omega)]
  show ((x.toInt.toNat : Nat) : Int) = _
  omega
theorem own_half {hh q : Int32} (h0 : 0 ≤ hh.toInt) (h1 : hh.toInt ≤ 127) (q0 : 0 ≤ q.toInt) (q1 : q.toInt ≤ 21) : ((cmpValue (FP.dcmp (FP.ddiv (FP.i2d hh) 4611686018427387904) (FP.i2d q)) .l).toInt < 0 ↔ hh.toInt < 2 * q.toInt) := by
  obtain ⟨m, e1, e2⟩ := own_of (x := hh) (n := 128) h0 (by omega)
  obtain ⟨n, e3, e4⟩ := own_of (x := q) (n := 22) q0 (by omega)
  have h := own_half_all m n
  rw [e1, e3] at h
  simp only [beq_iff_eq, decide_eq_decide] at h
  rw [h]; omega
theorem own_two_fin : Jvm.Free.Fl.Fin64 4611686018427387904 := by unfold Jvm.Free.Fl.Fin64; decide
theorem own_ddiv (x : Int32) : Jvm.Free.Fl.NoNaN64 (FP.ddiv (FP.i2d x) 4611686018427387904) := Jvm.Free.Fl.ddiv_out (own_nn x) own_two_fin (by unfold Jvm.Free.Fl.Nz64; decide)
theorem own_m3 {x z : Int32} (e : x &&& (3 : Int32) = z) : 0 ≤ z.toInt ∧ z.toInt ≤ 3 := by
  have h := c_mask x 3 2 (by decide) (by decide)
  rw [e] at h
  have : ((2 ^ 2 : Nat) : Int) = 4 := by decide
  omega
theorem own_m7 {x z : Int32} (e : x &&& (7 : Int32) = z) : 0 ≤ z.toInt ∧ z.toInt ≤ 7 := by
  have h := c_mask x 7 3 (by decide) (by decide)
  rw [e] at h
  have : ((2 ^ 3 : Nat) : Int) = 8 := by decide
  omega
theorem own_m127 {x z : Int32} (e : x &&& (127 : Int32) = z) : 0 ≤ z.toInt ∧ z.toInt ≤ 127 := by
  have h := c_mask x 127 7 (by decide) (by decide)
  rw [e] at h
  have : ((2 ^ 7 : Nat) : Int) = 128 := by decide
  omega
theorem own_twice {y z : Int32} (e : (2 : Int32) * y = z) (b1 : 0 ≤ y.toInt) (b2 : y.toInt < 1000) : z.toInt = 2 * y.toInt := by
  have h1 := c_imul 2 y
  have h2 := rng32 (2 * y)
  rw [e] at h1 h2
  have e2 : (2 : Int32).toInt = 2 := rfl
  rw [e2] at h1
  omega
set_option maxRecDepth 65536 in
set_option maxHeartbeats 40000000 in
theorem own_find (l : Launch) (Z : State) (a0 : Array Value) (hw : ∀ d ∈ tables_1, d.before a0 Z = true) (h0 : Heap) (n0 : Nat) (Z0 : n0 ≤ h0.size) (a r c p : Nat) (dp : Int32) (pn : Int32) (rb : Int32) (cb : Int32) (bf : UInt64) (x0 : UInt64) (x1 : UInt64) (x3 : UInt64) (x5 : UInt64) (x7 : UInt64) (y0 : Int32) (y1 : Int32) (y2 : Int32) (y3 : Int32) (y4 : Int32) (y5 : Int32) (y6 : Int32) (y7 : Int32) (p0 : Int32) (p1 : Int32) (p2 : Int32) (p3 : Int32) (p4 : Int32) (p5 : Int32) (p6 : Int32) (p7 : Int32) (R2 R4 R6 : Int32) (pt : UInt64) (hh : Int) (S : Gt Z h0 n0 a r c p (4 : Int32) dp pn rb cb bf [(.double x0), (.double x1), (.double (FP.i2d R2)), (.double x3), (.double (FP.i2d R4)), (.double x5), (.double (FP.i2d R6)), (.double x7)] [(.int y0), (.int y1), (.int y2), (.int y3), (.int y4), (.int y5), (.int y6), (.int y7)] [(.int p0), (.int p1), (.int p2), (.int p3), (.int p4), (.int p5), (.int p6), (.int p7)]) (b_R2 : 0 ≤ R2.toInt ∧ R2.toInt ≤ 14) (b_R4 : 0 ≤ R4.toInt ∧ R4.toInt ≤ 7) (b_R6 : 0 ≤ R6.toInt ∧ R6.toInt ≤ 7) (b_y2 : 0 ≤ y2.toInt ∧ y2.toInt < 100) (b_y4 : 0 ≤ y4.toInt ∧ y4.toInt < 100) (b_y6 : 0 ≤ y6.toInt ∧ y6.toInt < 100) (hpt : ∀ q : Int32, 0 ≤ q.toInt → q.toInt ≤ 21 → ((cmpValue (FP.dcmp pt (FP.i2d q)) .l).toInt < 0 ↔ hh < 2 * q.toInt)) :
    Met l Z (⟨"com/example/lucky_fork/luckyfork/model/GroupSums", "findByRate", "(D)I"⟩ : MethodName) prog_120_method_8_code 9 (some .int) ({ frames := 0, cells := 0, slots := 0, locals := 0 } : Room) n0 #[(.ref a), (.double pt)] h0 (fun v h => ∃ (rv b Rb : Int32), v = some (.int rv) ∧ Gt Z h n0 a r c p (4 : Int32) dp pn rb b (FP.i2d Rb) [(.double x0), (.double x1), (.double (FP.i2d R2)), (.double x3), (.double (FP.i2d R4)), (.double x5), (.double (FP.i2d R6)), (.double x7)] [(.int y0), (.int y1), (.int y2), (.int y3), (.int y4), (.int y5), (.int y6), (.int y7)] [(.int p0), (.int p1), (.int p2), (.int p3), (.int p4), (.int p5), (.int p6), (.int p7)] ∧ ((0 < y3.toInt ∧ 2 * R2.toInt ≤ hh) ∧ (0 < y7.toInt ∧ 2 * (R2.toInt + R6.toInt) ≤ hh) ∧ rv.toInt = 3 ∧ Rb.toInt = R2.toInt + R6.toInt ∧ b.toInt = y2.toInt + y6.toInt ∨ (0 < y3.toInt ∧ 2 * R2.toInt ≤ hh) ∧ ¬ (0 < y7.toInt ∧ 2 * (R2.toInt + R6.toInt) ≤ hh) ∧ rv.toInt = 2 ∧ Rb.toInt = R2.toInt ∧ b.toInt = y2.toInt ∨ ¬ (0 < y3.toInt ∧ 2 * R2.toInt ≤ hh) ∧ (0 < y5.toInt ∧ 2 * R4.toInt ≤ hh) ∧ rv.toInt = 1 ∧ Rb.toInt = R4.toInt ∧ b.toInt = y4.toInt ∨ ¬ (0 < y3.toInt ∧ 2 * R2.toInt ≤ hh) ∧ ¬ (0 < y5.toInt ∧ 2 * R4.toInt ≤ hh) ∧ rv.toInt = 0 ∧ Rb.toInt = 0 ∧ b.toInt = 0)) := by
  refine Met.of (Ls := #[.val (.ref a), .val (.double pt), .second, .unset, .unset, .unset, .unset, .unset, .unset]) (plainFor_of_name pn_0) (fun m => by first | (simp [entryFrame, mkF, argsToLocals, Value.category, maxLocals]; done) | rfl) (fun κ w => ?_)
  replace w : Wk κ l Z "com/example/lucky_fork/luckyfork/model/GroupSums" "findByRate" prog_120_method_8_code 9 (some .int) ({ frames := 0, cells := 0, slots := 0, locals := 0 } : Room) n0 h0 0 0 0 #[.val (.ref a), .val (.double pt), .second, .unset, .unset, .unset, .unset, .unset, .unset] [] := w
  have e00 : (0 : Int32).toInt = 0 := rfl
  replace w := w.iconst (q := 1) (z := (1 : Int32)) dp120m8_0 (by decide) rfl
  replace w := w.istoreN (q := 2) (l' := #[.val (.ref a), .val (.double pt), .second, .val (.int (1 : Int32)), .unset, .unset, .unset, .unset, .unset]) dp120m8_1 rfl rfl
  replace w := w.dconst0 (q := 3) (z := FP.i2d (0 : Int32)) dp120m8_2 own_i2d0.symm rfl
  replace w := w.dstore (q := 5) (l' := #[.val (.ref a), .val (.double pt), .second, .val (.int (1 : Int32)), .val (.double (FP.i2d (0 : Int32))), .second, .unset, .unset, .unset]) dp120m8_3 rfl rfl
  replace w := w.iconst (q := 6) (z := (0 : Int32)) dp120m8_5 (by decide) rfl
  replace w := w.istore (q := 8) (l' := #[.val (.ref a), .val (.double pt), .second, .val (.int (1 : Int32)), .val (.double (FP.i2d (0 : Int32))), .second, .val (.int (0 : Int32)), .unset, .unset]) dp120m8_6 rfl rfl
  replace w := w.iloadN (q := 9) (v := (1 : Int32)) dp120m8_8 rfl rfl
  replace w := w.aloadN (q := 10) (v := (.ref a)) dp120m8_9 rfl rfl rfl
  replace w := w.getF (q := 13) (v := (.int (4 : Int32))) (hw _ (List.mem_of_getElem? (i := 9) rfl)) (S.1.2.1) dp120m8_10 rfl
  obtain ⟨-, w⟩ := (w.icmpGe (q := 98) (q' := 16) (xi := 1) (yi := 4) dp120m8_13 rfl rfl (by decide) (by decide) rfl).resolve_left (fun g => by have hc13 := g.1; revert hc13; decide)
  replace w := w.iconst (q := 17) (z := (2 : Int32)) dp120m8_16 (by decide) rfl
  replace w := w.iloadN (q := 18) (v := (1 : Int32)) dp120m8_17 rfl rfl
  replace w := w.imul (q := 19) (z := (2 : Int32)) dp120m8_18 (by decide) rfl
  replace w := w.istore (q := 21) (l' := #[.val (.ref a), .val (.double pt), .second, .val (.int (1 : Int32)), .val (.double (FP.i2d (0 : Int32))), .second, .val (.int (0 : Int32)), .val (.int (2 : Int32)), .unset]) dp120m8_19 rfl rfl
  replace w := w.aloadN (q := 22) (v := (.ref a)) dp120m8_21 rfl rfl rfl
  replace w := w.getF (q := 25) (v := (.ref c)) (hw _ (List.mem_of_getElem? (i := 15) rfl)) (S.1.2.2.2.2.1) dp120m8_22 rfl
  replace w := w.iload (q := 27) (v := (2 : Int32)) dp120m8_25 rfl rfl
  replace w := w.iconst (q := 28) (z := (1 : Int32)) dp120m8_27 (by decide) rfl
  replace w := w.iadd (q := 29) (z := (3 : Int32)) dp120m8_28 (by decide) rfl
  replace w := w.ldIl (q := 30) (v := (.int y3)) (S.2.2.1) 3 rfl rfl dp120m8_29 rfl
  rcases w.ifLe (q := 52) (q' := 33) (xi := y3.toInt) dp120m8_30 rfl (by decide) (by decide) rfl with ⟨hc30, w⟩ | ⟨hc30, w⟩
  · replace w := w.iconst (q := 53) (z := (0 : Int32)) dp120m8_52 (by decide) rfl
    replace w := w.istore (q := 55) (l' := #[.val (.ref a), .val (.double pt), .second, .val (.int (1 : Int32)), .val (.double (FP.i2d (0 : Int32))), .second, .val (.int (0 : Int32)), .val (.int (2 : Int32)), .val (.int (0 : Int32))]) dp120m8_53 rfl rfl
    replace w := w.iload (q := 57) (v := (0 : Int32)) dp120m8_55 rfl rfl
    obtain ⟨-, w⟩ := (w.ifEq (q := 92) (q' := 60) (xi := 0) dp120m8_57 rfl (by decide) (by decide) rfl).resolve_right (fun g => by have hc57 := g.1; revert hc57; decide)
    replace w := w.iload (q := 94) (v := (2 : Int32)) dp120m8_92 rfl rfl
    replace w := w.istoreN (q := 95) (l' := #[.val (.ref a), .val (.double pt), .second, .val (.int (2 : Int32)), .val (.double (FP.i2d (0 : Int32))), .second, .val (.int (0 : Int32)), .val (.int (2 : Int32)), .val (.int (0 : Int32))]) dp120m8_94 rfl rfl
    replace w := w.goto (q := 8) dp120m8_95 (by decide) (by decide)
    replace w := w.iloadN (q := 9) (v := (2 : Int32)) dp120m8_8 rfl rfl
    replace w := w.aloadN (q := 10) (v := (.ref a)) dp120m8_9 rfl rfl rfl
    replace w := w.getF (q := 13) (v := (.int (4 : Int32))) (hw _ (List.mem_of_getElem? (i := 9) rfl)) (S.1.2.1) dp120m8_10 rfl
    obtain ⟨-, w⟩ := (w.icmpGe (q := 98) (q' := 16) (xi := 2) (yi := 4) dp120m8_13 rfl rfl (by decide) (by decide) rfl).resolve_left (fun g => by have hc13 := g.1; revert hc13; decide)
    replace w := w.iconst (q := 17) (z := (2 : Int32)) dp120m8_16 (by decide) rfl
    replace w := w.iloadN (q := 18) (v := (2 : Int32)) dp120m8_17 rfl rfl
    replace w := w.imul (q := 19) (z := (4 : Int32)) dp120m8_18 (by decide) rfl
    replace w := w.istore (q := 21) (l' := #[.val (.ref a), .val (.double pt), .second, .val (.int (2 : Int32)), .val (.double (FP.i2d (0 : Int32))), .second, .val (.int (0 : Int32)), .val (.int (4 : Int32)), .val (.int (0 : Int32))]) dp120m8_19 rfl rfl
    replace w := w.aloadN (q := 22) (v := (.ref a)) dp120m8_21 rfl rfl rfl
    replace w := w.getF (q := 25) (v := (.ref c)) (hw _ (List.mem_of_getElem? (i := 15) rfl)) (S.1.2.2.2.2.1) dp120m8_22 rfl
    replace w := w.iload (q := 27) (v := (4 : Int32)) dp120m8_25 rfl rfl
    replace w := w.iconst (q := 28) (z := (1 : Int32)) dp120m8_27 (by decide) rfl
    replace w := w.iadd (q := 29) (z := (5 : Int32)) dp120m8_28 (by decide) rfl
    replace w := w.ldIl (q := 30) (v := (.int y5)) (S.2.2.1) 5 rfl rfl dp120m8_29 rfl
    rcases w.ifLe (q := 52) (q' := 33) (xi := y5.toInt) dp120m8_30 rfl (by decide) (by decide) rfl with ⟨hc30, w⟩ | ⟨hc30, w⟩
    · replace w := w.iconst (q := 53) (z := (0 : Int32)) dp120m8_52 (by decide) rfl
      replace w := w.istore (q := 55) (l' := #[.val (.ref a), .val (.double pt), .second, .val (.int (2 : Int32)), .val (.double (FP.i2d (0 : Int32))), .second, .val (.int (0 : Int32)), .val (.int (4 : Int32)), .val (.int (0 : Int32))]) dp120m8_53 rfl rfl
      replace w := w.iload (q := 57) (v := (0 : Int32)) dp120m8_55 rfl rfl
      obtain ⟨-, w⟩ := (w.ifEq (q := 92) (q' := 60) (xi := 0) dp120m8_57 rfl (by decide) (by decide) rfl).resolve_right (fun g => by have hc57 := g.1; revert hc57; decide)
      replace w := w.iload (q := 94) (v := (4 : Int32)) dp120m8_92 rfl rfl
      replace w := w.istoreN (q := 95) (l' := #[.val (.ref a), .val (.double pt), .second, .val (.int (4 : Int32)), .val (.double (FP.i2d (0 : Int32))), .second, .val (.int (0 : Int32)), .val (.int (4 : Int32)), .val (.int (0 : Int32))]) dp120m8_94 rfl rfl
      replace w := w.goto (q := 8) dp120m8_95 (by decide) (by decide)
      replace w := w.iloadN (q := 9) (v := (4 : Int32)) dp120m8_8 rfl rfl
      replace w := w.aloadN (q := 10) (v := (.ref a)) dp120m8_9 rfl rfl rfl
      replace w := w.getF (q := 13) (v := (.int (4 : Int32))) (hw _ (List.mem_of_getElem? (i := 9) rfl)) (S.1.2.1) dp120m8_10 rfl
      obtain ⟨-, w⟩ := (w.icmpGe (q := 98) (q' := 16) (xi := 4) (yi := 4) dp120m8_13 rfl rfl (by decide) (by decide) rfl).resolve_right (fun g => by have hc13 := g.1; revert hc13; decide)
      replace w := w.aloadN (q := 99) (v := (.ref a)) dp120m8_98 rfl rfl rfl
      replace w := w.dload (q := 101) (v := (FP.i2d (0 : Int32))) dp120m8_99 rfl rfl
      obtain ⟨h74, W75, w⟩ := w.putF (q := 104) (C := "com/example/lucky_fork/luckyfork/model/GroupSums") (hw _ (List.mem_of_getElem? (i := 62) rfl)) (S.1.2.2.2.2.2.2.2.2.2) (S.1.1) (Or.inl (hw _ (List.mem_of_getElem? (i := 63) rfl))) (hw _ (List.mem_of_getElem? (i := 1) rfl)) (ty := .double) (by decide) rfl rfl dp120m8_101 (S.2.2.2.2.1.1) rfl
      replace S := S.put_rateBefore hw W75
      replace w := w.aloadN (q := 105) (v := (.ref a)) dp120m8_104 rfl rfl rfl
      replace w := w.iload (q := 107) (v := (0 : Int32)) dp120m8_105 rfl rfl
      obtain ⟨h76, W77, w⟩ := w.putF (q := 110) (C := "com/example/lucky_fork/luckyfork/model/GroupSums") (hw _ (List.mem_of_getElem? (i := 64) rfl)) (S.1.2.2.2.2.2.2.2.2.1) (S.1.1) (Or.inl (hw _ (List.mem_of_getElem? (i := 65) rfl))) (hw _ (List.mem_of_getElem? (i := 1) rfl)) (ty := .int) (by decide) rfl rfl dp120m8_107 (S.2.2.2.2.1.1) rfl
      replace S := S.put_countBefore hw W77
      replace w := w.iloadN (q := 111) (v := (4 : Int32)) dp120m8_110 rfl rfl
      replace w := w.aloadN (q := 112) (v := (.ref a)) dp120m8_111 rfl rfl rfl
      replace w := w.getF (q := 115) (v := (.int (4 : Int32))) (hw _ (List.mem_of_getElem? (i := 9) rfl)) (S.1.2.1) dp120m8_112 rfl
      replace w := w.isub (q := 116) (z := (0 : Int32)) dp120m8_115 (by decide) rfl
      exact w.retI dp120m8_116 ⟨_, _, (0 : Int32), rfl, S, by have er : (0 : Int32).toInt = 0 := rfl; omega⟩ (by decide) (by decide)
    · replace w := w.dloadN (q := 34) (v := pt) dp120m8_33 rfl rfl
      replace w := w.dload (q := 36) (v := (FP.i2d (0 : Int32))) dp120m8_34 rfl rfl
      replace w := w.aloadN (q := 37) (v := (.ref a)) dp120m8_36 rfl rfl rfl
      replace w := w.getF (q := 40) (v := (.ref r)) (hw _ (List.mem_of_getElem? (i := 12) rfl)) (S.1.2.2.2.1) dp120m8_37 rfl
      replace w := w.iload (q := 42) (v := (4 : Int32)) dp120m8_40 rfl rfl
      replace w := w.ldDl (q := 43) (v := (.double (FP.i2d R4))) (S.2.1) 4 rfl rfl dp120m8_42 rfl
      obtain ⟨s78, hs78⟩ : ∃ z : Int32, (0 : Int32) + R4 = z := ⟨_, rfl⟩
      have fs78 := own_add hs78 (by omega) (by omega) (by omega) (by omega)
      have gs78 := own_dadd hs78 (by omega) (by omega) (by omega) (by omega)
      replace w := w.dadd (q := 44) dp120m8_43 (by rw [gs78]; exact own_nn _) gs78 rfl
      obtain ⟨k79, hk79⟩ : ∃ z : Int32, cmpValue (FP.dcmp pt (FP.i2d s78)) .l = z := ⟨_, rfl⟩
      have fk79 := hpt s78 (by omega) (by omega)
      rw [hk79] at fk79
      replace w := w.dcmp (q := 45) dp120m8_44 hk79 rfl
      rcases w.ifLt (q := 52) (q' := 48) (xi := k79.toInt) dp120m8_45 rfl (by decide) (by decide) rfl with ⟨hc45, w⟩ | ⟨hc45, w⟩
      · replace w := w.iconst (q := 53) (z := (0 : Int32)) dp120m8_52 (by decide) rfl
        replace w := w.istore (q := 55) (l' := #[.val (.ref a), .val (.double pt), .second, .val (.int (2 : Int32)), .val (.double (FP.i2d (0 : Int32))), .second, .val (.int (0 : Int32)), .val (.int (4 : Int32)), .val (.int (0 : Int32))]) dp120m8_53 rfl rfl
        replace w := w.iload (q := 57) (v := (0 : Int32)) dp120m8_55 rfl rfl
        obtain ⟨-, w⟩ := (w.ifEq (q := 92) (q' := 60) (xi := 0) dp120m8_57 rfl (by decide) (by decide) rfl).resolve_right (fun g => by have hc57 := g.1; revert hc57; decide)
        replace w := w.iload (q := 94) (v := (4 : Int32)) dp120m8_92 rfl rfl
        replace w := w.istoreN (q := 95) (l' := #[.val (.ref a), .val (.double pt), .second, .val (.int (4 : Int32)), .val (.double (FP.i2d (0 : Int32))), .second, .val (.int (0 : Int32)), .val (.int (4 : Int32)), .val (.int (0 : Int32))]) dp120m8_94 rfl rfl
        replace w := w.goto (q := 8) dp120m8_95 (by decide) (by decide)
        replace w := w.iloadN (q := 9) (v := (4 : Int32)) dp120m8_8 rfl rfl
        replace w := w.aloadN (q := 10) (v := (.ref a)) dp120m8_9 rfl rfl rfl
        replace w := w.getF (q := 13) (v := (.int (4 : Int32))) (hw _ (List.mem_of_getElem? (i := 9) rfl)) (S.1.2.1) dp120m8_10 rfl
        obtain ⟨-, w⟩ := (w.icmpGe (q := 98) (q' := 16) (xi := 4) (yi := 4) dp120m8_13 rfl rfl (by decide) (by decide) rfl).resolve_right (fun g => by have hc13 := g.1; revert hc13; decide)
        replace w := w.aloadN (q := 99) (v := (.ref a)) dp120m8_98 rfl rfl rfl
        replace w := w.dload (q := 101) (v := (FP.i2d (0 : Int32))) dp120m8_99 rfl rfl
        obtain ⟨h80, W81, w⟩ := w.putF (q := 104) (C := "com/example/lucky_fork/luckyfork/model/GroupSums") (hw _ (List.mem_of_getElem? (i := 62) rfl)) (S.1.2.2.2.2.2.2.2.2.2) (S.1.1) (Or.inl (hw _ (List.mem_of_getElem? (i := 63) rfl))) (hw _ (List.mem_of_getElem? (i := 1) rfl)) (ty := .double) (by decide) rfl rfl dp120m8_101 (S.2.2.2.2.1.1) rfl
        replace S := S.put_rateBefore hw W81
        replace w := w.aloadN (q := 105) (v := (.ref a)) dp120m8_104 rfl rfl rfl
        replace w := w.iload (q := 107) (v := (0 : Int32)) dp120m8_105 rfl rfl
        obtain ⟨h82, W83, w⟩ := w.putF (q := 110) (C := "com/example/lucky_fork/luckyfork/model/GroupSums") (hw _ (List.mem_of_getElem? (i := 64) rfl)) (S.1.2.2.2.2.2.2.2.2.1) (S.1.1) (Or.inl (hw _ (List.mem_of_getElem? (i := 65) rfl))) (hw _ (List.mem_of_getElem? (i := 1) rfl)) (ty := .int) (by decide) rfl rfl dp120m8_107 (S.2.2.2.2.1.1) rfl
        replace S := S.put_countBefore hw W83
        replace w := w.iloadN (q := 111) (v := (4 : Int32)) dp120m8_110 rfl rfl
        replace w := w.aloadN (q := 112) (v := (.ref a)) dp120m8_111 rfl rfl rfl
        replace w := w.getF (q := 115) (v := (.int (4 : Int32))) (hw _ (List.mem_of_getElem? (i := 9) rfl)) (S.1.2.1) dp120m8_112 rfl
        replace w := w.isub (q := 116) (z := (0 : Int32)) dp120m8_115 (by decide) rfl
        exact w.retI dp120m8_116 ⟨_, _, (0 : Int32), rfl, S, by have er : (0 : Int32).toInt = 0 := rfl; omega⟩ (by decide) (by decide)
      · replace w := w.iconst (q := 49) (z := (1 : Int32)) dp120m8_48 (by decide) rfl
        replace w := w.goto (q := 53) dp120m8_49 (by decide) (by decide)
        replace w := w.istore (q := 55) (l' := #[.val (.ref a), .val (.double pt), .second, .val (.int (2 : Int32)), .val (.double (FP.i2d (0 : Int32))), .second, .val (.int (0 : Int32)), .val (.int (4 : Int32)), .val (.int (1 : Int32))]) dp120m8_53 rfl rfl
        replace w := w.iload (q := 57) (v := (1 : Int32)) dp120m8_55 rfl rfl
        obtain ⟨-, w⟩ := (w.ifEq (q := 92) (q' := 60) (xi := 1) dp120m8_57 rfl (by decide) (by decide) rfl).resolve_left (fun g => by have hc57 := g.1; revert hc57; decide)
        replace w := w.dload (q := 62) (v := (FP.i2d (0 : Int32))) dp120m8_60 rfl rfl
        replace w := w.aloadN (q := 63) (v := (.ref a)) dp120m8_62 rfl rfl rfl
        replace w := w.getF (q := 66) (v := (.ref r)) (hw _ (List.mem_of_getElem? (i := 12) rfl)) (S.1.2.2.2.1) dp120m8_63 rfl
        replace w := w.iload (q := 68) (v := (4 : Int32)) dp120m8_66 rfl rfl
        replace w := w.ldDl (q := 69) (v := (.double (FP.i2d R4))) (S.2.1) 4 rfl rfl dp120m8_68 rfl
        obtain ⟨s84, hs84⟩ : ∃ z : Int32, (0 : Int32) + R4 = z := ⟨_, rfl⟩
        have fs84 := own_add hs84 (by omega) (by omega) (by omega) (by omega)
        have gs84 := own_dadd hs84 (by omega) (by omega) (by omega) (by omega)
        replace w := w.dadd (q := 70) dp120m8_69 (by rw [gs84]; exact own_nn _) gs84 rfl
        replace w := w.dstore (q := 72) (l' := #[.val (.ref a), .val (.double pt), .second, .val (.int (2 : Int32)), .val (.double (FP.i2d s84)), .second, .val (.int (0 : Int32)), .val (.int (4 : Int32)), .val (.int (1 : Int32))]) dp120m8_70 rfl rfl
        replace w := w.iload (q := 74) (v := (0 : Int32)) dp120m8_72 rfl rfl
        replace w := w.aloadN (q := 75) (v := (.ref a)) dp120m8_74 rfl rfl rfl
        replace w := w.getF (q := 78) (v := (.ref c)) (hw _ (List.mem_of_getElem? (i := 15) rfl)) (S.1.2.2.2.2.1) dp120m8_75 rfl
        replace w := w.iload (q := 80) (v := (4 : Int32)) dp120m8_78 rfl rfl
        replace w := w.ldIl (q := 81) (v := (.int y4)) (S.2.2.1) 4 rfl rfl dp120m8_80 rfl
        obtain ⟨z85, hz85⟩ : ∃ z : Int32, (0 : Int32) + y4 = z := ⟨_, rfl⟩
        replace w := w.iadd (q := 82) dp120m8_81 hz85 rfl
        have fz85 := own_add hz85 (by omega) (by omega) (by omega) (by omega)
        replace w := w.istore (q := 84) (l' := #[.val (.ref a), .val (.double pt), .second, .val (.int (2 : Int32)), .val (.double (FP.i2d s84)), .second, .val (.int z85), .val (.int (4 : Int32)), .val (.int (1 : Int32))]) dp120m8_82 rfl rfl
        replace w := w.iload (q := 86) (v := (4 : Int32)) dp120m8_84 rfl rfl
        replace w := w.iconst (q := 87) (z := (1 : Int32)) dp120m8_86 (by decide) rfl
        replace w := w.iadd (q := 88) (z := (5 : Int32)) dp120m8_87 (by decide) rfl
        replace w := w.istoreN (q := 89) (l' := #[.val (.ref a), .val (.double pt), .second, .val (.int (5 : Int32)), .val (.double (FP.i2d s84)), .second, .val (.int z85), .val (.int (4 : Int32)), .val (.int (1 : Int32))]) dp120m8_88 rfl rfl
        replace w := w.goto (q := 95) dp120m8_89 (by decide) (by decide)
        replace w := w.goto (q := 8) dp120m8_95 (by decide) (by decide)
        replace w := w.iloadN (q := 9) (v := (5 : Int32)) dp120m8_8 rfl rfl
        replace w := w.aloadN (q := 10) (v := (.ref a)) dp120m8_9 rfl rfl rfl
        replace w := w.getF (q := 13) (v := (.int (4 : Int32))) (hw _ (List.mem_of_getElem? (i := 9) rfl)) (S.1.2.1) dp120m8_10 rfl
        obtain ⟨-, w⟩ := (w.icmpGe (q := 98) (q' := 16) (xi := 5) (yi := 4) dp120m8_13 rfl rfl (by decide) (by decide) rfl).resolve_right (fun g => by have hc13 := g.1; revert hc13; decide)
        replace w := w.aloadN (q := 99) (v := (.ref a)) dp120m8_98 rfl rfl rfl
        replace w := w.dload (q := 101) (v := (FP.i2d s84)) dp120m8_99 rfl rfl
        obtain ⟨h86, W87, w⟩ := w.putF (q := 104) (C := "com/example/lucky_fork/luckyfork/model/GroupSums") (hw _ (List.mem_of_getElem? (i := 62) rfl)) (S.1.2.2.2.2.2.2.2.2.2) (S.1.1) (Or.inl (hw _ (List.mem_of_getElem? (i := 63) rfl))) (hw _ (List.mem_of_getElem? (i := 1) rfl)) (ty := .double) (by decide) rfl rfl dp120m8_101 (S.2.2.2.2.1.1) rfl
        replace S := S.put_rateBefore hw W87
        replace w := w.aloadN (q := 105) (v := (.ref a)) dp120m8_104 rfl rfl rfl
        replace w := w.iload (q := 107) (v := z85) dp120m8_105 rfl rfl
        obtain ⟨h88, W89, w⟩ := w.putF (q := 110) (C := "com/example/lucky_fork/luckyfork/model/GroupSums") (hw _ (List.mem_of_getElem? (i := 64) rfl)) (S.1.2.2.2.2.2.2.2.2.1) (S.1.1) (Or.inl (hw _ (List.mem_of_getElem? (i := 65) rfl))) (hw _ (List.mem_of_getElem? (i := 1) rfl)) (ty := .int) (by decide) rfl rfl dp120m8_107 (S.2.2.2.2.1.1) rfl
        replace S := S.put_countBefore hw W89
        replace w := w.iloadN (q := 111) (v := (5 : Int32)) dp120m8_110 rfl rfl
        replace w := w.aloadN (q := 112) (v := (.ref a)) dp120m8_111 rfl rfl rfl
        replace w := w.getF (q := 115) (v := (.int (4 : Int32))) (hw _ (List.mem_of_getElem? (i := 9) rfl)) (S.1.2.1) dp120m8_112 rfl
        replace w := w.isub (q := 116) (z := (1 : Int32)) dp120m8_115 (by decide) rfl
        exact w.retI dp120m8_116 ⟨_, _, s84, rfl, S, by have er : (1 : Int32).toInt = 1 := rfl; omega⟩ (by decide) (by decide)
  · replace w := w.dloadN (q := 34) (v := pt) dp120m8_33 rfl rfl
    replace w := w.dload (q := 36) (v := (FP.i2d (0 : Int32))) dp120m8_34 rfl rfl
    replace w := w.aloadN (q := 37) (v := (.ref a)) dp120m8_36 rfl rfl rfl
    replace w := w.getF (q := 40) (v := (.ref r)) (hw _ (List.mem_of_getElem? (i := 12) rfl)) (S.1.2.2.2.1) dp120m8_37 rfl
    replace w := w.iload (q := 42) (v := (2 : Int32)) dp120m8_40 rfl rfl
    replace w := w.ldDl (q := 43) (v := (.double (FP.i2d R2))) (S.2.1) 2 rfl rfl dp120m8_42 rfl
    obtain ⟨s90, hs90⟩ : ∃ z : Int32, (0 : Int32) + R2 = z := ⟨_, rfl⟩
    have fs90 := own_add hs90 (by omega) (by omega) (by omega) (by omega)
    have gs90 := own_dadd hs90 (by omega) (by omega) (by omega) (by omega)
    replace w := w.dadd (q := 44) dp120m8_43 (by rw [gs90]; exact own_nn _) gs90 rfl
    obtain ⟨k91, hk91⟩ : ∃ z : Int32, cmpValue (FP.dcmp pt (FP.i2d s90)) .l = z := ⟨_, rfl⟩
    have fk91 := hpt s90 (by omega) (by omega)
    rw [hk91] at fk91
    replace w := w.dcmp (q := 45) dp120m8_44 hk91 rfl
    rcases w.ifLt (q := 52) (q' := 48) (xi := k91.toInt) dp120m8_45 rfl (by decide) (by decide) rfl with ⟨hc45, w⟩ | ⟨hc45, w⟩
    · replace w := w.iconst (q := 53) (z := (0 : Int32)) dp120m8_52 (by decide) rfl
      replace w := w.istore (q := 55) (l' := #[.val (.ref a), .val (.double pt), .second, .val (.int (1 : Int32)), .val (.double (FP.i2d (0 : Int32))), .second, .val (.int (0 : Int32)), .val (.int (2 : Int32)), .val (.int (0 : Int32))]) dp120m8_53 rfl rfl
      replace w := w.iload (q := 57) (v := (0 : Int32)) dp120m8_55 rfl rfl
      obtain ⟨-, w⟩ := (w.ifEq (q := 92) (q' := 60) (xi := 0) dp120m8_57 rfl (by decide) (by decide) rfl).resolve_right (fun g => by have hc57 := g.1; revert hc57; decide)
      replace w := w.iload (q := 94) (v := (2 : Int32)) dp120m8_92 rfl rfl
      replace w := w.istoreN (q := 95) (l' := #[.val (.ref a), .val (.double pt), .second, .val (.int (2 : Int32)), .val (.double (FP.i2d (0 : Int32))), .second, .val (.int (0 : Int32)), .val (.int (2 : Int32)), .val (.int (0 : Int32))]) dp120m8_94 rfl rfl
      replace w := w.goto (q := 8) dp120m8_95 (by decide) (by decide)
      replace w := w.iloadN (q := 9) (v := (2 : Int32)) dp120m8_8 rfl rfl
      replace w := w.aloadN (q := 10) (v := (.ref a)) dp120m8_9 rfl rfl rfl
      replace w := w.getF (q := 13) (v := (.int (4 : Int32))) (hw _ (List.mem_of_getElem? (i := 9) rfl)) (S.1.2.1) dp120m8_10 rfl
      obtain ⟨-, w⟩ := (w.icmpGe (q := 98) (q' := 16) (xi := 2) (yi := 4) dp120m8_13 rfl rfl (by decide) (by decide) rfl).resolve_left (fun g => by have hc13 := g.1; revert hc13; decide)
      replace w := w.iconst (q := 17) (z := (2 : Int32)) dp120m8_16 (by decide) rfl
      replace w := w.iloadN (q := 18) (v := (2 : Int32)) dp120m8_17 rfl rfl
      replace w := w.imul (q := 19) (z := (4 : Int32)) dp120m8_18 (by decide) rfl
      replace w := w.istore (q := 21) (l' := #[.val (.ref a), .val (.double pt), .second, .val (.int (2 : Int32)), .val (.double (FP.i2d (0 : Int32))), .second, .val (.int (0 : Int32)), .val (.int (4 : Int32)), .val (.int (0 : Int32))]) dp120m8_19 rfl rfl
      replace w := w.aloadN (q := 22) (v := (.ref a)) dp120m8_21 rfl rfl rfl
      replace w := w.getF (q := 25) (v := (.ref c)) (hw _ (List.mem_of_getElem? (i := 15) rfl)) (S.1.2.2.2.2.1) dp120m8_22 rfl
      replace w := w.iload (q := 27) (v := (4 : Int32)) dp120m8_25 rfl rfl
      replace w := w.iconst (q := 28) (z := (1 : Int32)) dp120m8_27 (by decide) rfl
      replace w := w.iadd (q := 29) (z := (5 : Int32)) dp120m8_28 (by decide) rfl
      replace w := w.ldIl (q := 30) (v := (.int y5)) (S.2.2.1) 5 rfl rfl dp120m8_29 rfl
      rcases w.ifLe (q := 52) (q' := 33) (xi := y5.toInt) dp120m8_30 rfl (by decide) (by decide) rfl with ⟨hc30, w⟩ | ⟨hc30, w⟩
      · replace w := w.iconst (q := 53) (z := (0 : Int32)) dp120m8_52 (by decide) rfl
        replace w := w.istore (q := 55) (l' := #[.val (.ref a), .val (.double pt), .second, .val (.int (2 : Int32)), .val (.double (FP.i2d (0 : Int32))), .second, .val (.int (0 : Int32)), .val (.int (4 : Int32)), .val (.int (0 : Int32))]) dp120m8_53 rfl rfl
        replace w := w.iload (q := 57) (v := (0 : Int32)) dp120m8_55 rfl rfl
        obtain ⟨-, w⟩ := (w.ifEq (q := 92) (q' := 60) (xi := 0) dp120m8_57 rfl (by decide) (by decide) rfl).resolve_right (fun g => by have hc57 := g.1; revert hc57; decide)
        replace w := w.iload (q := 94) (v := (4 : Int32)) dp120m8_92 rfl rfl
        replace w := w.istoreN (q := 95) (l' := #[.val (.ref a), .val (.double pt), .second, .val (.int (4 : Int32)), .val (.double (FP.i2d (0 : Int32))), .second, .val (.int (0 : Int32)), .val (.int (4 : Int32)), .val (.int (0 : Int32))]) dp120m8_94 rfl rfl
        replace w := w.goto (q := 8) dp120m8_95 (by decide) (by decide)
        replace w := w.iloadN (q := 9) (v := (4 : Int32)) dp120m8_8 rfl rfl
        replace w := w.aloadN (q := 10) (v := (.ref a)) dp120m8_9 rfl rfl rfl
        replace w := w.getF (q := 13) (v := (.int (4 : Int32))) (hw _ (List.mem_of_getElem? (i := 9) rfl)) (S.1.2.1) dp120m8_10 rfl
        obtain ⟨-, w⟩ := (w.icmpGe (q := 98) (q' := 16) (xi := 4) (yi := 4) dp120m8_13 rfl rfl (by decide) (by decide) rfl).resolve_right (fun g => by have hc13 := g.1; revert hc13; decide)
        replace w := w.aloadN (q := 99) (v := (.ref a)) dp120m8_98 rfl rfl rfl
        replace w := w.dload (q := 101) (v := (FP.i2d (0 : Int32))) dp120m8_99 rfl rfl
        obtain ⟨h92, W93, w⟩ := w.putF (q := 104) (C := "com/example/lucky_fork/luckyfork/model/GroupSums") (hw _ (List.mem_of_getElem? (i := 62) rfl)) (S.1.2.2.2.2.2.2.2.2.2) (S.1.1) (Or.inl (hw _ (List.mem_of_getElem? (i := 63) rfl))) (hw _ (List.mem_of_getElem? (i := 1) rfl)) (ty := .double) (by decide) rfl rfl dp120m8_101 (S.2.2.2.2.1.1) rfl
        replace S := S.put_rateBefore hw W93
        replace w := w.aloadN (q := 105) (v := (.ref a)) dp120m8_104 rfl rfl rfl
        replace w := w.iload (q := 107) (v := (0 : Int32)) dp120m8_105 rfl rfl
        obtain ⟨h94, W95, w⟩ := w.putF (q := 110) (C := "com/example/lucky_fork/luckyfork/model/GroupSums") (hw _ (List.mem_of_getElem? (i := 64) rfl)) (S.1.2.2.2.2.2.2.2.2.1) (S.1.1) (Or.inl (hw _ (List.mem_of_getElem? (i := 65) rfl))) (hw _ (List.mem_of_getElem? (i := 1) rfl)) (ty := .int) (by decide) rfl rfl dp120m8_107 (S.2.2.2.2.1.1) rfl
        replace S := S.put_countBefore hw W95
        replace w := w.iloadN (q := 111) (v := (4 : Int32)) dp120m8_110 rfl rfl
        replace w := w.aloadN (q := 112) (v := (.ref a)) dp120m8_111 rfl rfl rfl
        replace w := w.getF (q := 115) (v := (.int (4 : Int32))) (hw _ (List.mem_of_getElem? (i := 9) rfl)) (S.1.2.1) dp120m8_112 rfl
        replace w := w.isub (q := 116) (z := (0 : Int32)) dp120m8_115 (by decide) rfl
        exact w.retI dp120m8_116 ⟨_, _, (0 : Int32), rfl, S, by have er : (0 : Int32).toInt = 0 := rfl; omega⟩ (by decide) (by decide)
      · replace w := w.dloadN (q := 34) (v := pt) dp120m8_33 rfl rfl
        replace w := w.dload (q := 36) (v := (FP.i2d (0 : Int32))) dp120m8_34 rfl rfl
        replace w := w.aloadN (q := 37) (v := (.ref a)) dp120m8_36 rfl rfl rfl
        replace w := w.getF (q := 40) (v := (.ref r)) (hw _ (List.mem_of_getElem? (i := 12) rfl)) (S.1.2.2.2.1) dp120m8_37 rfl
        replace w := w.iload (q := 42) (v := (4 : Int32)) dp120m8_40 rfl rfl
        replace w := w.ldDl (q := 43) (v := (.double (FP.i2d R4))) (S.2.1) 4 rfl rfl dp120m8_42 rfl
        obtain ⟨s96, hs96⟩ : ∃ z : Int32, (0 : Int32) + R4 = z := ⟨_, rfl⟩
        have fs96 := own_add hs96 (by omega) (by omega) (by omega) (by omega)
        have gs96 := own_dadd hs96 (by omega) (by omega) (by omega) (by omega)
        replace w := w.dadd (q := 44) dp120m8_43 (by rw [gs96]; exact own_nn _) gs96 rfl
        obtain ⟨k97, hk97⟩ : ∃ z : Int32, cmpValue (FP.dcmp pt (FP.i2d s96)) .l = z := ⟨_, rfl⟩
        have fk97 := hpt s96 (by omega) (by omega)
        rw [hk97] at fk97
        replace w := w.dcmp (q := 45) dp120m8_44 hk97 rfl
        rcases w.ifLt (q := 52) (q' := 48) (xi := k97.toInt) dp120m8_45 rfl (by decide) (by decide) rfl with ⟨hc45, w⟩ | ⟨hc45, w⟩
        · replace w := w.iconst (q := 53) (z := (0 : Int32)) dp120m8_52 (by decide) rfl
          replace w := w.istore (q := 55) (l' := #[.val (.ref a), .val (.double pt), .second, .val (.int (2 : Int32)), .val (.double (FP.i2d (0 : Int32))), .second, .val (.int (0 : Int32)), .val (.int (4 : Int32)), .val (.int (0 : Int32))]) dp120m8_53 rfl rfl
          replace w := w.iload (q := 57) (v := (0 : Int32)) dp120m8_55 rfl rfl
          obtain ⟨-, w⟩ := (w.ifEq (q := 92) (q' := 60) (xi := 0) dp120m8_57 rfl (by decide) (by decide) rfl).resolve_right (fun g => by have hc57 := g.1; revert hc57; decide)
          replace w := w.iload (q := 94) (v := (4 : Int32)) dp120m8_92 rfl rfl
          replace w := w.istoreN (q := 95) (l' := #[.val (.ref a), .val (.double pt), .second, .val (.int (4 : Int32)), .val (.double (FP.i2d (0 : Int32))), .second, .val (.int (0 : Int32)), .val (.int (4 : Int32)), .val (.int (0 : Int32))]) dp120m8_94 rfl rfl
          replace w := w.goto (q := 8) dp120m8_95 (by decide) (by decide)
          replace w := w.iloadN (q := 9) (v := (4 : Int32)) dp120m8_8 rfl rfl
          replace w := w.aloadN (q := 10) (v := (.ref a)) dp120m8_9 rfl rfl rfl
          replace w := w.getF (q := 13) (v := (.int (4 : Int32))) (hw _ (List.mem_of_getElem? (i := 9) rfl)) (S.1.2.1) dp120m8_10 rfl
          obtain ⟨-, w⟩ := (w.icmpGe (q := 98) (q' := 16) (xi := 4) (yi := 4) dp120m8_13 rfl rfl (by decide) (by decide) rfl).resolve_right (fun g => by have hc13 := g.1; revert hc13; decide)
          replace w := w.aloadN (q := 99) (v := (.ref a)) dp120m8_98 rfl rfl rfl
          replace w := w.dload (q := 101) (v := (FP.i2d (0 : Int32))) dp120m8_99 rfl rfl
          obtain ⟨h98, W99, w⟩ := w.putF (q := 104) (C := "com/example/lucky_fork/luckyfork/model/GroupSums") (hw _ (List.mem_of_getElem? (i := 62) rfl)) (S.1.2.2.2.2.2.2.2.2.2) (S.1.1) (Or.inl (hw _ (List.mem_of_getElem? (i := 63) rfl))) (hw _ (List.mem_of_getElem? (i := 1) rfl)) (ty := .double) (by decide) rfl rfl dp120m8_101 (S.2.2.2.2.1.1) rfl
          replace S := S.put_rateBefore hw W99
          replace w := w.aloadN (q := 105) (v := (.ref a)) dp120m8_104 rfl rfl rfl
          replace w := w.iload (q := 107) (v := (0 : Int32)) dp120m8_105 rfl rfl
          obtain ⟨h100, W101, w⟩ := w.putF (q := 110) (C := "com/example/lucky_fork/luckyfork/model/GroupSums") (hw _ (List.mem_of_getElem? (i := 64) rfl)) (S.1.2.2.2.2.2.2.2.2.1) (S.1.1) (Or.inl (hw _ (List.mem_of_getElem? (i := 65) rfl))) (hw _ (List.mem_of_getElem? (i := 1) rfl)) (ty := .int) (by decide) rfl rfl dp120m8_107 (S.2.2.2.2.1.1) rfl
          replace S := S.put_countBefore hw W101
          replace w := w.iloadN (q := 111) (v := (4 : Int32)) dp120m8_110 rfl rfl
          replace w := w.aloadN (q := 112) (v := (.ref a)) dp120m8_111 rfl rfl rfl
          replace w := w.getF (q := 115) (v := (.int (4 : Int32))) (hw _ (List.mem_of_getElem? (i := 9) rfl)) (S.1.2.1) dp120m8_112 rfl
          replace w := w.isub (q := 116) (z := (0 : Int32)) dp120m8_115 (by decide) rfl
          exact w.retI dp120m8_116 ⟨_, _, (0 : Int32), rfl, S, by have er : (0 : Int32).toInt = 0 := rfl; omega⟩ (by decide) (by decide)
        · replace w := w.iconst (q := 49) (z := (1 : Int32)) dp120m8_48 (by decide) rfl
          replace w := w.goto (q := 53) dp120m8_49 (by decide) (by decide)
          replace w := w.istore (q := 55) (l' := #[.val (.ref a), .val (.double pt), .second, .val (.int (2 : Int32)), .val (.double (FP.i2d (0 : Int32))), .second, .val (.int (0 : Int32)), .val (.int (4 : Int32)), .val (.int (1 : Int32))]) dp120m8_53 rfl rfl
          replace w := w.iload (q := 57) (v := (1 : Int32)) dp120m8_55 rfl rfl
          obtain ⟨-, w⟩ := (w.ifEq (q := 92) (q' := 60) (xi := 1) dp120m8_57 rfl (by decide) (by decide) rfl).resolve_left (fun g => by have hc57 := g.1; revert hc57; decide)
          replace w := w.dload (q := 62) (v := (FP.i2d (0 : Int32))) dp120m8_60 rfl rfl
          replace w := w.aloadN (q := 63) (v := (.ref a)) dp120m8_62 rfl rfl rfl
          replace w := w.getF (q := 66) (v := (.ref r)) (hw _ (List.mem_of_getElem? (i := 12) rfl)) (S.1.2.2.2.1) dp120m8_63 rfl
          replace w := w.iload (q := 68) (v := (4 : Int32)) dp120m8_66 rfl rfl
          replace w := w.ldDl (q := 69) (v := (.double (FP.i2d R4))) (S.2.1) 4 rfl rfl dp120m8_68 rfl
          obtain ⟨s102, hs102⟩ : ∃ z : Int32, (0 : Int32) + R4 = z := ⟨_, rfl⟩
          have fs102 := own_add hs102 (by omega) (by omega) (by omega) (by omega)
          have gs102 := own_dadd hs102 (by omega) (by omega) (by omega) (by omega)
          replace w := w.dadd (q := 70) dp120m8_69 (by rw [gs102]; exact own_nn _) gs102 rfl
          replace w := w.dstore (q := 72) (l' := #[.val (.ref a), .val (.double pt), .second, .val (.int (2 : Int32)), .val (.double (FP.i2d s102)), .second, .val (.int (0 : Int32)), .val (.int (4 : Int32)), .val (.int (1 : Int32))]) dp120m8_70 rfl rfl
          replace w := w.iload (q := 74) (v := (0 : Int32)) dp120m8_72 rfl rfl
          replace w := w.aloadN (q := 75) (v := (.ref a)) dp120m8_74 rfl rfl rfl
          replace w := w.getF (q := 78) (v := (.ref c)) (hw _ (List.mem_of_getElem? (i := 15) rfl)) (S.1.2.2.2.2.1) dp120m8_75 rfl
          replace w := w.iload (q := 80) (v := (4 : Int32)) dp120m8_78 rfl rfl
          replace w := w.ldIl (q := 81) (v := (.int y4)) (S.2.2.1) 4 rfl rfl dp120m8_80 rfl
          obtain ⟨z103, hz103⟩ : ∃ z : Int32, (0 : Int32) + y4 = z := ⟨_, rfl⟩
          replace w := w.iadd (q := 82) dp120m8_81 hz103 rfl
          have fz103 := own_add hz103 (by omega) (by omega) (by omega) (by omega)
          replace w := w.istore (q := 84) (l' := #[.val (.ref a), .val (.double pt), .second, .val (.int (2 : Int32)), .val (.double (FP.i2d s102)), .second, .val (.int z103), .val (.int (4 : Int32)), .val (.int (1 : Int32))]) dp120m8_82 rfl rfl
          replace w := w.iload (q := 86) (v := (4 : Int32)) dp120m8_84 rfl rfl
          replace w := w.iconst (q := 87) (z := (1 : Int32)) dp120m8_86 (by decide) rfl
          replace w := w.iadd (q := 88) (z := (5 : Int32)) dp120m8_87 (by decide) rfl
          replace w := w.istoreN (q := 89) (l' := #[.val (.ref a), .val (.double pt), .second, .val (.int (5 : Int32)), .val (.double (FP.i2d s102)), .second, .val (.int z103), .val (.int (4 : Int32)), .val (.int (1 : Int32))]) dp120m8_88 rfl rfl
          replace w := w.goto (q := 95) dp120m8_89 (by decide) (by decide)
          replace w := w.goto (q := 8) dp120m8_95 (by decide) (by decide)
          replace w := w.iloadN (q := 9) (v := (5 : Int32)) dp120m8_8 rfl rfl
          replace w := w.aloadN (q := 10) (v := (.ref a)) dp120m8_9 rfl rfl rfl
          replace w := w.getF (q := 13) (v := (.int (4 : Int32))) (hw _ (List.mem_of_getElem? (i := 9) rfl)) (S.1.2.1) dp120m8_10 rfl
          obtain ⟨-, w⟩ := (w.icmpGe (q := 98) (q' := 16) (xi := 5) (yi := 4) dp120m8_13 rfl rfl (by decide) (by decide) rfl).resolve_right (fun g => by have hc13 := g.1; revert hc13; decide)
          replace w := w.aloadN (q := 99) (v := (.ref a)) dp120m8_98 rfl rfl rfl
          replace w := w.dload (q := 101) (v := (FP.i2d s102)) dp120m8_99 rfl rfl
          obtain ⟨h104, W105, w⟩ := w.putF (q := 104) (C := "com/example/lucky_fork/luckyfork/model/GroupSums") (hw _ (List.mem_of_getElem? (i := 62) rfl)) (S.1.2.2.2.2.2.2.2.2.2) (S.1.1) (Or.inl (hw _ (List.mem_of_getElem? (i := 63) rfl))) (hw _ (List.mem_of_getElem? (i := 1) rfl)) (ty := .double) (by decide) rfl rfl dp120m8_101 (S.2.2.2.2.1.1) rfl
          replace S := S.put_rateBefore hw W105
          replace w := w.aloadN (q := 105) (v := (.ref a)) dp120m8_104 rfl rfl rfl
          replace w := w.iload (q := 107) (v := z103) dp120m8_105 rfl rfl
          obtain ⟨h106, W107, w⟩ := w.putF (q := 110) (C := "com/example/lucky_fork/luckyfork/model/GroupSums") (hw _ (List.mem_of_getElem? (i := 64) rfl)) (S.1.2.2.2.2.2.2.2.2.1) (S.1.1) (Or.inl (hw _ (List.mem_of_getElem? (i := 65) rfl))) (hw _ (List.mem_of_getElem? (i := 1) rfl)) (ty := .int) (by decide) rfl rfl dp120m8_107 (S.2.2.2.2.1.1) rfl
          replace S := S.put_countBefore hw W107
          replace w := w.iloadN (q := 111) (v := (5 : Int32)) dp120m8_110 rfl rfl
          replace w := w.aloadN (q := 112) (v := (.ref a)) dp120m8_111 rfl rfl rfl
          replace w := w.getF (q := 115) (v := (.int (4 : Int32))) (hw _ (List.mem_of_getElem? (i := 9) rfl)) (S.1.2.1) dp120m8_112 rfl
          replace w := w.isub (q := 116) (z := (1 : Int32)) dp120m8_115 (by decide) rfl
          exact w.retI dp120m8_116 ⟨_, _, s102, rfl, S, by have er : (1 : Int32).toInt = 1 := rfl; omega⟩ (by decide) (by decide)
    · replace w := w.iconst (q := 49) (z := (1 : Int32)) dp120m8_48 (by decide) rfl
      replace w := w.goto (q := 53) dp120m8_49 (by decide) (by decide)
      replace w := w.istore (q := 55) (l' := #[.val (.ref a), .val (.double pt), .second, .val (.int (1 : Int32)), .val (.double (FP.i2d (0 : Int32))), .second, .val (.int (0 : Int32)), .val (.int (2 : Int32)), .val (.int (1 : Int32))]) dp120m8_53 rfl rfl
      replace w := w.iload (q := 57) (v := (1 : Int32)) dp120m8_55 rfl rfl
      obtain ⟨-, w⟩ := (w.ifEq (q := 92) (q' := 60) (xi := 1) dp120m8_57 rfl (by decide) (by decide) rfl).resolve_left (fun g => by have hc57 := g.1; revert hc57; decide)
      replace w := w.dload (q := 62) (v := (FP.i2d (0 : Int32))) dp120m8_60 rfl rfl
      replace w := w.aloadN (q := 63) (v := (.ref a)) dp120m8_62 rfl rfl rfl
      replace w := w.getF (q := 66) (v := (.ref r)) (hw _ (List.mem_of_getElem? (i := 12) rfl)) (S.1.2.2.2.1) dp120m8_63 rfl
      replace w := w.iload (q := 68) (v := (2 : Int32)) dp120m8_66 rfl rfl
      replace w := w.ldDl (q := 69) (v := (.double (FP.i2d R2))) (S.2.1) 2 rfl rfl dp120m8_68 rfl
      obtain ⟨s108, hs108⟩ : ∃ z : Int32, (0 : Int32) + R2 = z := ⟨_, rfl⟩
      have fs108 := own_add hs108 (by omega) (by omega) (by omega) (by omega)
      have gs108 := own_dadd hs108 (by omega) (by omega) (by omega) (by omega)
      replace w := w.dadd (q := 70) dp120m8_69 (by rw [gs108]; exact own_nn _) gs108 rfl
      replace w := w.dstore (q := 72) (l' := #[.val (.ref a), .val (.double pt), .second, .val (.int (1 : Int32)), .val (.double (FP.i2d s108)), .second, .val (.int (0 : Int32)), .val (.int (2 : Int32)), .val (.int (1 : Int32))]) dp120m8_70 rfl rfl
      replace w := w.iload (q := 74) (v := (0 : Int32)) dp120m8_72 rfl rfl
      replace w := w.aloadN (q := 75) (v := (.ref a)) dp120m8_74 rfl rfl rfl
      replace w := w.getF (q := 78) (v := (.ref c)) (hw _ (List.mem_of_getElem? (i := 15) rfl)) (S.1.2.2.2.2.1) dp120m8_75 rfl
      replace w := w.iload (q := 80) (v := (2 : Int32)) dp120m8_78 rfl rfl
      replace w := w.ldIl (q := 81) (v := (.int y2)) (S.2.2.1) 2 rfl rfl dp120m8_80 rfl
      obtain ⟨z109, hz109⟩ : ∃ z : Int32, (0 : Int32) + y2 = z := ⟨_, rfl⟩
      replace w := w.iadd (q := 82) dp120m8_81 hz109 rfl
      have fz109 := own_add hz109 (by omega) (by omega) (by omega) (by omega)
      replace w := w.istore (q := 84) (l' := #[.val (.ref a), .val (.double pt), .second, .val (.int (1 : Int32)), .val (.double (FP.i2d s108)), .second, .val (.int z109), .val (.int (2 : Int32)), .val (.int (1 : Int32))]) dp120m8_82 rfl rfl
      replace w := w.iload (q := 86) (v := (2 : Int32)) dp120m8_84 rfl rfl
      replace w := w.iconst (q := 87) (z := (1 : Int32)) dp120m8_86 (by decide) rfl
      replace w := w.iadd (q := 88) (z := (3 : Int32)) dp120m8_87 (by decide) rfl
      replace w := w.istoreN (q := 89) (l' := #[.val (.ref a), .val (.double pt), .second, .val (.int (3 : Int32)), .val (.double (FP.i2d s108)), .second, .val (.int z109), .val (.int (2 : Int32)), .val (.int (1 : Int32))]) dp120m8_88 rfl rfl
      replace w := w.goto (q := 95) dp120m8_89 (by decide) (by decide)
      replace w := w.goto (q := 8) dp120m8_95 (by decide) (by decide)
      replace w := w.iloadN (q := 9) (v := (3 : Int32)) dp120m8_8 rfl rfl
      replace w := w.aloadN (q := 10) (v := (.ref a)) dp120m8_9 rfl rfl rfl
      replace w := w.getF (q := 13) (v := (.int (4 : Int32))) (hw _ (List.mem_of_getElem? (i := 9) rfl)) (S.1.2.1) dp120m8_10 rfl
      obtain ⟨-, w⟩ := (w.icmpGe (q := 98) (q' := 16) (xi := 3) (yi := 4) dp120m8_13 rfl rfl (by decide) (by decide) rfl).resolve_left (fun g => by have hc13 := g.1; revert hc13; decide)
      replace w := w.iconst (q := 17) (z := (2 : Int32)) dp120m8_16 (by decide) rfl
      replace w := w.iloadN (q := 18) (v := (3 : Int32)) dp120m8_17 rfl rfl
      replace w := w.imul (q := 19) (z := (6 : Int32)) dp120m8_18 (by decide) rfl
      replace w := w.istore (q := 21) (l' := #[.val (.ref a), .val (.double pt), .second, .val (.int (3 : Int32)), .val (.double (FP.i2d s108)), .second, .val (.int z109), .val (.int (6 : Int32)), .val (.int (1 : Int32))]) dp120m8_19 rfl rfl
      replace w := w.aloadN (q := 22) (v := (.ref a)) dp120m8_21 rfl rfl rfl
      replace w := w.getF (q := 25) (v := (.ref c)) (hw _ (List.mem_of_getElem? (i := 15) rfl)) (S.1.2.2.2.2.1) dp120m8_22 rfl
      replace w := w.iload (q := 27) (v := (6 : Int32)) dp120m8_25 rfl rfl
      replace w := w.iconst (q := 28) (z := (1 : Int32)) dp120m8_27 (by decide) rfl
      replace w := w.iadd (q := 29) (z := (7 : Int32)) dp120m8_28 (by decide) rfl
      replace w := w.ldIl (q := 30) (v := (.int y7)) (S.2.2.1) 7 rfl rfl dp120m8_29 rfl
      rcases w.ifLe (q := 52) (q' := 33) (xi := y7.toInt) dp120m8_30 rfl (by decide) (by decide) rfl with ⟨hc30, w⟩ | ⟨hc30, w⟩
      · replace w := w.iconst (q := 53) (z := (0 : Int32)) dp120m8_52 (by decide) rfl
        replace w := w.istore (q := 55) (l' := #[.val (.ref a), .val (.double pt), .second, .val (.int (3 : Int32)), .val (.double (FP.i2d s108)), .second, .val (.int z109), .val (.int (6 : Int32)), .val (.int (0 : Int32))]) dp120m8_53 rfl rfl
        replace w := w.iload (q := 57) (v := (0 : Int32)) dp120m8_55 rfl rfl
        obtain ⟨-, w⟩ := (w.ifEq (q := 92) (q' := 60) (xi := 0) dp120m8_57 rfl (by decide) (by decide) rfl).resolve_right (fun g => by have hc57 := g.1; revert hc57; decide)
        replace w := w.iload (q := 94) (v := (6 : Int32)) dp120m8_92 rfl rfl
        replace w := w.istoreN (q := 95) (l' := #[.val (.ref a), .val (.double pt), .second, .val (.int (6 : Int32)), .val (.double (FP.i2d s108)), .second, .val (.int z109), .val (.int (6 : Int32)), .val (.int (0 : Int32))]) dp120m8_94 rfl rfl
        replace w := w.goto (q := 8) dp120m8_95 (by decide) (by decide)
        replace w := w.iloadN (q := 9) (v := (6 : Int32)) dp120m8_8 rfl rfl
        replace w := w.aloadN (q := 10) (v := (.ref a)) dp120m8_9 rfl rfl rfl
        replace w := w.getF (q := 13) (v := (.int (4 : Int32))) (hw _ (List.mem_of_getElem? (i := 9) rfl)) (S.1.2.1) dp120m8_10 rfl
        obtain ⟨-, w⟩ := (w.icmpGe (q := 98) (q' := 16) (xi := 6) (yi := 4) dp120m8_13 rfl rfl (by decide) (by decide) rfl).resolve_right (fun g => by have hc13 := g.1; revert hc13; decide)
        replace w := w.aloadN (q := 99) (v := (.ref a)) dp120m8_98 rfl rfl rfl
        replace w := w.dload (q := 101) (v := (FP.i2d s108)) dp120m8_99 rfl rfl
        obtain ⟨h110, W111, w⟩ := w.putF (q := 104) (C := "com/example/lucky_fork/luckyfork/model/GroupSums") (hw _ (List.mem_of_getElem? (i := 62) rfl)) (S.1.2.2.2.2.2.2.2.2.2) (S.1.1) (Or.inl (hw _ (List.mem_of_getElem? (i := 63) rfl))) (hw _ (List.mem_of_getElem? (i := 1) rfl)) (ty := .double) (by decide) rfl rfl dp120m8_101 (S.2.2.2.2.1.1) rfl
        replace S := S.put_rateBefore hw W111
        replace w := w.aloadN (q := 105) (v := (.ref a)) dp120m8_104 rfl rfl rfl
        replace w := w.iload (q := 107) (v := z109) dp120m8_105 rfl rfl
        obtain ⟨h112, W113, w⟩ := w.putF (q := 110) (C := "com/example/lucky_fork/luckyfork/model/GroupSums") (hw _ (List.mem_of_getElem? (i := 64) rfl)) (S.1.2.2.2.2.2.2.2.2.1) (S.1.1) (Or.inl (hw _ (List.mem_of_getElem? (i := 65) rfl))) (hw _ (List.mem_of_getElem? (i := 1) rfl)) (ty := .int) (by decide) rfl rfl dp120m8_107 (S.2.2.2.2.1.1) rfl
        replace S := S.put_countBefore hw W113
        replace w := w.iloadN (q := 111) (v := (6 : Int32)) dp120m8_110 rfl rfl
        replace w := w.aloadN (q := 112) (v := (.ref a)) dp120m8_111 rfl rfl rfl
        replace w := w.getF (q := 115) (v := (.int (4 : Int32))) (hw _ (List.mem_of_getElem? (i := 9) rfl)) (S.1.2.1) dp120m8_112 rfl
        replace w := w.isub (q := 116) (z := (2 : Int32)) dp120m8_115 (by decide) rfl
        exact w.retI dp120m8_116 ⟨_, _, s108, rfl, S, by have er : (2 : Int32).toInt = 2 := rfl; omega⟩ (by decide) (by decide)
      · replace w := w.dloadN (q := 34) (v := pt) dp120m8_33 rfl rfl
        replace w := w.dload (q := 36) (v := (FP.i2d s108)) dp120m8_34 rfl rfl
        replace w := w.aloadN (q := 37) (v := (.ref a)) dp120m8_36 rfl rfl rfl
        replace w := w.getF (q := 40) (v := (.ref r)) (hw _ (List.mem_of_getElem? (i := 12) rfl)) (S.1.2.2.2.1) dp120m8_37 rfl
        replace w := w.iload (q := 42) (v := (6 : Int32)) dp120m8_40 rfl rfl
        replace w := w.ldDl (q := 43) (v := (.double (FP.i2d R6))) (S.2.1) 6 rfl rfl dp120m8_42 rfl
        obtain ⟨s114, hs114⟩ : ∃ z : Int32, s108 + R6 = z := ⟨_, rfl⟩
        have fs114 := own_add hs114 (by omega) (by omega) (by omega) (by omega)
        have gs114 := own_dadd hs114 (by omega) (by omega) (by omega) (by omega)
        replace w := w.dadd (q := 44) dp120m8_43 (by rw [gs114]; exact own_nn _) gs114 rfl
        obtain ⟨k115, hk115⟩ : ∃ z : Int32, cmpValue (FP.dcmp pt (FP.i2d s114)) .l = z := ⟨_, rfl⟩
        have fk115 := hpt s114 (by omega) (by omega)
        rw [hk115] at fk115
        replace w := w.dcmp (q := 45) dp120m8_44 hk115 rfl
        rcases w.ifLt (q := 52) (q' := 48) (xi := k115.toInt) dp120m8_45 rfl (by decide) (by decide) rfl with ⟨hc45, w⟩ | ⟨hc45, w⟩
        · replace w := w.iconst (q := 53) (z := (0 : Int32)) dp120m8_52 (by decide) rfl
          replace w := w.istore (q := 55) (l' := #[.val (.ref a), .val (.double pt), .second, .val (.int (3 : Int32)), .val (.double (FP.i2d s108)), .second, .val (.int z109), .val (.int (6 : Int32)), .val (.int (0 : Int32))]) dp120m8_53 rfl rfl
          replace w := w.iload (q := 57) (v := (0 : Int32)) dp120m8_55 rfl rfl
          obtain ⟨-, w⟩ := (w.ifEq (q := 92) (q' := 60) (xi := 0) dp120m8_57 rfl (by decide) (by decide) rfl).resolve_right (fun g => by have hc57 := g.1; revert hc57; decide)
          replace w := w.iload (q := 94) (v := (6 : Int32)) dp120m8_92 rfl rfl
          replace w := w.istoreN (q := 95) (l' := #[.val (.ref a), .val (.double pt), .second, .val (.int (6 : Int32)), .val (.double (FP.i2d s108)), .second, .val (.int z109), .val (.int (6 : Int32)), .val (.int (0 : Int32))]) dp120m8_94 rfl rfl
          replace w := w.goto (q := 8) dp120m8_95 (by decide) (by decide)
          replace w := w.iloadN (q := 9) (v := (6 : Int32)) dp120m8_8 rfl rfl
          replace w := w.aloadN (q := 10) (v := (.ref a)) dp120m8_9 rfl rfl rfl
          replace w := w.getF (q := 13) (v := (.int (4 : Int32))) (hw _ (List.mem_of_getElem? (i := 9) rfl)) (S.1.2.1) dp120m8_10 rfl
          obtain ⟨-, w⟩ := (w.icmpGe (q := 98) (q' := 16) (xi := 6) (yi := 4) dp120m8_13 rfl rfl (by decide) (by decide) rfl).resolve_right (fun g => by have hc13 := g.1; revert hc13; decide)
          replace w := w.aloadN (q := 99) (v := (.ref a)) dp120m8_98 rfl rfl rfl
          replace w := w.dload (q := 101) (v := (FP.i2d s108)) dp120m8_99 rfl rfl
          obtain ⟨h116, W117, w⟩ := w.putF (q := 104) (C := "com/example/lucky_fork/luckyfork/model/GroupSums") (hw _ (List.mem_of_getElem? (i := 62) rfl)) (S.1.2.2.2.2.2.2.2.2.2) (S.1.1) (Or.inl (hw _ (List.mem_of_getElem? (i := 63) rfl))) (hw _ (List.mem_of_getElem? (i := 1) rfl)) (ty := .double) (by decide) rfl rfl dp120m8_101 (S.2.2.2.2.1.1) rfl
          replace S := S.put_rateBefore hw W117
          replace w := w.aloadN (q := 105) (v := (.ref a)) dp120m8_104 rfl rfl rfl
          replace w := w.iload (q := 107) (v := z109) dp120m8_105 rfl rfl
          obtain ⟨h118, W119, w⟩ := w.putF (q := 110) (C := "com/example/lucky_fork/luckyfork/model/GroupSums") (hw _ (List.mem_of_getElem? (i := 64) rfl)) (S.1.2.2.2.2.2.2.2.2.1) (S.1.1) (Or.inl (hw _ (List.mem_of_getElem? (i := 65) rfl))) (hw _ (List.mem_of_getElem? (i := 1) rfl)) (ty := .int) (by decide) rfl rfl dp120m8_107 (S.2.2.2.2.1.1) rfl
          replace S := S.put_countBefore hw W119
          replace w := w.iloadN (q := 111) (v := (6 : Int32)) dp120m8_110 rfl rfl
          replace w := w.aloadN (q := 112) (v := (.ref a)) dp120m8_111 rfl rfl rfl
          replace w := w.getF (q := 115) (v := (.int (4 : Int32))) (hw _ (List.mem_of_getElem? (i := 9) rfl)) (S.1.2.1) dp120m8_112 rfl
          replace w := w.isub (q := 116) (z := (2 : Int32)) dp120m8_115 (by decide) rfl
          exact w.retI dp120m8_116 ⟨_, _, s108, rfl, S, by have er : (2 : Int32).toInt = 2 := rfl; omega⟩ (by decide) (by decide)
        · replace w := w.iconst (q := 49) (z := (1 : Int32)) dp120m8_48 (by decide) rfl
          replace w := w.goto (q := 53) dp120m8_49 (by decide) (by decide)
          replace w := w.istore (q := 55) (l' := #[.val (.ref a), .val (.double pt), .second, .val (.int (3 : Int32)), .val (.double (FP.i2d s108)), .second, .val (.int z109), .val (.int (6 : Int32)), .val (.int (1 : Int32))]) dp120m8_53 rfl rfl
          replace w := w.iload (q := 57) (v := (1 : Int32)) dp120m8_55 rfl rfl
          obtain ⟨-, w⟩ := (w.ifEq (q := 92) (q' := 60) (xi := 1) dp120m8_57 rfl (by decide) (by decide) rfl).resolve_left (fun g => by have hc57 := g.1; revert hc57; decide)
          replace w := w.dload (q := 62) (v := (FP.i2d s108)) dp120m8_60 rfl rfl
          replace w := w.aloadN (q := 63) (v := (.ref a)) dp120m8_62 rfl rfl rfl
          replace w := w.getF (q := 66) (v := (.ref r)) (hw _ (List.mem_of_getElem? (i := 12) rfl)) (S.1.2.2.2.1) dp120m8_63 rfl
          replace w := w.iload (q := 68) (v := (6 : Int32)) dp120m8_66 rfl rfl
          replace w := w.ldDl (q := 69) (v := (.double (FP.i2d R6))) (S.2.1) 6 rfl rfl dp120m8_68 rfl
          obtain ⟨s120, hs120⟩ : ∃ z : Int32, s108 + R6 = z := ⟨_, rfl⟩
          have fs120 := own_add hs120 (by omega) (by omega) (by omega) (by omega)
          have gs120 := own_dadd hs120 (by omega) (by omega) (by omega) (by omega)
          replace w := w.dadd (q := 70) dp120m8_69 (by rw [gs120]; exact own_nn _) gs120 rfl
          replace w := w.dstore (q := 72) (l' := #[.val (.ref a), .val (.double pt), .second, .val (.int (3 : Int32)), .val (.double (FP.i2d s120)), .second, .val (.int z109), .val (.int (6 : Int32)), .val (.int (1 : Int32))]) dp120m8_70 rfl rfl
          replace w := w.iload (q := 74) (v := z109) dp120m8_72 rfl rfl
          replace w := w.aloadN (q := 75) (v := (.ref a)) dp120m8_74 rfl rfl rfl
          replace w := w.getF (q := 78) (v := (.ref c)) (hw _ (List.mem_of_getElem? (i := 15) rfl)) (S.1.2.2.2.2.1) dp120m8_75 rfl
          replace w := w.iload (q := 80) (v := (6 : Int32)) dp120m8_78 rfl rfl
          replace w := w.ldIl (q := 81) (v := (.int y6)) (S.2.2.1) 6 rfl rfl dp120m8_80 rfl
          obtain ⟨z121, hz121⟩ : ∃ z : Int32, z109 + y6 = z := ⟨_, rfl⟩
          replace w := w.iadd (q := 82) dp120m8_81 hz121 rfl
          have fz121 := own_add hz121 (by omega) (by omega) (by omega) (by omega)
          replace w := w.istore (q := 84) (l' := #[.val (.ref a), .val (.double pt), .second, .val (.int (3 : Int32)), .val (.double (FP.i2d s120)), .second, .val (.int z121), .val (.int (6 : Int32)), .val (.int (1 : Int32))]) dp120m8_82 rfl rfl
          replace w := w.iload (q := 86) (v := (6 : Int32)) dp120m8_84 rfl rfl
          replace w := w.iconst (q := 87) (z := (1 : Int32)) dp120m8_86 (by decide) rfl
          replace w := w.iadd (q := 88) (z := (7 : Int32)) dp120m8_87 (by decide) rfl
          replace w := w.istoreN (q := 89) (l' := #[.val (.ref a), .val (.double pt), .second, .val (.int (7 : Int32)), .val (.double (FP.i2d s120)), .second, .val (.int z121), .val (.int (6 : Int32)), .val (.int (1 : Int32))]) dp120m8_88 rfl rfl
          replace w := w.goto (q := 95) dp120m8_89 (by decide) (by decide)
          replace w := w.goto (q := 8) dp120m8_95 (by decide) (by decide)
          replace w := w.iloadN (q := 9) (v := (7 : Int32)) dp120m8_8 rfl rfl
          replace w := w.aloadN (q := 10) (v := (.ref a)) dp120m8_9 rfl rfl rfl
          replace w := w.getF (q := 13) (v := (.int (4 : Int32))) (hw _ (List.mem_of_getElem? (i := 9) rfl)) (S.1.2.1) dp120m8_10 rfl
          obtain ⟨-, w⟩ := (w.icmpGe (q := 98) (q' := 16) (xi := 7) (yi := 4) dp120m8_13 rfl rfl (by decide) (by decide) rfl).resolve_right (fun g => by have hc13 := g.1; revert hc13; decide)
          replace w := w.aloadN (q := 99) (v := (.ref a)) dp120m8_98 rfl rfl rfl
          replace w := w.dload (q := 101) (v := (FP.i2d s120)) dp120m8_99 rfl rfl
          obtain ⟨h122, W123, w⟩ := w.putF (q := 104) (C := "com/example/lucky_fork/luckyfork/model/GroupSums") (hw _ (List.mem_of_getElem? (i := 62) rfl)) (S.1.2.2.2.2.2.2.2.2.2) (S.1.1) (Or.inl (hw _ (List.mem_of_getElem? (i := 63) rfl))) (hw _ (List.mem_of_getElem? (i := 1) rfl)) (ty := .double) (by decide) rfl rfl dp120m8_101 (S.2.2.2.2.1.1) rfl
          replace S := S.put_rateBefore hw W123
          replace w := w.aloadN (q := 105) (v := (.ref a)) dp120m8_104 rfl rfl rfl
          replace w := w.iload (q := 107) (v := z121) dp120m8_105 rfl rfl
          obtain ⟨h124, W125, w⟩ := w.putF (q := 110) (C := "com/example/lucky_fork/luckyfork/model/GroupSums") (hw _ (List.mem_of_getElem? (i := 64) rfl)) (S.1.2.2.2.2.2.2.2.2.1) (S.1.1) (Or.inl (hw _ (List.mem_of_getElem? (i := 65) rfl))) (hw _ (List.mem_of_getElem? (i := 1) rfl)) (ty := .int) (by decide) rfl rfl dp120m8_107 (S.2.2.2.2.1.1) rfl
          replace S := S.put_countBefore hw W125
          replace w := w.iloadN (q := 111) (v := (7 : Int32)) dp120m8_110 rfl rfl
          replace w := w.aloadN (q := 112) (v := (.ref a)) dp120m8_111 rfl rfl rfl
          replace w := w.getF (q := 115) (v := (.int (4 : Int32))) (hw _ (List.mem_of_getElem? (i := 9) rfl)) (S.1.2.1) dp120m8_112 rfl
          replace w := w.isub (q := 116) (z := (3 : Int32)) dp120m8_115 (by decide) rfl
          exact w.retI dp120m8_116 ⟨_, _, s120, rfl, S, by have er : (3 : Int32).toInt = 3 := rfl; omega⟩ (by decide) (by decide)
set_option maxRecDepth 65536 in
set_option maxHeartbeats 40000000 in
theorem own_law (l : Launch) (Z : State) (a0 : Array Value) (hw : ∀ d ∈ tables_1, d.before a0 Z = true) (h0 : Heap) (n0 : Nat) (Z0 : n0 ≤ h0.size) (x0 x1 x2 x3 x4 : Int32) :
    Met l Z x code maxLocals ret room_1 n0 #[(.int x0), (.int x1), (.int x2), (.int x3), (.int x4)] h0 (fun v _ => v = some (.int 1)) := by
  refine Met.of (Ls := #[.val (.int x0), .val (.int x1), .val (.int x2), .val (.int x3), .val (.int x4), .unset, .unset, .unset, .unset, .unset, .unset, .unset, .unset, .unset, .unset, .unset, .unset, .unset, .unset, .unset, .unset, .unset, .unset, .unset, .unset]) (plainFor_of_name pn_2) (fun m => by first | (simp [entryFrame, mkF, argsToLocals, Value.category, maxLocals]; done) | rfl) (fun κ w => ?_)
  replace w : Wk κ l Z "com/example/lucky_fork/luckyfork/model/GroupSumsFindByRatePinLaw" "law" code 25 (some .boolean) room_1 n0 h0 0 0 0 #[.val (.int x0), .val (.int x1), .val (.int x2), .val (.int x3), .val (.int x4), .unset, .unset, .unset, .unset, .unset, .unset, .unset, .unset, .unset, .unset, .unset, .unset, .unset, .unset, .unset, .unset, .unset, .unset, .unset, .unset] [] := w
  replace w := w.iloadN (q := 1) (v := x0) at_0 rfl rfl
  replace w := w.iconst (q := 2) (z := (3 : Int32)) at_1 (by decide) rfl
  obtain ⟨c0, hc0⟩ : ∃ z : Int32, x0 &&& (3 : Int32) = z := ⟨_, rfl⟩
  replace w := w.iand (q := 3) at_2 hc0 rfl
  have bc0 := own_m3 hc0
  replace w := w.istore (q := 5) (l' := #[.val (.int x0), .val (.int x1), .val (.int x2), .val (.int x3), .val (.int x4), .val (.int c0), .unset, .unset, .unset, .unset, .unset, .unset, .unset, .unset, .unset, .unset, .unset, .unset, .unset, .unset, .unset, .unset, .unset, .unset, .unset]) at_3 rfl rfl
  replace w := w.iloadN (q := 6) (v := x1) at_5 rfl rfl
  replace w := w.iconst (q := 7) (z := (3 : Int32)) at_6 (by decide) rfl
  obtain ⟨c1, hc1⟩ : ∃ z : Int32, x1 &&& (3 : Int32) = z := ⟨_, rfl⟩
  replace w := w.iand (q := 8) at_7 hc1 rfl
  have bc1 := own_m3 hc1
  replace w := w.istore (q := 10) (l' := #[.val (.int x0), .val (.int x1), .val (.int x2), .val (.int x3), .val (.int x4), .val (.int c0), .val (.int c1), .unset, .unset, .unset, .unset, .unset, .unset, .unset, .unset, .unset, .unset, .unset, .unset, .unset, .unset, .unset, .unset, .unset, .unset]) at_8 rfl rfl
  replace w := w.iloadN (q := 11) (v := x2) at_10 rfl rfl
  replace w := w.iconst (q := 12) (z := (3 : Int32)) at_11 (by decide) rfl
  obtain ⟨c2, hc2⟩ : ∃ z : Int32, x2 &&& (3 : Int32) = z := ⟨_, rfl⟩
  replace w := w.iand (q := 13) at_12 hc2 rfl
  have bc2 := own_m3 hc2
  replace w := w.istore (q := 15) (l' := #[.val (.int x0), .val (.int x1), .val (.int x2), .val (.int x3), .val (.int x4), .val (.int c0), .val (.int c1), .val (.int c2), .unset, .unset, .unset, .unset, .unset, .unset, .unset, .unset, .unset, .unset, .unset, .unset, .unset, .unset, .unset, .unset, .unset]) at_13 rfl rfl
  replace w := w.iloadN (q := 16) (v := x3) at_15 rfl rfl
  replace w := w.iconst (q := 17) (z := (3 : Int32)) at_16 (by decide) rfl
  obtain ⟨c3, hc3⟩ : ∃ z : Int32, x3 &&& (3 : Int32) = z := ⟨_, rfl⟩
  replace w := w.iand (q := 18) at_17 hc3 rfl
  have bc3 := own_m3 hc3
  replace w := w.istore (q := 20) (l' := #[.val (.int x0), .val (.int x1), .val (.int x2), .val (.int x3), .val (.int x4), .val (.int c0), .val (.int c1), .val (.int c2), .val (.int c3), .unset, .unset, .unset, .unset, .unset, .unset, .unset, .unset, .unset, .unset, .unset, .unset, .unset, .unset, .unset, .unset]) at_18 rfl rfl
  replace w := w.iload (q := 22) (v := c0) at_20 rfl rfl
  replace w := w.iload (q := 24) (v := c1) at_22 rfl rfl
  obtain ⟨z126, hz126⟩ : ∃ z : Int32, c0 + c1 = z := ⟨_, rfl⟩
  replace w := w.iadd (q := 25) at_24 hz126 rfl
  have fz126 := own_add hz126 (by omega) (by omega) (by omega) (by omega)
  replace w := w.iload (q := 27) (v := c2) at_25 rfl rfl
  obtain ⟨z127, hz127⟩ : ∃ z : Int32, z126 + c2 = z := ⟨_, rfl⟩
  replace w := w.iadd (q := 28) at_27 hz127 rfl
  have fz127 := own_add hz127 (by omega) (by omega) (by omega) (by omega)
  replace w := w.iload (q := 30) (v := c3) at_28 rfl rfl
  obtain ⟨z128, hz128⟩ : ∃ z : Int32, z127 + c3 = z := ⟨_, rfl⟩
  replace w := w.iadd (q := 31) at_30 hz128 rfl
  have fz128 := own_add hz128 (by omega) (by omega) (by omega) (by omega)
  rcases w.ifNe (q := 36) (q' := 34) (xi := z128.toInt) at_31 rfl (by decide) (by decide) rfl with ⟨hc31, w⟩ | ⟨hc31, w⟩
  · have e00 : (0 : Int32).toInt = 0 := rfl
    replace w := w.iload (q := 38) (v := c0) at_36 rfl rfl
    have wj : ∃ (r0 : Int32), ((c0.toInt = 0 ∧ r0.toInt = 0 ∨ c0.toInt ≠ 0) ∧ 0 ≤ r0.toInt ∧ r0.toInt ≤ 7) ∧ Wk κ l Z "com/example/lucky_fork/luckyfork/model/GroupSumsFindByRatePinLaw" "law" code 25 (some .boolean) room_1 n0 h0 0 0 51 #[.val (.int x0), .val (.int x1), .val (.int x2), .val (.int x3), .val (.int x4), .val (.int c0), .val (.int c1), .val (.int c2), .val (.int c3), .unset, .unset, .unset, .unset, .unset, .unset, .unset, .unset, .unset, .unset, .unset, .unset, .unset, .unset, .unset, .unset] [(.int r0)] := by
      rcases w.ifNe (q := 45) (q' := 41) (xi := c0.toInt) at_38 rfl (by decide) (by decide) rfl with ⟨hc38, w⟩ | ⟨hc38, w⟩
      · replace w := w.iloadN (q := 46) (v := x0) at_45 rfl rfl
        replace w := w.iconst (q := 47) (z := (2 : Int32)) at_46 (by decide) rfl
        obtain ⟨z129, hz129⟩ : ∃ z : Int32, XT.ushr x0 (2 : Int32) = z := ⟨_, rfl⟩
        replace w := w.iushr (q := 48) at_47 hz129 rfl
        replace w := w.bipush (q := 50) (z := (7 : Int32)) at_48 (by decide) rfl
        obtain ⟨z130, hz130⟩ : ∃ z : Int32, z129 &&& (7 : Int32) = z := ⟨_, rfl⟩
        replace w := w.iand (q := 51) at_50 hz130 rfl
        have bz130 := own_m7 hz130
        exact ⟨z130, by omega, w⟩
      · replace w := w.iconst (q := 42) (z := (0 : Int32)) at_41 (by decide) rfl
        replace w := w.goto (q := 51) at_42 (by decide) (by decide)
        exact ⟨(0 : Int32), by omega, w⟩
    obtain ⟨r0, jr0, w⟩ := wj
    replace w := w.istore (q := 53) (l' := #[.val (.int x0), .val (.int x1), .val (.int x2), .val (.int x3), .val (.int x4), .val (.int c0), .val (.int c1), .val (.int c2), .val (.int c3), .val (.int r0), .unset, .unset, .unset, .unset, .unset, .unset, .unset, .unset, .unset, .unset, .unset, .unset, .unset, .unset, .unset]) at_51 rfl rfl
    replace w := w.iload (q := 55) (v := c1) at_53 rfl rfl
    have wj : ∃ (r1 : Int32), ((c1.toInt = 0 ∧ r1.toInt = 0 ∨ c1.toInt ≠ 0) ∧ 0 ≤ r1.toInt ∧ r1.toInt ≤ 7) ∧ Wk κ l Z "com/example/lucky_fork/luckyfork/model/GroupSumsFindByRatePinLaw" "law" code 25 (some .boolean) room_1 n0 h0 0 0 68 #[.val (.int x0), .val (.int x1), .val (.int x2), .val (.int x3), .val (.int x4), .val (.int c0), .val (.int c1), .val (.int c2), .val (.int c3), .val (.int r0), .unset, .unset, .unset, .unset, .unset, .unset, .unset, .unset, .unset, .unset, .unset, .unset, .unset, .unset, .unset] [(.int r1)] := by
      rcases w.ifNe (q := 62) (q' := 58) (xi := c1.toInt) at_55 rfl (by decide) (by decide) rfl with ⟨hc55, w⟩ | ⟨hc55, w⟩
      · replace w := w.iloadN (q := 63) (v := x1) at_62 rfl rfl
        replace w := w.iconst (q := 64) (z := (2 : Int32)) at_63 (by decide) rfl
        obtain ⟨z131, hz131⟩ : ∃ z : Int32, XT.ushr x1 (2 : Int32) = z := ⟨_, rfl⟩
        replace w := w.iushr (q := 65) at_64 hz131 rfl
        replace w := w.bipush (q := 67) (z := (7 : Int32)) at_65 (by decide) rfl
        obtain ⟨z132, hz132⟩ : ∃ z : Int32, z131 &&& (7 : Int32) = z := ⟨_, rfl⟩
        replace w := w.iand (q := 68) at_67 hz132 rfl
        have bz132 := own_m7 hz132
        exact ⟨z132, by omega, w⟩
      · replace w := w.iconst (q := 59) (z := (0 : Int32)) at_58 (by decide) rfl
        replace w := w.goto (q := 68) at_59 (by decide) (by decide)
        exact ⟨(0 : Int32), by omega, w⟩
    obtain ⟨r1, jr1, w⟩ := wj
    replace w := w.istore (q := 70) (l' := #[.val (.int x0), .val (.int x1), .val (.int x2), .val (.int x3), .val (.int x4), .val (.int c0), .val (.int c1), .val (.int c2), .val (.int c3), .val (.int r0), .val (.int r1), .unset, .unset, .unset, .unset, .unset, .unset, .unset, .unset, .unset, .unset, .unset, .unset, .unset, .unset]) at_68 rfl rfl
    replace w := w.iload (q := 72) (v := c2) at_70 rfl rfl
    have wj : ∃ (r2 : Int32), ((c2.toInt = 0 ∧ r2.toInt = 0 ∨ c2.toInt ≠ 0) ∧ 0 ≤ r2.toInt ∧ r2.toInt ≤ 7) ∧ Wk κ l Z "com/example/lucky_fork/luckyfork/model/GroupSumsFindByRatePinLaw" "law" code 25 (some .boolean) room_1 n0 h0 0 0 85 #[.val (.int x0), .val (.int x1), .val (.int x2), .val (.int x3), .val (.int x4), .val (.int c0), .val (.int c1), .val (.int c2), .val (.int c3), .val (.int r0), .val (.int r1), .unset, .unset, .unset, .unset, .unset, .unset, .unset, .unset, .unset, .unset, .unset, .unset, .unset, .unset] [(.int r2)] := by
      rcases w.ifNe (q := 79) (q' := 75) (xi := c2.toInt) at_72 rfl (by decide) (by decide) rfl with ⟨hc72, w⟩ | ⟨hc72, w⟩
      · replace w := w.iloadN (q := 80) (v := x2) at_79 rfl rfl
        replace w := w.iconst (q := 81) (z := (2 : Int32)) at_80 (by decide) rfl
        obtain ⟨z133, hz133⟩ : ∃ z : Int32, XT.ushr x2 (2 : Int32) = z := ⟨_, rfl⟩
        replace w := w.iushr (q := 82) at_81 hz133 rfl
        replace w := w.bipush (q := 84) (z := (7 : Int32)) at_82 (by decide) rfl
        obtain ⟨z134, hz134⟩ : ∃ z : Int32, z133 &&& (7 : Int32) = z := ⟨_, rfl⟩
        replace w := w.iand (q := 85) at_84 hz134 rfl
        have bz134 := own_m7 hz134
        exact ⟨z134, by omega, w⟩
      · replace w := w.iconst (q := 76) (z := (0 : Int32)) at_75 (by decide) rfl
        replace w := w.goto (q := 85) at_76 (by decide) (by decide)
        exact ⟨(0 : Int32), by omega, w⟩
    obtain ⟨r2, jr2, w⟩ := wj
    replace w := w.istore (q := 87) (l' := #[.val (.int x0), .val (.int x1), .val (.int x2), .val (.int x3), .val (.int x4), .val (.int c0), .val (.int c1), .val (.int c2), .val (.int c3), .val (.int r0), .val (.int r1), .val (.int r2), .unset, .unset, .unset, .unset, .unset, .unset, .unset, .unset, .unset, .unset, .unset, .unset, .unset]) at_85 rfl rfl
    replace w := w.iload (q := 89) (v := c3) at_87 rfl rfl
    have wj : ∃ (r3 : Int32), ((c3.toInt = 0 ∧ r3.toInt = 0 ∨ c3.toInt ≠ 0) ∧ 0 ≤ r3.toInt ∧ r3.toInt ≤ 7) ∧ Wk κ l Z "com/example/lucky_fork/luckyfork/model/GroupSumsFindByRatePinLaw" "law" code 25 (some .boolean) room_1 n0 h0 0 0 102 #[.val (.int x0), .val (.int x1), .val (.int x2), .val (.int x3), .val (.int x4), .val (.int c0), .val (.int c1), .val (.int c2), .val (.int c3), .val (.int r0), .val (.int r1), .val (.int r2), .unset, .unset, .unset, .unset, .unset, .unset, .unset, .unset, .unset, .unset, .unset, .unset, .unset] [(.int r3)] := by
      rcases w.ifNe (q := 96) (q' := 92) (xi := c3.toInt) at_89 rfl (by decide) (by decide) rfl with ⟨hc89, w⟩ | ⟨hc89, w⟩
      · replace w := w.iloadN (q := 97) (v := x3) at_96 rfl rfl
        replace w := w.iconst (q := 98) (z := (2 : Int32)) at_97 (by decide) rfl
        obtain ⟨z135, hz135⟩ : ∃ z : Int32, XT.ushr x3 (2 : Int32) = z := ⟨_, rfl⟩
        replace w := w.iushr (q := 99) at_98 hz135 rfl
        replace w := w.bipush (q := 101) (z := (7 : Int32)) at_99 (by decide) rfl
        obtain ⟨z136, hz136⟩ : ∃ z : Int32, z135 &&& (7 : Int32) = z := ⟨_, rfl⟩
        replace w := w.iand (q := 102) at_101 hz136 rfl
        have bz136 := own_m7 hz136
        exact ⟨z136, by omega, w⟩
      · replace w := w.iconst (q := 93) (z := (0 : Int32)) at_92 (by decide) rfl
        replace w := w.goto (q := 102) at_93 (by decide) (by decide)
        exact ⟨(0 : Int32), by omega, w⟩
    obtain ⟨r3, jr3, w⟩ := wj
    replace w := w.istore (q := 104) (l' := #[.val (.int x0), .val (.int x1), .val (.int x2), .val (.int x3), .val (.int x4), .val (.int c0), .val (.int c1), .val (.int c2), .val (.int c3), .val (.int r0), .val (.int r1), .val (.int r2), .val (.int r3), .unset, .unset, .unset, .unset, .unset, .unset, .unset, .unset, .unset, .unset, .unset, .unset]) at_102 rfl rfl
    replace w := w.iload (q := 106) (v := x4) at_104 rfl rfl
    replace w := w.bipush (q := 108) (z := (127 : Int32)) at_106 (by decide) rfl
    obtain ⟨hp, hhp⟩ : ∃ z : Int32, x4 &&& (127 : Int32) = z := ⟨_, rfl⟩
    replace w := w.iand (q := 109) at_108 hhp rfl
    have bhp := own_m127 hhp
    replace w := w.istore (q := 111) (l' := #[.val (.int x0), .val (.int x1), .val (.int x2), .val (.int x3), .val (.int x4), .val (.int c0), .val (.int c1), .val (.int c2), .val (.int c3), .val (.int r0), .val (.int r1), .val (.int r2), .val (.int r3), .val (.int hp), .unset, .unset, .unset, .unset, .unset, .unset, .unset, .unset, .unset, .unset, .unset]) at_109 rfl rfl
    obtain ⟨h1, a, ea, E, A, D, w⟩ := w.newO (q := 114) (hw _ (List.mem_of_getElem? (i := 0) rfl)) (hw _ (List.mem_of_getElem? (i := 1) rfl)) (hw _ (List.mem_of_getElem? (i := 2) rfl)) at_111 (by decide) (by decide) rfl
    have Fleaves : Fld Z h1 a "com/example/lucky_fork/luckyfork/model/GroupSums" "leaves" "I" (.int (0 : Int32)) := D (Or.inl (hw _ (List.mem_of_getElem? (i := 10) rfl))) (ty := .int) (by decide)
    have Fdepth : Fld Z h1 a "com/example/lucky_fork/luckyfork/model/GroupSums" "depth" "I" (.int (0 : Int32)) := D (Or.inl (hw _ (List.mem_of_getElem? (i := 37) rfl))) (ty := .int) (by decide)
    have Frates : Fld Z h1 a "com/example/lucky_fork/luckyfork/model/GroupSums" "rates" "[D" .null := D (Or.inl (hw _ (List.mem_of_getElem? (i := 13) rfl))) (ty := (.array .double)) (by decide)
    have Fcounts : Fld Z h1 a "com/example/lucky_fork/luckyfork/model/GroupSums" "counts" "[I" .null := D (Or.inl (hw _ (List.mem_of_getElem? (i := 16) rfl))) (ty := (.array .int)) (by decide)
    have Fpending : Fld Z h1 a "com/example/lucky_fork/luckyfork/model/GroupSums" "pending" "[I" .null := D (Or.inl (hw _ (List.mem_of_getElem? (i := 18) rfl))) (ty := (.array .int)) (by decide)
    have FpendingCount : Fld Z h1 a "com/example/lucky_fork/luckyfork/model/GroupSums" "pendingCount" "I" (.int (0 : Int32)) := D (Or.inl (hw _ (List.mem_of_getElem? (i := 39) rfl))) (ty := .int) (by decide)
    have Frebuild : Fld Z h1 a "com/example/lucky_fork/luckyfork/model/GroupSums" "rebuild" "Z" (.int (0 : Int32)) := D (Or.inl (hw _ (List.mem_of_getElem? (i := 41) rfl))) (ty := .boolean) (by decide)
    have FcountBefore : Fld Z h1 a "com/example/lucky_fork/luckyfork/model/GroupSums" "countBefore" "I" (.int (0 : Int32)) := D (Or.inl (hw _ (List.mem_of_getElem? (i := 65) rfl))) (ty := .int) (by decide)
    have FrateBefore : Fld Z h1 a "com/example/lucky_fork/luckyfork/model/GroupSums" "rateBefore" "D" (.double (0 : UInt64)) := D (Or.inl (hw _ (List.mem_of_getElem? (i := 63) rfl))) (ty := .double) (by decide)
    have ge : n0 ≤ a := by rw [ea]; exact Z0
    have S0 : Gs Z h1 a (.int 0) (.int 0) .null .null .null (.int 0) (.int 0) (.int 0) (.double 0) := ⟨A, Fleaves, Fdepth, Frates, Fcounts, Fpending, FpendingCount, Frebuild, FcountBefore, FrateBefore⟩
    replace w := w.dup (q := 115) at_114 rfl rfl
    obtain ⟨_, h2, ⟨rfl, r, c, p, S⟩, w⟩ := w.callI (a := a) (y := (⟨"com/example/lucky_fork/luckyfork/model/GroupSums", "<init>", "()V"⟩ : MethodName)) (argsL := []) (rest := [(.ref a)]) (own_init l Z a0 hw h1 n0 (Nat.le_of_lt (Nat.lt_of_le_of_lt ge S0.lt)) a ge S0) rfl (hw _ (List.mem_of_getElem? (i := 3) rfl)) (hw _ (List.mem_of_getElem? (i := 4) rfl)) (hw _ (List.mem_of_getElem? (i := 2) rfl)) (hw _ (List.mem_of_getElem? (i := 5) rfl)) (by decide) at_115 (lenOf pd_2 rfl) rfl rfl (by decide) (W := 1) (Nat.le_of_eq rfl) (by decide) (by decide) (by decide) (q := 118) rfl
    replace w := w [(.ref a)] rfl
    replace w := w.astore (q := 120) (l' := #[.val (.int x0), .val (.int x1), .val (.int x2), .val (.int x3), .val (.int x4), .val (.int c0), .val (.int c1), .val (.int c2), .val (.int c3), .val (.int r0), .val (.int r1), .val (.int r2), .val (.int r3), .val (.int hp), .val (.ref a), .unset, .unset, .unset, .unset, .unset, .unset, .unset, .unset, .unset, .unset]) at_118 rfl rfl rfl
    replace w := w.aload (q := 122) (v := (.ref a)) at_120 rfl rfl rfl
    replace w := w.iconst (q := 123) (z := (4 : Int32)) at_122 (by decide) rfl
    obtain ⟨_, h137, ⟨rfl, r, c, S⟩, w⟩ := w.callV (a := a) (y := (⟨"com/example/lucky_fork/luckyfork/model/GroupSums", "clear", "(I)V"⟩ : MethodName)) (argsL := [(.int (4 : Int32))]) (rest := []) (own_clear_4 l Z a0 hw _ n0 S.z0 a r c p S) (S.1.1) (hw _ (List.mem_of_getElem? (i := 19) rfl)) (hw _ (List.mem_of_getElem? (i := 20) rfl)) (hw _ (List.mem_of_getElem? (i := 22) rfl)) (hw _ (List.mem_of_getElem? (i := 21) rfl)) (hw _ (List.mem_of_getElem? (i := 2) rfl)) (hw _ (List.mem_of_getElem? (i := 23) rfl)) (by decide) at_123 (lenOf pd_1 rfl) rfl rfl (by decide) (W := 0) (Nat.le_of_eq rfl) (by decide) (by decide) (by decide) (q := 126) rfl
    replace w := w [] rfl
    replace w := w.aload (q := 128) (v := (.ref a)) at_126 rfl rfl rfl
    replace w := w.iconst (q := 129) (z := (0 : Int32)) at_128 (by decide) rfl
    replace w := w.iload (q := 131) (v := r0) at_129 rfl rfl
    replace w := w.i2d (q := 132) (z := FP.i2d r0) at_131 rfl rfl
    replace w := w.iload (q := 134) (v := c0) at_132 rfl rfl
    obtain ⟨_, h138, ⟨rfl, S⟩, w⟩ := w.callV (a := a) (y := (⟨"com/example/lucky_fork/luckyfork/model/GroupSums", "set", "(IDI)V"⟩ : MethodName)) (argsL := [(.int (0 : Int32)), (.double (FP.i2d r0)), (.int c0)]) (rest := []) (own_set_4_0 l Z a0 hw _ n0 S.z0 a r c p (0 : Int32) (0 : UInt64) (0 : UInt64) (0 : UInt64) (0 : UInt64) (0 : UInt64) (0 : UInt64) (0 : UInt64) (0 : UInt64) (0 : UInt64) (0 : Int32) (0 : Int32) (0 : Int32) (0 : Int32) (0 : Int32) (0 : Int32) (0 : Int32) (0 : Int32) (0 : Int32) (0 : Int32) (0 : Int32) (0 : Int32) (0 : Int32) (0 : Int32) (0 : Int32) (0 : Int32) (FP.i2d r0) c0 S) (S.1.1) (hw _ (List.mem_of_getElem? (i := 42) rfl)) (hw _ (List.mem_of_getElem? (i := 43) rfl)) (hw _ (List.mem_of_getElem? (i := 45) rfl)) (hw _ (List.mem_of_getElem? (i := 44) rfl)) (hw _ (List.mem_of_getElem? (i := 2) rfl)) (hw _ (List.mem_of_getElem? (i := 46) rfl)) (by decide) at_134 (lenOf pd_3 rfl) rfl rfl (by decide) (W := 0) (Nat.le_of_eq rfl) (by decide) (by decide) (by decide) (q := 137) rfl
    replace w := w [] rfl
    replace w := w.aload (q := 139) (v := (.ref a)) at_137 rfl rfl rfl
    replace w := w.iconst (q := 140) (z := (1 : Int32)) at_139 (by decide) rfl
    replace w := w.iload (q := 142) (v := r1) at_140 rfl rfl
    replace w := w.i2d (q := 143) (z := FP.i2d r1) at_142 rfl rfl
    replace w := w.iload (q := 145) (v := c1) at_143 rfl rfl
    obtain ⟨_, h139, ⟨rfl, S⟩, w⟩ := w.callV (a := a) (y := (⟨"com/example/lucky_fork/luckyfork/model/GroupSums", "set", "(IDI)V"⟩ : MethodName)) (argsL := [(.int (1 : Int32)), (.double (FP.i2d r1)), (.int c1)]) (rest := []) (own_set_4_1 l Z a0 hw _ n0 S.z0 a r c p (0 : Int32) (0 : UInt64) (0 : UInt64) (0 : UInt64) (0 : UInt64) (0 : UInt64) (FP.i2d r0) (0 : UInt64) (0 : UInt64) (0 : UInt64) (0 : Int32) (0 : Int32) (0 : Int32) (0 : Int32) c0 (0 : Int32) (0 : Int32) (0 : Int32) (4 : Int32) (0 : Int32) (0 : Int32) (0 : Int32) (0 : Int32) (0 : Int32) (0 : Int32) (0 : Int32) (FP.i2d r1) c1 S) (S.1.1) (hw _ (List.mem_of_getElem? (i := 42) rfl)) (hw _ (List.mem_of_getElem? (i := 43) rfl)) (hw _ (List.mem_of_getElem? (i := 45) rfl)) (hw _ (List.mem_of_getElem? (i := 44) rfl)) (hw _ (List.mem_of_getElem? (i := 2) rfl)) (hw _ (List.mem_of_getElem? (i := 46) rfl)) (by decide) at_145 (lenOf pd_3 rfl) rfl rfl (by decide) (W := 0) (Nat.le_of_eq rfl) (by decide) (by decide) (by decide) (q := 148) rfl
    replace w := w [] rfl
    replace w := w.aload (q := 150) (v := (.ref a)) at_148 rfl rfl rfl
    replace w := w.iconst (q := 151) (z := (2 : Int32)) at_150 (by decide) rfl
    replace w := w.iload (q := 153) (v := r2) at_151 rfl rfl
    replace w := w.i2d (q := 154) (z := FP.i2d r2) at_153 rfl rfl
    replace w := w.iload (q := 156) (v := c2) at_154 rfl rfl
    obtain ⟨_, h140, ⟨rfl, S⟩, w⟩ := w.callV (a := a) (y := (⟨"com/example/lucky_fork/luckyfork/model/GroupSums", "set", "(IDI)V"⟩ : MethodName)) (argsL := [(.int (2 : Int32)), (.double (FP.i2d r2)), (.int c2)]) (rest := []) (own_set_4_2 l Z a0 hw _ n0 S.z0 a r c p (0 : Int32) (0 : UInt64) (0 : UInt64) (0 : UInt64) (0 : UInt64) (0 : UInt64) (FP.i2d r0) (FP.i2d r1) (0 : UInt64) (0 : UInt64) (0 : Int32) (0 : Int32) (0 : Int32) (0 : Int32) c0 c1 (0 : Int32) (0 : Int32) (4 : Int32) (5 : Int32) (0 : Int32) (0 : Int32) (0 : Int32) (0 : Int32) (0 : Int32) (0 : Int32) (FP.i2d r2) c2 S) (S.1.1) (hw _ (List.mem_of_getElem? (i := 42) rfl)) (hw _ (List.mem_of_getElem? (i := 43) rfl)) (hw _ (List.mem_of_getElem? (i := 45) rfl)) (hw _ (List.mem_of_getElem? (i := 44) rfl)) (hw _ (List.mem_of_getElem? (i := 2) rfl)) (hw _ (List.mem_of_getElem? (i := 46) rfl)) (by decide) at_156 (lenOf pd_3 rfl) rfl rfl (by decide) (W := 0) (Nat.le_of_eq rfl) (by decide) (by decide) (by decide) (q := 159) rfl
    replace w := w [] rfl
    replace w := w.aload (q := 161) (v := (.ref a)) at_159 rfl rfl rfl
    replace w := w.iconst (q := 162) (z := (3 : Int32)) at_161 (by decide) rfl
    replace w := w.iload (q := 164) (v := r3) at_162 rfl rfl
    replace w := w.i2d (q := 165) (z := FP.i2d r3) at_164 rfl rfl
    replace w := w.iload (q := 167) (v := c3) at_165 rfl rfl
    obtain ⟨_, h141, ⟨rfl, S⟩, w⟩ := w.callV (a := a) (y := (⟨"com/example/lucky_fork/luckyfork/model/GroupSums", "set", "(IDI)V"⟩ : MethodName)) (argsL := [(.int (3 : Int32)), (.double (FP.i2d r3)), (.int c3)]) (rest := []) (own_set_4_3 l Z a0 hw _ n0 S.z0 a r c p (0 : Int32) (0 : UInt64) (0 : UInt64) (0 : UInt64) (0 : UInt64) (0 : UInt64) (FP.i2d r0) (FP.i2d r1) (FP.i2d r2) (0 : UInt64) (0 : Int32) (0 : Int32) (0 : Int32) (0 : Int32) c0 c1 c2 (0 : Int32) (4 : Int32) (5 : Int32) (0 : Int32) (0 : Int32) (0 : Int32) (0 : Int32) (0 : Int32) (0 : Int32) (FP.i2d r3) c3 S) (S.1.1) (hw _ (List.mem_of_getElem? (i := 42) rfl)) (hw _ (List.mem_of_getElem? (i := 43) rfl)) (hw _ (List.mem_of_getElem? (i := 45) rfl)) (hw _ (List.mem_of_getElem? (i := 44) rfl)) (hw _ (List.mem_of_getElem? (i := 2) rfl)) (hw _ (List.mem_of_getElem? (i := 46) rfl)) (by decide) at_167 (lenOf pd_3 rfl) rfl rfl (by decide) (W := 0) (Nat.le_of_eq rfl) (by decide) (by decide) (by decide) (q := 170) rfl
    replace w := w [] rfl
    replace w := w.aload (q := 172) (v := (.ref a)) at_170 rfl rfl rfl
    obtain ⟨q01, hq01⟩ : ∃ z : Int32, r0 + r1 = z := ⟨_, rfl⟩
    have fq01 := own_add hq01 (by omega) (by omega) (by omega) (by omega)
    have gq01 := own_dadd hq01 (by omega) (by omega) (by omega) (by omega)
    obtain ⟨q23, hq23⟩ : ∃ z : Int32, r2 + r3 = z := ⟨_, rfl⟩
    have fq23 := own_add hq23 (by omega) (by omega) (by omega) (by omega)
    have gq23 := own_dadd hq23 (by omega) (by omega) (by omega) (by omega)
    obtain ⟨qq, hqq⟩ : ∃ z : Int32, q01 + q23 = z := ⟨_, rfl⟩
    have fqq := own_add hqq (by omega) (by omega) (by omega) (by omega)
    have gqq := own_dadd hqq (by omega) (by omega) (by omega) (by omega)
    obtain ⟨_, h142, ⟨rfl, S⟩, w⟩ := w.callV (a := a) (y := (⟨"com/example/lucky_fork/luckyfork/model/GroupSums", "settle", "()V"⟩ : MethodName)) (argsL := []) (rest := []) (own_settle_4 l Z a0 hw _ n0 S.z0 a r c p (0 : Int32) (0 : UInt64) (0 : UInt64) (0 : UInt64) (0 : UInt64) (0 : UInt64) (FP.i2d r0) (FP.i2d r1) (FP.i2d r2) (FP.i2d r3) (0 : Int32) (0 : Int32) (0 : Int32) (0 : Int32) c0 c1 c2 c3 (4 : Int32) (5 : Int32) (0 : Int32) (0 : Int32) (0 : Int32) (0 : Int32) (0 : Int32) (0 : Int32)  S (by rw [gq23]; exact own_nn _) (by rw [gq01]; exact own_nn _) (by rw [gq01, gq23, gqq]; exact own_nn _)) (S.1.1) (hw _ (List.mem_of_getElem? (i := 47) rfl)) (hw _ (List.mem_of_getElem? (i := 48) rfl)) (hw _ (List.mem_of_getElem? (i := 50) rfl)) (hw _ (List.mem_of_getElem? (i := 49) rfl)) (hw _ (List.mem_of_getElem? (i := 2) rfl)) (hw _ (List.mem_of_getElem? (i := 51) rfl)) (by decide) at_172 (lenOf pd_2 rfl) rfl rfl (by decide) (W := 0) (Nat.le_of_eq rfl) (by decide) (by decide) (by decide) (q := 175) rfl
    replace w := w [] rfl
    rw [gq01, gq23, gqq] at S
    obtain ⟨s2, hs2⟩ : ∃ z : Int32, (c0 + c1) = z := ⟨_, rfl⟩
    rw [hs2] at S
    have fs2 := own_add hs2 (by omega) (by omega) (by omega) (by omega)
    obtain ⟨s3, hs3⟩ : ∃ z : Int32, (c2 + c3) = z := ⟨_, rfl⟩
    rw [hs3] at S
    have fs3 := own_add hs3 (by omega) (by omega) (by omega) (by omega)
    obtain ⟨s1, hs1⟩ : ∃ z : Int32, (s2 + s3) = z := ⟨_, rfl⟩
    rw [hs1] at S
    have fs1 := own_add hs1 (by omega) (by omega) (by omega) (by omega)
    replace S : Gt Z h142 n0 a r c p (4 : Int32) (2 : Int32) (0 : Int32) (0 : Int32) (0 : Int32) (0 : UInt64) [(.double (0 : UInt64)), (.double (FP.i2d qq)), (.double (FP.i2d q01)), (.double (FP.i2d q23)), (.double (FP.i2d r0)), (.double (FP.i2d r1)), (.double (FP.i2d r2)), (.double (FP.i2d r3))] [(.int (0 : Int32)), (.int s1), (.int s2), (.int s3), (.int c0), (.int c1), (.int c2), (.int c3)] [(.int (4 : Int32)), (.int (5 : Int32)), (.int (0 : Int32)), (.int (0 : Int32)), (.int (0 : Int32)), (.int (0 : Int32)), (.int (0 : Int32)), (.int (0 : Int32))] := S
    replace w := w.aload (q := 177) (v := (.ref a)) at_175 rfl rfl rfl
    replace w := w.iload (q := 179) (v := hp) at_177 rfl rfl
    replace w := w.i2d (q := 180) (z := FP.i2d hp) at_179 rfl rfl
    replace w := w.ldcD (q := 183) (z := (4611686018427387904 : UInt64)) (hw _ (List.mem_of_getElem? (i := 56) rfl)) at_180 rfl
    replace w := w.ddiv (q := 184) (z := FP.ddiv (FP.i2d hp) 4611686018427387904) at_183 (own_ddiv hp) rfl rfl
    obtain ⟨_, h143, ⟨rr, bb, Rb, rfl, S, hrr⟩, w⟩ := w.callV (a := a) (y := (⟨"com/example/lucky_fork/luckyfork/model/GroupSums", "findByRate", "(D)I"⟩ : MethodName)) (argsL := [(.double (FP.ddiv (FP.i2d hp) 4611686018427387904))]) (rest := []) (own_find l Z a0 hw _ n0 S.z0 a r c p (2 : Int32) (0 : Int32) (0 : Int32) (0 : Int32) (0 : UInt64) (0 : UInt64) (FP.i2d qq) (FP.i2d q23) (FP.i2d r1) (FP.i2d r3) (0 : Int32) s1 s2 s3 c0 c1 c2 c3 (4 : Int32) (5 : Int32) (0 : Int32) (0 : Int32) (0 : Int32) (0 : Int32) (0 : Int32) (0 : Int32) q01 r0 r2 (FP.ddiv (FP.i2d hp) 4611686018427387904) hp.toInt S ⟨by omega, by omega⟩ ⟨by omega, by omega⟩ ⟨by omega, by omega⟩ ⟨by omega, by omega⟩ ⟨by omega, by omega⟩ ⟨by omega, by omega⟩ (fun q q0 q1 => own_half bhp.1 bhp.2 q0 q1)) (S.1.1) (hw _ (List.mem_of_getElem? (i := 57) rfl)) (hw _ (List.mem_of_getElem? (i := 58) rfl)) (hw _ (List.mem_of_getElem? (i := 60) rfl)) (hw _ (List.mem_of_getElem? (i := 59) rfl)) (hw _ (List.mem_of_getElem? (i := 2) rfl)) (hw _ (List.mem_of_getElem? (i := 61) rfl)) (by decide) at_184 (lenOf pd_4 rfl) rfl rfl (by decide) (W := 0) (Nat.le_of_eq rfl) (by decide) (by decide) (by decide) (q := 187) rfl
    replace w := w [(.int rr)] rfl
    replace w := w.istore (q := 189) (l' := #[.val (.int x0), .val (.int x1), .val (.int x2), .val (.int x3), .val (.int x4), .val (.int c0), .val (.int c1), .val (.int c2), .val (.int c3), .val (.int r0), .val (.int r1), .val (.int r2), .val (.int r3), .val (.int hp), .val (.ref a), .val (.int rr), .unset, .unset, .unset, .unset, .unset, .unset, .unset, .unset, .unset]) at_187 rfl rfl
    replace w := w.iload (q := 191) (v := r0) at_189 rfl rfl
    replace w := w.istore (q := 193) (l' := #[.val (.int x0), .val (.int x1), .val (.int x2), .val (.int x3), .val (.int x4), .val (.int c0), .val (.int c1), .val (.int c2), .val (.int c3), .val (.int r0), .val (.int r1), .val (.int r2), .val (.int r3), .val (.int hp), .val (.ref a), .val (.int rr), .val (.int r0), .unset, .unset, .unset, .unset, .unset, .unset, .unset, .unset]) at_191 rfl rfl
    replace w := w.iload (q := 195) (v := r0) at_193 rfl rfl
    replace w := w.iload (q := 197) (v := r1) at_195 rfl rfl
    obtain ⟨z144, hz144⟩ : ∃ z : Int32, r0 + r1 = z := ⟨_, rfl⟩
    replace w := w.iadd (q := 198) at_197 hz144 rfl
    have fz144 := own_add hz144 (by omega) (by omega) (by omega) (by omega)
    replace w := w.istore (q := 200) (l' := #[.val (.int x0), .val (.int x1), .val (.int x2), .val (.int x3), .val (.int x4), .val (.int c0), .val (.int c1), .val (.int c2), .val (.int c3), .val (.int r0), .val (.int r1), .val (.int r2), .val (.int r3), .val (.int hp), .val (.ref a), .val (.int rr), .val (.int r0), .val (.int z144), .unset, .unset, .unset, .unset, .unset, .unset, .unset]) at_198 rfl rfl
    replace w := w.iload (q := 202) (v := r0) at_200 rfl rfl
    replace w := w.iload (q := 204) (v := r1) at_202 rfl rfl
    obtain ⟨z145, hz145⟩ : ∃ z : Int32, r0 + r1 = z := ⟨_, rfl⟩
    replace w := w.iadd (q := 205) at_204 hz145 rfl
    have fz145 := own_add hz145 (by omega) (by omega) (by omega) (by omega)
    replace w := w.iload (q := 207) (v := r2) at_205 rfl rfl
    obtain ⟨z146, hz146⟩ : ∃ z : Int32, z145 + r2 = z := ⟨_, rfl⟩
    replace w := w.iadd (q := 208) at_207 hz146 rfl
    have fz146 := own_add hz146 (by omega) (by omega) (by omega) (by omega)
    replace w := w.istore (q := 210) (l' := #[.val (.int x0), .val (.int x1), .val (.int x2), .val (.int x3), .val (.int x4), .val (.int c0), .val (.int c1), .val (.int c2), .val (.int c3), .val (.int r0), .val (.int r1), .val (.int r2), .val (.int r3), .val (.int hp), .val (.ref a), .val (.int rr), .val (.int r0), .val (.int z144), .val (.int z146), .unset, .unset, .unset, .unset, .unset, .unset]) at_208 rfl rfl
    replace w := w.iload (q := 212) (v := c0) at_210 rfl rfl
    replace w := w.istore (q := 214) (l' := #[.val (.int x0), .val (.int x1), .val (.int x2), .val (.int x3), .val (.int x4), .val (.int c0), .val (.int c1), .val (.int c2), .val (.int c3), .val (.int r0), .val (.int r1), .val (.int r2), .val (.int r3), .val (.int hp), .val (.ref a), .val (.int rr), .val (.int r0), .val (.int z144), .val (.int z146), .val (.int c0), .unset, .unset, .unset, .unset, .unset]) at_212 rfl rfl
    replace w := w.iload (q := 216) (v := c0) at_214 rfl rfl
    replace w := w.iload (q := 218) (v := c1) at_216 rfl rfl
    obtain ⟨z147, hz147⟩ : ∃ z : Int32, c0 + c1 = z := ⟨_, rfl⟩
    replace w := w.iadd (q := 219) at_218 hz147 rfl
    have fz147 := own_add hz147 (by omega) (by omega) (by omega) (by omega)
    replace w := w.istore (q := 221) (l' := #[.val (.int x0), .val (.int x1), .val (.int x2), .val (.int x3), .val (.int x4), .val (.int c0), .val (.int c1), .val (.int c2), .val (.int c3), .val (.int r0), .val (.int r1), .val (.int r2), .val (.int r3), .val (.int hp), .val (.ref a), .val (.int rr), .val (.int r0), .val (.int z144), .val (.int z146), .val (.int c0), .val (.int z147), .unset, .unset, .unset, .unset]) at_219 rfl rfl
    replace w := w.iload (q := 223) (v := c0) at_221 rfl rfl
    replace w := w.iload (q := 225) (v := c1) at_223 rfl rfl
    obtain ⟨z148, hz148⟩ : ∃ z : Int32, c0 + c1 = z := ⟨_, rfl⟩
    replace w := w.iadd (q := 226) at_225 hz148 rfl
    have fz148 := own_add hz148 (by omega) (by omega) (by omega) (by omega)
    replace w := w.iload (q := 228) (v := c2) at_226 rfl rfl
    obtain ⟨z149, hz149⟩ : ∃ z : Int32, z148 + c2 = z := ⟨_, rfl⟩
    replace w := w.iadd (q := 229) at_228 hz149 rfl
    have fz149 := own_add hz149 (by omega) (by omega) (by omega) (by omega)
    replace w := w.istore (q := 231) (l' := #[.val (.int x0), .val (.int x1), .val (.int x2), .val (.int x3), .val (.int x4), .val (.int c0), .val (.int c1), .val (.int c2), .val (.int c3), .val (.int r0), .val (.int r1), .val (.int r2), .val (.int r3), .val (.int hp), .val (.ref a), .val (.int rr), .val (.int r0), .val (.int z144), .val (.int z146), .val (.int c0), .val (.int z147), .val (.int z149), .unset, .unset, .unset]) at_229 rfl rfl
    replace w := w.iconst (q := 232) (z := (-1 : Int32)) at_231 (by decide) rfl
    replace w := w.istore (q := 234) (l' := #[.val (.int x0), .val (.int x1), .val (.int x2), .val (.int x3), .val (.int x4), .val (.int c0), .val (.int c1), .val (.int c2), .val (.int c3), .val (.int r0), .val (.int r1), .val (.int r2), .val (.int r3), .val (.int hp), .val (.ref a), .val (.int rr), .val (.int r0), .val (.int z144), .val (.int z146), .val (.int c0), .val (.int z147), .val (.int z149), .val (.int (-1 : Int32)), .unset, .unset]) at_232 rfl rfl
    replace w := w.iconst (q := 235) (z := (0 : Int32)) at_234 (by decide) rfl
    replace w := w.istore (q := 237) (l' := #[.val (.int x0), .val (.int x1), .val (.int x2), .val (.int x3), .val (.int x4), .val (.int c0), .val (.int c1), .val (.int c2), .val (.int c3), .val (.int r0), .val (.int r1), .val (.int r2), .val (.int r3), .val (.int hp), .val (.ref a), .val (.int rr), .val (.int r0), .val (.int z144), .val (.int z146), .val (.int c0), .val (.int z147), .val (.int z149), .val (.int (-1 : Int32)), .val (.int (0 : Int32)), .unset]) at_235 rfl rfl
    replace w := w.iconst (q := 238) (z := (0 : Int32)) at_237 (by decide) rfl
    replace w := w.istore (q := 240) (l' := #[.val (.int x0), .val (.int x1), .val (.int x2), .val (.int x3), .val (.int x4), .val (.int c0), .val (.int c1), .val (.int c2), .val (.int c3), .val (.int r0), .val (.int r1), .val (.int r2), .val (.int r3), .val (.int hp), .val (.ref a), .val (.int rr), .val (.int r0), .val (.int z144), .val (.int z146), .val (.int c0), .val (.int z147), .val (.int z149), .val (.int (-1 : Int32)), .val (.int (0 : Int32)), .val (.int (0 : Int32))]) at_238 rfl rfl
    replace w := w.iload (q := 242) (v := c0) at_240 rfl rfl
    have wj : ∃ (e1 : Int32) (er1 : Int32) (ec1 : Int32), ((0 < c0.toInt ∧ e1.toInt = 0 ∨ c0.toInt ≤ 0 ∧ e1.toInt = -1) ∧ er1.toInt = 0 ∧ ec1.toInt = 0) ∧ Wk κ l Z "com/example/lucky_fork/luckyfork/model/GroupSumsFindByRatePinLaw" "law" code 25 (some .boolean) room_1 n0 h143 (((((((((0 + 1) + 3) + 2) + 0) + 0) + 0) + 0) + 0) + 0) (((((((((0 + 9) + 12) + 16) + 0) + 0) + 0) + 0) + 0) + 0) 254 #[.val (.int x0), .val (.int x1), .val (.int x2), .val (.int x3), .val (.int x4), .val (.int c0), .val (.int c1), .val (.int c2), .val (.int c3), .val (.int r0), .val (.int r1), .val (.int r2), .val (.int r3), .val (.int hp), .val (.ref a), .val (.int rr), .val (.int r0), .val (.int z144), .val (.int z146), .val (.int c0), .val (.int z147), .val (.int z149), .val (.int e1), .val (.int er1), .val (.int ec1)] [] := by
      rcases w.ifLe (q := 254) (q' := 245) (xi := c0.toInt) at_242 rfl (by decide) (by decide) rfl with ⟨hc242, w⟩ | ⟨hc242, w⟩
      · exact ⟨(-1 : Int32), (0 : Int32), (0 : Int32), by have em : (-1 : Int32).toInt = -1 := rfl; omega, w⟩
      · replace w := w.iconst (q := 246) (z := (0 : Int32)) at_245 (by decide) rfl
        replace w := w.istore (q := 248) (l' := #[.val (.int x0), .val (.int x1), .val (.int x2), .val (.int x3), .val (.int x4), .val (.int c0), .val (.int c1), .val (.int c2), .val (.int c3), .val (.int r0), .val (.int r1), .val (.int r2), .val (.int r3), .val (.int hp), .val (.ref a), .val (.int rr), .val (.int r0), .val (.int z144), .val (.int z146), .val (.int c0), .val (.int z147), .val (.int z149), .val (.int (0 : Int32)), .val (.int (0 : Int32)), .val (.int (0 : Int32))]) at_246 rfl rfl
        replace w := w.iconst (q := 249) (z := (0 : Int32)) at_248 (by decide) rfl
        replace w := w.istore (q := 251) (l' := #[.val (.int x0), .val (.int x1), .val (.int x2), .val (.int x3), .val (.int x4), .val (.int c0), .val (.int c1), .val (.int c2), .val (.int c3), .val (.int r0), .val (.int r1), .val (.int r2), .val (.int r3), .val (.int hp), .val (.ref a), .val (.int rr), .val (.int r0), .val (.int z144), .val (.int z146), .val (.int c0), .val (.int z147), .val (.int z149), .val (.int (0 : Int32)), .val (.int (0 : Int32)), .val (.int (0 : Int32))]) at_249 rfl rfl
        replace w := w.iconst (q := 252) (z := (0 : Int32)) at_251 (by decide) rfl
        replace w := w.istore (q := 254) (l' := #[.val (.int x0), .val (.int x1), .val (.int x2), .val (.int x3), .val (.int x4), .val (.int c0), .val (.int c1), .val (.int c2), .val (.int c3), .val (.int r0), .val (.int r1), .val (.int r2), .val (.int r3), .val (.int hp), .val (.ref a), .val (.int rr), .val (.int r0), .val (.int z144), .val (.int z146), .val (.int c0), .val (.int z147), .val (.int z149), .val (.int (0 : Int32)), .val (.int (0 : Int32)), .val (.int (0 : Int32))]) at_252 rfl rfl
        exact ⟨(0 : Int32), (0 : Int32), (0 : Int32), by have em : (-1 : Int32).toInt = -1 := rfl; omega, w⟩
    obtain ⟨e1, er1, ec1, je1, w⟩ := wj
    replace w := w.iload (q := 256) (v := c1) at_254 rfl rfl
    have wj : ∃ (e2 : Int32) (er2 : Int32) (ec2 : Int32), ((0 < c1.toInt ∧ 2 * r0.toInt ≤ hp.toInt ∧ e2.toInt = 1 ∧ er2.toInt = r0.toInt ∧ ec2.toInt = c0.toInt ∨ ¬ (0 < c1.toInt ∧ 2 * r0.toInt ≤ hp.toInt) ∧ e2.toInt = e1.toInt ∧ er2.toInt = er1.toInt ∧ ec2.toInt = ec1.toInt)) ∧ Wk κ l Z "com/example/lucky_fork/luckyfork/model/GroupSumsFindByRatePinLaw" "law" code 25 (some .boolean) room_1 n0 h143 (((((((((0 + 1) + 3) + 2) + 0) + 0) + 0) + 0) + 0) + 0) (((((((((0 + 9) + 12) + 16) + 0) + 0) + 0) + 0) + 0) + 0) 279 #[.val (.int x0), .val (.int x1), .val (.int x2), .val (.int x3), .val (.int x4), .val (.int c0), .val (.int c1), .val (.int c2), .val (.int c3), .val (.int r0), .val (.int r1), .val (.int r2), .val (.int r3), .val (.int hp), .val (.ref a), .val (.int rr), .val (.int r0), .val (.int z144), .val (.int z146), .val (.int c0), .val (.int z147), .val (.int z149), .val (.int e2), .val (.int er2), .val (.int ec2)] [] := by
      rcases w.ifLe (q := 279) (q' := 259) (xi := c1.toInt) at_256 rfl (by decide) (by decide) rfl with ⟨hc256, w⟩ | ⟨hc256, w⟩
      · exact ⟨e1, er1, ec1, by have ek : (1 : Int32).toInt = 1 := rfl; omega, w⟩
      · replace w := w.iconst (q := 260) (z := (2 : Int32)) at_259 (by decide) rfl
        replace w := w.iload (q := 262) (v := r0) at_260 rfl rfl
        obtain ⟨z150, hz150⟩ : ∃ z : Int32, (2 : Int32) * r0 = z := ⟨_, rfl⟩
        replace w := w.imul (q := 263) at_262 hz150 rfl
        have fz150 := own_twice hz150 (by omega) (by omega)
        replace w := w.iload (q := 265) (v := hp) at_263 rfl rfl
        rcases w.icmpGt (q := 279) (q' := 268) (xi := z150.toInt) (yi := hp.toInt) at_265 rfl rfl (by decide) (by decide) rfl with ⟨hc265, w⟩ | ⟨hc265, w⟩
        · exact ⟨e1, er1, ec1, by have ek : (1 : Int32).toInt = 1 := rfl; omega, w⟩
        · replace w := w.iconst (q := 269) (z := (1 : Int32)) at_268 (by decide) rfl
          replace w := w.istore (q := 271) (l' := #[.val (.int x0), .val (.int x1), .val (.int x2), .val (.int x3), .val (.int x4), .val (.int c0), .val (.int c1), .val (.int c2), .val (.int c3), .val (.int r0), .val (.int r1), .val (.int r2), .val (.int r3), .val (.int hp), .val (.ref a), .val (.int rr), .val (.int r0), .val (.int z144), .val (.int z146), .val (.int c0), .val (.int z147), .val (.int z149), .val (.int (1 : Int32)), .val (.int er1), .val (.int ec1)]) at_269 rfl rfl
          replace w := w.iload (q := 273) (v := r0) at_271 rfl rfl
          replace w := w.istore (q := 275) (l' := #[.val (.int x0), .val (.int x1), .val (.int x2), .val (.int x3), .val (.int x4), .val (.int c0), .val (.int c1), .val (.int c2), .val (.int c3), .val (.int r0), .val (.int r1), .val (.int r2), .val (.int r3), .val (.int hp), .val (.ref a), .val (.int rr), .val (.int r0), .val (.int z144), .val (.int z146), .val (.int c0), .val (.int z147), .val (.int z149), .val (.int (1 : Int32)), .val (.int r0), .val (.int ec1)]) at_273 rfl rfl
          replace w := w.iload (q := 277) (v := c0) at_275 rfl rfl
          replace w := w.istore (q := 279) (l' := #[.val (.int x0), .val (.int x1), .val (.int x2), .val (.int x3), .val (.int x4), .val (.int c0), .val (.int c1), .val (.int c2), .val (.int c3), .val (.int r0), .val (.int r1), .val (.int r2), .val (.int r3), .val (.int hp), .val (.ref a), .val (.int rr), .val (.int r0), .val (.int z144), .val (.int z146), .val (.int c0), .val (.int z147), .val (.int z149), .val (.int (1 : Int32)), .val (.int r0), .val (.int c0)]) at_277 rfl rfl
          exact ⟨(1 : Int32), r0, c0, by have ek : (1 : Int32).toInt = 1 := rfl; omega, w⟩
    obtain ⟨e2, er2, ec2, je2, w⟩ := wj
    replace w := w.iload (q := 281) (v := c2) at_279 rfl rfl
    have wj : ∃ (e3 : Int32) (er3 : Int32) (ec3 : Int32), ((0 < c2.toInt ∧ 2 * z144.toInt ≤ hp.toInt ∧ e3.toInt = 2 ∧ er3.toInt = z144.toInt ∧ ec3.toInt = z147.toInt ∨ ¬ (0 < c2.toInt ∧ 2 * z144.toInt ≤ hp.toInt) ∧ e3.toInt = e2.toInt ∧ er3.toInt = er2.toInt ∧ ec3.toInt = ec2.toInt)) ∧ Wk κ l Z "com/example/lucky_fork/luckyfork/model/GroupSumsFindByRatePinLaw" "law" code 25 (some .boolean) room_1 n0 h143 (((((((((0 + 1) + 3) + 2) + 0) + 0) + 0) + 0) + 0) + 0) (((((((((0 + 9) + 12) + 16) + 0) + 0) + 0) + 0) + 0) + 0) 304 #[.val (.int x0), .val (.int x1), .val (.int x2), .val (.int x3), .val (.int x4), .val (.int c0), .val (.int c1), .val (.int c2), .val (.int c3), .val (.int r0), .val (.int r1), .val (.int r2), .val (.int r3), .val (.int hp), .val (.ref a), .val (.int rr), .val (.int r0), .val (.int z144), .val (.int z146), .val (.int c0), .val (.int z147), .val (.int z149), .val (.int e3), .val (.int er3), .val (.int ec3)] [] := by
      rcases w.ifLe (q := 304) (q' := 284) (xi := c2.toInt) at_281 rfl (by decide) (by decide) rfl with ⟨hc281, w⟩ | ⟨hc281, w⟩
      · exact ⟨e2, er2, ec2, by have ek : (2 : Int32).toInt = 2 := rfl; omega, w⟩
      · replace w := w.iconst (q := 285) (z := (2 : Int32)) at_284 (by decide) rfl
        replace w := w.iload (q := 287) (v := z144) at_285 rfl rfl
        obtain ⟨z151, hz151⟩ : ∃ z : Int32, (2 : Int32) * z144 = z := ⟨_, rfl⟩
        replace w := w.imul (q := 288) at_287 hz151 rfl
        have fz151 := own_twice hz151 (by omega) (by omega)
        replace w := w.iload (q := 290) (v := hp) at_288 rfl rfl
        rcases w.icmpGt (q := 304) (q' := 293) (xi := z151.toInt) (yi := hp.toInt) at_290 rfl rfl (by decide) (by decide) rfl with ⟨hc290, w⟩ | ⟨hc290, w⟩
        · exact ⟨e2, er2, ec2, by have ek : (2 : Int32).toInt = 2 := rfl; omega, w⟩
        · replace w := w.iconst (q := 294) (z := (2 : Int32)) at_293 (by decide) rfl
          replace w := w.istore (q := 296) (l' := #[.val (.int x0), .val (.int x1), .val (.int x2), .val (.int x3), .val (.int x4), .val (.int c0), .val (.int c1), .val (.int c2), .val (.int c3), .val (.int r0), .val (.int r1), .val (.int r2), .val (.int r3), .val (.int hp), .val (.ref a), .val (.int rr), .val (.int r0), .val (.int z144), .val (.int z146), .val (.int c0), .val (.int z147), .val (.int z149), .val (.int (2 : Int32)), .val (.int er2), .val (.int ec2)]) at_294 rfl rfl
          replace w := w.iload (q := 298) (v := z144) at_296 rfl rfl
          replace w := w.istore (q := 300) (l' := #[.val (.int x0), .val (.int x1), .val (.int x2), .val (.int x3), .val (.int x4), .val (.int c0), .val (.int c1), .val (.int c2), .val (.int c3), .val (.int r0), .val (.int r1), .val (.int r2), .val (.int r3), .val (.int hp), .val (.ref a), .val (.int rr), .val (.int r0), .val (.int z144), .val (.int z146), .val (.int c0), .val (.int z147), .val (.int z149), .val (.int (2 : Int32)), .val (.int z144), .val (.int ec2)]) at_298 rfl rfl
          replace w := w.iload (q := 302) (v := z147) at_300 rfl rfl
          replace w := w.istore (q := 304) (l' := #[.val (.int x0), .val (.int x1), .val (.int x2), .val (.int x3), .val (.int x4), .val (.int c0), .val (.int c1), .val (.int c2), .val (.int c3), .val (.int r0), .val (.int r1), .val (.int r2), .val (.int r3), .val (.int hp), .val (.ref a), .val (.int rr), .val (.int r0), .val (.int z144), .val (.int z146), .val (.int c0), .val (.int z147), .val (.int z149), .val (.int (2 : Int32)), .val (.int z144), .val (.int z147)]) at_302 rfl rfl
          exact ⟨(2 : Int32), z144, z147, by have ek : (2 : Int32).toInt = 2 := rfl; omega, w⟩
    obtain ⟨e3, er3, ec3, je3, w⟩ := wj
    replace w := w.iload (q := 306) (v := c3) at_304 rfl rfl
    have wj : ∃ (e4 : Int32) (er4 : Int32) (ec4 : Int32), ((0 < c3.toInt ∧ 2 * z146.toInt ≤ hp.toInt ∧ e4.toInt = 3 ∧ er4.toInt = z146.toInt ∧ ec4.toInt = z149.toInt ∨ ¬ (0 < c3.toInt ∧ 2 * z146.toInt ≤ hp.toInt) ∧ e4.toInt = e3.toInt ∧ er4.toInt = er3.toInt ∧ ec4.toInt = ec3.toInt)) ∧ Wk κ l Z "com/example/lucky_fork/luckyfork/model/GroupSumsFindByRatePinLaw" "law" code 25 (some .boolean) room_1 n0 h143 (((((((((0 + 1) + 3) + 2) + 0) + 0) + 0) + 0) + 0) + 0) (((((((((0 + 9) + 12) + 16) + 0) + 0) + 0) + 0) + 0) + 0) 329 #[.val (.int x0), .val (.int x1), .val (.int x2), .val (.int x3), .val (.int x4), .val (.int c0), .val (.int c1), .val (.int c2), .val (.int c3), .val (.int r0), .val (.int r1), .val (.int r2), .val (.int r3), .val (.int hp), .val (.ref a), .val (.int rr), .val (.int r0), .val (.int z144), .val (.int z146), .val (.int c0), .val (.int z147), .val (.int z149), .val (.int e4), .val (.int er4), .val (.int ec4)] [] := by
      rcases w.ifLe (q := 329) (q' := 309) (xi := c3.toInt) at_306 rfl (by decide) (by decide) rfl with ⟨hc306, w⟩ | ⟨hc306, w⟩
      · exact ⟨e3, er3, ec3, by have ek : (3 : Int32).toInt = 3 := rfl; omega, w⟩
      · replace w := w.iconst (q := 310) (z := (2 : Int32)) at_309 (by decide) rfl
        replace w := w.iload (q := 312) (v := z146) at_310 rfl rfl
        obtain ⟨z152, hz152⟩ : ∃ z : Int32, (2 : Int32) * z146 = z := ⟨_, rfl⟩
        replace w := w.imul (q := 313) at_312 hz152 rfl
        have fz152 := own_twice hz152 (by omega) (by omega)
        replace w := w.iload (q := 315) (v := hp) at_313 rfl rfl
        rcases w.icmpGt (q := 329) (q' := 318) (xi := z152.toInt) (yi := hp.toInt) at_315 rfl rfl (by decide) (by decide) rfl with ⟨hc315, w⟩ | ⟨hc315, w⟩
        · exact ⟨e3, er3, ec3, by have ek : (3 : Int32).toInt = 3 := rfl; omega, w⟩
        · replace w := w.iconst (q := 319) (z := (3 : Int32)) at_318 (by decide) rfl
          replace w := w.istore (q := 321) (l' := #[.val (.int x0), .val (.int x1), .val (.int x2), .val (.int x3), .val (.int x4), .val (.int c0), .val (.int c1), .val (.int c2), .val (.int c3), .val (.int r0), .val (.int r1), .val (.int r2), .val (.int r3), .val (.int hp), .val (.ref a), .val (.int rr), .val (.int r0), .val (.int z144), .val (.int z146), .val (.int c0), .val (.int z147), .val (.int z149), .val (.int (3 : Int32)), .val (.int er3), .val (.int ec3)]) at_319 rfl rfl
          replace w := w.iload (q := 323) (v := z146) at_321 rfl rfl
          replace w := w.istore (q := 325) (l' := #[.val (.int x0), .val (.int x1), .val (.int x2), .val (.int x3), .val (.int x4), .val (.int c0), .val (.int c1), .val (.int c2), .val (.int c3), .val (.int r0), .val (.int r1), .val (.int r2), .val (.int r3), .val (.int hp), .val (.ref a), .val (.int rr), .val (.int r0), .val (.int z144), .val (.int z146), .val (.int c0), .val (.int z147), .val (.int z149), .val (.int (3 : Int32)), .val (.int z146), .val (.int ec3)]) at_323 rfl rfl
          replace w := w.iload (q := 327) (v := z149) at_325 rfl rfl
          replace w := w.istore (q := 329) (l' := #[.val (.int x0), .val (.int x1), .val (.int x2), .val (.int x3), .val (.int x4), .val (.int c0), .val (.int c1), .val (.int c2), .val (.int c3), .val (.int r0), .val (.int r1), .val (.int r2), .val (.int r3), .val (.int hp), .val (.ref a), .val (.int rr), .val (.int r0), .val (.int z144), .val (.int z146), .val (.int c0), .val (.int z147), .val (.int z149), .val (.int (3 : Int32)), .val (.int z146), .val (.int z149)]) at_327 rfl rfl
          exact ⟨(3 : Int32), z146, z149, by have ek : (3 : Int32).toInt = 3 := rfl; omega, w⟩
    obtain ⟨e4, er4, ec4, je4, w⟩ := wj
    replace w := w.iload (q := 331) (v := rr) at_329 rfl rfl
    replace w := w.iload (q := 333) (v := e4) at_331 rfl rfl
    rcases w.icmpNe (q := 362) (q' := 336) (xi := rr.toInt) (yi := e4.toInt) at_333 rfl rfl (by decide) (by decide) rfl with ⟨hc333, w⟩ | ⟨hc333, w⟩
    · replace w := w.iconst (q := 363) (z := (0 : Int32)) at_362 (by decide) rfl
      exfalso; omega
    · replace w := w.aload (q := 338) (v := (.ref a)) at_336 rfl rfl rfl
      obtain ⟨_, h153, ⟨rfl, S⟩, w⟩ := w.callV (a := a) (y := (⟨"com/example/lucky_fork/luckyfork/model/GroupSums", "rateBefore", "()D"⟩ : MethodName)) (argsL := []) (rest := []) (own_rb_4 l Z a0 hw _ n0 S.z0 a r c p (2 : Int32) (0 : Int32) (0 : Int32) bb (FP.i2d Rb) (0 : UInt64) (FP.i2d qq) (FP.i2d q01) (FP.i2d q23) (FP.i2d r0) (FP.i2d r1) (FP.i2d r2) (FP.i2d r3) (0 : Int32) s1 s2 s3 c0 c1 c2 c3 (4 : Int32) (5 : Int32) (0 : Int32) (0 : Int32) (0 : Int32) (0 : Int32) (0 : Int32) (0 : Int32)  S ) (S.1.1) (hw _ (List.mem_of_getElem? (i := 66) rfl)) (hw _ (List.mem_of_getElem? (i := 67) rfl)) (hw _ (List.mem_of_getElem? (i := 69) rfl)) (hw _ (List.mem_of_getElem? (i := 68) rfl)) (hw _ (List.mem_of_getElem? (i := 2) rfl)) (hw _ (List.mem_of_getElem? (i := 70) rfl)) (by decide) at_338 (lenOf pd_5 rfl) rfl rfl (by decide) (W := 0) (Nat.le_of_eq rfl) (by decide) (by decide) (by decide) (q := 341) rfl
      replace w := w [(.double (FP.i2d Rb))] rfl
      replace w := w.iload (q := 343) (v := er4) at_341 rfl rfl
      replace w := w.i2d (q := 344) (z := FP.i2d er4) at_343 rfl rfl
      have hdl := own_dcmp Rb er4 .l
      obtain ⟨kl, hkl⟩ : ∃ z : Int32, cmpValue (FP.dcmp (FP.i2d Rb) (FP.i2d er4)) .l = z := ⟨_, rfl⟩
      rw [hkl] at hdl
      replace w := w.dcmp (q := 345) at_344 hkl rfl
      rcases w.ifNe (q := 362) (q' := 348) (xi := kl.toInt) at_345 rfl (by decide) (by decide) rfl with ⟨hc345, w⟩ | ⟨hc345, w⟩
      · replace w := w.iconst (q := 363) (z := (0 : Int32)) at_362 (by decide) rfl
        exfalso; omega
      · replace w := w.aload (q := 350) (v := (.ref a)) at_348 rfl rfl rfl
        obtain ⟨_, h154, ⟨rfl, S⟩, w⟩ := w.callV (a := a) (y := (⟨"com/example/lucky_fork/luckyfork/model/GroupSums", "countBefore", "()I"⟩ : MethodName)) (argsL := []) (rest := []) (own_cb_4 l Z a0 hw _ n0 S.z0 a r c p (2 : Int32) (0 : Int32) (0 : Int32) bb (FP.i2d Rb) (0 : UInt64) (FP.i2d qq) (FP.i2d q01) (FP.i2d q23) (FP.i2d r0) (FP.i2d r1) (FP.i2d r2) (FP.i2d r3) (0 : Int32) s1 s2 s3 c0 c1 c2 c3 (4 : Int32) (5 : Int32) (0 : Int32) (0 : Int32) (0 : Int32) (0 : Int32) (0 : Int32) (0 : Int32)  S ) (S.1.1) (hw _ (List.mem_of_getElem? (i := 71) rfl)) (hw _ (List.mem_of_getElem? (i := 72) rfl)) (hw _ (List.mem_of_getElem? (i := 74) rfl)) (hw _ (List.mem_of_getElem? (i := 73) rfl)) (hw _ (List.mem_of_getElem? (i := 2) rfl)) (hw _ (List.mem_of_getElem? (i := 75) rfl)) (by decide) at_350 (lenOf pd_6 rfl) rfl rfl (by decide) (W := 0) (Nat.le_of_eq rfl) (by decide) (by decide) (by decide) (q := 353) rfl
        replace w := w [(.int bb)] rfl
        replace w := w.iload (q := 355) (v := ec4) at_353 rfl rfl
        rcases w.icmpNe (q := 362) (q' := 358) (xi := bb.toInt) (yi := ec4.toInt) at_355 rfl rfl (by decide) (by decide) rfl with ⟨hc355, w⟩ | ⟨hc355, w⟩
        · replace w := w.iconst (q := 363) (z := (0 : Int32)) at_362 (by decide) rfl
          exfalso; omega
        · replace w := w.iconst (q := 359) (z := (1 : Int32)) at_358 (by decide) rfl
          replace w := w.goto (q := 363) at_359 (by decide) (by decide)
          exact w.retZ at_363 (z := 1) (by decide) rfl (by decide) (by decide)
  · replace w := w.iconst (q := 35) (z := (1 : Int32)) at_34 (by decide) rfl
    exact w.retZ at_35 (z := 1) (by decide) rfl (by decide) (by decide)
set_option maxRecDepth 65536 in
set_option maxHeartbeats 40000000 in
theorem comes_1 {Post : Tables → Env → Array Value → State → Outcome → State → Prop} (hpost : ∀ tb e args s v u, (limb_1_1.after args s (.returned v) u = true ∧ limb_1_2.after args s (.returned v) u = true ∧ True) → FrameEnd s (.returned v) u (Jvm.fieldLocs frame_1_writes args s ++ Jvm.arrayLocs frame_1_arrays args s ++ Jvm.staticLocs frame_1_statics s) 24 192 → Post tb e args s (.returned v) u) :
    ArmFor flags0 classFile x code maxLocals ret World_1 tables_1 room_1 Calls_1 rest_1 Pre_1 Post := by
  intro l hfl _ _ p e ha hc hk s m args below hf hA hF happ hP
  obtain ⟨hcalls, hrest, hpre⟩ := hP
  obtain ⟨-, -, -, hnamed, -, -, -, hat⟩ := (Spec.applies_iff hf).mp happ
  obtain ⟨hg, hn⟩ := and_e (Cond.before_iff.mp (show (Jvm.Cond.and given_1 narrow_1).before args s = true from hpre))
  obtain ⟨hg0, hk0⟩ := and_e hg
  obtain ⟨g0, hk1⟩ := and_e hk0
  obtain ⟨g1, hk2⟩ := and_e hk1
  obtain ⟨g2, hk3⟩ := and_e hk2
  obtain ⟨g3, hk4⟩ := and_e hk3
  obtain ⟨v0, v1, v2, v3, v4, rfl⟩ : ∃ v0 v1 v2 v3 v4 : Value, args = #[v0, v1, v2, v3, v4] := by
    have hs : args.size = 5 := by simpa [Cond.value, given_1] using hg0
    obtain ⟨L⟩ := args
    match L, hs with
    | [v0, v1, v2, v3, v4], _ => exact ⟨v0, v1, v2, v3, v4, rfl⟩
  have hw := fun d (hd : d ∈ tables_1) => atoms_spec (ws := Jvm.Cond.code x code maxLocals ret :: tables_1) hat d (List.mem_cons_of_mem _ hd)
  obtain ⟨i0, e0⟩ := is_v g0
  obtain rfl : v0 = (.int i0) := Option.some.inj e0
  obtain ⟨i1, e1⟩ := is_v g1
  obtain rfl : v1 = (.int i1) := Option.some.inj e1
  obtain ⟨i2, e2⟩ := is_v g2
  obtain rfl : v2 = (.int i2) := Option.some.inj e2
  obtain ⟨i3, e3⟩ := is_v g3
  obtain rfl : v3 = (.int i3) := Option.some.inj e3
  obtain ⟨i4, e4⟩ := is_v hk4
  obtain rfl : v4 = (.int i4) := Option.some.inj e4
  obtain ⟨n, o, h1, h2, h3, _, L, rfl, ⟨hv, N⟩, hq⟩ := own_law l s _ hw s.heap s.heap.size (Nat.le_refl _) i0 i1 i2 i3 i4  tables_1 p e ha hc hk s m _ below hf ((Spec.applies_iff_loose hf).mp happ).1 ⟨rfl, State.Warmed39.refl s, rfl⟩ trivial
  subst hv
  refine ⟨n, _, h1, h2, h3, hpost _ _ _ _ _ _ ⟨Cond.after_iff.mpr rfl, Cond.after_iff.mpr (eq_i res_at (Term.int_eval (1)) rfl), trivial⟩ ⟨hq.1, hq.2.1, (hq.2.2.sift fun y hy => Or.inr (N y hy)).mono (by decide) (by decide)⟩⟩
theorem main_1_1 : Claimed_1_1 := comes_1 fun _ _ _ _ _ _ h hF => ⟨h.1, hF⟩
theorem main_1_2 : Claimed_1_2 := comes_1 fun _ _ _ _ _ _ h hF => ⟨h.2.1, hF⟩
end Jvm.Pilot.@@N@@
namespace Jvm.Pilot.@@N@@
open Jvm Jvm.ClassFile Sem Op Lib Jvm.Free Jvm.Stand Jvm.Pilot.@@N@@.Jvm.D
/-! MADE BY PROGRAM (witnessworld.py) out of the Statement's table words and the real class files: 16 classes; the members and pool entries that the words name. The judged class is class 1, her method 1. -/
namespace start1
open Jvm.ClassFile
def u (s : String) : CpInfo := .utf8 (stringToUtf16 s)
/-- a pool by its gaps: so many unusable entries, then the entry; so many at the end -/
def gap : Nat → List CpInfo → List CpInfo
  | 0, r => r
  | n + 1, r => .unusable :: gap n r
def poolList (es : List (Nat × CpInfo)) (last : Nat) : List CpInfo := es.foldr (fun e r => gap e.1 (e.2 :: r)) (gap last [])
def pool (es : List (Nat × CpInfo)) (last : Nat) : Array CpInfo := ⟨poolList es last⟩
def fileOf (pool : Array CpInfo) (this : Nat) (attrs : Array Attribute := #[]) (ms : Array MethodInfo := #[]) (fl : Nat := 33) (sup : Nat := 0) (ifs : Array Nat := #[]) (fds : Array FieldInfo := #[]) : ClassFile where
  minorVersion := 0
  majorVersion := 65
  constantPool := pool
  accessFlags := fl
  thisClass := this
  superClass := sup
  interfaces := ifs
  fields := fds
  methods := ms
  attributes := attrs
def plain (name : String) (sup : Option ClassId) : Class where
  name := name
  kind := .ordinary
  loader := none
  accessFlags := 33
  super := sup
  interfaces := #[]
  cf := none
  fields := #[]
  methods := #[]
  instanceTypes := #[]
  staticTypes := #[]
  resolved := #[]
  callSites := []
  init := .initialized
  statics := none
  mirror := none

def pool0 : Array CpInfo := pool [(5, u "<init>"), (0, u "()V"), (1, .class_ 10), (1, u "java/lang/Object")] 113

def k0c0 : Code := { maxStack := 0, maxLocals := 1, code := object_method_1_code, exceptionTable := #[], attributes := #[] }
def k0m0 : Method := { name := "<init>", desc := "()V", sig := { parameters := [], returnType := none }, accessFlags := 1, code := some k0c0 }
/-- java/lang/Object -/
def k0 : Class := { plain "java/lang/Object" none with
  accessFlags := 33
  interfaces := #[]
  cf := some (fileOf pool0 8 #[] #[{ accessFlags := 1, nameIndex := 5, descriptorIndex := 6, attributes := #[] }] 33 0 #[] #[])
  fields := #[]
  methods := #[k0m0]
  instanceTypes := #[]
  staticTypes := #[]
  resolved := Array.replicate 124 none
  statics := none }

def pool1 : Array CpInfo := pool [(2, .class_ 4), (0, .nameAndType 5 6), (0, u "java/lang/Object"), (0, u "<init>"), (0, u "()V"), (0, .class_ 8), (0, u "com/example/lucky_fork/luckyfork/model/GroupSums"), (0, .methodref 7 3), (0, .methodref 7 11), (0, .nameAndType 12 13), (0, u "clear"), (0, u "(I)V"), (0, .methodref 7 15), (0, .nameAndType 16 17), (0, u "set"), (0, u "(IDI)V"), (0, .methodref 7 19), (0, .nameAndType 20 6), (0, u "settle"), (0, .double 4611686018427387904), (1, .methodref 7 24), (0, .nameAndType 25 26), (0, u "findByRate"), (0, u "(D)I"), (0, .methodref 7 28), (0, .nameAndType 29 30), (0, u "rateBefore"), (0, u "()D"), (0, .methodref 7 32), (0, .nameAndType 33 34), (0, u "countBefore"), (0, u "()I"), (0, .class_ 36), (0, u "com/example/lucky_fork/luckyfork/model/GroupSumsFindByRatePinLaw"), (2, u "law"), (0, u "(IIIII)Z")] 3

def k1m0 : Method := { name := "<init>", desc := "()V", sig := { parameters := [], returnType := none }, accessFlags := 1, code := none }
def k1c1 : Code := { maxStack := 5, maxLocals := 25, code := code, exceptionTable := #[], attributes := #[] }
def k1m1 : Method := { name := "law", desc := "(IIIII)Z", sig := { parameters := [.int, .int, .int, .int, .int], returnType := some .boolean }, accessFlags := 9, code := some k1c1 }
/-- com/example/lucky_fork/luckyfork/model/GroupSumsFindByRatePinLaw -/
def k1 : Class := { plain "com/example/lucky_fork/luckyfork/model/GroupSumsFindByRatePinLaw" (some 0) with
  accessFlags := 49
  interfaces := #[]
  cf := some (fileOf pool1 35 #[] #[{ accessFlags := 1, nameIndex := 5, descriptorIndex := 6, attributes := #[] }, { accessFlags := 9, nameIndex := 39, descriptorIndex := 40, attributes := #[] }] 49 2 #[] #[])
  fields := #[]
  methods := #[k1m0, k1m1]
  instanceTypes := #[]
  staticTypes := #[]
  resolved := Array.replicate 44 none
  statics := none }

def pool2 : Array CpInfo := pool [(1, .methodref 2 3), (0, .class_ 4), (0, .nameAndType 5 6), (0, u "java/lang/Object"), (0, u "<init>"), (0, u "()V"), (0, .fieldref 8 9), (0, .class_ 10), (0, .nameAndType 11 12), (0, u "com/example/lucky_fork/luckyfork/model/GroupSums"), (0, u "leaves"), (0, u "I"), (0, .fieldref 8 14), (0, .nameAndType 15 16), (0, u "rates"), (0, u "[D"), (0, .fieldref 8 18), (0, .nameAndType 19 20), (0, u "counts"), (0, u "[I"), (0, .fieldref 8 22), (0, .nameAndType 23 20), (0, u "pending"), (1, .fieldref 8 26), (0, .nameAndType 27 12), (0, u "depth"), (7, .methodref 36 37), (0, .class_ 38), (0, .nameAndType 39 40), (0, u "java/lang/Integer"), (0, u "highestOneBit"), (0, u "(I)I"), (0, .methodref 36 42), (0, .nameAndType 43 40), (0, u "numberOfTrailingZeros"), (9, .fieldref 8 54), (0, .nameAndType 55 12), (0, u "pendingCount"), (0, .fieldref 8 57), (0, .nameAndType 58 59), (0, u "rebuild"), (0, u "Z"), (4, .fieldref 8 65), (0, .nameAndType 66 12), (0, u "countBefore"), (0, .fieldref 8 68), (0, .nameAndType 69 70), (0, u "rateBefore"), (0, u "D"), (0, .methodref 8 72), (0, .nameAndType 73 74), (0, u "addUp"), (0, u "(I)V"), (4, u "clear"), (1, u "set"), (0, u "(IDI)V"), (1, u "()D"), (1, u "()I"), (1, u "findByRate"), (0, u "(D)I"), (0, u "settle")] 2

def k2c0 : Code := { maxStack := 2, maxLocals := 1, code := prog_120_method_1_code, exceptionTable := #[], attributes := #[] }
def k2m0 : Method := { name := "<init>", desc := "()V", sig := { parameters := [], returnType := none }, accessFlags := 0, code := some k2c0 }
def k2c1 : Code := { maxStack := 3, maxLocals := 3, code := prog_120_method_3_code, exceptionTable := #[], attributes := #[] }
def k2m1 : Method := { name := "clear", desc := "(I)V", sig := { parameters := [.int], returnType := none }, accessFlags := 0, code := some k2c1 }
def k2c2 : Code := { maxStack := 5, maxLocals := 6, code := prog_120_method_4_code, exceptionTable := #[], attributes := #[] }
def k2m2 : Method := { name := "set", desc := "(IDI)V", sig := { parameters := [.int, .double, .int], returnType := none }, accessFlags := 0, code := some k2c2 }
def k2c3 : Code := { maxStack := 6, maxLocals := 9, code := prog_120_method_8_code, exceptionTable := #[], attributes := #[] }
def k2m3 : Method := { name := "findByRate", desc := "(D)I", sig := { parameters := [.double], returnType := some .int }, accessFlags := 0, code := some k2c3 }
def k2c4 : Code := { maxStack := 2, maxLocals := 1, code := prog_120_method_9_code, exceptionTable := #[], attributes := #[] }
def k2m4 : Method := { name := "rateBefore", desc := "()D", sig := { parameters := [], returnType := some .double }, accessFlags := 0, code := some k2c4 }
def k2c5 : Code := { maxStack := 1, maxLocals := 1, code := prog_120_method_10_code, exceptionTable := #[], attributes := #[] }
def k2m5 : Method := { name := "countBefore", desc := "()I", sig := { parameters := [], returnType := some .int }, accessFlags := 0, code := some k2c5 }
def k2c6 : Code := { maxStack := 2, maxLocals := 3, code := prog_120_method_11_code, exceptionTable := #[], attributes := #[] }
def k2m6 : Method := { name := "settle", desc := "()V", sig := { parameters := [], returnType := none }, accessFlags := 0, code := some k2c6 }
def k2c7 : Code := { maxStack := 7, maxLocals := 2, code := prog_120_method_12_code, exceptionTable := #[], attributes := #[] }
def k2m7 : Method := { name := "addUp", desc := "(I)V", sig := { parameters := [.int], returnType := none }, accessFlags := 2, code := some k2c7 }
/-- com/example/lucky_fork/luckyfork/model/GroupSums -/
def k2 : Class := { plain "com/example/lucky_fork/luckyfork/model/GroupSums" (some 0) with
  accessFlags := 48
  interfaces := #[]
  cf := some (fileOf pool2 8 #[] #[{ accessFlags := 0, nameIndex := 5, descriptorIndex := 6, attributes := #[] }, { accessFlags := 0, nameIndex := 79, descriptorIndex := 74, attributes := #[] }, { accessFlags := 0, nameIndex := 81, descriptorIndex := 82, attributes := #[] }, { accessFlags := 0, nameIndex := 88, descriptorIndex := 89, attributes := #[] }, { accessFlags := 0, nameIndex := 69, descriptorIndex := 84, attributes := #[] }, { accessFlags := 0, nameIndex := 66, descriptorIndex := 86, attributes := #[] }, { accessFlags := 0, nameIndex := 90, descriptorIndex := 6, attributes := #[] }, { accessFlags := 2, nameIndex := 73, descriptorIndex := 74, attributes := #[] }] 48 2 #[] #[{ accessFlags := 2, nameIndex := 11, descriptorIndex := 12, attributes := #[] }, { accessFlags := 2, nameIndex := 27, descriptorIndex := 12, attributes := #[] }, { accessFlags := 2, nameIndex := 15, descriptorIndex := 16, attributes := #[] }, { accessFlags := 2, nameIndex := 19, descriptorIndex := 20, attributes := #[] }, { accessFlags := 2, nameIndex := 23, descriptorIndex := 20, attributes := #[] }, { accessFlags := 2, nameIndex := 55, descriptorIndex := 12, attributes := #[] }, { accessFlags := 2, nameIndex := 58, descriptorIndex := 59, attributes := #[] }, { accessFlags := 2, nameIndex := 69, descriptorIndex := 70, attributes := #[] }, { accessFlags := 2, nameIndex := 66, descriptorIndex := 12, attributes := #[] }])
  fields := #[{ name := "leaves", type := .int, accessFlags := 2, slot := 0, constantValue := 0 }, { name := "depth", type := .int, accessFlags := 2, slot := 1, constantValue := 0 }, { name := "rates", type := (.array .double), accessFlags := 2, slot := 2, constantValue := 0 }, { name := "counts", type := (.array .int), accessFlags := 2, slot := 3, constantValue := 0 }, { name := "pending", type := (.array .int), accessFlags := 2, slot := 4, constantValue := 0 }, { name := "pendingCount", type := .int, accessFlags := 2, slot := 5, constantValue := 0 }, { name := "rebuild", type := .boolean, accessFlags := 2, slot := 6, constantValue := 0 }, { name := "rateBefore", type := .double, accessFlags := 2, slot := 7, constantValue := 0 }, { name := "countBefore", type := .int, accessFlags := 2, slot := 8, constantValue := 0 }]
  methods := #[k2m0, k2m1, k2m2, k2m3, k2m4, k2m5, k2m6, k2m7]
  instanceTypes := #[.int, .int, (.array .double), (.array .int), (.array .int), .int, .boolean, .double, .int]
  staticTypes := #[]
  resolved := Array.replicate 93 none
  statics := none }

def pool3 : Array CpInfo := pool [(1, .class_ 2), (0, u "java/io/Serializable"), (0, .class_ 4), (0, u "java/lang/Object")] 2

/-- java/io/Serializable -/
def k3 : Class := { plain "java/io/Serializable" (some 0) with
  accessFlags := 1537
  interfaces := #[]
  cf := some (fileOf pool3 1 #[] #[] 1537 3 #[] #[])
  fields := #[]
  methods := #[]
  instanceTypes := #[]
  staticTypes := #[]
  resolved := Array.replicate 7 none
  statics := none }

def pool4 : Array CpInfo := pool [(2, .class_ 4), (1, u "java/lang/Object"), (0, u "<init>"), (0, u "()V"), (1, .class_ 10), (1, u "java/lang/Number"), (2, .class_ 14), (0, u "java/io/Serializable"), (0, u "serialVersionUID"), (0, u "J")] 20

def k4m0 : Method := { name := "<init>", desc := "()V", sig := { parameters := [], returnType := none }, accessFlags := 1, code := none }
/-- java/lang/Number -/
def k4 : Class := { plain "java/lang/Number" (some 0) with
  accessFlags := 1057
  interfaces := #[3]
  cf := some (fileOf pool4 8 #[] #[{ accessFlags := 1, nameIndex := 5, descriptorIndex := 6, attributes := #[] }] 1057 2 #[13] #[{ accessFlags := 26, nameIndex := 15, descriptorIndex := 16, attributes := #[] }])
  fields := #[{ name := "serialVersionUID", type := .long, accessFlags := 26, slot := 0, constantValue := 0 }]
  methods := #[k4m0]
  instanceTypes := #[]
  staticTypes := #[.long]
  resolved := Array.replicate 37 none
  statics := none }

def pool5 : Array CpInfo := pool [(1, .class_ 2), (0, u "java/lang/Comparable"), (0, .class_ 4), (0, u "java/lang/Object")] 7

/-- java/lang/Comparable -/
def k5 : Class := { plain "java/lang/Comparable" (some 0) with
  accessFlags := 1537
  interfaces := #[]
  cf := some (fileOf pool5 1 #[] #[] 1537 3 #[] #[])
  fields := #[]
  methods := #[]
  instanceTypes := #[]
  staticTypes := #[]
  resolved := Array.replicate 12 none
  statics := none }

def pool6 : Array CpInfo := pool [(1, .class_ 2), (0, u "java/lang/constant/Constable"), (0, .class_ 4), (0, u "java/lang/Object")] 6

/-- java/lang/constant/Constable -/
def k6 : Class := { plain "java/lang/constant/Constable" (some 0) with
  accessFlags := 1537
  interfaces := #[]
  cf := some (fileOf pool6 1 #[] #[] 1537 3 #[] #[])
  fields := #[]
  methods := #[]
  instanceTypes := #[]
  staticTypes := #[]
  resolved := Array.replicate 11 none
  statics := none }

def pool7 : Array CpInfo := pool [(1, .class_ 2), (0, u "java/lang/constant/ConstantDesc"), (0, .class_ 4), (0, u "java/lang/Object")] 32

/-- java/lang/constant/ConstantDesc -/
def k7 : Class := { plain "java/lang/constant/ConstantDesc" (some 0) with
  accessFlags := 1537
  interfaces := #[]
  cf := some (fileOf pool7 1 #[] #[] 1537 3 #[] #[])
  fields := #[]
  methods := #[]
  instanceTypes := #[]
  staticTypes := #[]
  resolved := Array.replicate 37 none
  statics := none }

def pool8 : Array CpInfo := pool [(1, .class_ 2), (0, u "java/lang/Integer"), (16, u "digits"), (0, u "[C"), (30, .methodref 1 52), (0, .nameAndType 53 54), (0, u "numberOfLeadingZeros"), (0, u "(I)I"), (30, u "DigitOnes"), (0, u "[B"), (2, u "DigitTens"), (37, .integer 2147483648), (61, .class_ 190), (0, u "java/lang/Integer$IntegerCache"), (3, u "I"), (8, .class_ 204), (0, u "java/lang/Number"), (2, u "value"), (56, .integer 65536), (37, u "TYPE"), (0, u "Ljava/lang/Class;"), (0, .class_ 305), (0, u "java/lang/Comparable"), (0, .class_ 307), (0, u "java/lang/constant/Constable"), (0, .class_ 309), (0, u "java/lang/constant/ConstantDesc"), (0, u "MIN_VALUE"), (1, u "MAX_VALUE"), (3, u "SIZE"), (1, u "BYTES"), (1, u "serialVersionUID"), (0, u "J"), (81, u "highestOneBit"), (2, u "numberOfTrailingZeros")] 46

def k8c0 : Code := { maxStack := 3, maxLocals := 1, code := jdk_33_method_45_code, exceptionTable := #[], attributes := #[] }
def k8m0 : Method := { name := "highestOneBit", desc := "(I)I", sig := { parameters := [.int], returnType := some .int }, accessFlags := 9, code := some k8c0 }
def k8c1 : Code := { maxStack := 3, maxLocals := 2, code := jdk_33_method_47_code, exceptionTable := #[], attributes := #[] }
def k8m1 : Method := { name := "numberOfLeadingZeros", desc := "(I)I", sig := { parameters := [.int], returnType := some .int }, accessFlags := 9, code := some k8c1 }
def k8c2 : Code := { maxStack := 3, maxLocals := 2, code := jdk_33_method_48_code, exceptionTable := #[], attributes := #[] }
def k8m2 : Method := { name := "numberOfTrailingZeros", desc := "(I)I", sig := { parameters := [.int], returnType := some .int }, accessFlags := 9, code := some k8c2 }
/-- java/lang/Integer -/
def k8 : Class := { plain "java/lang/Integer" (some 4) with
  accessFlags := 49
  interfaces := #[5, 6, 7]
  cf := some (fileOf pool8 1 #[.nestMembers #[189]] #[{ accessFlags := 9, nameIndex := 403, descriptorIndex := 54, attributes := #[] }, { accessFlags := 9, nameIndex := 53, descriptorIndex := 54, attributes := #[] }, { accessFlags := 9, nameIndex := 406, descriptorIndex := 54, attributes := #[] }] 49 203 #[304, 306, 308] #[{ accessFlags := 25, nameIndex := 310, descriptorIndex := 194, attributes := #[] }, { accessFlags := 25, nameIndex := 312, descriptorIndex := 194, attributes := #[] }, { accessFlags := 25, nameIndex := 302, descriptorIndex := 303, attributes := #[] }, { accessFlags := 24, nameIndex := 19, descriptorIndex := 20, attributes := #[] }, { accessFlags := 24, nameIndex := 89, descriptorIndex := 86, attributes := #[] }, { accessFlags := 24, nameIndex := 85, descriptorIndex := 86, attributes := #[] }, { accessFlags := 18, nameIndex := 207, descriptorIndex := 194, attributes := #[] }, { accessFlags := 25, nameIndex := 316, descriptorIndex := 194, attributes := #[] }, { accessFlags := 25, nameIndex := 318, descriptorIndex := 194, attributes := #[] }, { accessFlags := 26, nameIndex := 320, descriptorIndex := 321, attributes := #[] }])
  fields := #[{ name := "MIN_VALUE", type := .int, accessFlags := 25, slot := 0, constantValue := 0 }, { name := "MAX_VALUE", type := .int, accessFlags := 25, slot := 1, constantValue := 0 }, { name := "TYPE", type := (.object "java/lang/Class"), accessFlags := 25, slot := 2, constantValue := 0 }, { name := "digits", type := (.array .char), accessFlags := 24, slot := 3, constantValue := 0 }, { name := "DigitTens", type := (.array .byte), accessFlags := 24, slot := 4, constantValue := 0 }, { name := "DigitOnes", type := (.array .byte), accessFlags := 24, slot := 5, constantValue := 0 }, { name := "value", type := .int, accessFlags := 18, slot := 0, constantValue := 0 }, { name := "SIZE", type := .int, accessFlags := 25, slot := 6, constantValue := 0 }, { name := "BYTES", type := .int, accessFlags := 25, slot := 7, constantValue := 0 }, { name := "serialVersionUID", type := .long, accessFlags := 26, slot := 8, constantValue := 0 }]
  methods := #[k8m0, k8m1, k8m2]
  instanceTypes := #[.int]
  staticTypes := #[.int, .int, (.object "java/lang/Class"), (.array .char), (.array .byte), (.array .byte), .int, .int, .long]
  resolved := Array.replicate 453 none
  statics := none }

def pool9 : Array CpInfo := pool [(1, u "java/lang/Cloneable"), (0, .class_ 1), (0, u "java/lang/Object"), (0, .class_ 3)] 3

/-- java/lang/Cloneable -/
def k9 : Class := { plain "java/lang/Cloneable" (some 0) with
  accessFlags := 1537
  interfaces := #[]
  cf := some (fileOf pool9 2 #[] #[] 1537 4 #[] #[])
  fields := #[]
  methods := #[]
  instanceTypes := #[]
  staticTypes := #[]
  resolved := Array.replicate 8 none
  statics := none }

/-- the primitive byte -/
def k10 : Class := { plain "byte" none with kind := .primitive 'B', accessFlags := 0x411 }
/-- [B -/
def k11 : Class := { plain "[B" (some 0) with kind := .array 10 .byte, interfaces := #[9, 3], accessFlags := 1041 }

/-- the primitive double -/
def k12 : Class := { plain "double" none with kind := .primitive 'D', accessFlags := 0x411 }
/-- [D -/
def k13 : Class := { plain "[D" (some 0) with kind := .array 12 .double, interfaces := #[9, 3], accessFlags := 1041 }

/-- the primitive int -/
def k14 : Class := { plain "int" none with kind := .primitive 'I', accessFlags := 0x411 }
/-- [I -/
def k15 : Class := { plain "[I" (some 0) with kind := .array 14 .int, interfaces := #[9, 3], accessFlags := 1041 }

def heap : Heap := #[]
def classes : Array Class := #[k0, k1, k2, k3, k4, k5, k6, k7, k8, k9, k10, k11, k12, k13, k14, k15]
def interned : List (Array UInt16 × Addr) := []
def slotsUsed : Nat := 0
def theMethod : MethodId := ⟨1, 1⟩
def args0 : Array Value := #[.int 1, .int 2, .int 5, .int 4, .int 3]
def aboutOver (below : List Frame) : State where
  vm := { classes := classes, interned := interned.toArray }
  heap := heap
  slotsUsed := slotsUsed
  threads := #[{ frames := .invoking theMethod args0 :: below }]
def below0 : List Frame := [.native { method := ⟨0, 0⟩, args := #[] }]
def about1 : State := aboutOver below0
def p0 : Program := .bare "" "" ""
def e0 : Env := launch0.env 0 0 0
theorem w_frames : about1.frames = Frame.invoking theMethod args0 :: below0 := rfl
set_option maxRecDepth 65536 in
theorem w_args : argsFit about1.vm theMethod args0 = true := by decide +kernel
set_option maxRecDepth 65536 in
theorem w_heap : heapFits about1 = true := by decide +kernel
set_option maxRecDepth 65536 in
theorem w_runnable : about1.curStatus? = some .runnable := by decide +kernel
set_option maxRecDepth 65536 in
theorem w_alone : about1.alone = true := by decide +kernel
set_option maxRecDepth 65536 in
theorem w_named : about1.methodNamed? x = some theMethod := by decide +kernel
set_option maxRecDepth 65536 in
theorem w_hears : about1.hears theMethod below0 = true := by decide +kernel
set_option maxRecDepth 65536 in
theorem w_ripe : about1.ripe theMethod args0 below0 = true := by decide +kernel
theorem w_running : about1.status = .running := rfl
set_option maxRecDepth 65536 in
theorem w_room : about1.hasRoom e0.platform room_1 = true :=
  launch0.hasRoom_least _ room_1 (by decide +kernel) (by decide +kernel) (by decide +kernel) (by decide +kernel) (by decide +kernel) (by decide +kernel)
theorem allAtoms_all (ts : List Jvm.Cond) (a : Array Jvm.Value) (st : Jvm.State) : (allAtoms ts).before a st = ts.all (fun c => c.before a st) := by
  induction ts with
  | nil => rfl
  | cons c t ih =>
    show (Jvm.Cond.and c (allAtoms t)).before a st = _
    rw [Jvm.Cond.before_and, ih, List.all_cons]
def words1 : List Jvm.Cond := Jvm.Cond.code x code maxLocals ret :: tables_1
/-- a 'code' word, met by the world's own term for the bytes: nothing is compared byte by byte -/
theorem code_word {y : MethodName} {bytes : ByteArray} {mx : Nat} {rt : Option FieldType} {a : Array Value} {s : State} {m : MethodId} {meth : Method} {c : Code} (h1 : s.methodNamed? y = some m) (h2 : s.vm.method? m = some meth) (h3 : meth.code = some c) (h4 : c.code = bytes)
    (h5 : (c.maxLocals == mx && c.exceptionTable.isEmpty && decide (c.maxStack ≤ mostOperands) && decide (meth.sig.returnType = rt) && !meth.locks && decide (parseMethodDescriptor y.desc = some meth.sig)) = true) : (Jvm.Cond.code y bytes mx rt).before a s = true := by
  simp only [Bool.and_eq_true, beq_iff_eq, Bool.not_eq_true', decide_eq_true_eq] at h5
  obtain ⟨⟨⟨⟨⟨g1, g2⟩, g3⟩, g4⟩, g5⟩, g6⟩ := h5
  simp [Cond.before, Cond.holds, Cond.value, h1, h2, h3, h4, g1, g2, g3, g4, g5, g6]
def isCode : Jvm.Cond → Bool
  | .code _ _ _ _ => true
  | _ => false
theorem all_split {L : List Jvm.Cond} {P : Jvm.Cond → Bool} (h1 : L.all (fun c => isCode c || P c) = true) (h2 : ∀ c ∈ L.filter isCode, P c = true) : L.all P = true := by
  refine List.all_eq_true.mpr fun c hc => ?_
  have h := List.all_eq_true.mp h1 c hc
  rcases Bool.eq_false_or_eq_true (isCode c) with hi | hi
  · exact h2 c (List.mem_filter.mpr ⟨hc, hi⟩)
  · simpa [hi] using h
set_option maxRecDepth 65536 in
theorem w_c0 : (Jvm.Cond.code x code maxLocals ret).before args0 about1 = true := code_word (m := ⟨1, 1⟩) (meth := k1m1) (c := k1c1) (by decide +kernel) rfl rfl rfl (by decide +kernel)
set_option maxRecDepth 65536 in
theorem w_c1 : (Jvm.Cond.code ({ cls := "com/example/lucky_fork/luckyfork/model/GroupSums", name := "<init>", desc := "()V" } : Jvm.MethodName) prog_120_method_1_code (1 : Nat) (Option.none : Option Jvm.ClassFile.FieldType)).before args0 about1 = true := code_word (m := ⟨2, 0⟩) (meth := k2m0) (c := k2c0) (by decide +kernel) rfl rfl rfl (by decide +kernel)
set_option maxRecDepth 65536 in
theorem w_c2 : (Jvm.Cond.code ({ cls := "java/lang/Object", name := "<init>", desc := "()V" } : Jvm.MethodName) object_method_1_code (1 : Nat) (Option.none : Option Jvm.ClassFile.FieldType)).before args0 about1 = true := code_word (m := ⟨0, 0⟩) (meth := k0m0) (c := k0c0) (by decide +kernel) rfl rfl rfl (by decide +kernel)
set_option maxRecDepth 65536 in
theorem w_c3 : (Jvm.Cond.code ({ cls := "com/example/lucky_fork/luckyfork/model/GroupSums", name := "clear", desc := "(I)V" } : Jvm.MethodName) prog_120_method_3_code (3 : Nat) (Option.none : Option Jvm.ClassFile.FieldType)).before args0 about1 = true := code_word (m := ⟨2, 1⟩) (meth := k2m1) (c := k2c1) (by decide +kernel) rfl rfl rfl (by decide +kernel)
set_option maxRecDepth 65536 in
theorem w_c4 : (Jvm.Cond.code ({ cls := "java/lang/Integer", name := "highestOneBit", desc := "(I)I" } : Jvm.MethodName) jdk_33_method_45_code (1 : Nat) (Option.some Jvm.ClassFile.FieldType.int)).before args0 about1 = true := code_word (m := ⟨8, 0⟩) (meth := k8m0) (c := k8c0) (by decide +kernel) rfl rfl rfl (by decide +kernel)
set_option maxRecDepth 65536 in
theorem w_c5 : (Jvm.Cond.code ({ cls := "java/lang/Integer", name := "numberOfLeadingZeros", desc := "(I)I" } : Jvm.MethodName) jdk_33_method_47_code (2 : Nat) (Option.some Jvm.ClassFile.FieldType.int)).before args0 about1 = true := code_word (m := ⟨8, 1⟩) (meth := k8m1) (c := k8c1) (by decide +kernel) rfl rfl rfl (by decide +kernel)
set_option maxRecDepth 65536 in
theorem w_c6 : (Jvm.Cond.code ({ cls := "java/lang/Integer", name := "numberOfTrailingZeros", desc := "(I)I" } : Jvm.MethodName) jdk_33_method_48_code (2 : Nat) (Option.some Jvm.ClassFile.FieldType.int)).before args0 about1 = true := code_word (m := ⟨8, 2⟩) (meth := k8m2) (c := k8c2) (by decide +kernel) rfl rfl rfl (by decide +kernel)
set_option maxRecDepth 65536 in
theorem w_c7 : (Jvm.Cond.code ({ cls := "com/example/lucky_fork/luckyfork/model/GroupSums", name := "set", desc := "(IDI)V" } : Jvm.MethodName) prog_120_method_4_code (6 : Nat) (Option.none : Option Jvm.ClassFile.FieldType)).before args0 about1 = true := code_word (m := ⟨2, 2⟩) (meth := k2m2) (c := k2c2) (by decide +kernel) rfl rfl rfl (by decide +kernel)
set_option maxRecDepth 65536 in
theorem w_c8 : (Jvm.Cond.code ({ cls := "com/example/lucky_fork/luckyfork/model/GroupSums", name := "settle", desc := "()V" } : Jvm.MethodName) prog_120_method_11_code (3 : Nat) (Option.none : Option Jvm.ClassFile.FieldType)).before args0 about1 = true := code_word (m := ⟨2, 6⟩) (meth := k2m6) (c := k2c6) (by decide +kernel) rfl rfl rfl (by decide +kernel)
set_option maxRecDepth 65536 in
theorem w_c9 : (Jvm.Cond.code ({ cls := "com/example/lucky_fork/luckyfork/model/GroupSums", name := "addUp", desc := "(I)V" } : Jvm.MethodName) prog_120_method_12_code (2 : Nat) (Option.none : Option Jvm.ClassFile.FieldType)).before args0 about1 = true := code_word (m := ⟨2, 7⟩) (meth := k2m7) (c := k2c7) (by decide +kernel) rfl rfl rfl (by decide +kernel)
set_option maxRecDepth 65536 in
theorem w_c10 : (Jvm.Cond.code ({ cls := "com/example/lucky_fork/luckyfork/model/GroupSums", name := "findByRate", desc := "(D)I" } : Jvm.MethodName) prog_120_method_8_code (9 : Nat) (Option.some Jvm.ClassFile.FieldType.int)).before args0 about1 = true := code_word (m := ⟨2, 3⟩) (meth := k2m3) (c := k2c3) (by decide +kernel) rfl rfl rfl (by decide +kernel)
set_option maxRecDepth 65536 in
theorem w_c11 : (Jvm.Cond.code ({ cls := "com/example/lucky_fork/luckyfork/model/GroupSums", name := "rateBefore", desc := "()D" } : Jvm.MethodName) prog_120_method_9_code (1 : Nat) (Option.some Jvm.ClassFile.FieldType.double)).before args0 about1 = true := code_word (m := ⟨2, 4⟩) (meth := k2m4) (c := k2c4) (by decide +kernel) rfl rfl rfl (by decide +kernel)
set_option maxRecDepth 65536 in
theorem w_c12 : (Jvm.Cond.code ({ cls := "com/example/lucky_fork/luckyfork/model/GroupSums", name := "countBefore", desc := "()I" } : Jvm.MethodName) prog_120_method_10_code (1 : Nat) (Option.some Jvm.ClassFile.FieldType.int)).before args0 about1 = true := code_word (m := ⟨2, 5⟩) (meth := k2m5) (c := k2c5) (by decide +kernel) rfl rfl rfl (by decide +kernel)
def codes1 : List Jvm.Cond := [Jvm.Cond.code x code maxLocals ret, Jvm.Cond.code ({ cls := "com/example/lucky_fork/luckyfork/model/GroupSums", name := "<init>", desc := "()V" } : Jvm.MethodName) prog_120_method_1_code (1 : Nat) (Option.none : Option Jvm.ClassFile.FieldType), Jvm.Cond.code ({ cls := "java/lang/Object", name := "<init>", desc := "()V" } : Jvm.MethodName) object_method_1_code (1 : Nat) (Option.none : Option Jvm.ClassFile.FieldType), Jvm.Cond.code ({ cls := "com/example/lucky_fork/luckyfork/model/GroupSums", name := "clear", desc := "(I)V" } : Jvm.MethodName) prog_120_method_3_code (3 : Nat) (Option.none : Option Jvm.ClassFile.FieldType), Jvm.Cond.code ({ cls := "java/lang/Integer", name := "highestOneBit", desc := "(I)I" } : Jvm.MethodName) jdk_33_method_45_code (1 : Nat) (Option.some Jvm.ClassFile.FieldType.int), Jvm.Cond.code ({ cls := "java/lang/Integer", name := "numberOfLeadingZeros", desc := "(I)I" } : Jvm.MethodName) jdk_33_method_47_code (2 : Nat) (Option.some Jvm.ClassFile.FieldType.int), Jvm.Cond.code ({ cls := "java/lang/Integer", name := "numberOfTrailingZeros", desc := "(I)I" } : Jvm.MethodName) jdk_33_method_48_code (2 : Nat) (Option.some Jvm.ClassFile.FieldType.int), Jvm.Cond.code ({ cls := "com/example/lucky_fork/luckyfork/model/GroupSums", name := "set", desc := "(IDI)V" } : Jvm.MethodName) prog_120_method_4_code (6 : Nat) (Option.none : Option Jvm.ClassFile.FieldType), Jvm.Cond.code ({ cls := "com/example/lucky_fork/luckyfork/model/GroupSums", name := "settle", desc := "()V" } : Jvm.MethodName) prog_120_method_11_code (3 : Nat) (Option.none : Option Jvm.ClassFile.FieldType), Jvm.Cond.code ({ cls := "com/example/lucky_fork/luckyfork/model/GroupSums", name := "addUp", desc := "(I)V" } : Jvm.MethodName) prog_120_method_12_code (2 : Nat) (Option.none : Option Jvm.ClassFile.FieldType), Jvm.Cond.code ({ cls := "com/example/lucky_fork/luckyfork/model/GroupSums", name := "findByRate", desc := "(D)I" } : Jvm.MethodName) prog_120_method_8_code (9 : Nat) (Option.some Jvm.ClassFile.FieldType.int), Jvm.Cond.code ({ cls := "com/example/lucky_fork/luckyfork/model/GroupSums", name := "rateBefore", desc := "()D" } : Jvm.MethodName) prog_120_method_9_code (1 : Nat) (Option.some Jvm.ClassFile.FieldType.double), Jvm.Cond.code ({ cls := "com/example/lucky_fork/luckyfork/model/GroupSums", name := "countBefore", desc := "()I" } : Jvm.MethodName) prog_120_method_10_code (1 : Nat) (Option.some Jvm.ClassFile.FieldType.int)]
set_option maxRecDepth 65536 in
theorem codes_eq : words1.filter isCode = codes1 := rfl
theorem w_codes : ∀ c ∈ words1.filter isCode, c.before args0 about1 = true := by
  rw [codes_eq]
  intro c hc
  simp only [codes1, List.mem_cons, List.not_mem_nil, or_false] at hc
  rcases hc with rfl | rfl | rfl | rfl | rfl | rfl | rfl | rfl | rfl | rfl | rfl | rfl | rfl
  · exact w_c0
  · exact w_c1
  · exact w_c2
  · exact w_c3
  · exact w_c4
  · exact w_c5
  · exact w_c6
  · exact w_c7
  · exact w_c8
  · exact w_c9
  · exact w_c10
  · exact w_c11
  · exact w_c12
set_option maxRecDepth 65536 in
theorem w_t1 : (words1.take 24).all (fun c => isCode c || c.before args0 about1) = true := by decide +kernel
set_option maxRecDepth 65536 in
theorem w_t2 : ((words1.drop 24).take 24).all (fun c => isCode c || c.before args0 about1) = true := by decide +kernel
set_option maxRecDepth 65536 in
theorem w_t3 : (((words1.drop 24).drop 24).take 24).all (fun c => isCode c || c.before args0 about1) = true := by decide +kernel
set_option maxRecDepth 65536 in
theorem w_t4 : (((words1.drop 24).drop 24).drop 24).all (fun c => isCode c || c.before args0 about1) = true := by decide +kernel
theorem w_tables : (allAtoms (Jvm.Cond.code x code maxLocals ret :: tables_1)).before args0 about1 = true := by
  rw [allAtoms_all]
  show words1.all (fun c => c.before args0 about1) = true
  refine all_split ?_ w_codes
  rw [← List.take_append_drop 24 words1, List.all_append, w_t1, ← List.take_append_drop 24 (words1.drop 24), List.all_append, w_t2, ← List.take_append_drop 24 ((words1.drop 24).drop 24), List.all_append, w_t3, w_t4]
  rfl
set_option maxRecDepth 65536 in
theorem w_case : (Jvm.Cond.and given_1 narrow_1).before args0 about1 = true := by decide +kernel
theorem w_applies : (headSpec (Jvm.Cond.code x code maxLocals ret :: tables_1) room_1).applies x e0.platform about1 = true :=
  (Spec.applies_iff w_frames).mpr ⟨w_running, w_runnable, w_alone, w_named, w_hears, w_ripe, w_room, w_tables⟩
theorem atStart : AtStart classFile x code maxLocals ret World_1 tables_1 room_1 Calls_1 rest_1 Pre_1 launch0 p0 e0 about1 theMethod args0 below0 :=
  ⟨lists_1, trivial, launch0.admits_env _ _ _, launch0.least_env, fairChoices_fair.cas, fairChoices_fair.clock, w_frames, w_args, w_heap, w_applies, trivial, trivial, w_case⟩
end start1
theorem witness_1 : WitnessClaimed_1 := ⟨start1.p0, start1.e0, start1.about1, start1.theMethod, start1.args0, start1.below0, start1.atStart⟩
end Jvm.Pilot.@@N@@
